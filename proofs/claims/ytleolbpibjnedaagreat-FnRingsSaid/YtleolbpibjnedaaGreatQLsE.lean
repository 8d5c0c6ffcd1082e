/- The laws' conditions as syntax. -/
import Derived.Test.YtleolbpibjnedaaGreatQLsD
set_option linter.unusedSimpArgs false
set_option linter.unusedVariables false
set_option maxRecDepth 100000
set_option maxHeartbeats 4000000
namespace Go.Proofs.YtleolbpibjnedaaGreat
open Go Go.RowKit Gc
theorem set4_cells{w:World}{b:Nat}{u0 u1 u2 u3 v0 v1 v2 v3:Value}{t:TypeId}(h:w.heap[b]?=some (.cells #[u0,u1,u2,u3] t (0,0))) :
 ((((w.setCell ⟨b,0,none⟩ v0).setCell ⟨b,1,none⟩ v1).setCell ⟨b,2,none⟩ v2).setCell ⟨b,3,none⟩ v3).heap[b]?=some (.cells #[v0,v1,v2,v3] t (0,0)) :=
 set_of_cells (cs:=[v0,v1,v2,u3]) (set_of_cells (cs:=[v0,v1,u2,u3]) (set_of_cells (cs:=[v0,u1,u2,u3]) (set_of_cells (cs:=[u0,u1,u2,u3]) h 0 v0) 1 v1) 2 v2) 3 v3
theorem stmt_ifN(nn:Nat)(op lb:Str)(xk xn:Nat)(xop:Str)(kids xb body els:T)(cases:T)(hE:ExprN (.x xk xn xop kids xb))(hl:body.isList)(hmax:body.len≤100000)(hall:body.All StmtX):StmtN (.s 3 nn op lb (.x xk xn xop kids xb) body els false false cases):=by
 have hE0:=Lib.hid hE
 have Hall:=Lib.hid hall
 clear hE hall
 intro w D s kids' xb' body' els' cases' e h1 h2 h3 h4 h5
 obtain⟨kind,nn,op,lb,xk,xn,xop,a1,n1,c1,a2,n2,c2,a3,n3,c3,a4,n4,c4,has,chain,a5,n5,c5⟩:=s
 simp only[T.s.injEq,T.x.injEq]at e
 obtain⟨rfl,rfl,rfl,rfl,⟨rfl,rfl,rfl,rfl,rfl⟩,rfl,rfl,rfl,rfl,rfl⟩:=e
 have hX:Rep w D (T.x xk xn xop kids xb).g [.int .i64 xk,.int .i64 xn,.string xop,.slice a1 n1 c1,.slice a2 n2 c2]:=⟨_,rfl,_,rfl,_,rfl,_,_,rfl,h1,_,_,rfl,h2,rfl⟩
 have HX:=Lib.hid hX
 have H3:=Lib.hid h3
 have H4:=Lib.hid h4
 have H5:=Lib.hid h5
 clear hX h1 h2 h3 h4 h5
 show Calls Tryz.prog 58 #[.agg #[.int .i64 3,.int .i64 nn,.string op,.string lb,.int .i64 xk,.int .i64 xn,.string xop,.slice a1 n1 c1,.slice a2 n2 c2,.slice a3 n3 c3,.slice a4 n4 c4,.bool false,.bool false,.slice a5 n5 c5]] w _
 go_enter Tryz.func58,Tryz.ntmps58
 go_upto_region 7 with fail
 obtain⟨W0,hW0⟩:∃ W0,W0=(w.alloc (.cells #[.int .i64 3,.int .i64 nn,.string op,.string lb,.int .i64 xk,.int .i64 xn,.string xop,.slice a1 n1 c1,.slice a2 n2 c2,.slice a3 n3 c3,.slice a4 n4 c4,.bool false,.bool false,.slice a5 n5 c5] 66)).alloc zeroN:=⟨_,rfl⟩
 rw[← hW0]
 have K0:Kept (fun _=>False) w W0:=by rw[hW0];exact keptA.trans keptA
 have ob:=hW0▸heap2_0 w _ zeroN
 have oz:W0.heap[w.heap.size+1]?=some zeroN:=hW0▸heap2_1 w _ zeroN
 obtain⟨x0,x1,x2,x3,x4,x5,x6,x7,x8,x9,x10,x11,x12,x13,y0,y1,y2,y3,y4,y5,y6,y7,y8,y9,y10,y11,y12,y13⟩:=slot14 ob
 have z0:w.heap.size+1<W0.heap.size:=by rw[hW0];simp
 clear hW0
 have ozr:∀ wx:World,Kept (fun _=>False) W0 wx→wx.heap[w.heap.size+1]?=some zeroN:=fun wx hk=>hk.obj oz (fun f=>f)
 go_wp2_with fail
 refine(none_any _).mono ?_
 rintro e w2 ⟨rfl,hk1⟩
 have X4:=hk1.cell x4 (fun f=>f)
 have X5:=hk1.cell x5 (fun f=>f)
 have X6:=hk1.cell x6 (fun f=>f)
 have X7:=hk1.cell x7 (fun f=>f)
 have X8:=hk1.cell x8 (fun f=>f)
 have X9:=hk1.cell x9 (fun f=>f)
 have X10:=hk1.cell x10 (fun f=>f)
 have X11:=hk1.cell x11 (fun f=>f)
 have X12:=hk1.cell x12 (fun f=>f)
 have z6:w.heap.size+1<w2.heap.size:=by have:=hk1.size;omega
 have z5:w.heap.size<w2.heap.size:=by omega
 go_upto_region 12 with fail
 obtain⟨W1,hW1⟩:∃ W1,W1=w2.alloc (.cells #[.string sE,.string sE,.int .i64 0,.slice none 0 0] 30):=⟨_,rfl⟩
 rw[← hW1]
 have KW:Kept (fun _=>False) W0 W1:=by rw[hW1];exact hk1.trans keptA
 obtain⟨d0,d1,d2,d3,-⟩:=slot4 (hW1▸heap_alloc_new w2 (.cells #[.string sE,.string sE,.int .i64 0,.slice none 0 0] 30))
 have RO:Rep W1 (fun b=>w.heap.size+1<b) Gc.N.none.g [.string sE,.string sE,.int .i64 0,.slice none 0 0]:=rep_none _ _
 have zo:w2.heap.size<W1.heap.size:=by rw[hW1];simp
 clear hW1
 have K1:Kept (fun b=>b=w.heap.size+1) w W1:=(K0.trans KW).mono fun _ _ f=>f.elim
 have oz1:W1.heap[w.heap.size+1]?=some zeroN:=KW.obj oz (fun f=>f)
 have ozr1:∀ wx:World,Kept (fun _=>False) W1 wx→wx.heap[w.heap.size+1]?=some zeroN:=fun wx hk=>hk.obj oz1 (fun f=>f)
 have Y4:=KW.cell x4 (fun f=>f)
 have Y5:=KW.cell x5 (fun f=>f)
 have Y6:=KW.cell x6 (fun f=>f)
 have Y7:=KW.cell x7 (fun f=>f)
 have Y8:=KW.cell x8 (fun f=>f)
 have Y9:=KW.cell x9 (fun f=>f)
 have rule:∀ wx:World,Kept (fun b=>b=w.heap.size+1) W1 wx→wx.cell? ⟨w.heap.size,4,none⟩=some (.int .i64 xk)∧wx.cell? ⟨w.heap.size,5,none⟩=some (.int .i64 xn)∧wx.cell? ⟨w.heap.size,6,none⟩=some (.string xop)∧wx.cell? ⟨w.heap.size,7,none⟩=some (.slice a1 n1 c1)∧wx.cell? ⟨w.heap.size,8,none⟩=some (.slice a2 n2 c2)∧wx.cell? ⟨w.heap.size,9,none⟩=some (.slice a3 n3 c3)∧wx.cell? ⟨w2.heap.size,0,none⟩=some (.string sE)∧wx.cell? ⟨w2.heap.size,1,none⟩=some (.string sE)∧wx.cell? ⟨w2.heap.size,2,none⟩=some (.int .i64 0)∧wx.cell? ⟨w2.heap.size,3,none⟩=some (.slice none 0 0):=fun wx hk =>
  ⟨hk.cell Y4 (by simp),hk.cell Y5 (by simp),hk.cell Y6 (by simp),hk.cell Y7 (by simp),hk.cell Y8 (by simp),hk.cell Y9 (by simp),hk.cell d0 (by simp only[];omega),hk.cell d1 (by simp only[];omega),hk.cell d2 (by simp only[];omega),hk.cell d3 (by simp only[];omega)⟩
 have kk:Kept (fun _=>False) W1 W1.drew:=keptD
 go_region_held3 (fun wx=>Kept (fun b=>b=w.heap.size+1) W1 wx) (first | assumption | exact keptD | exact Kept.trans (by assumption) keptA | exact Kept.trans (by assumption) (Kept.set4 (M:=fun b=>b=w.heap.size+1) rfl) | exact Kept.trans (by assumption) ((Kept.set4 (M:=fun b=>b=w.heap.size+1) rfl).trans keptA)) (first
  | (have _h:=R2;go_at_call 18;go_must (refine(part_any _ _ _ _ _).mono ?_);rintro e w6 ⟨rfl,hk⟩;have row1:=hk.obj (heap_alloc_new _ _) (fun f=>f);have kl6:=keptA.trans (M:=fun _=>False) hk;have R1':=R1'.kept kl6 (fun _ _ f=>f);have R2':=R2'.kept kl6 (fun _ _ f=>f);have kk5:=kk;have kk:=kk.trans kl6;have hS:Kept (fun b=>b=w.heap.size+1) W1 w6:=kk.mono fun _ _ f=>f.elim;obtain⟨r0,r1,r2,r3,q0,q1,q2,q3⟩:=slot4 (ozr1 _ kk);have z9:w.heap.size+1<w6.heap.size:=lt_of_heap (ozr1 _ kk);have z8:w.heap.size<w6.heap.size:=by omega)
  | (go_at_call 23;go_must (refine(block_N body hl hmax Hall.out _ (fun b=>b<w.heap.size) _ _ _ ((H3.out.imp fun b hl _=>hl).kept (K1.trans (by assumption)) (fun b hb=>by omega))).mono ?_);rintro e w5 ⟨k2,t2,i2,l2,m2,d2,rfl,R2,hk⟩;have R2':=R2.imp (D':=fun b=>w.heap.size+1<b) (fun b _ hb=>by have:=kk.size;omega);have R1':=R1'.kept hk (fun _ _ f=>f);have kk:=kk.trans hk;have hS:Kept (fun b=>b=w.heap.size+1) W1 w5:=kk.mono fun _ _ f=>f.elim)
  | (go_at_call 98;go_must (refine(hE0.out _ (fun b=>b<w.heap.size) _ _ _ _ _ ((HX.out.imp fun b hl _=>hl).kept (K1.trans (by assumption)) (fun b hb=>by omega))).mono ?_);rintro e w4 ⟨k1,t1,i1,l1,m1,d1,rfl,R1,hk⟩;have R1':=R1.imp (D':=fun b=>w.heap.size+1<b) (fun b _ hb=>by have:=kk.size;omega);have kk:=kk.trans hk;have hS:Kept (fun b=>b=w.heap.size+1) W1 w4:=kk.mono fun _ _ f=>f.elim)
  | (go_at_call 21;go_must (refine(none_any _).mono ?_);rintro e wn ⟨rfl,hk⟩;have kk:=kk.trans hk;have hS:Kept (fun b=>b=w.heap.size+1) W1 wn:=kk.mono fun _ _ f=>f.elim))
 go_wp2_with fail
 refine bodyPost_ret (v:=.agg #[.string kIf,.string sE,.int .i64 0,.slice (some ⟨w5.heap.size,0,none⟩) 4 4]) (by simp[results,Tryz.results58,go_sem,kIf,r0,r1,r2,r3,z9,z8];done) rfl ?_
 rw[show(T.s 3 nn op lb (.x xk xn xop kids xb) body els false false cases).N 0=.part kIf (.four .none ((T.x xk xn xop kids xb).N 0) (.block (body.N 0)) (.none)) by simp[T.N]]
 have kF:∀ {u0 u1 u2 u3:Value},Kept (fun b=>b=w.heap.size+1) w6 ((((w6.setCell ⟨w.heap.size+1,0,none⟩ u0).setCell ⟨w.heap.size+1,1,none⟩ u1).setCell ⟨w.heap.size+1,2,none⟩ u2).setCell ⟨w.heap.size+1,3,none⟩ u3):=Kept.set4 (M:=fun b=>b=w.heap.size+1) rfl
 have y5:W1.heap.size≤w5.heap.size:=kk5.size
 refine⟨kIf,sE,0,_,4,4,rfl,⟨_,rfl,_,rfl,_,rfl,_,_,rfl,rep_four (xs:=[_,_,_,_]) (ys:=[_,_,_,_]) (zs:=[_,_,_,_]) (us:=[_,_,_,_]) (kF.obj row1 (by omega)) (by omega) (rep_none _ _) ((R1'.kept kF (fun b hb=>by omega)).imp fun b _ hb=>by omega) ((R2'.kept kF (fun b hb=>by omega)).imp fun b _ hb=>by omega) (((RO.kept kk (fun _ _ f=>f)).kept kF (fun b hb=>by omega)).imp fun b _ hb=>by omega),rfl⟩,?_⟩
 exact((((K0.trans KW).trans kk).mono (M':=fun b=>False∨w.heap.size≤b) fun _ _ f=>f.elim).trans (kF.mono fun b _ h=>.inr (by omega))).fresh (Nat.le_refl _)
theorem stmt_elseN(nn:Nat)(op lb:Str)(xk xn:Nat)(xop:Str)(kids xb body els:T)(cases:T)(hE:ExprN (.x xk xn xop kids xb))(hl:body.isList)(hmax:body.len≤100000)(hall:body.All StmtX)(hl4:els.isList)(hmax4:els.len≤100000)(hall4:els.All StmtX):StmtN (.s 3 nn op lb (.x xk xn xop kids xb) body els true false cases):=by
 have hE0:=Lib.hid hE
 have Hall:=Lib.hid hall
 clear hE hall
 have Hall4:=Lib.hid hall4
 clear hall4
 intro w D s kids' xb' body' els' cases' e h1 h2 h3 h4 h5
 obtain⟨kind,nn,op,lb,xk,xn,xop,a1,n1,c1,a2,n2,c2,a3,n3,c3,a4,n4,c4,has,chain,a5,n5,c5⟩:=s
 simp only[T.s.injEq,T.x.injEq]at e
 obtain⟨rfl,rfl,rfl,rfl,⟨rfl,rfl,rfl,rfl,rfl⟩,rfl,rfl,rfl,rfl,rfl⟩:=e
 have hX:Rep w D (T.x xk xn xop kids xb).g [.int .i64 xk,.int .i64 xn,.string xop,.slice a1 n1 c1,.slice a2 n2 c2]:=⟨_,rfl,_,rfl,_,rfl,_,_,rfl,h1,_,_,rfl,h2,rfl⟩
 have HX:=Lib.hid hX
 have H3:=Lib.hid h3
 have H4:=Lib.hid h4
 have H5:=Lib.hid h5
 clear hX h1 h2 h3 h4 h5
 show Calls Tryz.prog 58 #[.agg #[.int .i64 3,.int .i64 nn,.string op,.string lb,.int .i64 xk,.int .i64 xn,.string xop,.slice a1 n1 c1,.slice a2 n2 c2,.slice a3 n3 c3,.slice a4 n4 c4,.bool true,.bool false,.slice a5 n5 c5]] w _
 go_enter Tryz.func58,Tryz.ntmps58
 go_upto_region 7 with fail
 obtain⟨W0,hW0⟩:∃ W0,W0=(w.alloc (.cells #[.int .i64 3,.int .i64 nn,.string op,.string lb,.int .i64 xk,.int .i64 xn,.string xop,.slice a1 n1 c1,.slice a2 n2 c2,.slice a3 n3 c3,.slice a4 n4 c4,.bool true,.bool false,.slice a5 n5 c5] 66)).alloc zeroN:=⟨_,rfl⟩
 rw[← hW0]
 have K0:Kept (fun _=>False) w W0:=by rw[hW0];exact keptA.trans keptA
 have ob:=hW0▸heap2_0 w _ zeroN
 have oz:W0.heap[w.heap.size+1]?=some zeroN:=hW0▸heap2_1 w _ zeroN
 obtain⟨x0,x1,x2,x3,x4,x5,x6,x7,x8,x9,x10,x11,x12,x13,y0,y1,y2,y3,y4,y5,y6,y7,y8,y9,y10,y11,y12,y13⟩:=slot14 ob
 have z0:w.heap.size+1<W0.heap.size:=by rw[hW0];simp
 clear hW0
 have ozr:∀ wx:World,Kept (fun _=>False) W0 wx→wx.heap[w.heap.size+1]?=some zeroN:=fun wx hk=>hk.obj oz (fun f=>f)
 go_wp2_with fail
 refine(none_any _).mono ?_
 rintro e w2 ⟨rfl,hk1⟩
 have X4:=hk1.cell x4 (fun f=>f)
 have X5:=hk1.cell x5 (fun f=>f)
 have X6:=hk1.cell x6 (fun f=>f)
 have X7:=hk1.cell x7 (fun f=>f)
 have X8:=hk1.cell x8 (fun f=>f)
 have X9:=hk1.cell x9 (fun f=>f)
 have X10:=hk1.cell x10 (fun f=>f)
 have X11:=hk1.cell x11 (fun f=>f)
 have X12:=hk1.cell x12 (fun f=>f)
 have z6:w.heap.size+1<w2.heap.size:=by have:=hk1.size;omega
 have z5:w.heap.size<w2.heap.size:=by omega
 go_wp2_with fail
 refine(block_N els hl4 hmax4 Hall4.out _ D _ _ _ ((H4.out.kept (K0.trans hk1) (fun _ _ f=>f)).kept (keptA (M:=fun _=>False)) (fun _ _ f=>f))).mono ?_
 rintro e w3 ⟨k3,t3,i3,l3,m3,d3,rfl,R3,hk3⟩
 have kl:=keptA.trans (M:=fun _=>False) hk3
 have oo:=hk3.obj (heap_alloc_new _ _) (fun f=>f)
 obtain⟨u0,u1,u2,u3,v0,v1,v2,v3⟩:=slot4 oo
 have z7:w2.heap.size<w3.heap.size:=lt_of_heap oo
 go_upto_region 12 with fail
 obtain⟨W1,hW1⟩:∃ W1,W1=((((w3.setCell ⟨w2.heap.size,0,none⟩ (.string k3)).setCell ⟨w2.heap.size,1,none⟩ (.string t3)).setCell ⟨w2.heap.size,2,none⟩ (.int .i64 i3)).setCell ⟨w2.heap.size,3,none⟩ (.slice l3 m3 d3)):=⟨_,rfl⟩
 rw[← hW1]
 have KS:Kept (fun b=>b=w2.heap.size) w3 W1:=by rw[hW1];exact Kept.set4 (M:=fun b=>b=w2.heap.size) rfl
 have KW:Kept (fun _=>False) W0 W1:=(hk1.mono (M':=fun b=>False∨w2.heap.size≤b) fun _ _ f=>f.elim).trans ((kl.mono (M':=fun b=>False∨w2.heap.size≤b) fun _ _ f=>f.elim).trans (KS.mono fun b _ h=>.inr (by omega))) |>.fresh hk1.size |> fun h=>h
 obtain⟨e0,e1,e2,e3,-⟩:=slot4 (hW1▸set4_cells oo)
 have RO:Rep W1 (fun b=>w.heap.size+1<b) (Gc.N.block (els.N 0)).g [.string k3,.string t3,.int .i64 i3,.slice l3 m3 d3]:=(((R3.imp (D':=fun b=>w2.heap.size<b) fun b _ hb=>by simp at hb;omega).kept KS (fun b hb=>by omega)).imp fun b _ hb=>by omega)
 have zo:w2.heap.size<W1.heap.size:=Nat.lt_of_lt_of_le z7 KS.size
 clear hW1
 have K1:Kept (fun b=>b=w.heap.size+1) w W1:=(K0.trans KW).mono fun _ _ f=>f.elim
 have oz1:W1.heap[w.heap.size+1]?=some zeroN:=KW.obj oz (fun f=>f)
 have ozr1:∀ wx:World,Kept (fun _=>False) W1 wx→wx.heap[w.heap.size+1]?=some zeroN:=fun wx hk=>hk.obj oz1 (fun f=>f)
 have Y4:=KW.cell x4 (fun f=>f)
 have Y5:=KW.cell x5 (fun f=>f)
 have Y6:=KW.cell x6 (fun f=>f)
 have Y7:=KW.cell x7 (fun f=>f)
 have Y8:=KW.cell x8 (fun f=>f)
 have Y9:=KW.cell x9 (fun f=>f)
 have rule:∀ wx:World,Kept (fun b=>b=w.heap.size+1) W1 wx→wx.cell? ⟨w.heap.size,4,none⟩=some (.int .i64 xk)∧wx.cell? ⟨w.heap.size,5,none⟩=some (.int .i64 xn)∧wx.cell? ⟨w.heap.size,6,none⟩=some (.string xop)∧wx.cell? ⟨w.heap.size,7,none⟩=some (.slice a1 n1 c1)∧wx.cell? ⟨w.heap.size,8,none⟩=some (.slice a2 n2 c2)∧wx.cell? ⟨w.heap.size,9,none⟩=some (.slice a3 n3 c3)∧wx.cell? ⟨w2.heap.size,0,none⟩=some (.string k3)∧wx.cell? ⟨w2.heap.size,1,none⟩=some (.string t3)∧wx.cell? ⟨w2.heap.size,2,none⟩=some (.int .i64 i3)∧wx.cell? ⟨w2.heap.size,3,none⟩=some (.slice l3 m3 d3):=fun wx hk =>
  ⟨hk.cell Y4 (by simp),hk.cell Y5 (by simp),hk.cell Y6 (by simp),hk.cell Y7 (by simp),hk.cell Y8 (by simp),hk.cell Y9 (by simp),hk.cell e0 (by simp only[];omega),hk.cell e1 (by simp only[];omega),hk.cell e2 (by simp only[];omega),hk.cell e3 (by simp only[];omega)⟩
 have kk:Kept (fun _=>False) W1 W1.drew:=keptD
 go_region_held3 (fun wx=>Kept (fun b=>b=w.heap.size+1) W1 wx) (first | assumption | exact keptD | exact Kept.trans (by assumption) keptA | exact Kept.trans (by assumption) (Kept.set4 (M:=fun b=>b=w.heap.size+1) rfl) | exact Kept.trans (by assumption) ((Kept.set4 (M:=fun b=>b=w.heap.size+1) rfl).trans keptA)) (first
  | (have _h:=R2;go_at_call 18;go_must (refine(part_any _ _ _ _ _).mono ?_);rintro e w6 ⟨rfl,hk⟩;have row1:=hk.obj (heap_alloc_new _ _) (fun f=>f);have kl6:=keptA.trans (M:=fun _=>False) hk;have R1':=R1'.kept kl6 (fun _ _ f=>f);have R2':=R2'.kept kl6 (fun _ _ f=>f);have kk5:=kk;have kk:=kk.trans kl6;have hS:Kept (fun b=>b=w.heap.size+1) W1 w6:=kk.mono fun _ _ f=>f.elim;obtain⟨r0,r1,r2,r3,q0,q1,q2,q3⟩:=slot4 (ozr1 _ kk);have z9:w.heap.size+1<w6.heap.size:=lt_of_heap (ozr1 _ kk);have z8:w.heap.size<w6.heap.size:=by omega)
  | (go_at_call 23;go_must (refine(block_N body hl hmax Hall.out _ (fun b=>b<w.heap.size) _ _ _ ((H3.out.imp fun b hl _=>hl).kept (K1.trans (by assumption)) (fun b hb=>by omega))).mono ?_);rintro e w5 ⟨k2,t2,i2,l2,m2,d2,rfl,R2,hk⟩;have R2':=R2.imp (D':=fun b=>w.heap.size+1<b) (fun b _ hb=>by have:=kk.size;omega);have R1':=R1'.kept hk (fun _ _ f=>f);have kk:=kk.trans hk;have hS:Kept (fun b=>b=w.heap.size+1) W1 w5:=kk.mono fun _ _ f=>f.elim)
  | (go_at_call 98;go_must (refine(hE0.out _ (fun b=>b<w.heap.size) _ _ _ _ _ ((HX.out.imp fun b hl _=>hl).kept (K1.trans (by assumption)) (fun b hb=>by omega))).mono ?_);rintro e w4 ⟨k1,t1,i1,l1,m1,d1,rfl,R1,hk⟩;have R1':=R1.imp (D':=fun b=>w.heap.size+1<b) (fun b _ hb=>by have:=kk.size;omega);have kk:=kk.trans hk;have hS:Kept (fun b=>b=w.heap.size+1) W1 w4:=kk.mono fun _ _ f=>f.elim)
  | (go_at_call 21;go_must (refine(none_any _).mono ?_);rintro e wn ⟨rfl,hk⟩;have kk:=kk.trans hk;have hS:Kept (fun b=>b=w.heap.size+1) W1 wn:=kk.mono fun _ _ f=>f.elim))
 go_wp2_with fail
 refine bodyPost_ret (v:=.agg #[.string kIf,.string sE,.int .i64 0,.slice (some ⟨w5.heap.size,0,none⟩) 4 4]) (by simp[results,Tryz.results58,go_sem,kIf,r0,r1,r2,r3,z9,z8];done) rfl ?_
 rw[show(T.s 3 nn op lb (.x xk xn xop kids xb) body els true false cases).N 0=.part kIf (.four .none ((T.x xk xn xop kids xb).N 0) (.block (body.N 0)) (.block (els.N 0))) by simp[T.N]]
 have kF:∀ {u0 u1 u2 u3:Value},Kept (fun b=>b=w.heap.size+1) w6 ((((w6.setCell ⟨w.heap.size+1,0,none⟩ u0).setCell ⟨w.heap.size+1,1,none⟩ u1).setCell ⟨w.heap.size+1,2,none⟩ u2).setCell ⟨w.heap.size+1,3,none⟩ u3):=Kept.set4 (M:=fun b=>b=w.heap.size+1) rfl
 have y5:W1.heap.size≤w5.heap.size:=kk5.size
 refine⟨kIf,sE,0,_,4,4,rfl,⟨_,rfl,_,rfl,_,rfl,_,_,rfl,rep_four (xs:=[_,_,_,_]) (ys:=[_,_,_,_]) (zs:=[_,_,_,_]) (us:=[_,_,_,_]) (kF.obj row1 (by omega)) (by omega) (rep_none _ _) ((R1'.kept kF (fun b hb=>by omega)).imp fun b _ hb=>by omega) ((R2'.kept kF (fun b hb=>by omega)).imp fun b _ hb=>by omega) (((RO.kept kk (fun _ _ f=>f)).kept kF (fun b hb=>by omega)).imp fun b _ hb=>by omega),rfl⟩,?_⟩
 exact((((K0.trans KW).trans kk).mono (M':=fun b=>False∨w.heap.size≤b) fun _ _ f=>f.elim).trans (kF.mono fun b _ h=>.inr (by omega))).fresh (Nat.le_refl _)
theorem stmt_chainN(nn:Nat)(op lb:Str)(xk xn:Nat)(xop:Str)(kids xb body inner:T)(has:Bool)(cases:T)(hE:ExprN (.x xk xn xop kids xb))(hl:body.isList)(hmax:body.len≤100000)(hall:body.All StmtX)(hI:StmtX inner):StmtN (.s 3 nn op lb (.x xk xn xop kids xb) body (.cons inner .nil) has true cases):=by
 have hE0:=Lib.hid hE
 have Hall:=Lib.hid hall
 clear hE hall
 intro w D s kids' xb' body' els' cases' e h1 h2 h3 h4 h5
 obtain⟨kind,nn,op,lb,xk,xn,xop,a1,n1,c1,a2,n2,c2,a3,n3,c3,a4,n4,c4,has,chain,a5,n5,c5⟩:=s
 simp only[T.s.injEq,T.x.injEq]at e
 obtain⟨rfl,rfl,rfl,rfl,⟨rfl,rfl,rfl,rfl,rfl⟩,rfl,rfl,rfl,rfl,rfl⟩:=e
 obtain⟨g,o,rfl,rfl,⟨jk,jn,jop,jlb,jxk,jxn,jxop,ja1,jn1,jc1,ja2,jn2,jc2,ja3,jn3,jc3,ja4,jn4,jc4,jhas,jchain,ja5,jn5,jc5⟩,jkids,jxb,jbody,jels,jcases,he,hE,hg,j1,j2,j3,j4,j5,p0,p1,p2,p3,p4,p5,p6,p7,p8,p9,p10,p11,p12,p13⟩:=s_one h4 hI
 simp only[]at he j1 j2 j3 j4 j5 p0 p1 p2 p3 p4 p5 p6 p7 p8 p9 p10 p11 p12 p13
 have he':=Lib.hid he
 have hE':=Lib.hid hE
 have J1:=Lib.hid j1
 have J2:=Lib.hid j2
 have J3:=Lib.hid j3
 have J4:=Lib.hid j4
 have J5:=Lib.hid j5
 clear he hE j1 j2 j3 j4 j5 hI
 have hX:Rep w D (T.x xk xn xop kids xb).g [.int .i64 xk,.int .i64 xn,.string xop,.slice a1 n1 c1,.slice a2 n2 c2]:=⟨_,rfl,_,rfl,_,rfl,_,_,rfl,h1,_,_,rfl,h2,rfl⟩
 have HX:=Lib.hid hX
 have H3:=Lib.hid h3
 have H5:=Lib.hid h5
 clear hX h1 h2 h3 h5
 show Calls Tryz.prog 58 #[.agg #[.int .i64 3,.int .i64 nn,.string op,.string lb,.int .i64 xk,.int .i64 xn,.string xop,.slice a1 n1 c1,.slice a2 n2 c2,.slice a3 n3 c3,.slice (some ⟨g,o,none⟩) 1 c4,.bool has,.bool true,.slice a5 n5 c5]] w _
 go_enter Tryz.func58,Tryz.ntmps58
 go_upto_region 7 with fail
 obtain⟨W0,hW0⟩:∃ W0,W0=(w.alloc (.cells #[.int .i64 3,.int .i64 nn,.string op,.string lb,.int .i64 xk,.int .i64 xn,.string xop,.slice a1 n1 c1,.slice a2 n2 c2,.slice a3 n3 c3,.slice (some ⟨g,o,none⟩) 1 c4,.bool has,.bool true,.slice a5 n5 c5] 66)).alloc zeroN:=⟨_,rfl⟩
 rw[← hW0]
 have K0:Kept (fun _=>False) w W0:=by rw[hW0];exact keptA.trans keptA
 have ob:=hW0▸heap2_0 w _ zeroN
 have oz:W0.heap[w.heap.size+1]?=some zeroN:=hW0▸heap2_1 w _ zeroN
 obtain⟨x0,x1,x2,x3,x4,x5,x6,x7,x8,x9,x10,x11,x12,x13,y0,y1,y2,y3,y4,y5,y6,y7,y8,y9,y10,y11,y12,y13⟩:=slot14 ob
 have z0:w.heap.size+1<W0.heap.size:=by rw[hW0];simp
 clear hW0
 have ozr:∀ wx:World,Kept (fun _=>False) W0 wx→wx.heap[w.heap.size+1]?=some zeroN:=fun wx hk=>hk.obj oz (fun f=>f)
 go_wp2_with fail
 refine(none_any _).mono ?_
 rintro e w2 ⟨rfl,hk1⟩
 have X4:=hk1.cell x4 (fun f=>f)
 have X5:=hk1.cell x5 (fun f=>f)
 have X6:=hk1.cell x6 (fun f=>f)
 have X7:=hk1.cell x7 (fun f=>f)
 have X8:=hk1.cell x8 (fun f=>f)
 have X9:=hk1.cell x9 (fun f=>f)
 have X10:=hk1.cell x10 (fun f=>f)
 have X11:=hk1.cell x11 (fun f=>f)
 have X12:=hk1.cell x12 (fun f=>f)
 have z6:w.heap.size+1<w2.heap.size:=by have:=hk1.size;omega
 have z5:w.heap.size<w2.heap.size:=by omega
 have kw2:=K0.trans hk1
 have Q0:=kw2.cell p0 (fun f=>f)
 have Q1:=kw2.cell p1 (fun f=>f)
 have Q2:=kw2.cell p2 (fun f=>f)
 have Q3:=kw2.cell p3 (fun f=>f)
 have Q4:=kw2.cell p4 (fun f=>f)
 have Q5:=kw2.cell p5 (fun f=>f)
 have Q6:=kw2.cell p6 (fun f=>f)
 have Q7:=kw2.cell p7 (fun f=>f)
 have Q8:=kw2.cell p8 (fun f=>f)
 have Q9:=kw2.cell p9 (fun f=>f)
 have Q10:=kw2.cell p10 (fun f=>f)
 have Q11:=kw2.cell p11 (fun f=>f)
 have Q12:=kw2.cell p12 (fun f=>f)
 have Q13:=kw2.cell p13 (fun f=>f)
 have zg:g<w2.heap.size:=by omega
 go_wp2_with fail
 refine(hE'.out _ D ⟨jk,jn,jop,jlb,jxk,jxn,jxop,ja1,jn1,jc1,ja2,jn2,jc2,ja3,jn3,jc3,ja4,jn4,jc4,jhas,jchain,ja5,jn5,jc5⟩ jkids jxb jbody jels jcases he'.out ((J1.out.kept (K0.trans hk1) (fun _ _ f=>f)).kept (keptA (M:=fun _=>False)) (fun _ _ f=>f)) ((J2.out.kept (K0.trans hk1) (fun _ _ f=>f)).kept (keptA (M:=fun _=>False)) (fun _ _ f=>f)) ((J3.out.kept (K0.trans hk1) (fun _ _ f=>f)).kept (keptA (M:=fun _=>False)) (fun _ _ f=>f)) ((J4.out.kept (K0.trans hk1) (fun _ _ f=>f)).kept (keptA (M:=fun _=>False)) (fun _ _ f=>f)) ((J5.out.kept (K0.trans hk1) (fun _ _ f=>f)).kept (keptA (M:=fun _=>False)) (fun _ _ f=>f))).mono ?_
 rintro e w3 ⟨k3,t3,i3,l3,m3,d3,rfl,R3,hk3⟩
 have kl:=keptA.trans (M:=fun _=>False) hk3
 have oo:=hk3.obj (heap_alloc_new _ _) (fun f=>f)
 obtain⟨u0,u1,u2,u3,v0,v1,v2,v3⟩:=slot4 oo
 have z7:w2.heap.size<w3.heap.size:=lt_of_heap oo
 go_upto_region 12 with fail
 obtain⟨W1,hW1⟩:∃ W1,W1=((((w3.setCell ⟨w2.heap.size,0,none⟩ (.string k3)).setCell ⟨w2.heap.size,1,none⟩ (.string t3)).setCell ⟨w2.heap.size,2,none⟩ (.int .i64 i3)).setCell ⟨w2.heap.size,3,none⟩ (.slice l3 m3 d3)):=⟨_,rfl⟩
 rw[← hW1]
 have KS:Kept (fun b=>b=w2.heap.size) w3 W1:=by rw[hW1];exact Kept.set4 (M:=fun b=>b=w2.heap.size) rfl
 have KW:Kept (fun _=>False) W0 W1:=(hk1.mono (M':=fun b=>False∨w2.heap.size≤b) fun _ _ f=>f.elim).trans ((kl.mono (M':=fun b=>False∨w2.heap.size≤b) fun _ _ f=>f.elim).trans (KS.mono fun b _ h=>.inr (by omega))) |>.fresh hk1.size |> fun h=>h
 obtain⟨e0,e1,e2,e3,-⟩:=slot4 (hW1▸set4_cells oo)
 have RO:Rep W1 (fun b=>w.heap.size+1<b) (inner.N 0).g [.string k3,.string t3,.int .i64 i3,.slice l3 m3 d3]:=(((R3.imp (D':=fun b=>w2.heap.size<b) fun b _ hb=>by simp at hb;omega).kept KS (fun b hb=>by omega)).imp fun b _ hb=>by omega)
 have zo:w2.heap.size<W1.heap.size:=Nat.lt_of_lt_of_le z7 KS.size
 clear hW1
 have K1:Kept (fun b=>b=w.heap.size+1) w W1:=(K0.trans KW).mono fun _ _ f=>f.elim
 have oz1:W1.heap[w.heap.size+1]?=some zeroN:=KW.obj oz (fun f=>f)
 have ozr1:∀ wx:World,Kept (fun _=>False) W1 wx→wx.heap[w.heap.size+1]?=some zeroN:=fun wx hk=>hk.obj oz1 (fun f=>f)
 have Y4:=KW.cell x4 (fun f=>f)
 have Y5:=KW.cell x5 (fun f=>f)
 have Y6:=KW.cell x6 (fun f=>f)
 have Y7:=KW.cell x7 (fun f=>f)
 have Y8:=KW.cell x8 (fun f=>f)
 have Y9:=KW.cell x9 (fun f=>f)
 have rule:∀ wx:World,Kept (fun b=>b=w.heap.size+1) W1 wx→wx.cell? ⟨w.heap.size,4,none⟩=some (.int .i64 xk)∧wx.cell? ⟨w.heap.size,5,none⟩=some (.int .i64 xn)∧wx.cell? ⟨w.heap.size,6,none⟩=some (.string xop)∧wx.cell? ⟨w.heap.size,7,none⟩=some (.slice a1 n1 c1)∧wx.cell? ⟨w.heap.size,8,none⟩=some (.slice a2 n2 c2)∧wx.cell? ⟨w.heap.size,9,none⟩=some (.slice a3 n3 c3)∧wx.cell? ⟨w2.heap.size,0,none⟩=some (.string k3)∧wx.cell? ⟨w2.heap.size,1,none⟩=some (.string t3)∧wx.cell? ⟨w2.heap.size,2,none⟩=some (.int .i64 i3)∧wx.cell? ⟨w2.heap.size,3,none⟩=some (.slice l3 m3 d3):=fun wx hk =>
  ⟨hk.cell Y4 (by simp),hk.cell Y5 (by simp),hk.cell Y6 (by simp),hk.cell Y7 (by simp),hk.cell Y8 (by simp),hk.cell Y9 (by simp),hk.cell e0 (by simp only[];omega),hk.cell e1 (by simp only[];omega),hk.cell e2 (by simp only[];omega),hk.cell e3 (by simp only[];omega)⟩
 have kk:Kept (fun _=>False) W1 W1.drew:=keptD
 go_region_held3 (fun wx=>Kept (fun b=>b=w.heap.size+1) W1 wx) (first | assumption | exact keptD | exact Kept.trans (by assumption) keptA | exact Kept.trans (by assumption) (Kept.set4 (M:=fun b=>b=w.heap.size+1) rfl) | exact Kept.trans (by assumption) ((Kept.set4 (M:=fun b=>b=w.heap.size+1) rfl).trans keptA)) (first
  | (have _h:=R2;go_at_call 18;go_must (refine(part_any _ _ _ _ _).mono ?_);rintro e w6 ⟨rfl,hk⟩;have row1:=hk.obj (heap_alloc_new _ _) (fun f=>f);have kl6:=keptA.trans (M:=fun _=>False) hk;have R1':=R1'.kept kl6 (fun _ _ f=>f);have R2':=R2'.kept kl6 (fun _ _ f=>f);have kk5:=kk;have kk:=kk.trans kl6;have hS:Kept (fun b=>b=w.heap.size+1) W1 w6:=kk.mono fun _ _ f=>f.elim;obtain⟨r0,r1,r2,r3,q0,q1,q2,q3⟩:=slot4 (ozr1 _ kk);have z9:w.heap.size+1<w6.heap.size:=lt_of_heap (ozr1 _ kk);have z8:w.heap.size<w6.heap.size:=by omega)
  | (go_at_call 23;go_must (refine(block_N body hl hmax Hall.out _ (fun b=>b<w.heap.size) _ _ _ ((H3.out.imp fun b hl _=>hl).kept (K1.trans (by assumption)) (fun b hb=>by omega))).mono ?_);rintro e w5 ⟨k2,t2,i2,l2,m2,d2,rfl,R2,hk⟩;have R2':=R2.imp (D':=fun b=>w.heap.size+1<b) (fun b _ hb=>by have:=kk.size;omega);have R1':=R1'.kept hk (fun _ _ f=>f);have kk:=kk.trans hk;have hS:Kept (fun b=>b=w.heap.size+1) W1 w5:=kk.mono fun _ _ f=>f.elim)
  | (go_at_call 98;go_must (refine(hE0.out _ (fun b=>b<w.heap.size) _ _ _ _ _ ((HX.out.imp fun b hl _=>hl).kept (K1.trans (by assumption)) (fun b hb=>by omega))).mono ?_);rintro e w4 ⟨k1,t1,i1,l1,m1,d1,rfl,R1,hk⟩;have R1':=R1.imp (D':=fun b=>w.heap.size+1<b) (fun b _ hb=>by have:=kk.size;omega);have kk:=kk.trans hk;have hS:Kept (fun b=>b=w.heap.size+1) W1 w4:=kk.mono fun _ _ f=>f.elim)
  | (go_at_call 21;go_must (refine(none_any _).mono ?_);rintro e wn ⟨rfl,hk⟩;have kk:=kk.trans hk;have hS:Kept (fun b=>b=w.heap.size+1) W1 wn:=kk.mono fun _ _ f=>f.elim))
 go_wp2_with fail
 refine bodyPost_ret (v:=.agg #[.string kIf,.string sE,.int .i64 0,.slice (some ⟨w5.heap.size,0,none⟩) 4 4]) (by simp[results,Tryz.results58,go_sem,kIf,r0,r1,r2,r3,z9,z8];done) rfl ?_
 rw[show(T.s 3 nn op lb (.x xk xn xop kids xb) body (.cons inner .nil) has true cases).N 0=.part kIf (.four .none ((T.x xk xn xop kids xb).N 0) (.block (body.N 0)) (inner.N 0)) by simp[T.N,Gc.N.first]]
 have kF:∀ {u0 u1 u2 u3:Value},Kept (fun b=>b=w.heap.size+1) w6 ((((w6.setCell ⟨w.heap.size+1,0,none⟩ u0).setCell ⟨w.heap.size+1,1,none⟩ u1).setCell ⟨w.heap.size+1,2,none⟩ u2).setCell ⟨w.heap.size+1,3,none⟩ u3):=Kept.set4 (M:=fun b=>b=w.heap.size+1) rfl
 have y5:W1.heap.size≤w5.heap.size:=kk5.size
 refine⟨kIf,sE,0,_,4,4,rfl,⟨_,rfl,_,rfl,_,rfl,_,_,rfl,rep_four (xs:=[_,_,_,_]) (ys:=[_,_,_,_]) (zs:=[_,_,_,_]) (us:=[_,_,_,_]) (kF.obj row1 (by omega)) (by omega) (rep_none _ _) ((R1'.kept kF (fun b hb=>by omega)).imp fun b _ hb=>by omega) ((R2'.kept kF (fun b hb=>by omega)).imp fun b _ hb=>by omega) (((RO.kept kk (fun _ _ f=>f)).kept kF (fun b hb=>by omega)).imp fun b _ hb=>by omega),rfl⟩,?_⟩
 exact((((K0.trans KW).trans kk).mono (M':=fun b=>False∨w.heap.size≤b) fun _ _ f=>f.elim).trans (kF.mono fun b _ h=>.inr (by omega))).fresh (Nat.le_refl _)
theorem clause_repswitch{w:World}{D:Nat→Prop}{r k:Nat}{last:Bool}{l:N}{v0 v1 v2 v3:Value}{a:Option Addr}{n c:Nat}{T0:Nat}
 (hr:w.heap[r]?=some (.cells #[v0,v1,v2,v3,.string kList,.string sE,.int .i64 0,.slice a n c] T0 (0,0))) (hD:D r)
 (hO:Rep w D (if last=true then Gc.N.none else .list (.one (.lit (1+k)))).g [v0,v1,v2,v3]) (hl:Rep w D l.g [.slice a n c]) :
 Rep w D (Gc.N.clause (0+2*k) last l).g [.string kCase,.string sE,.int .i64 0,.slice (some ⟨r,0,none⟩) 2 2]:=by
 rw[clause_even]
 exact⟨_,rfl,_,rfl,_,rfl,_,_,rfl,rep_two (xs:=[_,_,_,_]) (ys:=[_,_,_,_]) hr hD hO ⟨_,rfl,_,rfl,_,rfl,_,_,rfl,hl,rfl⟩,rfl⟩
theorem clause_repselect{w:World}{D:Nat→Prop}{r k:Nat}{last:Bool}{l:N}{v0 v1 v2 v3:Value}{a:Option Addr}{n c:Nat}{T0:Nat}
 (hr:w.heap[r]?=some (.cells #[v0,v1,v2,v3,.string kList,.string sE,.int .i64 0,.slice a n c] T0 (0,0))) (hD:D r)
 (hO:Rep w D (if last=true then Gc.N.none else .part kExprS (.one (.n kUn sArrow 0 (.one (.name sCh 0))))).g [v0,v1,v2,v3]) (hl:Rep w D l.g [.slice a n c]) :
 Rep w D (Gc.N.clause (1+2*k) last l).g [.string kComm,.string sE,.int .i64 0,.slice (some ⟨r,0,none⟩) 2 2]:=by
 rw[clause_odd]
 exact⟨_,rfl,_,rfl,_,rfl,_,_,rfl,rep_two (xs:=[_,_,_,_]) (ys:=[_,_,_,_]) hr hD hO ⟨_,rfl,_,rfl,_,rfl,_,_,rfl,hl,rfl⟩,rfl⟩
end Go.Proofs.YtleolbpibjnedaaGreat
