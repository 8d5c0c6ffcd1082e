/- The laws' statements of one part as syntax. -/
import Derived.Test.YtleolbpibjnedaaGreatQLsB
set_option linter.unusedSimpArgs false
set_option linter.unusedVariables false
set_option maxRecDepth 100000
set_option maxHeartbeats 4000000
namespace Go.Proofs.YtleolbpibjnedaaGreat
open Go Go.RowKit Gc
theorem stmt_exprN(nn:Nat)(op lb:Str)(xk xn:Nat)(xop:Str)(kids xb body els:T)(has chain:Bool)(cases:T)(hE:ExprN (.x xk xn xop kids xb)):StmtN (.s 0 nn op lb (.x xk xn xop kids xb) body els has chain cases):=by
 have hE':=Lib.hid hE
 clear hE
 intro w D s kids' xb' body' els' cases' e h1 h2 h3 h4 h5
 obtain⟨kind,nn,op,lb,xk,xn,xop,a1,n1,c1,a2,n2,c2,a3,n3,c3,a4,n4,c4,has,chain,a5,n5,c5⟩:=s
 simp only[T.s.injEq,T.x.injEq]at e
 obtain⟨rfl,rfl,rfl,rfl,⟨rfl,rfl,rfl,rfl,rfl⟩,rfl,rfl,rfl,rfl,rfl⟩:=e
 have hX:Rep w D (T.x xk xn xop kids xb).g [.int .i64 xk,.int .i64 xn,.string xop,.slice a1 n1 c1,.slice a2 n2 c2]:=⟨_,rfl,_,rfl,_,rfl,_,_,rfl,h1,_,_,rfl,h2,rfl⟩
 have HX:=Lib.hid hX
 have H3:=Lib.hid h3
 have H4:=Lib.hid h4
 have H5:=Lib.hid h5
 clear hX h1 h2 h3 h4 h5
 show Calls Tryz.prog 58 #[.agg #[.int .i64 0,.int .i64 nn,.string op,.string lb,.int .i64 xk,.int .i64 xn,.string xop,.slice a1 n1 c1,.slice a2 n2 c2,.slice a3 n3 c3,.slice a4 n4 c4,.bool has,.bool chain,.slice a5 n5 c5]] w _
 go_enter Tryz.func58,Tryz.ntmps58
 go_upto_region 50 with fail
 obtain⟨W0,hW0⟩:∃ W0,W0=(w.alloc (.cells #[.int .i64 0,.int .i64 nn,.string op,.string lb,.int .i64 xk,.int .i64 xn,.string xop,.slice a1 n1 c1,.slice a2 n2 c2,.slice a3 n3 c3,.slice a4 n4 c4,.bool has,.bool chain,.slice a5 n5 c5] 66)).alloc zeroN:=⟨_,rfl⟩
 rw[← hW0]
 have K0:Kept (fun _=>False) w W0:=by rw[hW0];exact keptA.trans keptA
 have ob:=hW0▸heap2_0 w _ zeroN
 have oz:W0.heap[w.heap.size+1]?=some zeroN:=hW0▸heap2_1 w _ zeroN
 obtain⟨x0,x1,x2,x3,x4,x5,x6,x7,x8,x9,x10,x11,x12,x13,y0,y1,y2,y3,y4,y5,y6,y7,y8,y9,y10,y11,y12,y13⟩:=slot14 ob
 have z0:w.heap.size+1<W0.heap.size:=by rw[hW0];simp
 clear hW0
 have ozr:∀ wx:World,Kept (fun _=>False) W0 wx→wx.heap[w.heap.size+1]?=some zeroN:=fun wx hk=>hk.obj oz (fun f=>f)
 go_wp2_with fail
 refine(hE'.out _ D _ _ _ _ _ (HX.out.kept K0 (fun _ _ f=>f))).mono ?_
 rintro e w2 ⟨k1,t1,i1,l1,m1,d1,rfl,R1,hk1⟩
 go_wp2_with fail
 refine(part_any _ _ _ _ _).mono ?_
 rintro e w3 ⟨rfl,hk3⟩
 have row1:=hk3.obj (heap_alloc_new _ _) (fun f=>f)
 have k23:Kept (fun _=>False) w2 w3:=keptA.trans hk3
 have kk:=hk1.trans k23
 obtain⟨r0,r1,r2,r3,q0,q1,q2,q3⟩:=slot4 (ozr _ kk)
 have z9:w.heap.size+1<w3.heap.size:=lt_of_heap (ozr _ kk)
 have z8:w.heap.size<w3.heap.size:=by omega
 go_wp2_with fail
 refine bodyPost_ret (v:=.agg #[.string kExprS,.string sE,.int .i64 0,.slice (some ⟨w2.heap.size,0,none⟩) 1 1]) (by simp[results,Tryz.results58,go_sem,kExprS,r0,r1,r2,r3,z9,z8];done) rfl ?_
 rw[show(T.s 0 nn op lb (.x xk xn xop kids xb) body els has chain cases).N 0=.part kExprS (.one ((T.x xk xn xop kids xb).N 0)) by simp[T.N]]
 have kF:∀ {u0 u1 u2 u3:Value},Kept (fun b=>b=w.heap.size+1) w3 ((((w3.setCell ⟨w.heap.size+1,0,none⟩ u0).setCell ⟨w.heap.size+1,1,none⟩ u1).setCell ⟨w.heap.size+1,2,none⟩ u2).setCell ⟨w.heap.size+1,3,none⟩ u3):=Kept.set4 (M:=fun b=>b=w.heap.size+1) rfl
 have y1:=hk1.size
 refine⟨kExprS,sE,0,_,1,1,rfl,⟨_,rfl,_,rfl,_,rfl,_,_,rfl,rep_one (xs:=[_,_,_,_]) (kF.obj row1 (by omega)) (by omega) ((((R1.imp (D':=fun b=>w.heap.size+1<b) fun b _ hb=>by omega).kept k23 (fun _ _ f=>f)).kept kF (fun b hb=>by omega)).imp fun b _ hb=>by omega),rfl⟩,?_⟩
 exact(((K0.trans kk).mono (M':=fun b=>False∨w.heap.size≤b) fun _ _ f=>f.elim).trans (kF.mono fun b _ h=>.inr (by omega))).fresh (Nat.le_refl _)
theorem stmt_retN(nn:Nat)(op lb:Str)(xk xn:Nat)(xop:Str)(kids xb body els:T)(has chain:Bool)(cases:T)(hE:ExprN (.x xk xn xop kids xb)):StmtN (.s 9 nn op lb (.x xk xn xop kids xb) body els has chain cases):=by
 have hE':=Lib.hid hE
 clear hE
 intro w D s kids' xb' body' els' cases' e h1 h2 h3 h4 h5
 obtain⟨kind,nn,op,lb,xk,xn,xop,a1,n1,c1,a2,n2,c2,a3,n3,c3,a4,n4,c4,has,chain,a5,n5,c5⟩:=s
 simp only[T.s.injEq,T.x.injEq]at e
 obtain⟨rfl,rfl,rfl,rfl,⟨rfl,rfl,rfl,rfl,rfl⟩,rfl,rfl,rfl,rfl,rfl⟩:=e
 have hX:Rep w D (T.x xk xn xop kids xb).g [.int .i64 xk,.int .i64 xn,.string xop,.slice a1 n1 c1,.slice a2 n2 c2]:=⟨_,rfl,_,rfl,_,rfl,_,_,rfl,h1,_,_,rfl,h2,rfl⟩
 have HX:=Lib.hid hX
 have H3:=Lib.hid h3
 have H4:=Lib.hid h4
 have H5:=Lib.hid h5
 clear hX h1 h2 h3 h4 h5
 show Calls Tryz.prog 58 #[.agg #[.int .i64 9,.int .i64 nn,.string op,.string lb,.int .i64 xk,.int .i64 xn,.string xop,.slice a1 n1 c1,.slice a2 n2 c2,.slice a3 n3 c3,.slice a4 n4 c4,.bool has,.bool chain,.slice a5 n5 c5]] w _
 go_enter Tryz.func58,Tryz.ntmps58
 go_upto_region 45 with fail
 obtain⟨W0,hW0⟩:∃ W0,W0=(w.alloc (.cells #[.int .i64 9,.int .i64 nn,.string op,.string lb,.int .i64 xk,.int .i64 xn,.string xop,.slice a1 n1 c1,.slice a2 n2 c2,.slice a3 n3 c3,.slice a4 n4 c4,.bool has,.bool chain,.slice a5 n5 c5] 66)).alloc zeroN:=⟨_,rfl⟩
 rw[← hW0]
 have K0:Kept (fun _=>False) w W0:=by rw[hW0];exact keptA.trans keptA
 have ob:=hW0▸heap2_0 w _ zeroN
 have oz:W0.heap[w.heap.size+1]?=some zeroN:=hW0▸heap2_1 w _ zeroN
 obtain⟨x0,x1,x2,x3,x4,x5,x6,x7,x8,x9,x10,x11,x12,x13,y0,y1,y2,y3,y4,y5,y6,y7,y8,y9,y10,y11,y12,y13⟩:=slot14 ob
 have z0:w.heap.size+1<W0.heap.size:=by rw[hW0];simp
 clear hW0
 have ozr:∀ wx:World,Kept (fun _=>False) W0 wx→wx.heap[w.heap.size+1]?=some zeroN:=fun wx hk=>hk.obj oz (fun f=>f)
 go_wp2_with fail
 refine(hE'.out _ D _ _ _ _ _ (HX.out.kept K0 (fun _ _ f=>f))).mono ?_
 rintro e w2 ⟨k1,t1,i1,l1,m1,d1,rfl,R1,hk1⟩
 go_wp2_with fail
 refine(listOf_any _ _ _ _).mono ?_
 rintro e w3 ⟨rfl,hk3⟩
 have row1:=hk3.obj (heap_alloc_new _ _) (fun f=>f)
 have k23:Kept (fun _=>False) w2 w3:=keptA.trans hk3
 go_wp2_with fail
 refine(part_any _ _ _ _ _).mono ?_
 rintro e w4 ⟨rfl,hk4⟩
 have row2:=hk4.obj (heap_alloc_new _ _) (fun f=>f)
 have k34:Kept (fun _=>False) w3 w4:=keptA.trans hk4
 have row1:=k34.obj row1 (fun f=>f)
 have kk:=(hk1.trans k23).trans k34
 obtain⟨r0,r1,r2,r3,q0,q1,q2,q3⟩:=slot4 (ozr _ kk)
 have z9:w.heap.size+1<w4.heap.size:=lt_of_heap (ozr _ kk)
 have z8:w.heap.size<w4.heap.size:=by omega
 go_wp2_with fail
 refine bodyPost_ret (v:=.agg #[.string kReturn,.string sE,.int .i64 0,.slice (some ⟨w3.heap.size,0,none⟩) 1 1]) (by simp[results,Tryz.results58,go_sem,kReturn,r0,r1,r2,r3,z9,z8];done) rfl ?_
 rw[show(T.s 9 nn op lb (.x xk xn xop kids xb) body els has chain cases).N 0=.part kReturn (.one (.list (.one ((T.x xk xn xop kids xb).N 0)))) by simp[T.N]]
 have kF:∀ {u0 u1 u2 u3:Value},Kept (fun b=>b=w.heap.size+1) w4 ((((w4.setCell ⟨w.heap.size+1,0,none⟩ u0).setCell ⟨w.heap.size+1,1,none⟩ u1).setCell ⟨w.heap.size+1,2,none⟩ u2).setCell ⟨w.heap.size+1,3,none⟩ u3):=Kept.set4 (M:=fun b=>b=w.heap.size+1) rfl
 have y1:=hk1.size
 have y2:=k23.size
 refine⟨kReturn,sE,0,_,1,1,rfl,⟨_,rfl,_,rfl,_,rfl,_,_,rfl,rep_one (xs:=[_,_,_,_]) (kF.obj row2 (by omega)) (by omega) ?_,rfl⟩,?_⟩
 · refine⟨_,rfl,_,rfl,_,rfl,_,_,rfl,rep_one (xs:=[_,_,_,_]) (kF.obj row1 (by omega)) (by omega) ((((R1.imp (D':=fun b=>w.heap.size+1<b) fun b _ hb=>by omega).kept (k23.trans k34) (fun _ _ f=>f)).kept kF (fun b hb=>by omega)).imp fun b _ hb=>by omega),rfl⟩
 · exact(((K0.trans kk).mono (M':=fun b=>False∨w.heap.size≤b) fun _ _ f=>f.elim).trans (kF.mono fun b _ h=>.inr (by omega))).fresh (Nat.le_refl _)
theorem stmt_blockN(nn:Nat)(op lb:Str)(xk xn:Nat)(xop:Str)(kids xb body els:T)(has chain:Bool)(cases:T)(hl:body.isList)(hmax:body.len≤100000)(hall:body.All StmtX):StmtN (.s 10 nn op lb (.x xk xn xop kids xb) body els has chain cases):=by
 have Hall:=Lib.hid hall
 clear hall
 intro w D s kids' xb' body' els' cases' e h1 h2 h3 h4 h5
 obtain⟨kind,nn,op,lb,xk,xn,xop,a1,n1,c1,a2,n2,c2,a3,n3,c3,a4,n4,c4,has,chain,a5,n5,c5⟩:=s
 simp only[T.s.injEq,T.x.injEq]at e
 obtain⟨rfl,rfl,rfl,rfl,⟨rfl,rfl,rfl,rfl,rfl⟩,rfl,rfl,rfl,rfl,rfl⟩:=e
 have hX:Rep w D (T.x xk xn xop kids xb).g [.int .i64 xk,.int .i64 xn,.string xop,.slice a1 n1 c1,.slice a2 n2 c2]:=⟨_,rfl,_,rfl,_,rfl,_,_,rfl,h1,_,_,rfl,h2,rfl⟩
 have HX:=Lib.hid hX
 have H3:=Lib.hid h3
 have H4:=Lib.hid h4
 have H5:=Lib.hid h5
 clear hX h1 h2 h3 h4 h5
 show Calls Tryz.prog 58 #[.agg #[.int .i64 10,.int .i64 nn,.string op,.string lb,.int .i64 xk,.int .i64 xn,.string xop,.slice a1 n1 c1,.slice a2 n2 c2,.slice a3 n3 c3,.slice a4 n4 c4,.bool has,.bool chain,.slice a5 n5 c5]] w _
 go_enter Tryz.func58,Tryz.ntmps58
 go_upto_region 47 with fail
 obtain⟨W0,hW0⟩:∃ W0,W0=(w.alloc (.cells #[.int .i64 10,.int .i64 nn,.string op,.string lb,.int .i64 xk,.int .i64 xn,.string xop,.slice a1 n1 c1,.slice a2 n2 c2,.slice a3 n3 c3,.slice a4 n4 c4,.bool has,.bool chain,.slice a5 n5 c5] 66)).alloc zeroN:=⟨_,rfl⟩
 rw[← hW0]
 have K0:Kept (fun _=>False) w W0:=by rw[hW0];exact keptA.trans keptA
 have ob:=hW0▸heap2_0 w _ zeroN
 have oz:W0.heap[w.heap.size+1]?=some zeroN:=hW0▸heap2_1 w _ zeroN
 obtain⟨x0,x1,x2,x3,x4,x5,x6,x7,x8,x9,x10,x11,x12,x13,y0,y1,y2,y3,y4,y5,y6,y7,y8,y9,y10,y11,y12,y13⟩:=slot14 ob
 have z0:w.heap.size+1<W0.heap.size:=by rw[hW0];simp
 clear hW0
 have ozr:∀ wx:World,Kept (fun _=>False) W0 wx→wx.heap[w.heap.size+1]?=some zeroN:=fun wx hk=>hk.obj oz (fun f=>f)
 go_wp2_with fail
 refine(block_N body hl hmax Hall.out _ D _ _ _ (H3.out.kept K0 (fun _ _ f=>f))).mono ?_
 rintro e w2 ⟨k1,t1,i1,l1,m1,d1,rfl,R1,hk1⟩
 have kk:=hk1
 obtain⟨r0,r1,r2,r3,q0,q1,q2,q3⟩:=slot4 (ozr _ kk)
 have z9:w.heap.size+1<w2.heap.size:=lt_of_heap (ozr _ kk)
 have z8:w.heap.size<w2.heap.size:=by omega
 go_wp2_with fail
 refine bodyPost_ret (v:=.agg #[.string k1,.string t1,.int .i64 i1,.slice l1 m1 d1]) (by simp[results,Tryz.results58,go_sem,z9,r0,r1,r2,r3,z9,z8];done) rfl ?_
 rw[show(T.s 10 nn op lb (.x xk xn xop kids xb) body els has chain cases).N 0=.block (body.N 0) by simp[T.N]]
 have kF:∀ {u0 u1 u2 u3:Value},Kept (fun b=>b=w.heap.size+1) w2 ((((w2.setCell ⟨w.heap.size+1,0,none⟩ u0).setCell ⟨w.heap.size+1,1,none⟩ u1).setCell ⟨w.heap.size+1,2,none⟩ u2).setCell ⟨w.heap.size+1,3,none⟩ u3):=Kept.set4 (M:=fun b=>b=w.heap.size+1) rfl
 refine⟨k1,t1,i1,l1,m1,d1,rfl,(((R1.imp (D':=fun b=>w.heap.size+1<b) fun b _ hb=>by omega).kept kF (fun b hb=>by omega)).imp fun b _ hb=>by omega),?_⟩
 exact(((K0.trans kk).mono (M':=fun b=>False∨w.heap.size≤b) fun _ _ f=>f.elim).trans (kF.mono fun b _ h=>.inr (by omega))).fresh (Nat.le_refl _)
theorem var_ex(n:Nat)(hn:n<4):∃ (vs:Str) (vi:Int),Gc.N.var n=.name vs vi∧∀ W:World,Calls Tryz.prog 97 #[.int .i64 n] W (IsNode W kIdent vs vi none 0 0):=⟨_,_,rfl,fun W=>variable_any W n hn _ rfl⟩
theorem stmt_countN(nn:Nat)(op lb:Str)(xk xn:Nat)(xop:Str)(kids xb body els:T)(has chain:Bool)(cases:T)(hn:nn<4):StmtN (.s 2 nn op lb (.x xk xn xop kids xb) body els has chain cases):=by
 obtain⟨vs,vi,hv,hvar⟩:=var_ex nn hn
 have hvar':=Lib.hid hvar
 clear hvar
 intro w D s kids' xb' body' els' cases' e h1 h2 h3 h4 h5
 obtain⟨kind,nn,op,lb,xk,xn,xop,a1,n1,c1,a2,n2,c2,a3,n3,c3,a4,n4,c4,has,chain,a5,n5,c5⟩:=s
 simp only[T.s.injEq,T.x.injEq]at e
 obtain⟨rfl,rfl,rfl,rfl,⟨rfl,rfl,rfl,rfl,rfl⟩,rfl,rfl,rfl,rfl,rfl⟩:=e
 have hX:Rep w D (T.x xk xn xop kids xb).g [.int .i64 xk,.int .i64 xn,.string xop,.slice a1 n1 c1,.slice a2 n2 c2]:=⟨_,rfl,_,rfl,_,rfl,_,_,rfl,h1,_,_,rfl,h2,rfl⟩
 have HX:=Lib.hid hX
 have H3:=Lib.hid h3
 have H4:=Lib.hid h4
 have H5:=Lib.hid h5
 clear hX h1 h2 h3 h4 h5
 show Calls Tryz.prog 58 #[.agg #[.int .i64 2,.int .i64 nn,.string op,.string lb,.int .i64 xk,.int .i64 xn,.string xop,.slice a1 n1 c1,.slice a2 n2 c2,.slice a3 n3 c3,.slice a4 n4 c4,.bool has,.bool chain,.slice a5 n5 c5]] w _
 go_enter Tryz.func58,Tryz.ntmps58
 go_upto_region 5 with fail
 obtain⟨W0,hW0⟩:∃ W0,W0=(w.alloc (.cells #[.int .i64 2,.int .i64 nn,.string op,.string lb,.int .i64 xk,.int .i64 xn,.string xop,.slice a1 n1 c1,.slice a2 n2 c2,.slice a3 n3 c3,.slice a4 n4 c4,.bool has,.bool chain,.slice a5 n5 c5] 66)).alloc zeroN:=⟨_,rfl⟩
 rw[← hW0]
 have K0:Kept (fun _=>False) w W0:=by rw[hW0];exact keptA.trans keptA
 have ob:=hW0▸heap2_0 w _ zeroN
 have oz:W0.heap[w.heap.size+1]?=some zeroN:=hW0▸heap2_1 w _ zeroN
 obtain⟨x0,x1,x2,x3,x4,x5,x6,x7,x8,x9,x10,x11,x12,x13,y0,y1,y2,y3,y4,y5,y6,y7,y8,y9,y10,y11,y12,y13⟩:=slot14 ob
 have z0:w.heap.size+1<W0.heap.size:=by rw[hW0];simp
 clear hW0
 have ozr:∀ wx:World,Kept (fun _=>False) W0 wx→wx.heap[w.heap.size+1]?=some zeroN:=fun wx hk=>hk.obj oz (fun f=>f)
 have K0':Kept (fun b=>b=w.heap.size+1) w W0:=K0.mono fun _ _ f=>f.elim
 have rule:∀ wx:World,Kept (fun b=>b=w.heap.size+1) W0 wx→wx.cell? ⟨w.heap.size,0,none⟩=some (.int .i64 2)∧wx.cell? ⟨w.heap.size,1,none⟩=some (.int .i64 nn)∧wx.cell? ⟨w.heap.size,2,none⟩=some (.string op)∧wx.cell? ⟨w.heap.size,3,none⟩=some (.string lb)∧wx.cell? ⟨w.heap.size,4,none⟩=some (.int .i64 xk)∧wx.cell? ⟨w.heap.size,5,none⟩=some (.int .i64 xn)∧wx.cell? ⟨w.heap.size,6,none⟩=some (.string xop)∧wx.cell? ⟨w.heap.size,7,none⟩=some (.slice a1 n1 c1)∧wx.cell? ⟨w.heap.size,8,none⟩=some (.slice a2 n2 c2)∧wx.cell? ⟨w.heap.size,9,none⟩=some (.slice a3 n3 c3)∧wx.cell? ⟨w.heap.size,10,none⟩=some (.slice a4 n4 c4)∧wx.cell? ⟨w.heap.size,11,none⟩=some (.bool has)∧wx.cell? ⟨w.heap.size,12,none⟩=some (.bool chain)∧wx.cell? ⟨w.heap.size,13,none⟩=some (.slice a5 n5 c5):=fun wx hk =>
  ⟨hk.cell x0 (by simp),hk.cell x1 (by simp),hk.cell x2 (by simp),hk.cell x3 (by simp),hk.cell x4 (by simp),hk.cell x5 (by simp),hk.cell x6 (by simp),hk.cell x7 (by simp),hk.cell x8 (by simp),hk.cell x9 (by simp),hk.cell x10 (by simp),hk.cell x11 (by simp),hk.cell x12 (by simp),hk.cell x13 (by simp)⟩
 have kk:Kept (fun _=>False) W0 W0.drew:=keptD
 go_region_held3 (fun wx=>Kept (fun b=>b=w.heap.size+1) W0 wx) (first | assumption | exact keptD | exact Kept.trans (by assumption) keptA | exact Kept.trans (by assumption) (Kept.set4 (M:=fun b=>b=w.heap.size+1) rfl) | exact Kept.trans (by assumption) ((Kept.set4 (M:=fun b=>b=w.heap.size+1) rfl).trans keptA)) (first
  | (go_at_call 97;go_must (refine(hvar'.out _).mono ?_);rintro e w2 ⟨rfl,hk⟩;have kk:=kk.trans hk;have hS:Kept (fun b=>b=w.heap.size+1) W0 w2:=kk.mono fun _ _ f=>f.elim;obtain⟨r0,r1,r2,r3,q0,q1,q2,q3⟩:=slot4 (ozr _ kk);have z9:w.heap.size+1<w2.heap.size:=lt_of_heap (ozr _ kk);have z8:w.heap.size<w2.heap.size:=by omega))
 go_wp2_with fail
 refine bodyPost_ret (v:=.agg #[.string kInc,.string op,.int .i64 0,.slice (some ⟨w2.heap.size,0,none⟩) 1 1]) (by simp[results,Tryz.results58,go_sem,kInc,r0,r1,r2,r3,z9,z8];done) rfl ?_
 rw[show(T.s 2 nn op lb (.x xk xn xop kids xb) body els has chain cases).N 0=.n kInc op 0 (.one (.name vs vi)) by simp[T.N,hv]]
 have kF:∀ {u0 u1 u2 u3:Value} {ob:Obj},Kept (fun b=>b=w.heap.size+1) w2 (((((w2.setCell ⟨w.heap.size+1,0,none⟩ u0).setCell ⟨w.heap.size+1,1,none⟩ u1).setCell ⟨w.heap.size+1,2,none⟩ u2).setCell ⟨w.heap.size+1,3,none⟩ u3).alloc ob):=(Kept.set4 (M:=fun b=>b=w.heap.size+1) rfl).trans keptA
 refine⟨kInc,op,0,_,1,1,rfl,⟨_,rfl,_,rfl,_,rfl,_,_,rfl,rep_one (xs:=[_,_,_,_]) (heap_new_at (by simp) _) (by omega) ⟨_,rfl,_,rfl,_,rfl,_,_,rfl,⟨_,_,rfl⟩,rfl⟩,rfl⟩,?_⟩
 exact(((K0.trans kk).mono (M':=fun b=>False∨w.heap.size≤b) fun _ _ f=>f.elim).trans (kF.mono fun b _ h=>.inr (by omega))).fresh (Nat.le_refl _)
theorem stmt_forN(nn:Nat)(op lb:Str)(xk xn:Nat)(xop:Str)(kids xb body els:T)(has chain:Bool)(cases:T)(hE:ExprN (.x xk xn xop kids xb))(hl:body.isList)(hmax:body.len≤100000)(hall:body.All StmtX):StmtN (.s 4 nn op lb (.x xk xn xop kids xb) body els has chain cases):=by
 have hE':=Lib.hid hE
 have Hall:=Lib.hid hall
 clear hE hall
 intro w D s kids' xb' body' els' cases' e h1 h2 h3 h4 h5
 obtain⟨kind,nn,op,lb,xk,xn,xop,a1,n1,c1,a2,n2,c2,a3,n3,c3,a4,n4,c4,has,chain,a5,n5,c5⟩:=s
 simp only[T.s.injEq,T.x.injEq]at e
 obtain⟨rfl,rfl,rfl,rfl,⟨rfl,rfl,rfl,rfl,rfl⟩,rfl,rfl,rfl,rfl,rfl⟩:=e
 have hX:Rep w D (T.x xk xn xop kids xb).g [.int .i64 xk,.int .i64 xn,.string xop,.slice a1 n1 c1,.slice a2 n2 c2]:=⟨_,rfl,_,rfl,_,rfl,_,_,rfl,h1,_,_,rfl,h2,rfl⟩
 have HX:=Lib.hid hX
 have H3:=Lib.hid h3
 have H4:=Lib.hid h4
 have H5:=Lib.hid h5
 clear hX h1 h2 h3 h4 h5
 show Calls Tryz.prog 58 #[.agg #[.int .i64 4,.int .i64 nn,.string op,.string lb,.int .i64 xk,.int .i64 xn,.string xop,.slice a1 n1 c1,.slice a2 n2 c2,.slice a3 n3 c3,.slice a4 n4 c4,.bool has,.bool chain,.slice a5 n5 c5]] w _
 go_enter Tryz.func58,Tryz.ntmps58
 go_upto_region 14 with fail
 obtain⟨W0,hW0⟩:∃ W0,W0=(w.alloc (.cells #[.int .i64 4,.int .i64 nn,.string op,.string lb,.int .i64 xk,.int .i64 xn,.string xop,.slice a1 n1 c1,.slice a2 n2 c2,.slice a3 n3 c3,.slice a4 n4 c4,.bool has,.bool chain,.slice a5 n5 c5] 66)).alloc zeroN:=⟨_,rfl⟩
 rw[← hW0]
 have K0:Kept (fun _=>False) w W0:=by rw[hW0];exact keptA.trans keptA
 have ob:=hW0▸heap2_0 w _ zeroN
 have oz:W0.heap[w.heap.size+1]?=some zeroN:=hW0▸heap2_1 w _ zeroN
 obtain⟨x0,x1,x2,x3,x4,x5,x6,x7,x8,x9,x10,x11,x12,x13,y0,y1,y2,y3,y4,y5,y6,y7,y8,y9,y10,y11,y12,y13⟩:=slot14 ob
 have z0:w.heap.size+1<W0.heap.size:=by rw[hW0];simp
 clear hW0
 have ozr:∀ wx:World,Kept (fun _=>False) W0 wx→wx.heap[w.heap.size+1]?=some zeroN:=fun wx hk=>hk.obj oz (fun f=>f)
 have K0':Kept (fun b=>b=w.heap.size+1) w W0:=K0.mono fun _ _ f=>f.elim
 have rule:∀ wx:World,Kept (fun b=>b=w.heap.size+1) W0 wx→wx.cell? ⟨w.heap.size,0,none⟩=some (.int .i64 4)∧wx.cell? ⟨w.heap.size,1,none⟩=some (.int .i64 nn)∧wx.cell? ⟨w.heap.size,2,none⟩=some (.string op)∧wx.cell? ⟨w.heap.size,3,none⟩=some (.string lb)∧wx.cell? ⟨w.heap.size,4,none⟩=some (.int .i64 xk)∧wx.cell? ⟨w.heap.size,5,none⟩=some (.int .i64 xn)∧wx.cell? ⟨w.heap.size,6,none⟩=some (.string xop)∧wx.cell? ⟨w.heap.size,7,none⟩=some (.slice a1 n1 c1)∧wx.cell? ⟨w.heap.size,8,none⟩=some (.slice a2 n2 c2)∧wx.cell? ⟨w.heap.size,9,none⟩=some (.slice a3 n3 c3)∧wx.cell? ⟨w.heap.size,10,none⟩=some (.slice a4 n4 c4)∧wx.cell? ⟨w.heap.size,11,none⟩=some (.bool has)∧wx.cell? ⟨w.heap.size,12,none⟩=some (.bool chain)∧wx.cell? ⟨w.heap.size,13,none⟩=some (.slice a5 n5 c5):=fun wx hk =>
  ⟨hk.cell x0 (by simp),hk.cell x1 (by simp),hk.cell x2 (by simp),hk.cell x3 (by simp),hk.cell x4 (by simp),hk.cell x5 (by simp),hk.cell x6 (by simp),hk.cell x7 (by simp),hk.cell x8 (by simp),hk.cell x9 (by simp),hk.cell x10 (by simp),hk.cell x11 (by simp),hk.cell x12 (by simp),hk.cell x13 (by simp)⟩
 have kk:Kept (fun _=>False) W0 W0.drew:=keptD
 go_region_held3 (fun wx=>Kept (fun b=>b=w.heap.size+1) W0 wx) (first | assumption | exact keptD | exact Kept.trans (by assumption) keptA | exact Kept.trans (by assumption) (Kept.set4 (M:=fun b=>b=w.heap.size+1) rfl) | exact Kept.trans (by assumption) ((Kept.set4 (M:=fun b=>b=w.heap.size+1) rfl).trans keptA)) (first
  | (have _h:=R2;go_at_call 18;go_must (refine(part_any _ _ _ _ _).mono ?_);rintro e w6 ⟨rfl,hk⟩;have row1:=hk.obj (heap_alloc_new _ _) (fun f=>f);have kl:=keptA.trans (M:=fun _=>False) hk;have R1':=R1'.kept kl (fun _ _ f=>f);have R2':=R2'.kept kl (fun _ _ f=>f);have kk5:=kk;have kk:=kk.trans kl;have hS:Kept (fun b=>b=w.heap.size+1) W0 w6:=kk.mono fun _ _ f=>f.elim;obtain⟨r0,r1,r2,r3,q0,q1,q2,q3⟩:=slot4 (ozr _ kk);have z9:w.heap.size+1<w6.heap.size:=lt_of_heap (ozr _ kk);have z8:w.heap.size<w6.heap.size:=by omega)
  | (go_at_call 23;go_must (refine(block_N body hl hmax Hall.out _ (fun b=>b<w.heap.size) _ _ _ ((H3.out.imp fun b hl _=>hl).kept (K0'.trans (by assumption)) (fun b hb=>by omega))).mono ?_);rintro e w5 ⟨k2,t2,i2,l2,m2,d2,rfl,R2,hk⟩;have R2':=R2.imp (D':=fun b=>w.heap.size+1<b) (fun b _ hb=>by have:=kk.size;omega);have R1':=R1'.kept hk (fun _ _ f=>f);have kk:=kk.trans hk;have hS:Kept (fun b=>b=w.heap.size+1) W0 w5:=kk.mono fun _ _ f=>f.elim;skip)
  | (go_at_call 98;go_must (refine(hE'.out _ (fun b=>b<w.heap.size) _ _ _ _ _ ((HX.out.imp fun b hl _=>hl).kept (K0'.trans (by assumption)) (fun b hb=>by omega))).mono ?_);rintro e w3 ⟨k1,t1,i1,l1,m1,d1,rfl,R1,hk⟩;have K3:=hk;have R1':=R1.imp (D':=fun b=>w.heap.size+1<b) (fun b _ hb=>by have:=kk.size;omega);have kk:=kk.trans hk;have hS:Kept (fun b=>b=w.heap.size+1) W0 w3:=kk.mono fun _ _ f=>f.elim)
  | (have _h:=R1;go_at_call 21;go_must (refine(none_any _).mono ?_);rintro e w4 ⟨rfl,hk⟩;have R1':=R1'.kept hk (fun _ _ f=>f);have kk:=kk.trans hk;have hS:Kept (fun b=>b=w.heap.size+1) W0 w4:=kk.mono fun _ _ f=>f.elim)
  | (go_at_call 21;go_must (refine(none_any _).mono ?_);rintro e w2 ⟨rfl,hk⟩;have kk:=kk.trans hk;have hS:Kept (fun b=>b=w.heap.size+1) W0 w2:=kk.mono fun _ _ f=>f.elim))
 go_wp2_with fail
 refine bodyPost_ret (v:=.agg #[.string kFor,.string sE,.int .i64 0,.slice (some ⟨w5.heap.size,0,none⟩) 4 4]) (by simp[results,Tryz.results58,go_sem,kFor,r0,r1,r2,r3,z9,z8];done) rfl ?_
 rw[show(T.s 4 nn op lb (.x xk xn xop kids xb) body els has chain cases).N 0=.part kFor (.four .none ((T.x xk xn xop kids xb).N 0) .none (.block (body.N 0))) by simp[T.N]]
 have kF:∀ {u0 u1 u2 u3:Value},Kept (fun b=>b=w.heap.size+1) w6 ((((w6.setCell ⟨w.heap.size+1,0,none⟩ u0).setCell ⟨w.heap.size+1,1,none⟩ u1).setCell ⟨w.heap.size+1,2,none⟩ u2).setCell ⟨w.heap.size+1,3,none⟩ u3):=Kept.set4 (M:=fun b=>b=w.heap.size+1) rfl
 have y5:=kk5.size
 refine⟨kFor,sE,0,_,4,4,rfl,⟨_,rfl,_,rfl,_,rfl,_,_,rfl,rep_four (xs:=[_,_,_,_]) (ys:=[_,_,_,_]) (zs:=[_,_,_,_]) (us:=[_,_,_,_]) (kF.obj row1 (by have:W0.heap.size≤w5.heap.size:=y5;omega)) (by have:W0.heap.size≤w5.heap.size:=y5;omega) (rep_none _ _) ((R1'.kept kF (fun b hb=>by omega)).imp fun b _ hb=>by omega) (rep_none _ _) ((R2'.kept kF (fun b hb=>by omega)).imp fun b _ hb=>by omega),rfl⟩,?_⟩
 exact(((K0.trans kk).mono (M':=fun b=>False∨w.heap.size≤b) fun _ _ f=>f.elim).trans (kF.mono fun b _ h=>.inr (by omega))).fresh (Nat.le_refl _)
end Go.Proofs.YtleolbpibjnedaaGreat
