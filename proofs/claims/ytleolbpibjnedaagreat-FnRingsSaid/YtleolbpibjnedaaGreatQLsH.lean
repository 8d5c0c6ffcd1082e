/- The laws' branches to a label as syntax. -/
import Derived.Test.YtleolbpibjnedaaGreatQLsC
set_option linter.unusedSimpArgs false
set_option linter.unusedVariables false
set_option maxRecDepth 100000
set_option maxHeartbeats 4000000
namespace Go.Proofs.YtleolbpibjnedaaGreat
open Go Go.RowKit Gc
theorem lab_size(k:Nat):(lab k).data.size≠0:=by simp[lab,strOf]
theorem stmt_gotoN(nn:Nat)(op lb:Str)(xk xn:Nat)(xop:Str)(kids xb body els:T)(has chain:Bool)(cases:T)(k:Nat)(hk:k≤1000)(hlb:lb=lab k):StmtN (.s 8 nn op lb (.x xk xn xop kids xb) body els has chain cases):=by
 have hne:¬ lb=(⟨#[]⟩:ByteArray):=by intro e;have:=lab_size k;rw[← hlb,e]at this;simp at this
 have hne1:lb.toList.isEmpty=false:=by rw[hlb,Go.ByteArray.toList_eq];rfl
 have Hlb:=Lib.hid hlb
 clear hlb
 intro w D s kids' xb' body' els' cases' e h1 h2 h3 h4 h5
 obtain⟨kind,nn,op,lb,xk,xn,xop,a1,n1,c1,a2,n2,c2,a3,n3,c3,a4,n4,c4,has,chain,a5,n5,c5⟩:=s
 simp only[T.s.injEq,T.x.injEq]at e
 obtain⟨rfl,rfl,rfl,rfl,⟨rfl,rfl,rfl,rfl,rfl⟩,rfl,rfl,rfl,rfl,rfl⟩:=e
 have hX:Rep w D (T.x xk xn xop kids xb).g [.int .i64 xk,.int .i64 xn,.string xop,.slice a1 n1 c1,.slice a2 n2 c2]:=⟨_,rfl,_,rfl,_,rfl,_,_,rfl,h1,_,_,rfl,h2,rfl⟩
 have HX:=Lib.hid hX
 have H3:=Lib.hid h3
 have H4:=Lib.hid h4
 have H5:=Lib.hid h5
 clear hX h1 h2 h3 h4 h5
 show Calls Tryz.prog 58 #[.agg #[.int .i64 8,.int .i64 nn,.string op,.string lb,.int .i64 xk,.int .i64 xn,.string xop,.slice a1 n1 c1,.slice a2 n2 c2,.slice a3 n3 c3,.slice a4 n4 c4,.bool has,.bool chain,.slice a5 n5 c5]] w _
 go_enter Tryz.func58,Tryz.ntmps58
 go_upto_region 40 with fail
 obtain⟨W0,hW0⟩:∃ W0,W0=(w.alloc (.cells #[.int .i64 8,.int .i64 nn,.string op,.string lb,.int .i64 xk,.int .i64 xn,.string xop,.slice a1 n1 c1,.slice a2 n2 c2,.slice a3 n3 c3,.slice a4 n4 c4,.bool has,.bool chain,.slice a5 n5 c5] 66)).alloc zeroN:=⟨_,rfl⟩
 rw[← hW0]
 have K0:Kept (fun _=>False) w W0:=by rw[hW0];exact keptA.trans keptA
 have ob:=hW0▸heap2_0 w _ zeroN
 have oz:W0.heap[w.heap.size+1]?=some zeroN:=hW0▸heap2_1 w _ zeroN
 obtain⟨x0,x1,x2,x3,x4,x5,x6,x7,x8,x9,x10,x11,x12,x13,y0,y1,y2,y3,y4,y5,y6,y7,y8,y9,y10,y11,y12,y13⟩:=slot14 ob
 have z0:w.heap.size+1<W0.heap.size:=by rw[hW0];simp
 clear hW0
 have ozr:∀ wx:World,Kept (fun _=>False) W0 wx→wx.heap[w.heap.size+1]?=some zeroN:=fun wx hk=>hk.obj oz (fun f=>f)
 go_wp2_with fail
 refine(none_any _).mono ?_
 rintro e w2 ⟨rfl,hk1⟩
 have X2:=hk1.cell x2 (fun f=>f)
 have X3:=hk1.cell x3 (fun f=>f)
 have z6:w.heap.size+1<w2.heap.size:=by have:=hk1.size;omega
 have z5:w.heap.size<w2.heap.size:=by omega
 go_wp2_with fail
 have hL:∀ W:World,Calls Tryz.prog 99 #[.string lb] W (IsNode W kIdent lb (50+labNum lb:Nat) none 0 0):=fun W=>by rw[Hlb.out];exact label_N k hk W
 refine(hL _).mono ?_
 rintro e w3 ⟨rfl,hk2⟩
 have X2':=hk2.cell (keptA.cell (M:=fun _=>False) X2 (fun f=>f)) (fun f=>f)
 have kl:=keptA.trans (M:=fun _=>False) hk2
 have kk:=hk1.trans kl
 obtain⟨t0,t1,t2,t3,u0,u1,u2,u3⟩:=slot4 (hk2.obj (heap_alloc_new _ _) (fun f=>f))
 have z7:w2.heap.size<w3.heap.size:=by have:=hk2.size;simp at this;omega
 obtain⟨r0,r1,r2,r3,q0,q1,q2,q3⟩:=slot4 (ozr _ kk)
 have z9:w.heap.size+1<w3.heap.size:=lt_of_heap (ozr _ kk)
 have z8:w.heap.size<w3.heap.size:=by omega
 go_wp2_with fail
 refine bodyPost_ret (v:=.agg #[.string kBranch,.string op,.int .i64 0,.slice (some ⟨w3.heap.size,0,none⟩) 1 1]) (by simp[results,Tryz.results58,go_sem,kBranch,z7,(show w2.heap.size≠w.heap.size+1 by omega),(show w.heap.size+1≠w2.heap.size by omega),r0,r1,r2,r3,z9,z8];done) rfl ?_
 have hsz:¬ lb.data.size=0:=by rw[Hlb.out];exact lab_size k
 rw[show(T.s 8 nn op lb (.x xk xn xop kids xb) body els has chain cases).N 0=.n kBranch op 0 (.one (.label lb)) by simp only[T.N];simp[hsz,(show ¬ lb=ByteArray.empty from hne)]]
 have kF:∀ {p0 p1 p2 p3 v0 v1 v2 v3:Value} {ob:Obj},Kept (fun b=>b=w.heap.size+1∨b=w2.heap.size) w3 (((((((((w3.setCell ⟨w2.heap.size,0,none⟩ p0).setCell ⟨w2.heap.size,1,none⟩ p1).setCell ⟨w2.heap.size,2,none⟩ p2).setCell ⟨w2.heap.size,3,none⟩ p3).setCell ⟨w.heap.size+1,0,none⟩ v0).setCell ⟨w.heap.size+1,1,none⟩ v1).setCell ⟨w.heap.size+1,2,none⟩ v2).setCell ⟨w.heap.size+1,3,none⟩ v3).alloc ob):=((Kept.set4 (M:=fun b=>b=w.heap.size+1∨b=w2.heap.size) (.inr rfl)).trans (Kept.set4 (M:=fun b=>b=w.heap.size+1∨b=w2.heap.size) (.inl rfl))).trans keptA
 refine⟨kBranch,op,0,_,1,1,rfl,⟨_,rfl,_,rfl,_,rfl,_,_,rfl,rep_one (xs:=[_,_,_,_]) (heap_new_at (by simp) _) (by omega) ⟨_,rfl,_,rfl,_,rfl,_,_,rfl,⟨_,_,rfl⟩,rfl⟩,rfl⟩,?_⟩
 exact(((K0.trans kk).mono (M':=fun b=>False∨w.heap.size≤b) fun _ _ f=>f.elim).trans (kF.mono fun b _ h=>.inr (by omega))).fresh (Nat.le_refl _)
theorem stmt_branchN(nn:Nat)(op lb:Str)(xk xn:Nat)(xop:Str)(kids xb body els:T)(has chain:Bool)(cases:T)(hlb:lb=sE):StmtN (.s 8 nn op lb (.x xk xn xop kids xb) body els has chain cases):=by
 subst hlb
 intro w D s kids' xb' body' els' cases' e h1 h2 h3 h4 h5
 obtain⟨kind,nn,op,lb',xk,xn,xop,a1,n1,c1,a2,n2,c2,a3,n3,c3,a4,n4,c4,has,chain,a5,n5,c5⟩:=s
 simp only[T.s.injEq,T.x.injEq]at e
 obtain⟨rfl,rfl,rfl,rfl,⟨rfl,rfl,rfl,rfl,rfl⟩,rfl,rfl,rfl,rfl,rfl⟩:=e
 have hX:Rep w D (T.x xk xn xop kids xb).g [.int .i64 xk,.int .i64 xn,.string xop,.slice a1 n1 c1,.slice a2 n2 c2]:=⟨_,rfl,_,rfl,_,rfl,_,_,rfl,h1,_,_,rfl,h2,rfl⟩
 have HX:=Lib.hid hX
 have H3:=Lib.hid h3
 have H4:=Lib.hid h4
 have H5:=Lib.hid h5
 clear hX h1 h2 h3 h4 h5
 show Calls Tryz.prog 58 #[.agg #[.int .i64 8,.int .i64 nn,.string op,.string ⟨#[]⟩,.int .i64 xk,.int .i64 xn,.string xop,.slice a1 n1 c1,.slice a2 n2 c2,.slice a3 n3 c3,.slice a4 n4 c4,.bool has,.bool chain,.slice a5 n5 c5]] w _
 go_enter Tryz.func58,Tryz.ntmps58
 go_upto_region 40 with fail
 obtain⟨W0,hW0⟩:∃ W0,W0=(w.alloc (.cells #[.int .i64 8,.int .i64 nn,.string op,.string ⟨#[]⟩,.int .i64 xk,.int .i64 xn,.string xop,.slice a1 n1 c1,.slice a2 n2 c2,.slice a3 n3 c3,.slice a4 n4 c4,.bool has,.bool chain,.slice a5 n5 c5] 66)).alloc zeroN:=⟨_,rfl⟩
 rw[← hW0]
 have K0:Kept (fun _=>False) w W0:=by rw[hW0];exact keptA.trans keptA
 have ob:=hW0▸heap2_0 w _ zeroN
 have oz:W0.heap[w.heap.size+1]?=some zeroN:=hW0▸heap2_1 w _ zeroN
 obtain⟨x0,x1,x2,x3,x4,x5,x6,x7,x8,x9,x10,x11,x12,x13,y0,y1,y2,y3,y4,y5,y6,y7,y8,y9,y10,y11,y12,y13⟩:=slot14 ob
 have z0:w.heap.size+1<W0.heap.size:=by rw[hW0];simp
 clear hW0
 have ozr:∀ wx:World,Kept (fun _=>False) W0 wx→wx.heap[w.heap.size+1]?=some zeroN:=fun wx hk=>hk.obj oz (fun f=>f)
 go_wp2_with fail
 refine(none_any _).mono ?_
 rintro e w2 ⟨rfl,hk1⟩
 have X2:=hk1.cell x2 (fun f=>f)
 have X3:=hk1.cell x3 (fun f=>f)
 have kk:=hk1
 obtain⟨r0,r1,r2,r3,q0,q1,q2,q3⟩:=slot4 (ozr _ kk)
 have z9:w.heap.size+1<w2.heap.size:=lt_of_heap (ozr _ kk)
 have z8:w.heap.size<w2.heap.size:=by omega
 go_wp2_with fail
 refine bodyPost_ret (v:=.agg #[.string kBranch,.string op,.int .i64 0,.slice (some ⟨w2.heap.size+1,0,none⟩) 1 1]) (by simp[results,Tryz.results58,go_sem,kBranch,sE,r0,r1,r2,r3,z9,z8];done) rfl ?_
 rw[show(T.s 8 nn op sE (.x xk xn xop kids xb) body els has chain cases).N 0=.n kBranch op 0 (.one .none) by simp[T.N,sE]]
 have kF:∀ {u0 u1 u2 u3:Value} {ob1 ob2:Obj},Kept (fun b=>b=w.heap.size+1) w2 ((((((w2.setCell ⟨w.heap.size+1,0,none⟩ u0).setCell ⟨w.heap.size+1,1,none⟩ u1).setCell ⟨w.heap.size+1,2,none⟩ u2).setCell ⟨w.heap.size+1,3,none⟩ u3).alloc ob1).alloc ob2):=((Kept.set4 (M:=fun b=>b=w.heap.size+1) rfl).trans keptA).trans keptA
 refine⟨kBranch,op,0,_,1,1,rfl,⟨_,rfl,_,rfl,_,rfl,_,_,rfl,rep_one (xs:=[_,_,_,_]) (heap_new_at (by simp) _) (by omega) (rep_none _ _),rfl⟩,?_⟩
 exact(((K0.trans kk).mono (M':=fun b=>False∨w.heap.size≤b) fun _ _ f=>f.elim).trans (kF.mono fun b _ h=>.inr (by omega))).fresh (Nat.le_refl _)
theorem stmt_assignN(nn:Nat)(op lb:Str)(xk xn:Nat)(xop:Str)(kids xb body els:T)(has chain:Bool)(cases:T)(hn:nn<4)(hop:op.size≤10)(hE:ExprN (.x xk xn xop kids xb)):StmtN (.s 1 nn op lb (.x xk xn xop kids xb) body els has chain cases):=by
 obtain⟨vs,vi,hv,hvar⟩:=var_ex nn hn
 have hvar':=Lib.hid hvar
 have hE':=Lib.hid hE
 clear hvar hE
 intro w D s kids' xb' body' els' cases' e h1 h2 h3 h4 h5
 obtain⟨kind,nn,op,lb,xk,xn,xop,a1,n1,c1,a2,n2,c2,a3,n3,c3,a4,n4,c4,has,chain,a5,n5,c5⟩:=s
 simp only[T.s.injEq,T.x.injEq]at e
 obtain⟨rfl,rfl,rfl,rfl,⟨rfl,rfl,rfl,rfl,rfl⟩,rfl,rfl,rfl,rfl,rfl⟩:=e
 have hX:Rep w D (T.x xk xn xop kids xb).g [.int .i64 xk,.int .i64 xn,.string xop,.slice a1 n1 c1,.slice a2 n2 c2]:=⟨_,rfl,_,rfl,_,rfl,_,_,rfl,h1,_,_,rfl,h2,rfl⟩
 have HX:=Lib.hid hX
 have H3:=Lib.hid h3
 have H4:=Lib.hid h4
 have H5:=Lib.hid h5
 clear hX h1 h2 h3 h4 h5
 show Calls Tryz.prog 58 #[.agg #[.int .i64 1,.int .i64 nn,.string op,.string lb,.int .i64 xk,.int .i64 xn,.string xop,.slice a1 n1 c1,.slice a2 n2 c2,.slice a3 n3 c3,.slice a4 n4 c4,.bool has,.bool chain,.slice a5 n5 c5]] w _
 go_enter Tryz.func58,Tryz.ntmps58
 go_upto_region 3 with fail
 obtain⟨W0,hW0⟩:∃ W0,W0=(w.alloc (.cells #[.int .i64 1,.int .i64 nn,.string op,.string lb,.int .i64 xk,.int .i64 xn,.string xop,.slice a1 n1 c1,.slice a2 n2 c2,.slice a3 n3 c3,.slice a4 n4 c4,.bool has,.bool chain,.slice a5 n5 c5] 66)).alloc zeroN:=⟨_,rfl⟩
 rw[← hW0]
 have K0:Kept (fun _=>False) w W0:=by rw[hW0];exact keptA.trans keptA
 have ob:=hW0▸heap2_0 w _ zeroN
 have oz:W0.heap[w.heap.size+1]?=some zeroN:=hW0▸heap2_1 w _ zeroN
 obtain⟨x0,x1,x2,x3,x4,x5,x6,x7,x8,x9,x10,x11,x12,x13,y0,y1,y2,y3,y4,y5,y6,y7,y8,y9,y10,y11,y12,y13⟩:=slot14 ob
 have z0:w.heap.size+1<W0.heap.size:=by rw[hW0];simp
 clear hW0
 have ozr:∀ wx:World,Kept (fun _=>False) W0 wx→wx.heap[w.heap.size+1]?=some zeroN:=fun wx hk=>hk.obj oz (fun f=>f)
 have K0':Kept (fun b=>b=w.heap.size+1) w W0:=K0.mono fun _ _ f=>f.elim
 have rule:∀ wx:World,Kept (fun b=>b=w.heap.size+1) W0 wx→wx.cell? ⟨w.heap.size,0,none⟩=some (.int .i64 1)∧wx.cell? ⟨w.heap.size,1,none⟩=some (.int .i64 nn)∧wx.cell? ⟨w.heap.size,2,none⟩=some (.string op)∧wx.cell? ⟨w.heap.size,3,none⟩=some (.string lb)∧wx.cell? ⟨w.heap.size,4,none⟩=some (.int .i64 xk)∧wx.cell? ⟨w.heap.size,5,none⟩=some (.int .i64 xn)∧wx.cell? ⟨w.heap.size,6,none⟩=some (.string xop)∧wx.cell? ⟨w.heap.size,7,none⟩=some (.slice a1 n1 c1)∧wx.cell? ⟨w.heap.size,8,none⟩=some (.slice a2 n2 c2)∧wx.cell? ⟨w.heap.size,9,none⟩=some (.slice a3 n3 c3)∧wx.cell? ⟨w.heap.size,10,none⟩=some (.slice a4 n4 c4)∧wx.cell? ⟨w.heap.size,11,none⟩=some (.bool has)∧wx.cell? ⟨w.heap.size,12,none⟩=some (.bool chain)∧wx.cell? ⟨w.heap.size,13,none⟩=some (.slice a5 n5 c5):=fun wx hk =>
  ⟨hk.cell x0 (by simp),hk.cell x1 (by simp),hk.cell x2 (by simp),hk.cell x3 (by simp),hk.cell x4 (by simp),hk.cell x5 (by simp),hk.cell x6 (by simp),hk.cell x7 (by simp),hk.cell x8 (by simp),hk.cell x9 (by simp),hk.cell x10 (by simp),hk.cell x11 (by simp),hk.cell x12 (by simp),hk.cell x13 (by simp)⟩
 have kk:Kept (fun _=>False) W0 W0.drew:=keptD
 have hb1:¬ 9223372036854775807<op.size+1:=by omega
 have hb2:¬ (9223372036854775807:Int)<(op.size:Int)+1:=by omega
 go_region_held3 (fun wx=>Kept (fun b=>b=w.heap.size+1) W0 wx) (first | assumption | exact keptD | exact Kept.trans (by assumption) keptA | exact Kept.trans (by assumption) (Kept.set4 (M:=fun b=>b=w.heap.size+1) rfl) | exact Kept.trans (by assumption) ((Kept.set4 (M:=fun b=>b=w.heap.size+1) rfl).trans keptA)) (first
  | (have _h:=R1;go_at_call 36;go_must (refine(listOf_any _ _ _ _).mono ?_);rintro e w5 ⟨rfl,hk⟩;have row2:=hk.obj (heap_alloc_new _ _) (fun f=>f);have kl:=keptA.trans (M:=fun _=>False) hk;have row1:=kl.obj row1 (fun f=>f);have R1':=R1'.kept kl (fun _ _ f=>f);have kk3:=kk;have kk:=kk.trans kl;have hS:Kept (fun b=>b=w.heap.size+1) W0 w5:=kk.mono fun _ _ f=>f.elim;obtain⟨r0,r1,r2,r3,q0,q1,q2,q3⟩:=slot4 (ozr _ kk);have z9:w.heap.size+1<w5.heap.size:=lt_of_heap (ozr _ kk);have z8:w.heap.size<w5.heap.size:=by omega)
  | (go_at_call 98;go_must (refine(hE'.out _ (fun b=>b<w.heap.size) _ _ _ _ _ ((HX.out.imp fun b hl _=>hl).kept (K0'.trans (by assumption)) (fun b hb=>by omega))).mono ?_);rintro e w3 ⟨k1,t1,i1,l1,m1,d1,rfl,R1,hk⟩;have K3:=hk;have R1':=R1.imp (D':=fun b=>w.heap.size+1<b) (fun b _ hb=>by have:=kk.size;omega);have row1:=hk.obj row1 (fun f=>f);have kk:=kk.trans hk;have hS:Kept (fun b=>b=w.heap.size+1) W0 w3:=kk.mono fun _ _ f=>f.elim)
  | (go_at_call 36;go_must (refine(listOf_any _ _ _ _).mono ?_);rintro e w4 ⟨rfl,hk⟩;have row1:=hk.obj (heap_alloc_new _ _) (fun f=>f);have kl:=keptA.trans (M:=fun _=>False) hk;have kk2:=kk;have kk:=kk.trans kl;have hS:Kept (fun b=>b=w.heap.size+1) W0 w4:=kk.mono fun _ _ f=>f.elim)
  | (go_at_call 97;go_must (refine(hvar'.out _).mono ?_);rintro e w2 ⟨rfl,hk⟩;have kk:=kk.trans hk;have hS:Kept (fun b=>b=w.heap.size+1) W0 w2:=kk.mono fun _ _ f=>f.elim))
 go_wp2_with fail
 refine bodyPost_ret (v:=.agg #[.string kAssign,.string (op++⟨#[61]⟩),.int .i64 0,.slice (some ⟨w5.heap.size,0,none⟩) 2 2]) (by simp[results,Tryz.results58,go_sem,kAssign,r0,r1,r2,r3,z9,z8];done) rfl ?_
 rw[show(T.s 1 nn op lb (.x xk xn xop kids xb) body els has chain cases).N 0=.n kAssign (op++⟨#[61]⟩) 0 (.two (.list (.one (.name vs vi))) (.list (.one ((T.x xk xn xop kids xb).N 0)))) by simp[T.N,hv]]
 have kF:∀ {u0 u1 u2 u3:Value} {ob:Obj},Kept (fun b=>b=w.heap.size+1) w5 (((((w5.setCell ⟨w.heap.size+1,0,none⟩ u0).setCell ⟨w.heap.size+1,1,none⟩ u1).setCell ⟨w.heap.size+1,2,none⟩ u2).setCell ⟨w.heap.size+1,3,none⟩ u3).alloc ob):=(Kept.set4 (M:=fun b=>b=w.heap.size+1) rfl).trans keptA
 have y2:W0.heap.size≤w2.heap.size:=kk2.size
 have y3:W0.heap.size≤w3.heap.size:=kk3.size
 refine⟨kAssign,op++⟨#[61]⟩,0,_,2,2,rfl,⟨_,rfl,_,rfl,_,rfl,_,_,rfl,rep_two (xs:=[_,_,_,_]) (ys:=[_,_,_,_]) (heap_new_at (by simp) _) (by omega) ?_ ?_,rfl⟩,?_⟩
 · refine⟨_,rfl,_,rfl,_,rfl,_,_,rfl,rep_one (xs:=[_,_,_,_]) (kF.obj row1 (by omega)) (by omega) ?_,rfl⟩
   exact⟨_,rfl,_,rfl,_,rfl,_,_,rfl,⟨_,_,rfl⟩,rfl⟩
 · refine⟨_,rfl,_,rfl,_,rfl,_,_,rfl,rep_one (xs:=[_,_,_,_]) (kF.obj row2 (by omega)) (by omega) ((R1'.kept kF (fun b hb=>by omega)).imp fun b _ hb=>by omega),rfl⟩
 · exact(((K0.trans kk).mono (M':=fun b=>False∨w.heap.size≤b) fun _ _ f=>f.elim).trans (kF.mono fun b _ h=>.inr (by omega))).fresh (Nat.le_refl _)
theorem stmt_rangeN(nn:Nat)(op lb:Str)(xk xn:Nat)(xop:Str)(kids xb body els:T)(has chain:Bool)(cases:T)(hE:ExprN (.x xk xn xop kids xb))(hl:body.isList)(hmax:body.len≤100000)(hall:body.All StmtX):StmtN (.s 5 nn op lb (.x xk xn xop kids xb) body els has chain cases):=by
 have hE':=Lib.hid hE
 have Hall:=Lib.hid hall
 clear hE hall
 intro w D s kids' xb' body' els' cases' e h1 h2 h3 h4 h5
 obtain⟨kind,nn,op,lb,xk,xn,xop,a1,n1,c1,a2,n2,c2,a3,n3,c3,a4,n4,c4,has,chain,a5,n5,c5⟩:=s
 simp only[T.s.injEq,T.x.injEq]at e
 obtain⟨rfl,rfl,rfl,rfl,⟨rfl,rfl,rfl,rfl,rfl⟩,rfl,rfl,rfl,rfl,rfl⟩:=e
 have hX:Rep w D (T.x xk xn xop kids xb).g [.int .i64 xk,.int .i64 xn,.string xop,.slice a1 n1 c1,.slice a2 n2 c2]:=⟨_,rfl,_,rfl,_,rfl,_,_,rfl,h1,_,_,rfl,h2,rfl⟩
 have HX:=Lib.hid hX
 have H3:=Lib.hid h3
 have H4:=Lib.hid h4
 have H5:=Lib.hid h5
 clear hX h1 h2 h3 h4 h5
 show Calls Tryz.prog 58 #[.agg #[.int .i64 5,.int .i64 nn,.string op,.string lb,.int .i64 xk,.int .i64 xn,.string xop,.slice a1 n1 c1,.slice a2 n2 c2,.slice a3 n3 c3,.slice a4 n4 c4,.bool has,.bool chain,.slice a5 n5 c5]] w _
 go_enter Tryz.func58,Tryz.ntmps58
 go_upto_region 16 with fail
 obtain⟨W0,hW0⟩:∃ W0,W0=(w.alloc (.cells #[.int .i64 5,.int .i64 nn,.string op,.string lb,.int .i64 xk,.int .i64 xn,.string xop,.slice a1 n1 c1,.slice a2 n2 c2,.slice a3 n3 c3,.slice a4 n4 c4,.bool has,.bool chain,.slice a5 n5 c5] 66)).alloc zeroN:=⟨_,rfl⟩
 rw[← hW0]
 have K0:Kept (fun _=>False) w W0:=by rw[hW0];exact keptA.trans keptA
 have ob:=hW0▸heap2_0 w _ zeroN
 have oz:W0.heap[w.heap.size+1]?=some zeroN:=hW0▸heap2_1 w _ zeroN
 obtain⟨x0,x1,x2,x3,x4,x5,x6,x7,x8,x9,x10,x11,x12,x13,y0,y1,y2,y3,y4,y5,y6,y7,y8,y9,y10,y11,y12,y13⟩:=slot14 ob
 have z0:w.heap.size+1<W0.heap.size:=by rw[hW0];simp
 clear hW0
 have ozr:∀ wx:World,Kept (fun _=>False) W0 wx→wx.heap[w.heap.size+1]?=some zeroN:=fun wx hk=>hk.obj oz (fun f=>f)
 have K0':Kept (fun b=>b=w.heap.size+1) w W0:=K0.mono fun _ _ f=>f.elim
 have rule:∀ wx:World,Kept (fun b=>b=w.heap.size+1) W0 wx→wx.cell? ⟨w.heap.size,0,none⟩=some (.int .i64 5)∧wx.cell? ⟨w.heap.size,1,none⟩=some (.int .i64 nn)∧wx.cell? ⟨w.heap.size,2,none⟩=some (.string op)∧wx.cell? ⟨w.heap.size,3,none⟩=some (.string lb)∧wx.cell? ⟨w.heap.size,4,none⟩=some (.int .i64 xk)∧wx.cell? ⟨w.heap.size,5,none⟩=some (.int .i64 xn)∧wx.cell? ⟨w.heap.size,6,none⟩=some (.string xop)∧wx.cell? ⟨w.heap.size,7,none⟩=some (.slice a1 n1 c1)∧wx.cell? ⟨w.heap.size,8,none⟩=some (.slice a2 n2 c2)∧wx.cell? ⟨w.heap.size,9,none⟩=some (.slice a3 n3 c3)∧wx.cell? ⟨w.heap.size,10,none⟩=some (.slice a4 n4 c4)∧wx.cell? ⟨w.heap.size,11,none⟩=some (.bool has)∧wx.cell? ⟨w.heap.size,12,none⟩=some (.bool chain)∧wx.cell? ⟨w.heap.size,13,none⟩=some (.slice a5 n5 c5):=fun wx hk =>
  ⟨hk.cell x0 (by simp),hk.cell x1 (by simp),hk.cell x2 (by simp),hk.cell x3 (by simp),hk.cell x4 (by simp),hk.cell x5 (by simp),hk.cell x6 (by simp),hk.cell x7 (by simp),hk.cell x8 (by simp),hk.cell x9 (by simp),hk.cell x10 (by simp),hk.cell x11 (by simp),hk.cell x12 (by simp),hk.cell x13 (by simp)⟩
 have kk:Kept (fun _=>False) W0 W0.drew:=keptD
 go_region_held3 (fun wx=>Kept (fun b=>b=w.heap.size+1) W0 wx) (first | assumption | exact keptD | exact Kept.trans (by assumption) keptA | exact Kept.trans (by assumption) (Kept.set4 (M:=fun b=>b=w.heap.size+1) rfl) | exact Kept.trans (by assumption) ((Kept.set4 (M:=fun b=>b=w.heap.size+1) rfl).trans keptA)) (first
  | (go_at_call 23;go_must (refine(block_N body hl hmax Hall.out _ (fun b=>b<w.heap.size) _ _ _ ((H3.out.imp fun b hl _=>hl).kept (K0'.trans (by assumption)) (fun b hb=>by omega))).mono ?_);rintro e w5 ⟨k2,t2,i2,l2,m2,d2,rfl,R2,hk⟩;have R2':=R2.imp (D':=fun b=>w.heap.size+1<b) (fun b _ hb=>by have:=kk.size;omega);have R1':=R1'.kept hk (fun _ _ f=>f);have kk:=kk.trans hk;have hS:Kept (fun b=>b=w.heap.size+1) W0 w5:=kk.mono fun _ _ f=>f.elim;obtain⟨r0,r1,r2,r3,q0,q1,q2,q3⟩:=slot4 (ozr _ kk);have z9:w.heap.size+1<w5.heap.size:=lt_of_heap (ozr _ kk);have z8:w.heap.size<w5.heap.size:=by omega)
  | (go_at_call 98;go_must (refine(hE'.out _ (fun b=>b<w.heap.size) _ _ _ _ _ ((HX.out.imp fun b hl _=>hl).kept (K0'.trans (by assumption)) (fun b hb=>by omega))).mono ?_);rintro e w3 ⟨k1,t1,i1,l1,m1,d1,rfl,R1,hk⟩;have K3:=hk;have R1':=R1.imp (D':=fun b=>w.heap.size+1<b) (fun b _ hb=>by have:=kk.size;omega);have kk:=kk.trans hk;have hS:Kept (fun b=>b=w.heap.size+1) W0 w3:=kk.mono fun _ _ f=>f.elim)
  | (go_at_call 21;go_must (refine(none_any _).mono ?_);rintro e w2 ⟨rfl,hk⟩;have kk:=kk.trans hk;have hS:Kept (fun b=>b=w.heap.size+1) W0 w2:=kk.mono fun _ _ f=>f.elim))
 go_wp2_with fail
 refine bodyPost_ret (v:=.agg #[.string kRange,.string sE,.int .i64 0,.slice (some ⟨w5.heap.size,0,none⟩) 4 4]) (by simp[results,Tryz.results58,go_sem,kRange,sE,r0,r1,r2,r3,z9,z8];done) rfl ?_
 rw[show(T.s 5 nn op lb (.x xk xn xop kids xb) body els has chain cases).N 0=.part kRange (.four .none .none ((T.x xk xn xop kids xb).N 0) (.block (body.N 0))) by simp[T.N]]
 have kF:∀ {u0 u1 u2 u3:Value} {ob:Obj},Kept (fun b=>b=w.heap.size+1) w5 (((((w5.setCell ⟨w.heap.size+1,0,none⟩ u0).setCell ⟨w.heap.size+1,1,none⟩ u1).setCell ⟨w.heap.size+1,2,none⟩ u2).setCell ⟨w.heap.size+1,3,none⟩ u3).alloc ob):=(Kept.set4 (M:=fun b=>b=w.heap.size+1) rfl).trans keptA
 refine⟨kRange,sE,0,_,4,4,rfl,⟨_,rfl,_,rfl,_,rfl,_,_,rfl,rep_four (xs:=[_,_,_,_]) (ys:=[_,_,_,_]) (zs:=[_,_,_,_]) (us:=[_,_,_,_]) (heap_new_at (by simp) _) (by omega) (rep_none _ _) (rep_none _ _) ((R1'.kept kF (fun b hb=>by omega)).imp fun b _ hb=>by omega) ((R2'.kept kF (fun b hb=>by omega)).imp fun b _ hb=>by omega),rfl⟩,?_⟩
 exact(((K0.trans kk).mono (M':=fun b=>False∨w.heap.size≤b) fun _ _ f=>f.elim).trans (kF.mono fun b _ h=>.inr (by omega))).fresh (Nat.le_refl _)
end Go.Proofs.YtleolbpibjnedaaGreat
