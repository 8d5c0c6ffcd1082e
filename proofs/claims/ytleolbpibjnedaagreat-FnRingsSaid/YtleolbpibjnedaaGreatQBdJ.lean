/- builder.made, kind by kind. -/
import Derived.Test.YtleolbpibjnedaaGreatQBdC
import Derived.Deep.RegionHeld3
set_option linter.unusedSimpArgs false
set_option linter.unusedVariables false
set_option maxRecDepth 100000
set_option maxHeartbeats 4000000
namespace Go.Proofs.YtleolbpibjnedaaGreat
open Go Go.RowKit Gc
theorem made_range(tx0:Str)(x0 x1 x2 x3:N)(k2:K)(hk2:k2.real)(n0:x0.isN)(n1:x1.isN)(n2:x2.isN)(n3:x3.isN)(h0:CallB 75 (Gc.N.four x0 x1 x2 x3) 0 .none 1)(h1:CallB 75 (Gc.N.four x0 x1 x2 x3) 1 .none 1)(h2:CallB 71 (Gc.N.four x0 x1 x2 x3) 2 k2 1)(h3:CallB 77 (Gc.N.four x0 x1 x2 x3) 3 .block 0):MadeB (.n (K.str .range) tx0 0 (Gc.N.four x0 x1 x2 x3)) .range:=by
 intro kd tx i kids hn w D bb mb left depth f a c c' hR hD hB hcost hdeep
 cases hn
 have hc:=kid_slice (kids:=(Gc.N.four x0 x1 x2 x3)) trivial hR
 obtain rfl:c=4:=hc
 rw[cost_real (k:=.range) trivial]at hcost ⊢
 rw[deep_real (k:=.range) trivial]at hdeep
 simp only[Gc.N.four,N.cost,N.deep]at hcost hdeep ⊢
 have l0:=hB.l0
 have l1:=hB.l1
 have d0:=hB.d0
 have d1:=hB.d1
 have zb:bb<w.heap.size:=lt_of_heap hB.obj
 have zm:mb<w.heap.size:=by obtain⟨_,_,e,_⟩:=hB.map;exact lt_of_heap e
 have H0:=Lib.hid h0
 have H1:=Lib.hid h1
 have H2:=Lib.hid h2
 have H3:=Lib.hid h3
 have HR:=Lib.hid hR
 have HD:=Lib.hid hD
 have HB:=Lib.hid hB
 clear h0 h1 h2 h3 hR hD hB
 show Calls Tryz.prog 54 #[.pointer (some ⟨bb,0,none⟩),.agg #[.string ⟨#[82,97,110,103,101,83,116,109,116]⟩,.string tx0,.int .i64 0,.slice a 4 c']] w _
 go_enter Tryz.func54,Tryz.ntmps54
 go_wp2_with fail
 refine(kids_any _ _ _ _ _ _ _ _ _ rfl).mono ?_
 rintro e W1 ⟨rfl,hk1⟩
 have ox:=hk1.obj (heap_alloc_new w (.cells #[.string ⟨#[82,97,110,103,101,83,116,109,116]⟩,.string tx0,.int .i64 0,.slice a 4 c'] 30)) (fun f=>f)
 have K0:Kept (fun _=>False) w W1:=keptA.trans hk1
 obtain⟨x0',x1',x2',x3',-⟩:=slot4 ox
 have zx:w.heap.size<W1.heap.size:=lt_of_heap ox
 clear hk1
 go_upto_region 133 with fail
 have KW:Kept (fun _=>False) w W1.drew:=K0.trans keptD
 have B:Bld W1.drew bb mb left depth f:=HB.out.kept KW (fun f=>f) (fun f=>f)
 have kk:Kept (Two bb mb) W1.drew W1.drew:=Kept.refl _ _
 have HRW:Rep W1.drew (fun b=>b<w.heap.size∧¬ Two bb mb b) (Gc.N.four x0 x1 x2 x3).g [.slice a 4 c']:=(HR.out.imp (D':=fun b=>b<w.heap.size∧¬ Two bb mb b) fun b hlt hb=>⟨hlt,HD.out b hb⟩).kept KW (fun _ _ f=>f)
 have HRW':=Lib.hid HRW
 clear HRW
 have hnb:∀ i,¬ Two bb mb (⟨w.heap.size,i,none⟩:Addr).block:=fun i h=>by simp only[Two]at h;omega
 have rule:∀ wx:World,Kept (Two bb mb) W1.drew wx→wx.cell? ⟨w.heap.size,0,none⟩=some (.string ⟨#[82,97,110,103,101,83,116,109,116]⟩)∧wx.cell? ⟨w.heap.size,1,none⟩=some (.string tx0)∧wx.cell? ⟨w.heap.size,2,none⟩=some (.int .i64 0)∧wx.cell? ⟨w.heap.size,3,none⟩=some (.slice a 4 c'):=fun wx hk =>
  ⟨hk.cell (keptD (M:=fun _=>False) |>.cell x0' (fun f=>f)) (hnb _),hk.cell (keptD (M:=fun _=>False) |>.cell x1' (fun f=>f)) (hnb _),hk.cell (keptD (M:=fun _=>False) |>.cell x2' (fun f=>f)) (hnb _),hk.cell (keptD (M:=fun _=>False) |>.cell x3' (fun f=>f)) (hnb _)⟩
 go_region_held3 (fun wx=>Kept (Two bb mb) W1.drew wx) (first | assumption | exact Kept.refl _ _ | exact keptD | exact Kept.trans (by assumption) keptA | exact Kept.trans (by assumption) keptD) (first
  | (have _h:=HN2;go_at_call 77;go_must (refine(H3.out _ (fun b=>b<w.heap.size∧¬ Two bb mb b) bb mb (left-x0.cost-x1.cost-x2.cost) depth f2 _ _ _ _ _ _ (HRW'.out.kept kk (fun b hb=>hb.2)) (fun b hb=>hb.2) B ?c1 ?c2 _ rfl).mono ?_);(case c1=>(show(x3.cost:Int)≤left-x0.cost-x1.cost-x2.cost;omega));(case c2=>(show depth+(x3.deep:Int)≤60;omega));rintro e w3 ⟨y3,v3,f3,rfl,N3,M3,R3,B,E3,O3,L3,Q3⟩;have B:Bld w3 bb mb (left-x0.cost-x1.cost-x2.cost-x3.cost) depth f3:=B;have kk:=kk.trans Q3;have hS:Kept (Two bb mb) W1.drew w3:=kk;have N3:y3.N=x3:=N3;have i3:=isn_of_N (by rw[N3];exact n3);obtain⟨b3,rfl,-⟩:=ptr_of M3 trivial R3;have HN3:=Lib.hid N3;have HM3:=Lib.hid M3;have HR3:=Lib.hid R3;have HE3:=Lib.hid E3;have HO3:=Lib.hid O3;clear N3 M3 R3 E3 O3)
  | (have _h:=HN1;go_at_call 71;go_must (refine(H2.out _ (fun b=>b<w.heap.size∧¬ Two bb mb b) bb mb (left-x0.cost-x1.cost) depth f1 _ _ _ _ _ _ (HRW'.out.kept kk (fun b hb=>hb.2)) (fun b hb=>hb.2) B ?c1 ?c2 _ rfl).mono ?_);(case c1=>(show(x2.cost:Int)≤left-x0.cost-x1.cost;omega));(case c2=>(show depth+(x2.deep:Int)≤60;omega));rintro e w2 ⟨y2,v2,f2,rfl,N2,M2,R2,B,E2,O2,L2,Q2⟩;have B:Bld w2 bb mb (left-x0.cost-x1.cost-x2.cost) depth f2:=B;have kk:=kk.trans Q2;have hS:Kept (Two bb mb) W1.drew w2:=kk;have N2:y2.N=x2:=N2;have i2:=isn_of_N (by rw[N2];exact n2);obtain⟨b2,rfl,-⟩:=iface_of M2 hk2 R2;have HN2:=Lib.hid N2;have HM2:=Lib.hid M2;have HR2:=Lib.hid R2;have HE2:=Lib.hid E2;have HO2:=Lib.hid O2;clear N2 M2 R2 E2 O2)
  | (have _h:=HN0;go_at_call 75;go_must (refine(H1.out _ (fun b=>b<w.heap.size∧¬ Two bb mb b) bb mb (left-x0.cost) depth f0 _ _ _ _ _ _ (HRW'.out.kept kk (fun b hb=>hb.2)) (fun b hb=>hb.2) B ?c1 ?c2 _ rfl).mono ?_);(case c1=>(show(x1.cost:Int)≤left-x0.cost;omega));(case c2=>(show depth+(x1.deep:Int)≤60;omega));rintro e w1 ⟨y1,v1,f1,rfl,N1,M1,R1,B,E1,O1,L1,Q1⟩;have B:Bld w1 bb mb (left-x0.cost-x1.cost) depth f1:=B;have kk:=kk.trans Q1;have hS:Kept (Two bb mb) W1.drew w1:=kk;have N1:y1.N=x1:=N1;have i1:=isn_of_N (by rw[N1];exact n1);obtain rfl:=none_of1 i1 M1 R1;have HN1:=Lib.hid N1;have HM1:=Lib.hid M1;have HR1:=Lib.hid R1;have HE1:=Lib.hid E1;have HO1:=Lib.hid O1;clear N1 M1 R1 E1 O1)
  | (go_at_call 75;go_must (refine(H0.out _ (fun b=>b<w.heap.size∧¬ Two bb mb b) bb mb (left) depth f _ _ _ _ _ _ (HRW'.out.kept kk (fun b hb=>hb.2)) (fun b hb=>hb.2) B ?c1 ?c2 _ rfl).mono ?_);(case c1=>(show(x0.cost:Int)≤left;omega));(case c2=>(show depth+(x0.deep:Int)≤60;omega));rintro e w0 ⟨y0,v0,f0,rfl,N0,M0,R0,B,E0,O0,L0,Q0⟩;have B:Bld w0 bb mb (left-x0.cost) depth f0:=B;have kk:=kk.trans Q0;have hS:Kept (Two bb mb) W1.drew w0:=kk;have N0:y0.N=x0:=N0;have i0:=isn_of_N (by rw[N0];exact n0);obtain rfl:=none_of1 i0 M0 R0;have HN0:=Lib.hid N0;have HM0:=Lib.hid M0;have HR0:=Lib.hid R0;have HE0:=Lib.hid E0;have HO0:=Lib.hid O0;clear N0 M0 R0 E0 O0)
  | (go_at_call 80;go_must (refine(zz_any _ _).mono ?_);rintro e wt ⟨rfl,rfl⟩))
 go_wp2_with fail
 go_ret
 have B:=B
 have kl:Kept (Two bb mb) W1.drew w3:=kk
 have s0':=Q0.size
 have s1':=Q1.size
 have s2':=Q2.size
 have s3':=Q3.size
 have sW:=KW.size
 have sD:W1.drew.heap.size=W1.heap.size:=rfl
 have kA:Kept (fun _=>False) w3 (w3.alloc (.cells #[.nilIface,.nilIface,.int .i64 (tokOf tx0),.iface k2.pty (.pointer (some ⟨b2,0,none⟩)),.pointer (some ⟨b3,0,none⟩)] (K.ty .range))):=keptA
 have RR0:=HR0.out.imp (D':=fun b=>w.heap.size≤b) (fun b _ hb=>by omega)
 have RR0:=RR0.kept Q1 (fun b hb h=>by rcases h with h | h<;>omega)
 have RR0:=RR0.kept Q2 (fun b hb h=>by rcases h with h | h<;>omega)
 have RR0:=RR0.kept Q3 (fun b hb h=>by rcases h with h | h<;>omega)
 have RR0:=RR0.kept kA (fun _ _ f=>f)
 have RR1:=HR1.out.imp (D':=fun b=>w.heap.size≤b) (fun b _ hb=>by omega)
 have RR1:=RR1.kept Q2 (fun b hb h=>by rcases h with h | h<;>omega)
 have RR1:=RR1.kept Q3 (fun b hb h=>by rcases h with h | h<;>omega)
 have RR1:=RR1.kept kA (fun _ _ f=>f)
 have RR2:=HR2.out.imp (D':=fun b=>w.heap.size≤b) (fun b _ hb=>by omega)
 have RR2:=RR2.kept Q3 (fun b hb h=>by rcases h with h | h<;>omega)
 have RR2:=RR2.kept kA (fun _ _ f=>f)
 have RR3:=HR3.out.imp (D':=fun b=>w.heap.size≤b) (fun b _ hb=>by omega)
 have RR3:=RR3.kept kA (fun _ _ f=>f)
 have OO0:=A.objs_ext HE3.out _ (A.objs_ext HE2.out _ (A.objs_ext HE1.out _ (HO0.out)))
 have OO1:=A.objs_ext HE3.out _ (A.objs_ext HE2.out _ (HO1.out))
 have OO2:=A.objs_ext HE3.out _ (HO2.out)
 have OO3:=HO3.out
 have LL:LIn (y0.blocks++(y1.blocks++(y2.blocks++(y3.blocks)))) w.heap.size w3.heap.size:=(LIn.append (LIn.mono L0 (by omega) (Nat.le_refl _):LIn _ w.heap.size w0.heap.size) (LIn.append (LIn.mono L1 (by omega) (Nat.le_refl _):LIn _ w0.heap.size w1.heap.size) (LIn.append (LIn.mono L2 (by omega) (Nat.le_refl _):LIn _ w1.heap.size w2.heap.size) (LIn.mono L3 (by omega) (by omega):LIn _ w2.heap.size w3.heap.size) (Nat.le_refl _) (by omega) (by omega)) (Nat.le_refl _) (by omega) (by omega)) (Nat.le_refl _) (by omega) (by omega))
 have sA:=kA.size
 simp only[World.size_alloc]at sA
 refine⟨.n .range tx0 0 none w3.heap.size y0 y1 y2 y3,_,f3,rfl,?_,rfl,?_,?_,(((HE0.out).trans HE1.out).trans HE2.out).trans HE3.out,?_,?_,?_⟩
 · show Gc.N.n (K.str .range) tx0 0 (Gc.N.four y0.N y1.N y2.N y3.N)=_
   rw[HN0.out,HN1.out,HN2.out,HN3.out]
   try rfl
 · exact shut_range (m:=1) i0 i1 i2 i3 (by omega) (heap_alloc_new _ _) RR0 RR1 RR2 RR3
 · have e:left+1-((1+(x0.cost+(x1.cost+(x2.cost+(x3.cost+0)))):Nat):Int)=left-x0.cost-x1.cost-x2.cost-x3.cost:=by omega
   rw[e]
   exact B.kept kA (fun f=>f) (fun f=>f)
 · exact⟨trivial,trivial,OO0,OO1,OO2,OO3⟩
 · have e:(A.n .range tx0 0 none w3.heap.size y0 y1 y2 y3).blocks=[w3.heap.size]++(y0.blocks++(y1.blocks++(y2.blocks++(y3.blocks)))):=by simp[A.blocks]
   rw[e]
   exact(LIn.append LL (LIn.one (Nat.le_refl _) (Nat.lt_succ_self _):LIn [w3.heap.size] w3.heap.size (w3.heap.size+1)) (Nat.le_refl _) (by omega) (by omega)).swap |> fun h=>⟨h.1,fun b hb=>by have:=h.2 b hb;simp only[World.size_alloc];omega⟩
 · exact((KW.mono (M':=Two bb mb) fun _ _ f=>f.elim).trans kl).trans (kA.mono fun _ _ f=>f.elim)
theorem made_func(tx0:Str)(x0 x1 x2 x3:N)(n0:x0.isN)(n1:x1.isN)(n2:x2.isN)(n3:x3.isN)(h0:CallB 82 (Gc.N.four x0 x1 x2 x3) 0 .none 0)(h1:CallB 79 (Gc.N.four x0 x1 x2 x3) 1 .ident 0)(h2:CallB 76 (Gc.N.four x0 x1 x2 x3) 2 .ftype 0)(h3:CallB 90 (Gc.N.four x0 x1 x2 x3) 3 .block 0):MadeB (.n (K.str .func) tx0 0 (Gc.N.four x0 x1 x2 x3)) .func:=by
 intro kd tx i kids hn w D bb mb left depth f a c c' hR hD hB hcost hdeep
 cases hn
 have hc:=kid_slice (kids:=(Gc.N.four x0 x1 x2 x3)) trivial hR
 obtain rfl:c=4:=hc
 rw[cost_real (k:=.func) trivial]at hcost ⊢
 rw[deep_real (k:=.func) trivial]at hdeep
 simp only[Gc.N.four,N.cost,N.deep]at hcost hdeep ⊢
 have l0:=hB.l0
 have l1:=hB.l1
 have d0:=hB.d0
 have d1:=hB.d1
 have zb:bb<w.heap.size:=lt_of_heap hB.obj
 have zm:mb<w.heap.size:=by obtain⟨_,_,e,_⟩:=hB.map;exact lt_of_heap e
 have H0:=Lib.hid h0
 have H1:=Lib.hid h1
 have H2:=Lib.hid h2
 have H3:=Lib.hid h3
 have HR:=Lib.hid hR
 have HD:=Lib.hid hD
 have HB:=Lib.hid hB
 clear h0 h1 h2 h3 hR hD hB
 show Calls Tryz.prog 54 #[.pointer (some ⟨bb,0,none⟩),.agg #[.string ⟨#[70,117,110,99,68,101,99,108]⟩,.string tx0,.int .i64 0,.slice a 4 c']] w _
 go_enter Tryz.func54,Tryz.ntmps54
 go_wp2_with fail
 refine(kids_any _ _ _ _ _ _ _ _ _ rfl).mono ?_
 rintro e W1 ⟨rfl,hk1⟩
 have ox:=hk1.obj (heap_alloc_new w (.cells #[.string ⟨#[70,117,110,99,68,101,99,108]⟩,.string tx0,.int .i64 0,.slice a 4 c'] 30)) (fun f=>f)
 have K0:Kept (fun _=>False) w W1:=keptA.trans hk1
 obtain⟨x0',x1',x2',x3',-⟩:=slot4 ox
 have zx:w.heap.size<W1.heap.size:=lt_of_heap ox
 clear hk1
 go_upto_region 148 with fail
 have KW:Kept (fun _=>False) w W1.drew:=K0.trans keptD
 have B:Bld W1.drew bb mb left depth f:=HB.out.kept KW (fun f=>f) (fun f=>f)
 have kk:Kept (Two bb mb) W1.drew W1.drew:=Kept.refl _ _
 have HRW:Rep W1.drew (fun b=>b<w.heap.size∧¬ Two bb mb b) (Gc.N.four x0 x1 x2 x3).g [.slice a 4 c']:=(HR.out.imp (D':=fun b=>b<w.heap.size∧¬ Two bb mb b) fun b hlt hb=>⟨hlt,HD.out b hb⟩).kept KW (fun _ _ f=>f)
 have HRW':=Lib.hid HRW
 clear HRW
 have hnb:∀ i,¬ Two bb mb (⟨w.heap.size,i,none⟩:Addr).block:=fun i h=>by simp only[Two]at h;omega
 have rule:∀ wx:World,Kept (Two bb mb) W1.drew wx→wx.cell? ⟨w.heap.size,0,none⟩=some (.string ⟨#[70,117,110,99,68,101,99,108]⟩)∧wx.cell? ⟨w.heap.size,1,none⟩=some (.string tx0)∧wx.cell? ⟨w.heap.size,2,none⟩=some (.int .i64 0)∧wx.cell? ⟨w.heap.size,3,none⟩=some (.slice a 4 c'):=fun wx hk =>
  ⟨hk.cell (keptD (M:=fun _=>False) |>.cell x0' (fun f=>f)) (hnb _),hk.cell (keptD (M:=fun _=>False) |>.cell x1' (fun f=>f)) (hnb _),hk.cell (keptD (M:=fun _=>False) |>.cell x2' (fun f=>f)) (hnb _),hk.cell (keptD (M:=fun _=>False) |>.cell x3' (fun f=>f)) (hnb _)⟩
 go_region_held3 (fun wx=>Kept (Two bb mb) W1.drew wx) (first | assumption | exact Kept.refl _ _ | exact keptD | exact Kept.trans (by assumption) keptA | exact Kept.trans (by assumption) keptD) (first
  | (have _h:=HN2;go_at_call 90;go_must (refine(H3.out _ (fun b=>b<w.heap.size∧¬ Two bb mb b) bb mb (left-x0.cost-x1.cost-x2.cost) depth f2 _ _ _ _ _ _ (HRW'.out.kept kk (fun b hb=>hb.2)) (fun b hb=>hb.2) B ?c1 ?c2 _ rfl).mono ?_);(case c1=>(show(x3.cost:Int)≤left-x0.cost-x1.cost-x2.cost;omega));(case c2=>(show depth+(x3.deep:Int)≤60;omega));rintro e w3 ⟨y3,v3,f3,rfl,N3,M3,R3,B,E3,O3,L3,Q3⟩;have B:Bld w3 bb mb (left-x0.cost-x1.cost-x2.cost-x3.cost) depth f3:=B;have kk:=kk.trans Q3;have hS:Kept (Two bb mb) W1.drew w3:=kk;have N3:y3.N=x3:=N3;have i3:=isn_of_N (by rw[N3];exact n3);obtain⟨b3,rfl,-⟩:=ptr_of M3 trivial R3;have HN3:=Lib.hid N3;have HM3:=Lib.hid M3;have HR3:=Lib.hid R3;have HE3:=Lib.hid E3;have HO3:=Lib.hid O3;clear N3 M3 R3 E3 O3)
  | (have _h:=HN1;go_at_call 76;go_must (refine(H2.out _ (fun b=>b<w.heap.size∧¬ Two bb mb b) bb mb (left-x0.cost-x1.cost) depth f1 _ _ _ _ _ _ (HRW'.out.kept kk (fun b hb=>hb.2)) (fun b hb=>hb.2) B ?c1 ?c2 _ rfl).mono ?_);(case c1=>(show(x2.cost:Int)≤left-x0.cost-x1.cost;omega));(case c2=>(show depth+(x2.deep:Int)≤60;omega));rintro e w2 ⟨y2,v2,f2,rfl,N2,M2,R2,B,E2,O2,L2,Q2⟩;have B:Bld w2 bb mb (left-x0.cost-x1.cost-x2.cost) depth f2:=B;have kk:=kk.trans Q2;have hS:Kept (Two bb mb) W1.drew w2:=kk;have N2:y2.N=x2:=N2;have i2:=isn_of_N (by rw[N2];exact n2);obtain⟨b2,rfl,-⟩:=ptr_of M2 trivial R2;have HN2:=Lib.hid N2;have HM2:=Lib.hid M2;have HR2:=Lib.hid R2;have HE2:=Lib.hid E2;have HO2:=Lib.hid O2;clear N2 M2 R2 E2 O2)
  | (have _h:=HN0;go_at_call 79;go_must (refine(H1.out _ (fun b=>b<w.heap.size∧¬ Two bb mb b) bb mb (left-x0.cost) depth f0 _ _ _ _ _ _ (HRW'.out.kept kk (fun b hb=>hb.2)) (fun b hb=>hb.2) B ?c1 ?c2 _ rfl).mono ?_);(case c1=>(show(x1.cost:Int)≤left-x0.cost;omega));(case c2=>(show depth+(x1.deep:Int)≤60;omega));rintro e w1 ⟨y1,v1,f1,rfl,N1,M1,R1,B,E1,O1,L1,Q1⟩;have B:Bld w1 bb mb (left-x0.cost-x1.cost) depth f1:=B;have kk:=kk.trans Q1;have hS:Kept (Two bb mb) W1.drew w1:=kk;have N1:y1.N=x1:=N1;have i1:=isn_of_N (by rw[N1];exact n1);obtain⟨b1,rfl,-⟩:=ptr_of M1 trivial R1;have HN1:=Lib.hid N1;have HM1:=Lib.hid M1;have HR1:=Lib.hid R1;have HE1:=Lib.hid E1;have HO1:=Lib.hid O1;clear N1 M1 R1 E1 O1)
  | (go_at_call 82;go_must (refine(H0.out _ (fun b=>b<w.heap.size∧¬ Two bb mb b) bb mb (left) depth f _ _ _ _ _ _ (HRW'.out.kept kk (fun b hb=>hb.2)) (fun b hb=>hb.2) B ?c1 ?c2 _ rfl).mono ?_);(case c1=>(show(x0.cost:Int)≤left;omega));(case c2=>(show depth+(x0.deep:Int)≤60;omega));rintro e w0 ⟨y0,v0,f0,rfl,N0,M0,R0,B,E0,O0,L0,Q0⟩;have B:Bld w0 bb mb (left-x0.cost) depth f0:=B;have kk:=kk.trans Q0;have hS:Kept (Two bb mb) W1.drew w0:=kk;have N0:y0.N=x0:=N0;have i0:=isn_of_N (by rw[N0];exact n0);obtain rfl:=none_of0 i0 M0 R0;have HN0:=Lib.hid N0;have HM0:=Lib.hid M0;have HR0:=Lib.hid R0;have HE0:=Lib.hid E0;have HO0:=Lib.hid O0;clear N0 M0 R0 E0 O0))
 go_wp2_with fail
 go_ret
 have B:=B
 have kl:Kept (Two bb mb) W1.drew w3:=kk
 have s0':=Q0.size
 have s1':=Q1.size
 have s2':=Q2.size
 have s3':=Q3.size
 have sW:=KW.size
 have sD:W1.drew.heap.size=W1.heap.size:=rfl
 have kA:Kept (fun _=>False) w3 (w3.alloc (.cells #[.pointer none,.pointer (some ⟨b1,0,none⟩),.pointer (some ⟨b2,0,none⟩),.pointer (some ⟨b3,0,none⟩)] (K.ty .func))):=keptA
 have RR0:=HR0.out.imp (D':=fun b=>w.heap.size≤b) (fun b _ hb=>by omega)
 have RR0:=RR0.kept Q1 (fun b hb h=>by rcases h with h | h<;>omega)
 have RR0:=RR0.kept Q2 (fun b hb h=>by rcases h with h | h<;>omega)
 have RR0:=RR0.kept Q3 (fun b hb h=>by rcases h with h | h<;>omega)
 have RR0:=RR0.kept kA (fun _ _ f=>f)
 have RR1:=HR1.out.imp (D':=fun b=>w.heap.size≤b) (fun b _ hb=>by omega)
 have RR1:=RR1.kept Q2 (fun b hb h=>by rcases h with h | h<;>omega)
 have RR1:=RR1.kept Q3 (fun b hb h=>by rcases h with h | h<;>omega)
 have RR1:=RR1.kept kA (fun _ _ f=>f)
 have RR2:=HR2.out.imp (D':=fun b=>w.heap.size≤b) (fun b _ hb=>by omega)
 have RR2:=RR2.kept Q3 (fun b hb h=>by rcases h with h | h<;>omega)
 have RR2:=RR2.kept kA (fun _ _ f=>f)
 have RR3:=HR3.out.imp (D':=fun b=>w.heap.size≤b) (fun b _ hb=>by omega)
 have RR3:=RR3.kept kA (fun _ _ f=>f)
 have OO0:=A.objs_ext HE3.out _ (A.objs_ext HE2.out _ (A.objs_ext HE1.out _ (HO0.out)))
 have OO1:=A.objs_ext HE3.out _ (A.objs_ext HE2.out _ (HO1.out))
 have OO2:=A.objs_ext HE3.out _ (HO2.out)
 have OO3:=HO3.out
 have LL:LIn (y0.blocks++(y1.blocks++(y2.blocks++(y3.blocks)))) w.heap.size w3.heap.size:=(LIn.append (LIn.mono L0 (by omega) (Nat.le_refl _):LIn _ w.heap.size w0.heap.size) (LIn.append (LIn.mono L1 (by omega) (Nat.le_refl _):LIn _ w0.heap.size w1.heap.size) (LIn.append (LIn.mono L2 (by omega) (Nat.le_refl _):LIn _ w1.heap.size w2.heap.size) (LIn.mono L3 (by omega) (by omega):LIn _ w2.heap.size w3.heap.size) (Nat.le_refl _) (by omega) (by omega)) (Nat.le_refl _) (by omega) (by omega)) (Nat.le_refl _) (by omega) (by omega))
 have sA:=kA.size
 simp only[World.size_alloc]at sA
 refine⟨.n .func tx0 0 none w3.heap.size y0 y1 y2 y3,_,f3,rfl,?_,rfl,?_,?_,(((HE0.out).trans HE1.out).trans HE2.out).trans HE3.out,?_,?_,?_⟩
 · show Gc.N.n (K.str .func) tx0 0 (Gc.N.four y0.N y1.N y2.N y3.N)=_
   rw[HN0.out,HN1.out,HN2.out,HN3.out]
   try rfl
 · exact shut_func (m:=1) i0 i1 i2 i3 (by omega) (heap_alloc_new _ _) RR0 RR1 RR2 RR3
 · have e:left+1-((1+(x0.cost+(x1.cost+(x2.cost+(x3.cost+0)))):Nat):Int)=left-x0.cost-x1.cost-x2.cost-x3.cost:=by omega
   rw[e]
   exact B.kept kA (fun f=>f) (fun f=>f)
 · exact⟨trivial,trivial,OO0,OO1,OO2,OO3⟩
 · have e:(A.n .func tx0 0 none w3.heap.size y0 y1 y2 y3).blocks=[w3.heap.size]++(y0.blocks++(y1.blocks++(y2.blocks++(y3.blocks)))):=by simp[A.blocks]
   rw[e]
   exact(LIn.append LL (LIn.one (Nat.le_refl _) (Nat.lt_succ_self _):LIn [w3.heap.size] w3.heap.size (w3.heap.size+1)) (Nat.le_refl _) (by omega) (by omega)).swap |> fun h=>⟨h.1,fun b hb=>by have:=h.2 b hb;simp only[World.size_alloc];omega⟩
 · exact((KW.mono (M':=Two bb mb) fun _ _ f=>f.elim).trans kl).trans (kA.mono fun _ _ f=>f.elim)
end Go.Proofs.YtleolbpibjnedaaGreat
