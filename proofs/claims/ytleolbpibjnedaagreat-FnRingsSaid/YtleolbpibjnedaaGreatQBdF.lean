/- builder.made, kind by kind. -/
import Derived.Test.YtleolbpibjnedaaGreatQBdC
import Derived.Deep.RegionHeld3
set_option linter.unusedSimpArgs false
set_option linter.unusedVariables false
set_option maxRecDepth 100000
set_option maxHeartbeats 4000000
namespace Go.Proofs.YtleolbpibjnedaaGreat
open Go Go.RowKit Gc
theorem made_flit(tx0:Str)(x0 x1:N)(n0:x0.isN)(n1:x1.isN)(h0:CallB 76 (Gc.N.two x0 x1) 0 .ftype 0)(h1:CallB 77 (Gc.N.two x0 x1) 1 .block 0):MadeB (.n (K.str .flit) tx0 0 (Gc.N.two x0 x1)) .flit:=by
 intro kd tx i kids hn w D bb mb left depth f a c c' hR hD hB hcost hdeep
 cases hn
 have hc:=kid_slice (kids:=(Gc.N.two x0 x1)) trivial hR
 obtain rfl:c=2:=hc
 rw[cost_real (k:=.flit) trivial]at hcost ⊢
 rw[deep_real (k:=.flit) trivial]at hdeep
 simp only[Gc.N.two,N.cost,N.deep]at hcost hdeep ⊢
 have l0:=hB.l0
 have l1:=hB.l1
 have d0:=hB.d0
 have d1:=hB.d1
 have zb:bb<w.heap.size:=lt_of_heap hB.obj
 have zm:mb<w.heap.size:=by obtain⟨_,_,e,_⟩:=hB.map;exact lt_of_heap e
 have H0:=Lib.hid h0
 have H1:=Lib.hid h1
 have HR:=Lib.hid hR
 have HD:=Lib.hid hD
 have HB:=Lib.hid hB
 clear h0 h1 hR hD hB
 show Calls Tryz.prog 54 #[.pointer (some ⟨bb,0,none⟩),.agg #[.string ⟨#[70,117,110,99,76,105,116]⟩,.string tx0,.int .i64 0,.slice a 2 c']] w _
 go_enter Tryz.func54,Tryz.ntmps54
 go_wp2_with fail
 refine(kids_any _ _ _ _ _ _ _ _ _ rfl).mono ?_
 rintro e W1 ⟨rfl,hk1⟩
 have ox:=hk1.obj (heap_alloc_new w (.cells #[.string ⟨#[70,117,110,99,76,105,116]⟩,.string tx0,.int .i64 0,.slice a 2 c'] 30)) (fun f=>f)
 have K0:Kept (fun _=>False) w W1:=keptA.trans hk1
 obtain⟨x0',x1',x2',x3',-⟩:=slot4 ox
 have zx:w.heap.size<W1.heap.size:=lt_of_heap ox
 clear hk1
 go_upto_region 19 with fail
 have KW:Kept (fun _=>False) w W1.drew:=K0.trans keptD
 have B:Bld W1.drew bb mb left depth f:=HB.out.kept KW (fun f=>f) (fun f=>f)
 have kk:Kept (Two bb mb) W1.drew W1.drew:=Kept.refl _ _
 have HRW:Rep W1.drew (fun b=>b<w.heap.size∧¬ Two bb mb b) (Gc.N.two x0 x1).g [.slice a 2 c']:=(HR.out.imp (D':=fun b=>b<w.heap.size∧¬ Two bb mb b) fun b hlt hb=>⟨hlt,HD.out b hb⟩).kept KW (fun _ _ f=>f)
 have HRW':=Lib.hid HRW
 clear HRW
 have hnb:∀ i,¬ Two bb mb (⟨w.heap.size,i,none⟩:Addr).block:=fun i h=>by simp only[Two]at h;omega
 have rule:∀ wx:World,Kept (Two bb mb) W1.drew wx→wx.cell? ⟨w.heap.size,0,none⟩=some (.string ⟨#[70,117,110,99,76,105,116]⟩)∧wx.cell? ⟨w.heap.size,1,none⟩=some (.string tx0)∧wx.cell? ⟨w.heap.size,2,none⟩=some (.int .i64 0)∧wx.cell? ⟨w.heap.size,3,none⟩=some (.slice a 2 c'):=fun wx hk =>
  ⟨hk.cell (keptD (M:=fun _=>False) |>.cell x0' (fun f=>f)) (hnb _),hk.cell (keptD (M:=fun _=>False) |>.cell x1' (fun f=>f)) (hnb _),hk.cell (keptD (M:=fun _=>False) |>.cell x2' (fun f=>f)) (hnb _),hk.cell (keptD (M:=fun _=>False) |>.cell x3' (fun f=>f)) (hnb _)⟩
 go_region_held3 (fun wx=>Kept (Two bb mb) W1.drew wx) (first | assumption | exact Kept.refl _ _ | exact keptD | exact Kept.trans (by assumption) keptA | exact Kept.trans (by assumption) keptD) (first
  | (have _h:=HN0;go_at_call 77;go_must (refine(H1.out _ (fun b=>b<w.heap.size∧¬ Two bb mb b) bb mb (left-x0.cost) depth f0 _ _ _ _ _ _ (HRW'.out.kept kk (fun b hb=>hb.2)) (fun b hb=>hb.2) B ?c1 ?c2 _ rfl).mono ?_);(case c1=>(show(x1.cost:Int)≤left-x0.cost;omega));(case c2=>(show depth+(x1.deep:Int)≤60;omega));rintro e w1 ⟨y1,v1,f1,rfl,N1,M1,R1,B,E1,O1,L1,Q1⟩;have B:Bld w1 bb mb (left-x0.cost-x1.cost) depth f1:=B;have kk:=kk.trans Q1;have hS:Kept (Two bb mb) W1.drew w1:=kk;have N1:y1.N=x1:=N1;have i1:=isn_of_N (by rw[N1];exact n1);obtain⟨b1,rfl,-⟩:=ptr_of M1 trivial R1;have HN1:=Lib.hid N1;have HM1:=Lib.hid M1;have HR1:=Lib.hid R1;have HE1:=Lib.hid E1;have HO1:=Lib.hid O1;clear N1 M1 R1 E1 O1)
  | (go_at_call 76;go_must (refine(H0.out _ (fun b=>b<w.heap.size∧¬ Two bb mb b) bb mb (left) depth f _ _ _ _ _ _ (HRW'.out.kept kk (fun b hb=>hb.2)) (fun b hb=>hb.2) B ?c1 ?c2 _ rfl).mono ?_);(case c1=>(show(x0.cost:Int)≤left;omega));(case c2=>(show depth+(x0.deep:Int)≤60;omega));rintro e w0 ⟨y0,v0,f0,rfl,N0,M0,R0,B,E0,O0,L0,Q0⟩;have B:Bld w0 bb mb (left-x0.cost) depth f0:=B;have kk:=kk.trans Q0;have hS:Kept (Two bb mb) W1.drew w0:=kk;have N0:y0.N=x0:=N0;have i0:=isn_of_N (by rw[N0];exact n0);obtain⟨b0,rfl,-⟩:=ptr_of M0 trivial R0;have HN0:=Lib.hid N0;have HM0:=Lib.hid M0;have HR0:=Lib.hid R0;have HE0:=Lib.hid E0;have HO0:=Lib.hid O0;clear N0 M0 R0 E0 O0))
 go_wp2_with fail
 go_ret
 have B:=B
 have kl:Kept (Two bb mb) W1.drew w1:=kk
 have s0':=Q0.size
 have s1':=Q1.size
 have sW:=KW.size
 have sD:W1.drew.heap.size=W1.heap.size:=rfl
 have kA:Kept (fun _=>False) w1 (w1.alloc (.cells #[.pointer (some ⟨b0,0,none⟩),.pointer (some ⟨b1,0,none⟩)] (K.ty .flit))):=keptA
 have RR0:=HR0.out.imp (D':=fun b=>w.heap.size≤b) (fun b _ hb=>by omega)
 have RR0:=RR0.kept Q1 (fun b hb h=>by rcases h with h | h<;>omega)
 have RR0:=RR0.kept kA (fun _ _ f=>f)
 have RR1:=HR1.out.imp (D':=fun b=>w.heap.size≤b) (fun b _ hb=>by omega)
 have RR1:=RR1.kept kA (fun _ _ f=>f)
 have OO0:=A.objs_ext HE1.out _ (HO0.out)
 have OO1:=HO1.out
 have LL:LIn (y0.blocks++(y1.blocks)) w.heap.size w1.heap.size:=(LIn.append (LIn.mono L0 (by omega) (Nat.le_refl _):LIn _ w.heap.size w0.heap.size) (LIn.mono L1 (by omega) (by omega):LIn _ w0.heap.size w1.heap.size) (Nat.le_refl _) (by omega) (by omega))
 have sA:=kA.size
 simp only[World.size_alloc]at sA
 refine⟨.n .flit tx0 0 none w1.heap.size y0 y1 .nil .nil,_,f1,rfl,?_,rfl,?_,?_,(HE0.out).trans HE1.out,?_,?_,?_⟩
 · show Gc.N.n (K.str .flit) tx0 0 (Gc.N.two y0.N y1.N)=_
   rw[HN0.out,HN1.out]
   try rfl
 · exact shut_flit (m:=1) i0 i1 (by omega) (heap_alloc_new _ _) RR0 RR1
 · have e:left+1-((1+(x0.cost+(x1.cost+0)):Nat):Int)=left-x0.cost-x1.cost:=by omega
   rw[e]
   exact B.kept kA (fun f=>f) (fun f=>f)
 · exact⟨trivial,trivial,OO0,OO1,trivial,trivial⟩
 · have e:(A.n .flit tx0 0 none w1.heap.size y0 y1 .nil .nil).blocks=[w1.heap.size]++(y0.blocks++(y1.blocks)):=by simp[A.blocks]
   rw[e]
   exact(LIn.append LL (LIn.one (Nat.le_refl _) (Nat.lt_succ_self _):LIn [w1.heap.size] w1.heap.size (w1.heap.size+1)) (Nat.le_refl _) (by omega) (by omega)).swap |> fun h=>⟨h.1,fun b hb=>by have:=h.2 b hb;simp only[World.size_alloc];omega⟩
 · exact((KW.mono (M':=Two bb mb) fun _ _ f=>f.elim).trans kl).trans (kA.mono fun _ _ f=>f.elim)
theorem made_call(tx0:Str)(x0 x1:N)(k0:K)(hk0:k0.real)(n0:x0.isN)(n1:x1.isN)(h0:CallB 71 (Gc.N.two x0 x1) 0 k0 1)(l1:N)(el1:x1=.list l1)(il1:l1.isList)(h1:CallB 78 (Gc.N.two x0 x1) 1 .list 2):MadeB (.n (K.str .call) tx0 0 (Gc.N.two x0 x1)) .call:=by
 intro kd tx i kids hn w D bb mb left depth f a c c' hR hD hB hcost hdeep
 cases hn
 have hc:=kid_slice (kids:=(Gc.N.two x0 x1)) trivial hR
 obtain rfl:c=2:=hc
 rw[cost_real (k:=.call) trivial]at hcost ⊢
 rw[deep_real (k:=.call) trivial]at hdeep
 simp only[Gc.N.two,N.cost,N.deep]at hcost hdeep ⊢
 have l0:=hB.l0
 have l1:=hB.l1
 have d0:=hB.d0
 have d1:=hB.d1
 have zb:bb<w.heap.size:=lt_of_heap hB.obj
 have zm:mb<w.heap.size:=by obtain⟨_,_,e,_⟩:=hB.map;exact lt_of_heap e
 have H0:=Lib.hid h0
 have H1:=Lib.hid h1
 have El1:=Lib.hid el1
 clear el1
 have HR:=Lib.hid hR
 have HD:=Lib.hid hD
 have HB:=Lib.hid hB
 clear h0 h1 hR hD hB
 show Calls Tryz.prog 54 #[.pointer (some ⟨bb,0,none⟩),.agg #[.string ⟨#[67,97,108,108,69,120,112,114]⟩,.string tx0,.int .i64 0,.slice a 2 c']] w _
 go_enter Tryz.func54,Tryz.ntmps54
 go_wp2_with fail
 refine(kids_any _ _ _ _ _ _ _ _ _ rfl).mono ?_
 rintro e W1 ⟨rfl,hk1⟩
 have ox:=hk1.obj (heap_alloc_new w (.cells #[.string ⟨#[67,97,108,108,69,120,112,114]⟩,.string tx0,.int .i64 0,.slice a 2 c'] 30)) (fun f=>f)
 have K0:Kept (fun _=>False) w W1:=keptA.trans hk1
 obtain⟨x0',x1',x2',x3',-⟩:=slot4 ox
 have zx:w.heap.size<W1.heap.size:=lt_of_heap ox
 clear hk1
 go_upto_region 43 with fail
 have KW:Kept (fun _=>False) w W1.drew:=K0.trans keptD
 have B:Bld W1.drew bb mb left depth f:=HB.out.kept KW (fun f=>f) (fun f=>f)
 have kk:Kept (Two bb mb) W1.drew W1.drew:=Kept.refl _ _
 have HRW:Rep W1.drew (fun b=>b<w.heap.size∧¬ Two bb mb b) (Gc.N.two x0 x1).g [.slice a 2 c']:=(HR.out.imp (D':=fun b=>b<w.heap.size∧¬ Two bb mb b) fun b hlt hb=>⟨hlt,HD.out b hb⟩).kept KW (fun _ _ f=>f)
 have HRW':=Lib.hid HRW
 clear HRW
 have hnb:∀ i,¬ Two bb mb (⟨w.heap.size,i,none⟩:Addr).block:=fun i h=>by simp only[Two]at h;omega
 have rule:∀ wx:World,Kept (Two bb mb) W1.drew wx→wx.cell? ⟨w.heap.size,0,none⟩=some (.string ⟨#[67,97,108,108,69,120,112,114]⟩)∧wx.cell? ⟨w.heap.size,1,none⟩=some (.string tx0)∧wx.cell? ⟨w.heap.size,2,none⟩=some (.int .i64 0)∧wx.cell? ⟨w.heap.size,3,none⟩=some (.slice a 2 c'):=fun wx hk =>
  ⟨hk.cell (keptD (M:=fun _=>False) |>.cell x0' (fun f=>f)) (hnb _),hk.cell (keptD (M:=fun _=>False) |>.cell x1' (fun f=>f)) (hnb _),hk.cell (keptD (M:=fun _=>False) |>.cell x2' (fun f=>f)) (hnb _),hk.cell (keptD (M:=fun _=>False) |>.cell x3' (fun f=>f)) (hnb _)⟩
 go_region_held3 (fun wx=>Kept (Two bb mb) W1.drew wx) (first | assumption | exact Kept.refl _ _ | exact keptD | exact Kept.trans (by assumption) keptA | exact Kept.trans (by assumption) keptD) (first
  | (have _h:=HN0;go_at_call 78;go_must (refine(H1.out _ (fun b=>b<w.heap.size∧¬ Two bb mb b) bb mb (left-x0.cost) depth f0 _ _ _ _ _ _ (HRW'.out.kept kk (fun b hb=>hb.2)) (fun b hb=>hb.2) B ?c1 ?c2 _ rfl).mono ?_);(case c1=>(show(x1.cost:Int)≤left-x0.cost;omega));(case c2=>(show depth+(x1.deep:Int)≤60;omega));rintro e w1 ⟨y1,v1,f1,rfl,N1,M1,R1,B,E1,O1,L1,Q1⟩;have B:Bld w1 bb mb (left-x0.cost-x1.cost) depth f1:=B;have kk:=kk.trans Q1;have hS:Kept (Two bb mb) W1.drew w1:=kk;have N1:y1.N=x1:=N1;have i1:=isn_of_N (by rw[N1];exact n1);obtain⟨g1,s1,c1,rfl⟩:=slice_of i1 (.inr M1) (fun l e=>by rw[N1]at e;have:=n1;rw[e]at this;exact this) R1 (fun _=>⟨_,by rw[N1,El1.out];rfl⟩);have HN1:=Lib.hid N1;have HM1:=Lib.hid M1;have HR1:=Lib.hid R1;have HE1:=Lib.hid E1;have HO1:=Lib.hid O1;clear N1 M1 R1 E1 O1)
  | (go_at_call 71;go_must (refine(H0.out _ (fun b=>b<w.heap.size∧¬ Two bb mb b) bb mb (left) depth f _ _ _ _ _ _ (HRW'.out.kept kk (fun b hb=>hb.2)) (fun b hb=>hb.2) B ?c1 ?c2 _ rfl).mono ?_);(case c1=>(show(x0.cost:Int)≤left;omega));(case c2=>(show depth+(x0.deep:Int)≤60;omega));rintro e w0 ⟨y0,v0,f0,rfl,N0,M0,R0,B,E0,O0,L0,Q0⟩;have B:Bld w0 bb mb (left-x0.cost) depth f0:=B;have kk:=kk.trans Q0;have hS:Kept (Two bb mb) W1.drew w0:=kk;have N0:y0.N=x0:=N0;have i0:=isn_of_N (by rw[N0];exact n0);obtain⟨b0,rfl,-⟩:=iface_of M0 hk0 R0;have HN0:=Lib.hid N0;have HM0:=Lib.hid M0;have HR0:=Lib.hid R0;have HE0:=Lib.hid E0;have HO0:=Lib.hid O0;clear N0 M0 R0 E0 O0))
 go_wp2_with fail
 go_ret
 have B:=B
 have kl:Kept (Two bb mb) W1.drew w1:=kk
 have s0':=Q0.size
 have s1':=Q1.size
 have sW:=KW.size
 have sD:W1.drew.heap.size=W1.heap.size:=rfl
 have kA:Kept (fun _=>False) w1 (w1.alloc (.cells #[.iface k0.pty (.pointer (some ⟨b0,0,none⟩)),.slice g1 s1 c1] (K.ty .call))):=keptA
 have RR0:=HR0.out.imp (D':=fun b=>w.heap.size≤b) (fun b _ hb=>by omega)
 have RR0:=RR0.kept Q1 (fun b hb h=>by rcases h with h | h<;>omega)
 have RR0:=RR0.kept kA (fun _ _ f=>f)
 have RR1:=HR1.out.imp (D':=fun b=>w.heap.size≤b) (fun b _ hb=>by omega)
 have RR1:=RR1.kept kA (fun _ _ f=>f)
 have OO0:=A.objs_ext HE1.out _ (HO0.out)
 have OO1:=HO1.out
 have LL:LIn (y0.blocks++(y1.blocks)) w.heap.size w1.heap.size:=(LIn.append (LIn.mono L0 (by omega) (Nat.le_refl _):LIn _ w.heap.size w0.heap.size) (LIn.mono L1 (by omega) (by omega):LIn _ w0.heap.size w1.heap.size) (Nat.le_refl _) (by omega) (by omega))
 have sA:=kA.size
 simp only[World.size_alloc]at sA
 refine⟨.n .call tx0 0 none w1.heap.size y0 y1 .nil .nil,_,f1,rfl,?_,rfl,?_,?_,(HE0.out).trans HE1.out,?_,?_,?_⟩
 · show Gc.N.n (K.str .call) tx0 0 (Gc.N.two y0.N y1.N)=_
   rw[HN0.out,HN1.out]
   try rfl
 · exact shut_call (m:=1) i0 i1 (by omega) (heap_alloc_new _ _) RR0 RR1
 · have e:left+1-((1+(x0.cost+(x1.cost+0)):Nat):Int)=left-x0.cost-x1.cost:=by omega
   rw[e]
   exact B.kept kA (fun f=>f) (fun f=>f)
 · exact⟨trivial,trivial,OO0,OO1,trivial,trivial⟩
 · have e:(A.n .call tx0 0 none w1.heap.size y0 y1 .nil .nil).blocks=[w1.heap.size]++(y0.blocks++(y1.blocks)):=by simp[A.blocks]
   rw[e]
   exact(LIn.append LL (LIn.one (Nat.le_refl _) (Nat.lt_succ_self _):LIn [w1.heap.size] w1.heap.size (w1.heap.size+1)) (Nat.le_refl _) (by omega) (by omega)).swap |> fun h=>⟨h.1,fun b hb=>by have:=h.2 b hb;simp only[World.size_alloc];omega⟩
 · exact((KW.mono (M':=Two bb mb) fun _ _ f=>f.elim).trans kl).trans (kA.mono fun _ _ f=>f.elim)
theorem made_un(tx0:Str)(x0:N)(k0:K)(hk0:k0.real)(n0:x0.isN)(h0:CallB 71 (Gc.N.one x0) 0 k0 1):MadeB (.n (K.str .un) tx0 0 (Gc.N.one x0)) .un:=by
 intro kd tx i kids hn w D bb mb left depth f a c c' hR hD hB hcost hdeep
 cases hn
 have hc:=kid_slice (kids:=(Gc.N.one x0)) trivial hR
 obtain rfl:c=1:=hc
 rw[cost_real (k:=.un) trivial]at hcost ⊢
 rw[deep_real (k:=.un) trivial]at hdeep
 simp only[Gc.N.one,N.cost,N.deep]at hcost hdeep ⊢
 have l0:=hB.l0
 have l1:=hB.l1
 have d0:=hB.d0
 have d1:=hB.d1
 have zb:bb<w.heap.size:=lt_of_heap hB.obj
 have zm:mb<w.heap.size:=by obtain⟨_,_,e,_⟩:=hB.map;exact lt_of_heap e
 have H0:=Lib.hid h0
 have HR:=Lib.hid hR
 have HD:=Lib.hid hD
 have HB:=Lib.hid hB
 clear h0 hR hD hB
 show Calls Tryz.prog 54 #[.pointer (some ⟨bb,0,none⟩),.agg #[.string ⟨#[85,110,97,114,121,69,120,112,114]⟩,.string tx0,.int .i64 0,.slice a 1 c']] w _
 go_enter Tryz.func54,Tryz.ntmps54
 go_wp2_with fail
 refine(kids_any _ _ _ _ _ _ _ _ _ rfl).mono ?_
 rintro e W1 ⟨rfl,hk1⟩
 have ox:=hk1.obj (heap_alloc_new w (.cells #[.string ⟨#[85,110,97,114,121,69,120,112,114]⟩,.string tx0,.int .i64 0,.slice a 1 c'] 30)) (fun f=>f)
 have K0:Kept (fun _=>False) w W1:=keptA.trans hk1
 obtain⟨x0',x1',x2',x3',-⟩:=slot4 ox
 have zx:w.heap.size<W1.heap.size:=lt_of_heap ox
 clear hk1
 go_upto_region 49 with fail
 have KW:Kept (fun _=>False) w W1.drew:=K0.trans keptD
 have B:Bld W1.drew bb mb left depth f:=HB.out.kept KW (fun f=>f) (fun f=>f)
 have kk:Kept (Two bb mb) W1.drew W1.drew:=Kept.refl _ _
 have HRW:Rep W1.drew (fun b=>b<w.heap.size∧¬ Two bb mb b) (Gc.N.one x0).g [.slice a 1 c']:=(HR.out.imp (D':=fun b=>b<w.heap.size∧¬ Two bb mb b) fun b hlt hb=>⟨hlt,HD.out b hb⟩).kept KW (fun _ _ f=>f)
 have HRW':=Lib.hid HRW
 clear HRW
 have hnb:∀ i,¬ Two bb mb (⟨w.heap.size,i,none⟩:Addr).block:=fun i h=>by simp only[Two]at h;omega
 have rule:∀ wx:World,Kept (Two bb mb) W1.drew wx→wx.cell? ⟨w.heap.size,0,none⟩=some (.string ⟨#[85,110,97,114,121,69,120,112,114]⟩)∧wx.cell? ⟨w.heap.size,1,none⟩=some (.string tx0)∧wx.cell? ⟨w.heap.size,2,none⟩=some (.int .i64 0)∧wx.cell? ⟨w.heap.size,3,none⟩=some (.slice a 1 c'):=fun wx hk =>
  ⟨hk.cell (keptD (M:=fun _=>False) |>.cell x0' (fun f=>f)) (hnb _),hk.cell (keptD (M:=fun _=>False) |>.cell x1' (fun f=>f)) (hnb _),hk.cell (keptD (M:=fun _=>False) |>.cell x2' (fun f=>f)) (hnb _),hk.cell (keptD (M:=fun _=>False) |>.cell x3' (fun f=>f)) (hnb _)⟩
 go_region_held3 (fun wx=>Kept (Two bb mb) W1.drew wx) (first | assumption | exact Kept.refl _ _ | exact keptD | exact Kept.trans (by assumption) keptA | exact Kept.trans (by assumption) keptD) (first
  | (go_at_call 71;go_must (refine(H0.out _ (fun b=>b<w.heap.size∧¬ Two bb mb b) bb mb (left) depth f _ _ _ _ _ _ (HRW'.out.kept kk (fun b hb=>hb.2)) (fun b hb=>hb.2) B ?c1 ?c2 _ rfl).mono ?_);(case c1=>(show(x0.cost:Int)≤left;omega));(case c2=>(show depth+(x0.deep:Int)≤60;omega));rintro e w0 ⟨y0,v0,f0,rfl,N0,M0,R0,B,E0,O0,L0,Q0⟩;have B:Bld w0 bb mb (left-x0.cost) depth f0:=B;have kk:=kk.trans Q0;have hS:Kept (Two bb mb) W1.drew w0:=kk;have N0:y0.N=x0:=N0;have i0:=isn_of_N (by rw[N0];exact n0);obtain⟨b0,rfl,-⟩:=iface_of M0 hk0 R0;have HN0:=Lib.hid N0;have HM0:=Lib.hid M0;have HR0:=Lib.hid R0;have HE0:=Lib.hid E0;have HO0:=Lib.hid O0;clear N0 M0 R0 E0 O0)
  | (go_at_call 80;go_must (refine(zz_any _ _).mono ?_);rintro e wt ⟨rfl,rfl⟩))
 go_wp2_with fail
 go_ret
 have B:=B
 have kl:Kept (Two bb mb) W1.drew w0:=kk
 have s0':=Q0.size
 have sW:=KW.size
 have sD:W1.drew.heap.size=W1.heap.size:=rfl
 have kA:Kept (fun _=>False) w0 (w0.alloc (.cells #[.int .i64 (tokOf tx0),.iface k0.pty (.pointer (some ⟨b0,0,none⟩))] (K.ty .un))):=keptA
 have RR0:=HR0.out.imp (D':=fun b=>w.heap.size≤b) (fun b _ hb=>by omega)
 have RR0:=RR0.kept kA (fun _ _ f=>f)
 have OO0:=HO0.out
 have LL:LIn (y0.blocks) w.heap.size w0.heap.size:=(LIn.mono L0 (by omega) (by omega):LIn _ w.heap.size w0.heap.size)
 have sA:=kA.size
 simp only[World.size_alloc]at sA
 refine⟨.n .un tx0 0 none w0.heap.size y0 .nil .nil .nil,_,f0,rfl,?_,rfl,?_,?_,HE0.out,?_,?_,?_⟩
 · show Gc.N.n (K.str .un) tx0 0 (Gc.N.one y0.N)=_
   rw[HN0.out]
   try rfl
 · exact shut_un (m:=1) i0 (by omega) (heap_alloc_new _ _) RR0
 · have e:left+1-((1+(x0.cost+0):Nat):Int)=left-x0.cost:=by omega
   rw[e]
   exact B.kept kA (fun f=>f) (fun f=>f)
 · exact⟨trivial,trivial,OO0,trivial,trivial,trivial⟩
 · have e:(A.n .un tx0 0 none w0.heap.size y0 .nil .nil .nil).blocks=[w0.heap.size]++(y0.blocks):=by simp[A.blocks]
   rw[e]
   exact(LIn.append LL (LIn.one (Nat.le_refl _) (Nat.lt_succ_self _):LIn [w0.heap.size] w0.heap.size (w0.heap.size+1)) (Nat.le_refl _) (by omega) (by omega)).swap |> fun h=>⟨h.1,fun b hb=>by have:=h.2 b hb;simp only[World.size_alloc];omega⟩
 · exact((KW.mono (M':=Two bb mb) fun _ _ f=>f.elim).trans kl).trans (kA.mono fun _ _ f=>f.elim)
theorem made_inc(tx0:Str)(x0:N)(k0:K)(hk0:k0.real)(n0:x0.isN)(h0:CallB 71 (Gc.N.one x0) 0 k0 1):MadeB (.n (K.str .inc) tx0 0 (Gc.N.one x0)) .inc:=by
 intro kd tx i kids hn w D bb mb left depth f a c c' hR hD hB hcost hdeep
 cases hn
 have hc:=kid_slice (kids:=(Gc.N.one x0)) trivial hR
 obtain rfl:c=1:=hc
 rw[cost_real (k:=.inc) trivial]at hcost ⊢
 rw[deep_real (k:=.inc) trivial]at hdeep
 simp only[Gc.N.one,N.cost,N.deep]at hcost hdeep ⊢
 have l0:=hB.l0
 have l1:=hB.l1
 have d0:=hB.d0
 have d1:=hB.d1
 have zb:bb<w.heap.size:=lt_of_heap hB.obj
 have zm:mb<w.heap.size:=by obtain⟨_,_,e,_⟩:=hB.map;exact lt_of_heap e
 have H0:=Lib.hid h0
 have HR:=Lib.hid hR
 have HD:=Lib.hid hD
 have HB:=Lib.hid hB
 clear h0 hR hD hB
 show Calls Tryz.prog 54 #[.pointer (some ⟨bb,0,none⟩),.agg #[.string ⟨#[73,110,99,68,101,99,83,116,109,116]⟩,.string tx0,.int .i64 0,.slice a 1 c']] w _
 go_enter Tryz.func54,Tryz.ntmps54
 go_wp2_with fail
 refine(kids_any _ _ _ _ _ _ _ _ _ rfl).mono ?_
 rintro e W1 ⟨rfl,hk1⟩
 have ox:=hk1.obj (heap_alloc_new w (.cells #[.string ⟨#[73,110,99,68,101,99,83,116,109,116]⟩,.string tx0,.int .i64 0,.slice a 1 c'] 30)) (fun f=>f)
 have K0:Kept (fun _=>False) w W1:=keptA.trans hk1
 obtain⟨x0',x1',x2',x3',-⟩:=slot4 ox
 have zx:w.heap.size<W1.heap.size:=lt_of_heap ox
 clear hk1
 go_upto_region 91 with fail
 have KW:Kept (fun _=>False) w W1.drew:=K0.trans keptD
 have B:Bld W1.drew bb mb left depth f:=HB.out.kept KW (fun f=>f) (fun f=>f)
 have kk:Kept (Two bb mb) W1.drew W1.drew:=Kept.refl _ _
 have HRW:Rep W1.drew (fun b=>b<w.heap.size∧¬ Two bb mb b) (Gc.N.one x0).g [.slice a 1 c']:=(HR.out.imp (D':=fun b=>b<w.heap.size∧¬ Two bb mb b) fun b hlt hb=>⟨hlt,HD.out b hb⟩).kept KW (fun _ _ f=>f)
 have HRW':=Lib.hid HRW
 clear HRW
 have hnb:∀ i,¬ Two bb mb (⟨w.heap.size,i,none⟩:Addr).block:=fun i h=>by simp only[Two]at h;omega
 have rule:∀ wx:World,Kept (Two bb mb) W1.drew wx→wx.cell? ⟨w.heap.size,0,none⟩=some (.string ⟨#[73,110,99,68,101,99,83,116,109,116]⟩)∧wx.cell? ⟨w.heap.size,1,none⟩=some (.string tx0)∧wx.cell? ⟨w.heap.size,2,none⟩=some (.int .i64 0)∧wx.cell? ⟨w.heap.size,3,none⟩=some (.slice a 1 c'):=fun wx hk =>
  ⟨hk.cell (keptD (M:=fun _=>False) |>.cell x0' (fun f=>f)) (hnb _),hk.cell (keptD (M:=fun _=>False) |>.cell x1' (fun f=>f)) (hnb _),hk.cell (keptD (M:=fun _=>False) |>.cell x2' (fun f=>f)) (hnb _),hk.cell (keptD (M:=fun _=>False) |>.cell x3' (fun f=>f)) (hnb _)⟩
 go_region_held3 (fun wx=>Kept (Two bb mb) W1.drew wx) (first | assumption | exact Kept.refl _ _ | exact keptD | exact Kept.trans (by assumption) keptA | exact Kept.trans (by assumption) keptD) (first
  | (go_at_call 71;go_must (refine(H0.out _ (fun b=>b<w.heap.size∧¬ Two bb mb b) bb mb (left) depth f _ _ _ _ _ _ (HRW'.out.kept kk (fun b hb=>hb.2)) (fun b hb=>hb.2) B ?c1 ?c2 _ rfl).mono ?_);(case c1=>(show(x0.cost:Int)≤left;omega));(case c2=>(show depth+(x0.deep:Int)≤60;omega));rintro e w0 ⟨y0,v0,f0,rfl,N0,M0,R0,B,E0,O0,L0,Q0⟩;have B:Bld w0 bb mb (left-x0.cost) depth f0:=B;have kk:=kk.trans Q0;have hS:Kept (Two bb mb) W1.drew w0:=kk;have N0:y0.N=x0:=N0;have i0:=isn_of_N (by rw[N0];exact n0);obtain⟨b0,rfl,-⟩:=iface_of M0 hk0 R0;have HN0:=Lib.hid N0;have HM0:=Lib.hid M0;have HR0:=Lib.hid R0;have HE0:=Lib.hid E0;have HO0:=Lib.hid O0;clear N0 M0 R0 E0 O0)
  | (go_at_call 80;go_must (refine(zz_any _ _).mono ?_);rintro e wt ⟨rfl,rfl⟩))
 go_wp2_with fail
 go_ret
 have B:=B
 have kl:Kept (Two bb mb) W1.drew w0:=kk
 have s0':=Q0.size
 have sW:=KW.size
 have sD:W1.drew.heap.size=W1.heap.size:=rfl
 have kA:Kept (fun _=>False) w0 (w0.alloc (.cells #[.iface k0.pty (.pointer (some ⟨b0,0,none⟩)),.int .i64 (tokOf tx0)] (K.ty .inc))):=keptA
 have RR0:=HR0.out.imp (D':=fun b=>w.heap.size≤b) (fun b _ hb=>by omega)
 have RR0:=RR0.kept kA (fun _ _ f=>f)
 have OO0:=HO0.out
 have LL:LIn (y0.blocks) w.heap.size w0.heap.size:=(LIn.mono L0 (by omega) (by omega):LIn _ w.heap.size w0.heap.size)
 have sA:=kA.size
 simp only[World.size_alloc]at sA
 refine⟨.n .inc tx0 0 none w0.heap.size y0 .nil .nil .nil,_,f0,rfl,?_,rfl,?_,?_,HE0.out,?_,?_,?_⟩
 · show Gc.N.n (K.str .inc) tx0 0 (Gc.N.one y0.N)=_
   rw[HN0.out]
   try rfl
 · exact shut_inc (m:=1) i0 (by omega) (heap_alloc_new _ _) RR0
 · have e:left+1-((1+(x0.cost+0):Nat):Int)=left-x0.cost:=by omega
   rw[e]
   exact B.kept kA (fun f=>f) (fun f=>f)
 · exact⟨trivial,trivial,OO0,trivial,trivial,trivial⟩
 · have e:(A.n .inc tx0 0 none w0.heap.size y0 .nil .nil .nil).blocks=[w0.heap.size]++(y0.blocks):=by simp[A.blocks]
   rw[e]
   exact(LIn.append LL (LIn.one (Nat.le_refl _) (Nat.lt_succ_self _):LIn [w0.heap.size] w0.heap.size (w0.heap.size+1)) (Nat.le_refl _) (by omega) (by omega)).swap |> fun h=>⟨h.1,fun b hb=>by have:=h.2 b hb;simp only[World.size_alloc];omega⟩
 · exact((KW.mono (M':=Two bb mb) fun _ _ f=>f.elim).trans kl).trans (kA.mono fun _ _ f=>f.elim)
end Go.Proofs.YtleolbpibjnedaaGreat
