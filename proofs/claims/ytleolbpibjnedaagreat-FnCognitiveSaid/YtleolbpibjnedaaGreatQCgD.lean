/- gocognit's visitor: the visits that go on by themselves. -/
import Derived.Test.YtleolbpibjnedaaGreatQCgC
set_option linter.unusedSimpArgs false
set_option linter.unusedVariables false
set_option maxRecDepth 100000
set_option maxHeartbeats 4000000
namespace Go.Proofs.YtleolbpibjnedaaGreat
open Go Go.RowKit Gc
theorem visit_flit{vb B:Nat}{nm:Value}{s:CS}{w:World}(I:GInv vb B nm s w)(D:Nat→Prop)(b:Nat)(text:Str)(num:Int)(o:Option Addr)(f0 f1 f2 f3:A)(i0:f0.isn)(m0:f0.K=.ftype)(W0:(WalkOk 168 (.pointer (some ⟨vb,0,none⟩)) (fun b=>B≤b) (GInv vb B nm) A.csem GPA f0))(i1:f1.isn)(m1:f1.K=.block)(W1:(WalkOk 168 (.pointer (some ⟨vb,0,none⟩)) (fun b=>B≤b) (GInv vb B nm) A.csem GPA f1))
 (hR:Rep w D ((A.n .flit text num o b f0 f1 f2 f3).g 1 .fin) [.iface 211 (.pointer (some ⟨b,0,none⟩))]) (hD:∀ b,D b→b<B) (pa:GPA (.n .flit text num o b f0 f1 f2 f3) s) :
 Calls Tryz.prog 147 #[.pointer (some ⟨vb,0,none⟩),.pointer (some ⟨b,0,none⟩)] w (VisR vb B nm (A.csem (.n .flit text num o b f0 f1 f2 f3) s) w .nilIface):=by
 obtain⟨-,hbD,v0,v1,ho,r0,r1⟩:=open_flit (m:=1) (.inr rfl) i0 i1 hR
 have hp:KeyB w B (posK .flit b):=⟨.flit,b,_,_,trivial,rfl,ho,hD b hbD⟩
 have hbB:=hD b hbD
 have hDM:∀ b,D b→¬ B≤b:=fun b hb=>by have:=hD b hb;omega
 obtain⟨b0,rfl,-⟩:=ptr_of m0 trivial r0
 have r0:=iface_ptr m0 trivial r0
 obtain⟨b1,rfl,-⟩:=ptr_of m1 trivial r1
 have r1:=iface_ptr m1 trivial r1
 have hcw:s.ds.length+(A.n .flit text num o b f0 f1 f2 f3).cw≤10000:=pa
 simp(config:={decide:=true}) only[A.cw,K.cwn,K.arity,if_true,if_false]at hcw
 show Calls _ _ _ _ (VisR vb B nm (f1.csem (f0.csem s).up).down w .nilIface)
 have hlen0:s.ds.length≤s.ds.length:=Nat.le_refl _
 have l0:(f0.csem s).ds.length≤s.ds.length+f0.cw:=csem_len f0 _
 have l1:(f0.csem s).up.ds.length=(f0.csem s).ds.length:=rfl
 have l2:(f1.csem (f0.csem s).up).ds.length≤(f0.csem s).up.ds.length+f1.cw:=csem_len f1 _
 have l3:(f1.csem (f0.csem s).up).down.ds.length=(f1.csem (f0.csem s).up).ds.length:=rfl
 have pa0:GPA f0 s:=by unfold GPA;omega
 have PA0:=Lib.hid pa0
 have pa2:GPA f1 (f0.csem s).up:=by unfold GPA;omega
 have PA2:=Lib.hid pa2
 have Ho:=Lib.hid ho
 have HD:=Lib.hid hD
 have HDM:=Lib.hid hDM
 have Hp:=Lib.hid hp
 have HR0:=Lib.hid r0
 have HW0:=Lib.hid W0
 have HR1:=Lib.hid r1
 have HW1:=Lib.hid W1
 have HI:=Lib.hid I
 clear hR ho hD hDM hp I pa hcw hlen0 l0 l1 l2 l3 pa0 pa2 r0 r1 W0 W1
 go_enter Tryz.func147,Tryz.ntmps147
 have o1:=Ho.out
 have p0:=cell_of_cells o1 0 rfl
 have p1:=cell_of_cells o1 1 rfl
 have zb:b<w.heap.size:=lt_of_heap o1
 go_wp2_with fail
 refine(HW0.out _ D _ _ PA0.out HR0.out HDM.out HI.out).mono ?_
 rintro e w1 ⟨rfl,I0,K0⟩
 have HI:=Lib.hid I0
 have o1:=K0.obj o1 (by omega)
 have p0:=cell_of_cells o1 0 rfl
 have p1:=cell_of_cells o1 1 rfl
 have zb:b<w1.heap.size:=lt_of_heap o1
 clear I0
 go_wp2_with fail
 refine(inc_nesting HI.out).mono ?_
 rintro e w2 ⟨rfl,I1,K1⟩
 have HI:=Lib.hid I1
 have o1:=K1.obj o1 (by omega)
 have p0:=cell_of_cells o1 0 rfl
 have p1:=cell_of_cells o1 1 rfl
 have zb:b<w2.heap.size:=lt_of_heap o1
 clear I1
 go_wp2_with fail
 refine(HW1.out _ D _ _ PA2.out ((HR1.out.kept K0 HDM.out).kept K1 HDM.out) HDM.out HI.out).mono ?_
 rintro e w3 ⟨rfl,I2,K2⟩
 have HI:=Lib.hid I2
 have o1:=K2.obj o1 (by omega)
 have p0:=cell_of_cells o1 0 rfl
 have p1:=cell_of_cells o1 1 rfl
 have zb:b<w3.heap.size:=lt_of_heap o1
 clear I2
 go_wp2_with fail
 refine(dec_nesting HI.out).mono ?_
 rintro e w4 ⟨rfl,I3,K3⟩
 have HI:=Lib.hid I3
 have o1:=K3.obj o1 (by omega)
 have p0:=cell_of_cells o1 0 rfl
 have p1:=cell_of_cells o1 1 rfl
 have zb:b<w4.heap.size:=lt_of_heap o1
 clear I3
 go_wp2_with fail
 go_ret
 exact⟨rfl,HI.out,(((K0).trans K1).trans K2).trans K3⟩
theorem visit_select{vb B:Nat}{nm:Value}{s:CS}{w:World}(I:GInv vb B nm s w)(D:Nat→Prop)(b:Nat)(text:Str)(num:Int)(o:Option Addr)(f0 f1 f2 f3:A)(i0:f0.isn)(m0:f0.K=.block)(W0:(WalkOk 168 (.pointer (some ⟨vb,0,none⟩)) (fun b=>B≤b) (GInv vb B nm) A.csem GPA f0))
 (hR:Rep w D ((A.n .select text num o b f0 f1 f2 f3).g 1 .fin) [.iface 320 (.pointer (some ⟨b,0,none⟩))]) (hD:∀ b,D b→b<B) (pa:GPA (.n .select text num o b f0 f1 f2 f3) s) :
 Calls Tryz.prog 144 #[.pointer (some ⟨vb,0,none⟩),.pointer (some ⟨b,0,none⟩)] w (VisR vb B nm (A.csem (.n .select text num o b f0 f1 f2 f3) s) w .nilIface):=by
 obtain⟨-,hbD,v0,ho,r0⟩:=open_select (m:=1) (.inr rfl) i0 hR
 have hp:KeyB w B (posK .select b):=⟨.select,b,_,_,trivial,rfl,ho,hD b hbD⟩
 have hbB:=hD b hbD
 have hDM:∀ b,D b→¬ B≤b:=fun b hb=>by have:=hD b hb;omega
 obtain⟨b0,rfl,-⟩:=ptr_of m0 trivial r0
 have r0:=iface_ptr m0 trivial r0
 have hcw:s.ds.length+(A.n .select text num o b f0 f1 f2 f3).cw≤10000:=pa
 simp(config:={decide:=true}) only[A.cw,K.cwn,K.arity,if_true,if_false]at hcw
 show Calls _ _ _ _ (VisR vb B nm (f0.csem (s.deepen sSelect (posK .select b)).up).down w .nilIface)
 have HS:=Lib.hid (nest_complexity I sSelect _ hp (by omega))
 have hlen0:s.ds.length≤s.ds.length:=Nat.le_refl _
 have l0:(s.deepen sSelect (posK .select b)).ds.length=s.ds.length+1:=by simp[CS.deepen,CS.add]
 have l1:(s.deepen sSelect (posK .select b)).up.ds.length=(s.deepen sSelect (posK .select b)).ds.length:=rfl
 have l2:(f0.csem (s.deepen sSelect (posK .select b)).up).ds.length≤(s.deepen sSelect (posK .select b)).up.ds.length+f0.cw:=csem_len f0 _
 have l3:(f0.csem (s.deepen sSelect (posK .select b)).up).down.ds.length=(f0.csem (s.deepen sSelect (posK .select b)).up).ds.length:=rfl
 have pa2:GPA f0 (s.deepen sSelect (posK .select b)).up:=by unfold GPA;omega
 have PA2:=Lib.hid pa2
 have Ho:=Lib.hid ho
 have HD:=Lib.hid hD
 have HDM:=Lib.hid hDM
 have Hp:=Lib.hid hp
 have HR0:=Lib.hid r0
 have HW0:=Lib.hid W0
 have HI:=Lib.hid I
 clear hR ho hD hDM hp I pa hcw hlen0 l0 l1 l2 l3 pa2 r0 W0
 go_enter Tryz.func144,Tryz.ntmps144
 have o1:=Ho.out
 have p0:=cell_of_cells o1 0 rfl
 have zb:b<w.heap.size:=lt_of_heap o1
 go_wp2_with fail
 refine HS.out.mono ?_
 rintro e w1 ⟨rfl,I0,K0⟩
 have HI:=Lib.hid I0
 have o1:=K0.obj o1 (by omega)
 have p0:=cell_of_cells o1 0 rfl
 have zb:b<w1.heap.size:=lt_of_heap o1
 clear I0
 go_wp2_with fail
 refine(inc_nesting HI.out).mono ?_
 rintro e w2 ⟨rfl,I1,K1⟩
 have HI:=Lib.hid I1
 have o1:=K1.obj o1 (by omega)
 have p0:=cell_of_cells o1 0 rfl
 have zb:b<w2.heap.size:=lt_of_heap o1
 clear I1
 go_wp2_with fail
 refine(HW0.out _ D _ _ PA2.out ((HR0.out.kept K0 HDM.out).kept K1 HDM.out) HDM.out HI.out).mono ?_
 rintro e w3 ⟨rfl,I2,K2⟩
 have HI:=Lib.hid I2
 have o1:=K2.obj o1 (by omega)
 have p0:=cell_of_cells o1 0 rfl
 have zb:b<w3.heap.size:=lt_of_heap o1
 clear I2
 go_wp2_with fail
 refine(dec_nesting HI.out).mono ?_
 rintro e w4 ⟨rfl,I3,K3⟩
 have HI:=Lib.hid I3
 have o1:=K3.obj o1 (by omega)
 have p0:=cell_of_cells o1 0 rfl
 have zb:b<w4.heap.size:=lt_of_heap o1
 clear I3
 go_wp2_with fail
 go_ret
 exact⟨rfl,HI.out,(((K0).trans K1).trans K2).trans K3⟩
theorem visit_switch{vb B:Nat}{nm:Value}{s:CS}{w:World}(I:GInv vb B nm s w)(D:Nat→Prop)(b:Nat)(text:Str)(num:Int)(o:Option Addr)(f0 f1 f2 f3:A)(i0:f0.isn)(m0:f0.K=.none)(i1:f1.isn)(k1:K)(hk1:k1.real)(m1:f1.K=k1)(W1:(WalkOk 168 (.pointer (some ⟨vb,0,none⟩)) (fun b=>B≤b) (GInv vb B nm) A.csem GPA f1))(i2:f2.isn)(m2:f2.K=.block)(W2:(WalkOk 168 (.pointer (some ⟨vb,0,none⟩)) (fun b=>B≤b) (GInv vb B nm) A.csem GPA f2))
 (hR:Rep w D ((A.n .switch text num o b f0 f1 f2 f3).g 1 .fin) [.iface 311 (.pointer (some ⟨b,0,none⟩))]) (hD:∀ b,D b→b<B) (pa:GPA (.n .switch text num o b f0 f1 f2 f3) s) :
 Calls Tryz.prog 142 #[.pointer (some ⟨vb,0,none⟩),.pointer (some ⟨b,0,none⟩)] w (VisR vb B nm (A.csem (.n .switch text num o b f0 f1 f2 f3) s) w .nilIface):=by
 obtain⟨-,hbD,v0,v1,v2,ho,r0,r1,r2⟩:=open_switch (m:=1) (.inr rfl) i0 i1 i2 hR
 have hp:KeyB w B (posK .switch b):=⟨.switch,b,_,_,trivial,rfl,ho,hD b hbD⟩
 have hbB:=hD b hbD
 have hDM:∀ b,D b→¬ B≤b:=fun b hb=>by have:=hD b hb;omega
 obtain rfl:=none_of1 i0 m0 r0
 obtain⟨b1,rfl,-⟩:=iface_of m1 hk1 r1
 obtain⟨b2,rfl,-⟩:=ptr_of m2 trivial r2
 have r2:=iface_ptr m2 trivial r2
 have hcw:s.ds.length+(A.n .switch text num o b f0 f1 f2 f3).cw≤10000:=pa
 simp(config:={decide:=true}) only[A.cw,K.cwn,K.arity,if_true,if_false]at hcw
 show Calls _ _ _ _ (VisR vb B nm (f2.csem (f1.csem (s.deepen sSwitch (posK .switch b))).up).down w .nilIface)
 have HS:=Lib.hid (nest_complexity I sSwitch _ hp (by omega))
 have hlen0:s.ds.length≤s.ds.length:=Nat.le_refl _
 have l0:(s.deepen sSwitch (posK .switch b)).ds.length=s.ds.length+1:=by simp[CS.deepen,CS.add]
 have l1:(f1.csem (s.deepen sSwitch (posK .switch b))).ds.length≤(s.deepen sSwitch (posK .switch b)).ds.length+f1.cw:=csem_len f1 _
 have l2:(f1.csem (s.deepen sSwitch (posK .switch b))).up.ds.length=(f1.csem (s.deepen sSwitch (posK .switch b))).ds.length:=rfl
 have l3:(f2.csem (f1.csem (s.deepen sSwitch (posK .switch b))).up).ds.length≤(f1.csem (s.deepen sSwitch (posK .switch b))).up.ds.length+f2.cw:=csem_len f2 _
 have l4:(f2.csem (f1.csem (s.deepen sSwitch (posK .switch b))).up).down.ds.length=(f2.csem (f1.csem (s.deepen sSwitch (posK .switch b))).up).ds.length:=rfl
 have pa1:GPA f1 (s.deepen sSwitch (posK .switch b)):=by unfold GPA;omega
 have PA1:=Lib.hid pa1
 have pa3:GPA f2 (f1.csem (s.deepen sSwitch (posK .switch b))).up:=by unfold GPA;omega
 have PA3:=Lib.hid pa3
 have Ho:=Lib.hid ho
 have HD:=Lib.hid hD
 have HDM:=Lib.hid hDM
 have Hp:=Lib.hid hp
 have HR1:=Lib.hid r1
 have HW1:=Lib.hid W1
 have HR2:=Lib.hid r2
 have HW2:=Lib.hid W2
 have HI:=Lib.hid I
 clear hR ho hD hDM hp I pa hcw hlen0 l0 l1 l2 l3 l4 pa1 pa3 r0 r1 r2 W1 W2
 go_enter Tryz.func142,Tryz.ntmps142
 have o1:=Ho.out
 have p0:=cell_of_cells o1 0 rfl
 have p1:=cell_of_cells o1 1 rfl
 have p2:=cell_of_cells o1 2 rfl
 have zb:b<w.heap.size:=lt_of_heap o1
 go_wp2_with fail
 refine HS.out.mono ?_
 rintro e w1 ⟨rfl,I0,K0⟩
 have HI:=Lib.hid I0
 have o1:=K0.obj o1 (by omega)
 have p0:=cell_of_cells o1 0 rfl
 have p1:=cell_of_cells o1 1 rfl
 have p2:=cell_of_cells o1 2 rfl
 have zb:b<w1.heap.size:=lt_of_heap o1
 clear I0
 go_wp2_with fail
 refine(HW1.out _ D _ _ PA1.out (HR1.out.kept K0 HDM.out) HDM.out HI.out).mono ?_
 rintro e w2 ⟨rfl,I1,K1⟩
 have HI:=Lib.hid I1
 have o1:=K1.obj o1 (by omega)
 have p0:=cell_of_cells o1 0 rfl
 have p1:=cell_of_cells o1 1 rfl
 have p2:=cell_of_cells o1 2 rfl
 have zb:b<w2.heap.size:=lt_of_heap o1
 clear I1
 go_wp2_with fail
 refine(inc_nesting HI.out).mono ?_
 rintro e w3 ⟨rfl,I2,K2⟩
 have HI:=Lib.hid I2
 have o1:=K2.obj o1 (by omega)
 have p0:=cell_of_cells o1 0 rfl
 have p1:=cell_of_cells o1 1 rfl
 have p2:=cell_of_cells o1 2 rfl
 have zb:b<w3.heap.size:=lt_of_heap o1
 clear I2
 go_wp2_with fail
 refine(HW2.out _ D _ _ PA3.out (((HR2.out.kept K0 HDM.out).kept K1 HDM.out).kept K2 HDM.out) HDM.out HI.out).mono ?_
 rintro e w4 ⟨rfl,I3,K3⟩
 have HI:=Lib.hid I3
 have o1:=K3.obj o1 (by omega)
 have p0:=cell_of_cells o1 0 rfl
 have p1:=cell_of_cells o1 1 rfl
 have p2:=cell_of_cells o1 2 rfl
 have zb:b<w4.heap.size:=lt_of_heap o1
 clear I3
 go_wp2_with fail
 refine(dec_nesting HI.out).mono ?_
 rintro e w5 ⟨rfl,I4,K4⟩
 have HI:=Lib.hid I4
 have o1:=K4.obj o1 (by omega)
 have p0:=cell_of_cells o1 0 rfl
 have p1:=cell_of_cells o1 1 rfl
 have p2:=cell_of_cells o1 2 rfl
 have zb:b<w5.heap.size:=lt_of_heap o1
 clear I4
 go_wp2_with fail
 go_ret
 exact⟨rfl,HI.out,((((K0).trans K1).trans K2).trans K3).trans K4⟩
theorem visit_for_{vb B:Nat}{nm:Value}{s:CS}{w:World}(I:GInv vb B nm s w)(D:Nat→Prop)(b:Nat)(text:Str)(num:Int)(o:Option Addr)(f0 f1 f2 f3:A)(i0:f0.isn)(m0:f0.K=.none)(i1:f1.isn)(k1:K)(hk1:k1.real)(m1:f1.K=k1)(W1:(WalkOk 168 (.pointer (some ⟨vb,0,none⟩)) (fun b=>B≤b) (GInv vb B nm) A.csem GPA f1))(i2:f2.isn)(m2:f2.K=.none)(i3:f3.isn)(m3:f3.K=.block)(W3:(WalkOk 168 (.pointer (some ⟨vb,0,none⟩)) (fun b=>B≤b) (GInv vb B nm) A.csem GPA f3))
 (hR:Rep w D ((A.n .for_ text num o b f0 f1 f2 f3).g 1 .fin) [.iface 323 (.pointer (some ⟨b,0,none⟩))]) (hD:∀ b,D b→b<B) (pa:GPA (.n .for_ text num o b f0 f1 f2 f3) s) :
 Calls Tryz.prog 145 #[.pointer (some ⟨vb,0,none⟩),.pointer (some ⟨b,0,none⟩)] w (VisR vb B nm (A.csem (.n .for_ text num o b f0 f1 f2 f3) s) w .nilIface):=by
 obtain⟨-,hbD,v0,v1,v2,v3,ho,r0,r1,r2,r3⟩:=open_for_ (m:=1) (.inr rfl) i0 i1 i2 i3 hR
 have hp:KeyB w B (posK .for_ b):=⟨.for_,b,_,_,trivial,rfl,ho,hD b hbD⟩
 have hbB:=hD b hbD
 have hDM:∀ b,D b→¬ B≤b:=fun b hb=>by have:=hD b hb;omega
 obtain rfl:=none_of1 i0 m0 r0
 obtain⟨b1,rfl,-⟩:=iface_of m1 hk1 r1
 obtain rfl:=none_of1 i2 m2 r2
 obtain⟨b3,rfl,-⟩:=ptr_of m3 trivial r3
 have r3:=iface_ptr m3 trivial r3
 have hcw:s.ds.length+(A.n .for_ text num o b f0 f1 f2 f3).cw≤10000:=pa
 simp(config:={decide:=true}) only[A.cw,K.cwn,K.arity,if_true,if_false]at hcw
 show Calls _ _ _ _ (VisR vb B nm (f3.csem (f1.csem (s.deepen sFor (posK .for_ b))).up).down w .nilIface)
 have HS:=Lib.hid (nest_complexity I sFor _ hp (by omega))
 have hlen0:s.ds.length≤s.ds.length:=Nat.le_refl _
 have l0:(s.deepen sFor (posK .for_ b)).ds.length=s.ds.length+1:=by simp[CS.deepen,CS.add]
 have l1:(f1.csem (s.deepen sFor (posK .for_ b))).ds.length≤(s.deepen sFor (posK .for_ b)).ds.length+f1.cw:=csem_len f1 _
 have l2:(f1.csem (s.deepen sFor (posK .for_ b))).up.ds.length=(f1.csem (s.deepen sFor (posK .for_ b))).ds.length:=rfl
 have l3:(f3.csem (f1.csem (s.deepen sFor (posK .for_ b))).up).ds.length≤(f1.csem (s.deepen sFor (posK .for_ b))).up.ds.length+f3.cw:=csem_len f3 _
 have l4:(f3.csem (f1.csem (s.deepen sFor (posK .for_ b))).up).down.ds.length=(f3.csem (f1.csem (s.deepen sFor (posK .for_ b))).up).ds.length:=rfl
 have pa1:GPA f1 (s.deepen sFor (posK .for_ b)):=by unfold GPA;omega
 have PA1:=Lib.hid pa1
 have pa3:GPA f3 (f1.csem (s.deepen sFor (posK .for_ b))).up:=by unfold GPA;omega
 have PA3:=Lib.hid pa3
 have Ho:=Lib.hid ho
 have HD:=Lib.hid hD
 have HDM:=Lib.hid hDM
 have Hp:=Lib.hid hp
 have HR1:=Lib.hid r1
 have HW1:=Lib.hid W1
 have HR3:=Lib.hid r3
 have HW3:=Lib.hid W3
 have HI:=Lib.hid I
 clear hR ho hD hDM hp I pa hcw hlen0 l0 l1 l2 l3 l4 pa1 pa3 r0 r1 r2 r3 W1 W3
 go_enter Tryz.func145,Tryz.ntmps145
 have o1:=Ho.out
 have p0:=cell_of_cells o1 0 rfl
 have p1:=cell_of_cells o1 1 rfl
 have p2:=cell_of_cells o1 2 rfl
 have p3:=cell_of_cells o1 3 rfl
 have zb:b<w.heap.size:=lt_of_heap o1
 go_wp2_with fail
 refine HS.out.mono ?_
 rintro e w1 ⟨rfl,I0,K0⟩
 have HI:=Lib.hid I0
 have o1:=K0.obj o1 (by omega)
 have p0:=cell_of_cells o1 0 rfl
 have p1:=cell_of_cells o1 1 rfl
 have p2:=cell_of_cells o1 2 rfl
 have p3:=cell_of_cells o1 3 rfl
 have zb:b<w1.heap.size:=lt_of_heap o1
 clear I0
 go_wp2_with fail
 refine(HW1.out _ D _ _ PA1.out (HR1.out.kept K0 HDM.out) HDM.out HI.out).mono ?_
 rintro e w2 ⟨rfl,I1,K1⟩
 have HI:=Lib.hid I1
 have o1:=K1.obj o1 (by omega)
 have p0:=cell_of_cells o1 0 rfl
 have p1:=cell_of_cells o1 1 rfl
 have p2:=cell_of_cells o1 2 rfl
 have p3:=cell_of_cells o1 3 rfl
 have zb:b<w2.heap.size:=lt_of_heap o1
 clear I1
 go_wp2_with fail
 refine(inc_nesting HI.out).mono ?_
 rintro e w3 ⟨rfl,I2,K2⟩
 have HI:=Lib.hid I2
 have o1:=K2.obj o1 (by omega)
 have p0:=cell_of_cells o1 0 rfl
 have p1:=cell_of_cells o1 1 rfl
 have p2:=cell_of_cells o1 2 rfl
 have p3:=cell_of_cells o1 3 rfl
 have zb:b<w3.heap.size:=lt_of_heap o1
 clear I2
 go_wp2_with fail
 refine(HW3.out _ D _ _ PA3.out (((HR3.out.kept K0 HDM.out).kept K1 HDM.out).kept K2 HDM.out) HDM.out HI.out).mono ?_
 rintro e w4 ⟨rfl,I3,K3⟩
 have HI:=Lib.hid I3
 have o1:=K3.obj o1 (by omega)
 have p0:=cell_of_cells o1 0 rfl
 have p1:=cell_of_cells o1 1 rfl
 have p2:=cell_of_cells o1 2 rfl
 have p3:=cell_of_cells o1 3 rfl
 have zb:b<w4.heap.size:=lt_of_heap o1
 clear I3
 go_wp2_with fail
 refine(dec_nesting HI.out).mono ?_
 rintro e w5 ⟨rfl,I4,K4⟩
 have HI:=Lib.hid I4
 have o1:=K4.obj o1 (by omega)
 have p0:=cell_of_cells o1 0 rfl
 have p1:=cell_of_cells o1 1 rfl
 have p2:=cell_of_cells o1 2 rfl
 have p3:=cell_of_cells o1 3 rfl
 have zb:b<w5.heap.size:=lt_of_heap o1
 clear I4
 go_wp2_with fail
 go_ret
 exact⟨rfl,HI.out,((((K0).trans K1).trans K2).trans K3).trans K4⟩
theorem visit_range{vb B:Nat}{nm:Value}{s:CS}{w:World}(I:GInv vb B nm s w)(D:Nat→Prop)(b:Nat)(text:Str)(num:Int)(o:Option Addr)(f0 f1 f2 f3:A)(i0:f0.isn)(m0:f0.K=.none)(i1:f1.isn)(m1:f1.K=.none)(i2:f2.isn)(k2:K)(hk2:k2.real)(m2:f2.K=k2)(W2:(WalkOk 168 (.pointer (some ⟨vb,0,none⟩)) (fun b=>B≤b) (GInv vb B nm) A.csem GPA f2))(i3:f3.isn)(m3:f3.K=.block)(W3:(WalkOk 168 (.pointer (some ⟨vb,0,none⟩)) (fun b=>B≤b) (GInv vb B nm) A.csem GPA f3))
 (hR:Rep w D ((A.n .range text num o b f0 f1 f2 f3).g 1 .fin) [.iface 326 (.pointer (some ⟨b,0,none⟩))]) (hD:∀ b,D b→b<B) (pa:GPA (.n .range text num o b f0 f1 f2 f3) s) :
 Calls Tryz.prog 146 #[.pointer (some ⟨vb,0,none⟩),.pointer (some ⟨b,0,none⟩)] w (VisR vb B nm (A.csem (.n .range text num o b f0 f1 f2 f3) s) w .nilIface):=by
 obtain⟨-,hbD,v0,v1,v2,v3,ho,r0,r1,r2,r3⟩:=open_range (m:=1) (.inr rfl) i0 i1 i2 i3 hR
 have hp:KeyB w B (posK .range b):=⟨.range,b,_,_,trivial,rfl,ho,hD b hbD⟩
 have hbB:=hD b hbD
 have hDM:∀ b,D b→¬ B≤b:=fun b hb=>by have:=hD b hb;omega
 obtain rfl:=none_of1 i0 m0 r0
 obtain rfl:=none_of1 i1 m1 r1
 obtain⟨b2,rfl,-⟩:=iface_of m2 hk2 r2
 obtain⟨b3,rfl,-⟩:=ptr_of m3 trivial r3
 have r3:=iface_ptr m3 trivial r3
 have hcw:s.ds.length+(A.n .range text num o b f0 f1 f2 f3).cw≤10000:=pa
 simp(config:={decide:=true}) only[A.cw,K.cwn,K.arity,if_true,if_false]at hcw
 show Calls _ _ _ _ (VisR vb B nm (f3.csem (f2.csem (s.deepen sFor (posK .range b))).up).down w .nilIface)
 have HS:=Lib.hid (nest_complexity I sFor _ hp (by omega))
 have hlen0:s.ds.length≤s.ds.length:=Nat.le_refl _
 have l0:(s.deepen sFor (posK .range b)).ds.length=s.ds.length+1:=by simp[CS.deepen,CS.add]
 have l1:(f2.csem (s.deepen sFor (posK .range b))).ds.length≤(s.deepen sFor (posK .range b)).ds.length+f2.cw:=csem_len f2 _
 have l2:(f2.csem (s.deepen sFor (posK .range b))).up.ds.length=(f2.csem (s.deepen sFor (posK .range b))).ds.length:=rfl
 have l3:(f3.csem (f2.csem (s.deepen sFor (posK .range b))).up).ds.length≤(f2.csem (s.deepen sFor (posK .range b))).up.ds.length+f3.cw:=csem_len f3 _
 have l4:(f3.csem (f2.csem (s.deepen sFor (posK .range b))).up).down.ds.length=(f3.csem (f2.csem (s.deepen sFor (posK .range b))).up).ds.length:=rfl
 have pa1:GPA f2 (s.deepen sFor (posK .range b)):=by unfold GPA;omega
 have PA1:=Lib.hid pa1
 have pa3:GPA f3 (f2.csem (s.deepen sFor (posK .range b))).up:=by unfold GPA;omega
 have PA3:=Lib.hid pa3
 have Ho:=Lib.hid ho
 have HD:=Lib.hid hD
 have HDM:=Lib.hid hDM
 have Hp:=Lib.hid hp
 have HR2:=Lib.hid r2
 have HW2:=Lib.hid W2
 have HR3:=Lib.hid r3
 have HW3:=Lib.hid W3
 have HI:=Lib.hid I
 clear hR ho hD hDM hp I pa hcw hlen0 l0 l1 l2 l3 l4 pa1 pa3 r0 r1 r2 r3 W2 W3
 go_enter Tryz.func146,Tryz.ntmps146
 have o1:=Ho.out
 have p0:=cell_of_cells o1 0 rfl
 have p1:=cell_of_cells o1 1 rfl
 have p3:=cell_of_cells o1 3 rfl
 have p4:=cell_of_cells o1 4 rfl
 have zb:b<w.heap.size:=lt_of_heap o1
 go_wp2_with fail
 refine HS.out.mono ?_
 rintro e w1 ⟨rfl,I0,K0⟩
 have HI:=Lib.hid I0
 have o1:=K0.obj o1 (by omega)
 have p0:=cell_of_cells o1 0 rfl
 have p1:=cell_of_cells o1 1 rfl
 have p3:=cell_of_cells o1 3 rfl
 have p4:=cell_of_cells o1 4 rfl
 have zb:b<w1.heap.size:=lt_of_heap o1
 clear I0
 go_wp2_with fail
 refine(HW2.out _ D _ _ PA1.out (HR2.out.kept K0 HDM.out) HDM.out HI.out).mono ?_
 rintro e w2 ⟨rfl,I1,K1⟩
 have HI:=Lib.hid I1
 have o1:=K1.obj o1 (by omega)
 have p0:=cell_of_cells o1 0 rfl
 have p1:=cell_of_cells o1 1 rfl
 have p3:=cell_of_cells o1 3 rfl
 have p4:=cell_of_cells o1 4 rfl
 have zb:b<w2.heap.size:=lt_of_heap o1
 clear I1
 go_wp2_with fail
 refine(inc_nesting HI.out).mono ?_
 rintro e w3 ⟨rfl,I2,K2⟩
 have HI:=Lib.hid I2
 have o1:=K2.obj o1 (by omega)
 have p0:=cell_of_cells o1 0 rfl
 have p1:=cell_of_cells o1 1 rfl
 have p3:=cell_of_cells o1 3 rfl
 have p4:=cell_of_cells o1 4 rfl
 have zb:b<w3.heap.size:=lt_of_heap o1
 clear I2
 go_wp2_with fail
 refine(HW3.out _ D _ _ PA3.out (((HR3.out.kept K0 HDM.out).kept K1 HDM.out).kept K2 HDM.out) HDM.out HI.out).mono ?_
 rintro e w4 ⟨rfl,I3,K3⟩
 have HI:=Lib.hid I3
 have o1:=K3.obj o1 (by omega)
 have p0:=cell_of_cells o1 0 rfl
 have p1:=cell_of_cells o1 1 rfl
 have p3:=cell_of_cells o1 3 rfl
 have p4:=cell_of_cells o1 4 rfl
 have zb:b<w4.heap.size:=lt_of_heap o1
 clear I3
 go_wp2_with fail
 refine(dec_nesting HI.out).mono ?_
 rintro e w5 ⟨rfl,I4,K4⟩
 have HI:=Lib.hid I4
 have o1:=K4.obj o1 (by omega)
 have p0:=cell_of_cells o1 0 rfl
 have p1:=cell_of_cells o1 1 rfl
 have p3:=cell_of_cells o1 3 rfl
 have p4:=cell_of_cells o1 4 rfl
 have zb:b<w5.heap.size:=lt_of_heap o1
 clear I4
 go_wp2_with fail
 go_ret
 exact⟨rfl,HI.out,((((K0).trans K1).trans K2).trans K3).trans K4⟩
theorem visit_if__none{vb B:Nat}{nm:Value}{s:CS}{w:World}(I:GInv vb B nm s w)(D:Nat→Prop)(b:Nat)(text:Str)(num:Int)(o:Option Addr)(f0 f1 f2 f3:A)(i0:f0.isn)(m0:f0.K=.none)(i1:f1.isn)(k1:K)(hk1:k1.real)(m1:f1.K=k1)(W1:(WalkOk 168 (.pointer (some ⟨vb,0,none⟩)) (fun b=>B≤b) (GInv vb B nm) A.csem GPA f1))(i2:f2.isn)(m2:f2.K=.block)(W2:(WalkOk 168 (.pointer (some ⟨vb,0,none⟩)) (fun b=>B≤b) (GInv vb B nm) A.csem GPA f2))(i3:f3.isn)(m3:f3.K=.none)
 (hR:Rep w D ((A.n .if_ text num o b f0 f1 f2 f3).g 1 .fin) [.iface 305 (.pointer (some ⟨b,0,none⟩))]) (hD:∀ b,D b→b<B) (pa:GPA (.n .if_ text num o b f0 f1 f2 f3) s) :
 Calls Tryz.prog 141 #[.pointer (some ⟨vb,0,none⟩),.pointer (some ⟨b,0,none⟩)] w (VisR vb B nm (A.csem (.n .if_ text num o b f0 f1 f2 f3) s) w .nilIface):=by
 obtain⟨-,hbD,v0,v1,v2,v3,ho,r0,r1,r2,r3⟩:=open_if_ (m:=1) (.inr rfl) i0 i1 i2 i3 hR
 have hp:KeyB w B (posK .if_ b):=⟨.if_,b,_,_,trivial,rfl,ho,hD b hbD⟩
 have hbB:=hD b hbD
 have hDM:∀ b,D b→¬ B≤b:=fun b hb=>by have:=hD b hb;omega
 obtain rfl:=none_of1 i0 m0 r0
 obtain⟨b1,rfl,-⟩:=iface_of m1 hk1 r1
 obtain⟨b2,rfl,-⟩:=ptr_of m2 trivial r2
 have r2:=iface_ptr m2 trivial r2
 obtain rfl:=none_of1 i3 m3 r3
 have hcw:s.ds.length+(A.n .if_ text num o b f0 f1 f2 f3).cw≤10000:=pa
 simp(config:={decide:=true}) only[A.cw,K.cwn,K.arity,if_true,if_false]at hcw
 have efin:A.csem (.n .if_ text num o b f0 f1 f2 f3) s=(f2.csem (f1.csem (s.atIf b)).up).down:=by
  simp only[A.csem]
  rw[m3]
 rw[efin]
 have HS:=Lib.hid (inc_if I b hp (by omega))
 have hlen0:s.ds.length≤s.ds.length:=Nat.le_refl _
 have l0:(s.atIf b).ds.length=s.ds.length+1:=by unfold CS.atIf;split<;>simp[CS.deepen,CS.add]
 have l1:(f1.csem (s.atIf b)).ds.length≤(s.atIf b).ds.length+f1.cw:=csem_len f1 _
 have l2:(f1.csem (s.atIf b)).up.ds.length=(f1.csem (s.atIf b)).ds.length:=rfl
 have l3:(f2.csem (f1.csem (s.atIf b)).up).ds.length≤(f1.csem (s.atIf b)).up.ds.length+f2.cw:=csem_len f2 _
 have l4:(f2.csem (f1.csem (s.atIf b)).up).down.ds.length=(f2.csem (f1.csem (s.atIf b)).up).ds.length:=rfl
 have pa1:GPA f1 (s.atIf b):=by unfold GPA;omega
 have PA1:=Lib.hid pa1
 have pa3:GPA f2 (f1.csem (s.atIf b)).up:=by unfold GPA;omega
 have PA3:=Lib.hid pa3
 have Ho:=Lib.hid ho
 have HD:=Lib.hid hD
 have HDM:=Lib.hid hDM
 have Hp:=Lib.hid hp
 have HR1:=Lib.hid r1
 have HW1:=Lib.hid W1
 have HR2:=Lib.hid r2
 have HW2:=Lib.hid W2
 have HI:=Lib.hid I
 clear hR ho hD hDM hp I pa hcw hlen0 l0 l1 l2 l3 l4 pa1 pa3 r0 r1 r2 r3 W1 W2 efin
 have t3a:∀ w,(Instr.typeAssert .nilIface 274 123 true).run Tryz.prog w=.ok (.tuple #[.pointer none,.bool false]) w:=fun w=>assert_nil un_BlockStmt zp_BlockStmt _ w
 have t3b:∀ w,(Instr.typeAssert .nilIface 274 305 true).run Tryz.prog w=.ok (.tuple #[.pointer none,.bool false]) w:=fun w=>assert_nil un_IfStmt zp_IfStmt _ w
 go_enter Tryz.func141,Tryz.ntmps141
 have o1:=Ho.out
 have p0:=cell_of_cells o1 0 rfl
 have p1:=cell_of_cells o1 1 rfl
 have p2:=cell_of_cells o1 2 rfl
 have p3:=cell_of_cells o1 3 rfl
 have zb:b<w.heap.size:=lt_of_heap o1
 go_wp2_with fail
 refine HS.out.mono ?_
 rintro e w1 ⟨rfl,I0,K0⟩
 have HI:=Lib.hid I0
 have o1:=K0.obj o1 (by omega)
 have p0:=cell_of_cells o1 0 rfl
 have p1:=cell_of_cells o1 1 rfl
 have p2:=cell_of_cells o1 2 rfl
 have p3:=cell_of_cells o1 3 rfl
 have zb:b<w1.heap.size:=lt_of_heap o1
 clear I0
 go_wp2_with fail
 refine(HW1.out _ D _ _ PA1.out (HR1.out.kept K0 HDM.out) HDM.out HI.out).mono ?_
 rintro e w2 ⟨rfl,I1,K1⟩
 have HI:=Lib.hid I1
 have o1:=K1.obj o1 (by omega)
 have p0:=cell_of_cells o1 0 rfl
 have p1:=cell_of_cells o1 1 rfl
 have p2:=cell_of_cells o1 2 rfl
 have p3:=cell_of_cells o1 3 rfl
 have zb:b<w2.heap.size:=lt_of_heap o1
 clear I1
 go_wp2_with fail
 refine(inc_nesting HI.out).mono ?_
 rintro e w3 ⟨rfl,I2,K2⟩
 have HI:=Lib.hid I2
 have o1:=K2.obj o1 (by omega)
 have p0:=cell_of_cells o1 0 rfl
 have p1:=cell_of_cells o1 1 rfl
 have p2:=cell_of_cells o1 2 rfl
 have p3:=cell_of_cells o1 3 rfl
 have zb:b<w3.heap.size:=lt_of_heap o1
 clear I2
 go_wp2_with fail
 refine(HW2.out _ D _ _ PA3.out (((HR2.out.kept K0 HDM.out).kept K1 HDM.out).kept K2 HDM.out) HDM.out HI.out).mono ?_
 rintro e w4 ⟨rfl,I3,K3⟩
 have HI:=Lib.hid I3
 have o1:=K3.obj o1 (by omega)
 have p0:=cell_of_cells o1 0 rfl
 have p1:=cell_of_cells o1 1 rfl
 have p2:=cell_of_cells o1 2 rfl
 have p3:=cell_of_cells o1 3 rfl
 have zb:b<w4.heap.size:=lt_of_heap o1
 clear I3
 go_wp2_with fail
 refine(dec_nesting HI.out).mono ?_
 rintro e w5 ⟨rfl,I4,K4⟩
 have HI:=Lib.hid I4
 have o1:=K4.obj o1 (by omega)
 have p0:=cell_of_cells o1 0 rfl
 have p1:=cell_of_cells o1 1 rfl
 have p2:=cell_of_cells o1 2 rfl
 have p3:=cell_of_cells o1 3 rfl
 have zb:b<w5.heap.size:=lt_of_heap o1
 clear I4
 go_wp2_with fail
 go_ret
 exact⟨rfl,HI.out,((((K0).trans K1).trans K2).trans K3).trans K4⟩
theorem visit_if__else{vb B:Nat}{nm:Value}{s:CS}{w:World}(I:GInv vb B nm s w)(D:Nat→Prop)(b:Nat)(text:Str)(num:Int)(o:Option Addr)(f0 f1 f2 f3:A)(i0:f0.isn)(m0:f0.K=.none)(i1:f1.isn)(k1:K)(hk1:k1.real)(m1:f1.K=k1)(W1:(WalkOk 168 (.pointer (some ⟨vb,0,none⟩)) (fun b=>B≤b) (GInv vb B nm) A.csem GPA f1))(i2:f2.isn)(m2:f2.K=.block)(W2:(WalkOk 168 (.pointer (some ⟨vb,0,none⟩)) (fun b=>B≤b) (GInv vb B nm) A.csem GPA f2))(i3:f3.isn)(m3:f3.K=.block)(W3:(WalkOk 168 (.pointer (some ⟨vb,0,none⟩)) (fun b=>B≤b) (GInv vb B nm) A.csem GPA f3))
 (hR:Rep w D ((A.n .if_ text num o b f0 f1 f2 f3).g 1 .fin) [.iface 305 (.pointer (some ⟨b,0,none⟩))]) (hD:∀ b,D b→b<B) (pa:GPA (.n .if_ text num o b f0 f1 f2 f3) s) :
 Calls Tryz.prog 141 #[.pointer (some ⟨vb,0,none⟩),.pointer (some ⟨b,0,none⟩)] w (VisR vb B nm (A.csem (.n .if_ text num o b f0 f1 f2 f3) s) w .nilIface):=by
 obtain⟨-,hbD,v0,v1,v2,v3,ho,r0,r1,r2,r3⟩:=open_if_ (m:=1) (.inr rfl) i0 i1 i2 i3 hR
 have hp:KeyB w B (posK .if_ b):=⟨.if_,b,_,_,trivial,rfl,ho,hD b hbD⟩
 have hbB:=hD b hbD
 have hDM:∀ b,D b→¬ B≤b:=fun b hb=>by have:=hD b hb;omega
 obtain rfl:=none_of1 i0 m0 r0
 obtain⟨b1,rfl,-⟩:=iface_of m1 hk1 r1
 obtain⟨b2,rfl,-⟩:=ptr_of m2 trivial r2
 have r2:=iface_ptr m2 trivial r2
 obtain⟨b3,rfl,hb3D⟩:=iface_of m3 trivial r3
 have hcw:s.ds.length+(A.n .if_ text num o b f0 f1 f2 f3).cw≤10000:=pa
 simp(config:={decide:=true}) only[A.cw,K.cwn,K.arity,if_true,if_false]at hcw
 have eb3:f3.blk=b3:=by
  cases f3 with
  | nil=>exact i3.elim
  | cons=>exact i3.elim
  | n k3 _ _ _ c _ _ _ _ =>
    obtain rfl:k3=.block:=m3
    simp only[A.g,if_true]at r3
    obtain⟨cs,rs,e,_⟩:=r3
    simp only[ptrVal,List.cons.injEq,Value.iface.injEq,Value.pointer.injEq,Option.some.injEq,Addr.mk.injEq,and_true,true_and]at e
    exact e.1.symm
 have hp3:KeyB w B (posK .block b3):=by
  obtain⟨b',cs',t',e',ho'⟩:=iface_obj m3 trivial r3
  simp only[Value.iface.injEq,Value.pointer.injEq,Option.some.injEq,Addr.mk.injEq,and_true,true_and]at e'
  subst e'
  exact⟨.block,_,_,_,trivial,rfl,ho',hD _ hb3D⟩
 have efin:A.csem (.n .if_ text num o b f0 f1 f2 f3) s=(f3.csem ((f2.csem (f1.csem (s.atIf b)).up).down.add ⟨1,0,sElse,posK .block b3⟩).up).down:=by
  simp only[A.csem]
  rw[m3,eb3]
 rw[efin]
 have HS:=Lib.hid (inc_if I b hp (by omega))
 have hlen0:s.ds.length≤s.ds.length:=Nat.le_refl _
 have l0:(s.atIf b).ds.length=s.ds.length+1:=by unfold CS.atIf;split<;>simp[CS.deepen,CS.add]
 have l1:(f1.csem (s.atIf b)).ds.length≤(s.atIf b).ds.length+f1.cw:=csem_len f1 _
 have l2:(f1.csem (s.atIf b)).up.ds.length=(f1.csem (s.atIf b)).ds.length:=rfl
 have l3:(f2.csem (f1.csem (s.atIf b)).up).ds.length≤(f1.csem (s.atIf b)).up.ds.length+f2.cw:=csem_len f2 _
 have l4:(f2.csem (f1.csem (s.atIf b)).up).down.ds.length=(f2.csem (f1.csem (s.atIf b)).up).ds.length:=rfl
 have l5:((f2.csem (f1.csem (s.atIf b)).up).down.add ⟨1,0,sElse,posK .block b3⟩).ds.length=(f2.csem (f1.csem (s.atIf b)).up).down.ds.length+1:=by simp[CS.add]
 have l6:((f2.csem (f1.csem (s.atIf b)).up).down.add ⟨1,0,sElse,posK .block b3⟩).up.ds.length=((f2.csem (f1.csem (s.atIf b)).up).down.add ⟨1,0,sElse,posK .block b3⟩).ds.length:=rfl
 have l7:(f3.csem ((f2.csem (f1.csem (s.atIf b)).up).down.add ⟨1,0,sElse,posK .block b3⟩).up).ds.length≤((f2.csem (f1.csem (s.atIf b)).up).down.add ⟨1,0,sElse,posK .block b3⟩).up.ds.length+f3.cw:=csem_len f3 _
 have l8:(f3.csem ((f2.csem (f1.csem (s.atIf b)).up).down.add ⟨1,0,sElse,posK .block b3⟩).up).down.ds.length=(f3.csem ((f2.csem (f1.csem (s.atIf b)).up).down.add ⟨1,0,sElse,posK .block b3⟩).up).ds.length:=rfl
 have pa1:GPA f1 (s.atIf b):=by unfold GPA;omega
 have PA1:=Lib.hid pa1
 have pa3:GPA f2 (f1.csem (s.atIf b)).up:=by unfold GPA;omega
 have PA3:=Lib.hid pa3
 have hle:(f2.csem (f1.csem (s.atIf b)).up).down.ds.length≤100000:=by omega
 have pa7:GPA f3 ((f2.csem (f1.csem (s.atIf b)).up).down.add ⟨1,0,sElse,posK .block b3⟩).up:=by unfold GPA;omega
 have PA7:=Lib.hid pa7
 have Ho:=Lib.hid ho
 have HD:=Lib.hid hD
 have HDM:=Lib.hid hDM
 have Hp:=Lib.hid hp
 have HR1:=Lib.hid r1
 have HW1:=Lib.hid W1
 have HR2:=Lib.hid r2
 have HW2:=Lib.hid W2
 have HR3:=Lib.hid r3
 have HW3:=Lib.hid W3
 have Hp3:=Lib.hid hp3
 have HI:=Lib.hid I
 clear hR ho hD hDM hp I pa hcw hlen0 l0 l1 l2 l3 l4 l5 l6 l7 l8 pa1 pa3 pa7 r0 r1 r2 r3 W1 W2 W3 hp3 eb3 efin
 have t3a:∀ w,(Instr.typeAssert (.iface (K.pty .block) (.pointer (some ⟨b3,0,none⟩))) 274 123 true).run Tryz.prog w=.ok (.tuple #[.pointer (some ⟨b3,0,none⟩),.bool true]) w:=fun w=>assert_yes un_BlockStmt _ _ w
 go_enter Tryz.func141,Tryz.ntmps141
 have o1:=Ho.out
 have p0:=cell_of_cells o1 0 rfl
 have p1:=cell_of_cells o1 1 rfl
 have p2:=cell_of_cells o1 2 rfl
 have p3:=cell_of_cells o1 3 rfl
 have zb:b<w.heap.size:=lt_of_heap o1
 go_wp2_with fail
 refine HS.out.mono ?_
 rintro e w1 ⟨rfl,I0,K0⟩
 have HI:=Lib.hid I0
 have o1:=K0.obj o1 (by omega)
 have p0:=cell_of_cells o1 0 rfl
 have p1:=cell_of_cells o1 1 rfl
 have p2:=cell_of_cells o1 2 rfl
 have p3:=cell_of_cells o1 3 rfl
 have zb:b<w1.heap.size:=lt_of_heap o1
 clear I0
 go_wp2_with fail
 refine(HW1.out _ D _ _ PA1.out (HR1.out.kept K0 HDM.out) HDM.out HI.out).mono ?_
 rintro e w2 ⟨rfl,I1,K1⟩
 have HI:=Lib.hid I1
 have o1:=K1.obj o1 (by omega)
 have p0:=cell_of_cells o1 0 rfl
 have p1:=cell_of_cells o1 1 rfl
 have p2:=cell_of_cells o1 2 rfl
 have p3:=cell_of_cells o1 3 rfl
 have zb:b<w2.heap.size:=lt_of_heap o1
 clear I1
 go_wp2_with fail
 refine(inc_nesting HI.out).mono ?_
 rintro e w3 ⟨rfl,I2,K2⟩
 have HI:=Lib.hid I2
 have o1:=K2.obj o1 (by omega)
 have p0:=cell_of_cells o1 0 rfl
 have p1:=cell_of_cells o1 1 rfl
 have p2:=cell_of_cells o1 2 rfl
 have p3:=cell_of_cells o1 3 rfl
 have zb:b<w3.heap.size:=lt_of_heap o1
 clear I2
 go_wp2_with fail
 refine(HW2.out _ D _ _ PA3.out (((HR2.out.kept K0 HDM.out).kept K1 HDM.out).kept K2 HDM.out) HDM.out HI.out).mono ?_
 rintro e w4 ⟨rfl,I3,K3⟩
 have HI:=Lib.hid I3
 have o1:=K3.obj o1 (by omega)
 have p0:=cell_of_cells o1 0 rfl
 have p1:=cell_of_cells o1 1 rfl
 have p2:=cell_of_cells o1 2 rfl
 have p3:=cell_of_cells o1 3 rfl
 have zb:b<w4.heap.size:=lt_of_heap o1
 clear I3
 go_wp2_with fail
 refine(dec_nesting HI.out).mono ?_
 rintro e w5 ⟨rfl,I4,K4⟩
 have HI:=Lib.hid I4
 have o1:=K4.obj o1 (by omega)
 have p0:=cell_of_cells o1 0 rfl
 have p1:=cell_of_cells o1 1 rfl
 have p2:=cell_of_cells o1 2 rfl
 have p3:=cell_of_cells o1 3 rfl
 have zb:b<w5.heap.size:=lt_of_heap o1
 clear I4
 go_wp2_with fail
 refine(inc_any HI.out sElse _ (((((Hp3.out.kept K0 (fun b hb=>by omega)).kept K1 (fun b hb=>by omega)).kept K2 (fun b hb=>by omega)).kept K3 (fun b hb=>by omega)).kept K4 (fun b hb=>by omega)) hle).mono ?_
 rintro e w6 ⟨rfl,I5,K5⟩
 have HI:=Lib.hid I5
 have o1:=K5.obj o1 (by omega)
 have p0:=cell_of_cells o1 0 rfl
 have p1:=cell_of_cells o1 1 rfl
 have p2:=cell_of_cells o1 2 rfl
 have p3:=cell_of_cells o1 3 rfl
 have zb:b<w6.heap.size:=lt_of_heap o1
 clear I5
 go_wp2_with fail
 refine(inc_nesting HI.out).mono ?_
 rintro e w7 ⟨rfl,I6,K6⟩
 have HI:=Lib.hid I6
 have o1:=K6.obj o1 (by omega)
 have p0:=cell_of_cells o1 0 rfl
 have p1:=cell_of_cells o1 1 rfl
 have p2:=cell_of_cells o1 2 rfl
 have p3:=cell_of_cells o1 3 rfl
 have zb:b<w7.heap.size:=lt_of_heap o1
 clear I6
 go_wp2_with fail
 refine(HW3.out _ D _ _ PA7.out (((((((HR3.out.kept K0 HDM.out).kept K1 HDM.out).kept K2 HDM.out).kept K3 HDM.out).kept K4 HDM.out).kept K5 HDM.out).kept K6 HDM.out) HDM.out HI.out).mono ?_
 rintro e w8 ⟨rfl,I7,K7⟩
 have HI:=Lib.hid I7
 have o1:=K7.obj o1 (by omega)
 have p0:=cell_of_cells o1 0 rfl
 have p1:=cell_of_cells o1 1 rfl
 have p2:=cell_of_cells o1 2 rfl
 have p3:=cell_of_cells o1 3 rfl
 have zb:b<w8.heap.size:=lt_of_heap o1
 clear I7
 go_wp2_with fail
 refine(dec_nesting HI.out).mono ?_
 rintro e w9 ⟨rfl,I8,K8⟩
 have HI:=Lib.hid I8
 have o1:=K8.obj o1 (by omega)
 have p0:=cell_of_cells o1 0 rfl
 have p1:=cell_of_cells o1 1 rfl
 have p2:=cell_of_cells o1 2 rfl
 have p3:=cell_of_cells o1 3 rfl
 have zb:b<w9.heap.size:=lt_of_heap o1
 clear I8
 go_wp2_with fail
 go_ret
 exact⟨rfl,HI.out,((((((((K0).trans K1).trans K2).trans K3).trans K4).trans K5).trans K6).trans K7).trans K8⟩
theorem visit_if__chain{vb B:Nat}{nm:Value}{s:CS}{w:World}(I:GInv vb B nm s w)(D:Nat→Prop)(b:Nat)(text:Str)(num:Int)(o:Option Addr)(f0 f1 f2 f3:A)(i0:f0.isn)(m0:f0.K=.none)(i1:f1.isn)(k1:K)(hk1:k1.real)(m1:f1.K=k1)(W1:(WalkOk 168 (.pointer (some ⟨vb,0,none⟩)) (fun b=>B≤b) (GInv vb B nm) A.csem GPA f1))(i2:f2.isn)(m2:f2.K=.block)(W2:(WalkOk 168 (.pointer (some ⟨vb,0,none⟩)) (fun b=>B≤b) (GInv vb B nm) A.csem GPA f2))(i3:f3.isn)(m3:f3.K=.if_)(W3:(WalkOk 168 (.pointer (some ⟨vb,0,none⟩)) (fun b=>B≤b) (GInv vb B nm) A.csem GPA f3))
 (hR:Rep w D ((A.n .if_ text num o b f0 f1 f2 f3).g 1 .fin) [.iface 305 (.pointer (some ⟨b,0,none⟩))]) (hD:∀ b,D b→b<B) (pa:GPA (.n .if_ text num o b f0 f1 f2 f3) s) :
 Calls Tryz.prog 141 #[.pointer (some ⟨vb,0,none⟩),.pointer (some ⟨b,0,none⟩)] w (VisR vb B nm (A.csem (.n .if_ text num o b f0 f1 f2 f3) s) w .nilIface):=by
 obtain⟨-,hbD,v0,v1,v2,v3,ho,r0,r1,r2,r3⟩:=open_if_ (m:=1) (.inr rfl) i0 i1 i2 i3 hR
 have hp:KeyB w B (posK .if_ b):=⟨.if_,b,_,_,trivial,rfl,ho,hD b hbD⟩
 have hbB:=hD b hbD
 have hDM:∀ b,D b→¬ B≤b:=fun b hb=>by have:=hD b hb;omega
 obtain rfl:=none_of1 i0 m0 r0
 obtain⟨b1,rfl,-⟩:=iface_of m1 hk1 r1
 obtain⟨b2,rfl,-⟩:=ptr_of m2 trivial r2
 have r2:=iface_ptr m2 trivial r2
 obtain⟨b3,rfl,hb3D⟩:=iface_of m3 trivial r3
 have hcw:s.ds.length+(A.n .if_ text num o b f0 f1 f2 f3).cw≤10000:=pa
 simp(config:={decide:=true}) only[A.cw,K.cwn,K.arity,if_true,if_false]at hcw
 have eb3:f3.blk=b3:=by
  cases f3 with
  | nil=>exact i3.elim
  | cons=>exact i3.elim
  | n k3 _ _ _ c _ _ _ _ =>
    obtain rfl:k3=.if_:=m3
    simp only[A.g,if_true]at r3
    obtain⟨cs,rs,e,_⟩:=r3
    simp only[ptrVal,List.cons.injEq,Value.iface.injEq,Value.pointer.injEq,Option.some.injEq,Addr.mk.injEq,and_true,true_and]at e
    exact e.1.symm
 have hp3:KeyB w B (posK .if_ b3):=by
  obtain⟨b',cs',t',e',ho'⟩:=iface_obj m3 trivial r3
  simp only[Value.iface.injEq,Value.pointer.injEq,Option.some.injEq,Addr.mk.injEq,and_true,true_and]at e'
  subst e'
  exact⟨.if_,_,_,_,trivial,rfl,ho',hD _ hb3D⟩
 have efin:A.csem (.n .if_ text num o b f0 f1 f2 f3) s=(f3.csem ((f2.csem (f1.csem (s.atIf b)).up).down.mark K.if_.pty b3)):=by
  simp only[A.csem]
  rw[m3,eb3]
 rw[efin]
 have HS:=Lib.hid (inc_if I b hp (by omega))
 have hlen0:s.ds.length≤s.ds.length:=Nat.le_refl _
 have l0:(s.atIf b).ds.length=s.ds.length+1:=by unfold CS.atIf;split<;>simp[CS.deepen,CS.add]
 have l1:(f1.csem (s.atIf b)).ds.length≤(s.atIf b).ds.length+f1.cw:=csem_len f1 _
 have l2:(f1.csem (s.atIf b)).up.ds.length=(f1.csem (s.atIf b)).ds.length:=rfl
 have l3:(f2.csem (f1.csem (s.atIf b)).up).ds.length≤(f1.csem (s.atIf b)).up.ds.length+f2.cw:=csem_len f2 _
 have l4:(f2.csem (f1.csem (s.atIf b)).up).down.ds.length=(f2.csem (f1.csem (s.atIf b)).up).ds.length:=rfl
 have l5:((f2.csem (f1.csem (s.atIf b)).up).down.mark K.if_.pty b3).ds.length=(f2.csem (f1.csem (s.atIf b)).up).down.ds.length:=rfl
 have l6:(f3.csem ((f2.csem (f1.csem (s.atIf b)).up).down.mark K.if_.pty b3)).ds.length≤((f2.csem (f1.csem (s.atIf b)).up).down.mark K.if_.pty b3).ds.length+f3.cw:=csem_len f3 _
 have pa1:GPA f1 (s.atIf b):=by unfold GPA;omega
 have PA1:=Lib.hid pa1
 have pa3:GPA f2 (f1.csem (s.atIf b)).up:=by unfold GPA;omega
 have PA3:=Lib.hid pa3
 have pa6:GPA f3 ((f2.csem (f1.csem (s.atIf b)).up).down.mark K.if_.pty b3):=by unfold GPA;omega
 have PA6:=Lib.hid pa6
 have Ho:=Lib.hid ho
 have HD:=Lib.hid hD
 have HDM:=Lib.hid hDM
 have Hp:=Lib.hid hp
 have HR1:=Lib.hid r1
 have HW1:=Lib.hid W1
 have HR2:=Lib.hid r2
 have HW2:=Lib.hid W2
 have HR3:=Lib.hid r3
 have HW3:=Lib.hid W3
 have Hp3:=Lib.hid hp3
 have HI:=Lib.hid I
 clear hR ho hD hDM hp I pa hcw hlen0 l0 l1 l2 l3 l4 l5 l6 pa1 pa3 pa6 r0 r1 r2 r3 W1 W2 W3 hp3 eb3 efin
 have t3a:=nob (P:=Tryz.prog) (K.pty .if_) b3 274 un_BlockStmt zp_BlockStmt (by decide)
 have t3b:∀ w,(Instr.typeAssert (.iface (K.pty .if_) (.pointer (some ⟨b3,0,none⟩))) 274 305 true).run Tryz.prog w=.ok (.tuple #[.pointer (some ⟨b3,0,none⟩),.bool true]) w:=fun w=>assert_yes un_IfStmt _ _ w
 go_enter Tryz.func141,Tryz.ntmps141
 have o1:=Ho.out
 have p0:=cell_of_cells o1 0 rfl
 have p1:=cell_of_cells o1 1 rfl
 have p2:=cell_of_cells o1 2 rfl
 have p3:=cell_of_cells o1 3 rfl
 have zb:b<w.heap.size:=lt_of_heap o1
 go_wp2_with fail
 refine HS.out.mono ?_
 rintro e w1 ⟨rfl,I0,K0⟩
 have HI:=Lib.hid I0
 have o1:=K0.obj o1 (by omega)
 have p0:=cell_of_cells o1 0 rfl
 have p1:=cell_of_cells o1 1 rfl
 have p2:=cell_of_cells o1 2 rfl
 have p3:=cell_of_cells o1 3 rfl
 have zb:b<w1.heap.size:=lt_of_heap o1
 clear I0
 go_wp2_with fail
 refine(HW1.out _ D _ _ PA1.out (HR1.out.kept K0 HDM.out) HDM.out HI.out).mono ?_
 rintro e w2 ⟨rfl,I1,K1⟩
 have HI:=Lib.hid I1
 have o1:=K1.obj o1 (by omega)
 have p0:=cell_of_cells o1 0 rfl
 have p1:=cell_of_cells o1 1 rfl
 have p2:=cell_of_cells o1 2 rfl
 have p3:=cell_of_cells o1 3 rfl
 have zb:b<w2.heap.size:=lt_of_heap o1
 clear I1
 go_wp2_with fail
 refine(inc_nesting HI.out).mono ?_
 rintro e w3 ⟨rfl,I2,K2⟩
 have HI:=Lib.hid I2
 have o1:=K2.obj o1 (by omega)
 have p0:=cell_of_cells o1 0 rfl
 have p1:=cell_of_cells o1 1 rfl
 have p2:=cell_of_cells o1 2 rfl
 have p3:=cell_of_cells o1 3 rfl
 have zb:b<w3.heap.size:=lt_of_heap o1
 clear I2
 go_wp2_with fail
 refine(HW2.out _ D _ _ PA3.out (((HR2.out.kept K0 HDM.out).kept K1 HDM.out).kept K2 HDM.out) HDM.out HI.out).mono ?_
 rintro e w4 ⟨rfl,I3,K3⟩
 have HI:=Lib.hid I3
 have o1:=K3.obj o1 (by omega)
 have p0:=cell_of_cells o1 0 rfl
 have p1:=cell_of_cells o1 1 rfl
 have p2:=cell_of_cells o1 2 rfl
 have p3:=cell_of_cells o1 3 rfl
 have zb:b<w4.heap.size:=lt_of_heap o1
 clear I3
 go_wp2_with fail
 refine(dec_nesting HI.out).mono ?_
 rintro e w5 ⟨rfl,I4,K4⟩
 have HI:=Lib.hid I4
 have o1:=K4.obj o1 (by omega)
 have p0:=cell_of_cells o1 0 rfl
 have p1:=cell_of_cells o1 1 rfl
 have p2:=cell_of_cells o1 2 rfl
 have p3:=cell_of_cells o1 3 rfl
 have zb:b<w5.heap.size:=lt_of_heap o1
 clear I4
 go_wp2_with fail
 obtain⟨ime,imc,ia,ic,ih⟩:=HI.out
 have Hih:=Lib.hid ih
 refine(mark_els ih .if_ b3 (((((Hp3.out.kept K0 (fun b hb=>by omega)).kept K1 (fun b hb=>by omega)).kept K2 (fun b hb=>by omega)).kept K3 (fun b hb=>by omega)).kept K4 (fun b hb=>by omega))).mono ?_
 rintro e w6 ⟨rfl,mb,I5,K5,-⟩
 have hmeB:∀ m,ime=some m→B≤m:=fun m e=>by subst e;exact Hih.out.els.1
 have hvB:=Hih.out.lb
 have K5:Kept (fun b=>B≤b) w5 w6:=K5.mono fun b _ h=>by
  show B≤b
  rcases h with h|h
  · omega
  · exact hmeB b h
 have HI:=Lib.hid (show GInv vb B nm _ w6 from ⟨_,_,_,_,I5⟩)
 clear hmeB
 have o1:=K5.obj o1 (by omega)
 have p0:=cell_of_cells o1 0 rfl
 have p1:=cell_of_cells o1 1 rfl
 have p2:=cell_of_cells o1 2 rfl
 have p3:=cell_of_cells o1 3 rfl
 have zb:b<w6.heap.size:=lt_of_heap o1
 clear I5
 go_wp2_with fail
 refine(HW3.out _ D _ _ PA6.out ((((((HR3.out.kept K0 HDM.out).kept K1 HDM.out).kept K2 HDM.out).kept K3 HDM.out).kept K4 HDM.out).kept K5 HDM.out) HDM.out HI.out).mono ?_
 rintro e w7 ⟨rfl,I6,K6⟩
 have HI:=Lib.hid I6
 have o1:=K6.obj o1 (by omega)
 have p0:=cell_of_cells o1 0 rfl
 have p1:=cell_of_cells o1 1 rfl
 have p2:=cell_of_cells o1 2 rfl
 have p3:=cell_of_cells o1 3 rfl
 have zb:b<w7.heap.size:=lt_of_heap o1
 clear I6
 go_wp2_with fail
 go_ret
 exact⟨rfl,HI.out,((((((K0).trans K1).trans K2).trans K3).trans K4).trans K5).trans K6⟩
theorem visit_if__other{vb B:Nat}{nm:Value}{s:CS}{w:World}(I:GInv vb B nm s w)(D:Nat→Prop)(b:Nat)(text:Str)(num:Int)(o:Option Addr)(f0 f1 f2 f3:A)(i0:f0.isn)(m0:f0.K=.none)(i1:f1.isn)(k1:K)(hk1:k1.real)(m1:f1.K=k1)(W1:(WalkOk 168 (.pointer (some ⟨vb,0,none⟩)) (fun b=>B≤b) (GInv vb B nm) A.csem GPA f1))(i2:f2.isn)(m2:f2.K=.block)(W2:(WalkOk 168 (.pointer (some ⟨vb,0,none⟩)) (fun b=>B≤b) (GInv vb B nm) A.csem GPA f2))(i3:f3.isn)(k3:K)(hk3:k3.real)(hne3:k3≠.block∧k3≠.if_)(m3:f3.K=k3)
 (hR:Rep w D ((A.n .if_ text num o b f0 f1 f2 f3).g 1 .fin) [.iface 305 (.pointer (some ⟨b,0,none⟩))]) (hD:∀ b,D b→b<B) (pa:GPA (.n .if_ text num o b f0 f1 f2 f3) s) :
 Calls Tryz.prog 141 #[.pointer (some ⟨vb,0,none⟩),.pointer (some ⟨b,0,none⟩)] w (VisR vb B nm (A.csem (.n .if_ text num o b f0 f1 f2 f3) s) w .nilIface):=by
 obtain⟨-,hbD,v0,v1,v2,v3,ho,r0,r1,r2,r3⟩:=open_if_ (m:=1) (.inr rfl) i0 i1 i2 i3 hR
 have hp:KeyB w B (posK .if_ b):=⟨.if_,b,_,_,trivial,rfl,ho,hD b hbD⟩
 have hbB:=hD b hbD
 have hDM:∀ b,D b→¬ B≤b:=fun b hb=>by have:=hD b hb;omega
 obtain rfl:=none_of1 i0 m0 r0
 obtain⟨b1,rfl,-⟩:=iface_of m1 hk1 r1
 obtain⟨b2,rfl,-⟩:=ptr_of m2 trivial r2
 have r2:=iface_ptr m2 trivial r2
 obtain⟨b3,rfl,-⟩:=iface_of m3 hk3 r3
 have hcw:s.ds.length+(A.n .if_ text num o b f0 f1 f2 f3).cw≤10000:=pa
 simp(config:={decide:=true}) only[A.cw,K.cwn,K.arity,if_true,if_false]at hcw
 have efin:A.csem (.n .if_ text num o b f0 f1 f2 f3) s=(f2.csem (f1.csem (s.atIf b)).up).down:=by
  simp only[A.csem]
  rw[m3]
  cases k3<;>first | rfl | exact absurd rfl hne3.1 | exact absurd rfl hne3.2
 rw[efin]
 have HS:=Lib.hid (inc_if I b hp (by omega))
 have hlen0:s.ds.length≤s.ds.length:=Nat.le_refl _
 have l0:(s.atIf b).ds.length=s.ds.length+1:=by unfold CS.atIf;split<;>simp[CS.deepen,CS.add]
 have l1:(f1.csem (s.atIf b)).ds.length≤(s.atIf b).ds.length+f1.cw:=csem_len f1 _
 have l2:(f1.csem (s.atIf b)).up.ds.length=(f1.csem (s.atIf b)).ds.length:=rfl
 have l3:(f2.csem (f1.csem (s.atIf b)).up).ds.length≤(f1.csem (s.atIf b)).up.ds.length+f2.cw:=csem_len f2 _
 have l4:(f2.csem (f1.csem (s.atIf b)).up).down.ds.length=(f2.csem (f1.csem (s.atIf b)).up).ds.length:=rfl
 have pa1:GPA f1 (s.atIf b):=by unfold GPA;omega
 have PA1:=Lib.hid pa1
 have pa3:GPA f2 (f1.csem (s.atIf b)).up:=by unfold GPA;omega
 have PA3:=Lib.hid pa3
 have Ho:=Lib.hid ho
 have HD:=Lib.hid hD
 have HDM:=Lib.hid hDM
 have Hp:=Lib.hid hp
 have HR1:=Lib.hid r1
 have HW1:=Lib.hid W1
 have HR2:=Lib.hid r2
 have HW2:=Lib.hid W2
 have HI:=Lib.hid I
 clear hR ho hD hDM hp I pa hcw hlen0 l0 l1 l2 l3 l4 pa1 pa3 r0 r1 r2 r3 W1 W2 efin
 have h3a:k3.pty≠123:=by cases k3<;>first | exact absurd rfl hne3.1 | exact hk3.elim | decide
 have h3b:k3.pty≠305:=by cases k3<;>first | exact absurd rfl hne3.2 | exact hk3.elim | decide
 have t3a:=nob (P:=Tryz.prog) k3.pty b3 274 un_BlockStmt zp_BlockStmt h3a
 have t3b:=nob (P:=Tryz.prog) k3.pty b3 274 un_IfStmt zp_IfStmt h3b
 clear hne3 h3a h3b
 go_enter Tryz.func141,Tryz.ntmps141
 have o1:=Ho.out
 have p0:=cell_of_cells o1 0 rfl
 have p1:=cell_of_cells o1 1 rfl
 have p2:=cell_of_cells o1 2 rfl
 have p3:=cell_of_cells o1 3 rfl
 have zb:b<w.heap.size:=lt_of_heap o1
 go_wp2_with fail
 refine HS.out.mono ?_
 rintro e w1 ⟨rfl,I0,K0⟩
 have HI:=Lib.hid I0
 have o1:=K0.obj o1 (by omega)
 have p0:=cell_of_cells o1 0 rfl
 have p1:=cell_of_cells o1 1 rfl
 have p2:=cell_of_cells o1 2 rfl
 have p3:=cell_of_cells o1 3 rfl
 have zb:b<w1.heap.size:=lt_of_heap o1
 clear I0
 go_wp2_with fail
 refine(HW1.out _ D _ _ PA1.out (HR1.out.kept K0 HDM.out) HDM.out HI.out).mono ?_
 rintro e w2 ⟨rfl,I1,K1⟩
 have HI:=Lib.hid I1
 have o1:=K1.obj o1 (by omega)
 have p0:=cell_of_cells o1 0 rfl
 have p1:=cell_of_cells o1 1 rfl
 have p2:=cell_of_cells o1 2 rfl
 have p3:=cell_of_cells o1 3 rfl
 have zb:b<w2.heap.size:=lt_of_heap o1
 clear I1
 go_wp2_with fail
 refine(inc_nesting HI.out).mono ?_
 rintro e w3 ⟨rfl,I2,K2⟩
 have HI:=Lib.hid I2
 have o1:=K2.obj o1 (by omega)
 have p0:=cell_of_cells o1 0 rfl
 have p1:=cell_of_cells o1 1 rfl
 have p2:=cell_of_cells o1 2 rfl
 have p3:=cell_of_cells o1 3 rfl
 have zb:b<w3.heap.size:=lt_of_heap o1
 clear I2
 go_wp2_with fail
 refine(HW2.out _ D _ _ PA3.out (((HR2.out.kept K0 HDM.out).kept K1 HDM.out).kept K2 HDM.out) HDM.out HI.out).mono ?_
 rintro e w4 ⟨rfl,I3,K3⟩
 have HI:=Lib.hid I3
 have o1:=K3.obj o1 (by omega)
 have p0:=cell_of_cells o1 0 rfl
 have p1:=cell_of_cells o1 1 rfl
 have p2:=cell_of_cells o1 2 rfl
 have p3:=cell_of_cells o1 3 rfl
 have zb:b<w4.heap.size:=lt_of_heap o1
 clear I3
 go_wp2_with fail
 refine(dec_nesting HI.out).mono ?_
 rintro e w5 ⟨rfl,I4,K4⟩
 have HI:=Lib.hid I4
 have o1:=K4.obj o1 (by omega)
 have p0:=cell_of_cells o1 0 rfl
 have p1:=cell_of_cells o1 1 rfl
 have p2:=cell_of_cells o1 2 rfl
 have p3:=cell_of_cells o1 3 rfl
 have zb:b<w5.heap.size:=lt_of_heap o1
 clear I4
 go_wp2_with fail
 go_ret
 exact⟨rfl,HI.out,((((K0).trans K1).trans K2).trans K3).trans K4⟩
end Go.Proofs.YtleolbpibjnedaaGreat
