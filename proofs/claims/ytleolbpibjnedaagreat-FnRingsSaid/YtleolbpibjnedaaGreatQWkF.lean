/- xast.Walk, kind by kind. -/
import Derived.Test.YtleolbpibjnedaaGreatQWkA
set_option linter.unusedSimpArgs false
set_option linter.unusedVariables false
set_option maxRecDepth 100000
set_option maxHeartbeats 4000000
namespace Go.Proofs.YtleolbpibjnedaaGreat
open Go Go.RowKit Gc
theorem walk_for_{σ:Type}{T:TypeId}{x:Value}{F:Nat}{rcv:Value}{M:Nat→Prop}{Inv:σ→World→Prop}{sem step:A→σ→σ}{PA:A→σ→Prop}{SK:K→Bool}(V:Vis σ T x F rcv M Inv sem step PA SK)(text:Str)(num:Int)(o:Option Addr)(b:Nat)(f0 f1 f2 f3:A)(ok:VV (A.n .for_ text num o b f0 f1 f2 f3).N∧SK .for_=true)(i0:f0.isn)(m0:f0.K=.none)(i1:f1.isn)(k1:K)(hk1:k1.real)(m1:f1.K=k1)(W1:WalkOk T x M Inv sem PA f1)(i2:f2.isn)(m2:f2.K=.none)(i3:f3.isn)(m3:f3.K=.block)(W3:WalkOk T x M Inv sem PA f3):WalkOk T x M Inv sem PA (.n .for_ text num o b f0 f1 f2 f3):=by
 intro w D v s pa hR hD hI
 have m0':=m0
 have m2':=m2
 have pas:=V.her_n .for_ text num o b f0 f1 f2 f3 s trivial ok.2 pa
 have pa1:=pas.2.1 (by decide)
 rw[V.none f0 m0 i0]at pa1
 have PA1:=Lib.hid pa1
 clear pa1
 have pa3:=pas.2.2.2 (by decide)
 rw[V.none f0 m0 i0]at pa3
 rw[V.none f2 m2 i2]at pa3
 have PA3:=Lib.hid pa3
 clear pa3
 clear pas
 obtain⟨rfl,hb,v0,v1,v2,v3,ho,r0,r1,r2,r3⟩:=open_for_ (m:=1) (.inr rfl) i0 i1 i2 i3 hR
 obtain rfl:=none_of1 i0 m0 r0
 obtain⟨b1,rfl,-⟩:=iface_of m1 hk1 r1
 obtain rfl:=none_of1 i2 m2 r2
 obtain⟨b3,rfl,-⟩:=ptr_of m3 trivial r3
 have r3:=iface_ptr m3 trivial r3
 have hbM:=hD b hb
 have HV:=Lib.hid (V.visit (.n .for_ text num o b f0 f1 f2 f3) w D _ s ok.1 pa ok.2 hR hD hI)
 have HL:=Lib.hid V.leave
 have HD:=Lib.hid hD
 have Ho:=Lib.hid ho
 have HR0:=Lib.hid r0
 clear r0 m0
 have HR1:=Lib.hid r1
 have HW1:=Lib.hid W1
 clear r1 W1 m1
 have HR2:=Lib.hid r2
 clear r2 m2
 have HR3:=Lib.hid r3
 have HW3:=Lib.hid W3
 clear r3 W3 m3
 clear hR hI ho
 have hm:=V.meth
 have he:=V.ent
 obtain⟨a0,a1,a2,a3,a4,a5,a6,a7,a8,a9,a10,a11,a12,a13,a14,a15,a16,a17,a18,a19,a20,a21,a22,a23,a24,a25,a26,a27,a28,a29,a30,a31,a32,a33,a34,a35,a36,a37,a38,a39,-⟩:=nobs 323 b 74 [83,196,120,208,211,216,220,190,224,227,230,233,172,236,238,242,245,248,251,122,257,260,262,266,272,278,280,283,286,289,293,295,298,123,305,308,311,314,317,320] (by decide)
 have t_ForStmt:∀ w,(Instr.typeAssert (.iface 323 (.pointer (some ⟨b,0,none⟩))) 74 323 true).run Tryz.prog w=.ok (.tuple #[.pointer (some ⟨b,0,none⟩),.bool true]) w:=fun w=>as_for_ _ _ w
 show Calls Tryz.prog 59 #[.iface T x,.iface 323 (.pointer (some ⟨b,0,none⟩))] w _
 go_enter Tryz.func59,Tryz.ntmps59
 go_wp2_with fail
 refine HV.out.mono ?_
 rintro e w1 ⟨rfl,I,K1⟩
 have HI:=Lib.hid I
 have o1:=K1.obj Ho.out hbM
 have z1:b<w1.heap.size:=lt_of_heap o1
 clear I
 have p0:=cell_of_cells o1 0 rfl
 have p1:=cell_of_cells o1 1 rfl
 have p2:=cell_of_cells o1 2 rfl
 have p3:=cell_of_cells o1 3 rfl
 go_wp2_with fail
 refine(HW1.out _ D _ _ PA1.out (HR1.out.kept K1 HD.out) HD.out HI.out).mono ?_
 rintro e w3 ⟨rfl,I,K3⟩
 have HI:=Lib.hid I
 have o1:=K3.obj o1 hbM
 have z1:b<w3.heap.size:=lt_of_heap o1
 clear I
 have p0:=cell_of_cells o1 0 rfl
 have p1:=cell_of_cells o1 1 rfl
 have p2:=cell_of_cells o1 2 rfl
 have p3:=cell_of_cells o1 3 rfl
 go_wp2_with fail
 refine(HW3.out _ D _ _ PA3.out ((HR3.out.kept K1 HD.out).kept K3 HD.out) HD.out HI.out).mono ?_
 rintro e w5 ⟨rfl,I,K5⟩
 have HI:=Lib.hid I
 have o1:=K5.obj o1 hbM
 have z1:b<w5.heap.size:=lt_of_heap o1
 clear I
 have p0:=cell_of_cells o1 0 rfl
 have p1:=cell_of_cells o1 1 rfl
 have p2:=cell_of_cells o1 2 rfl
 have p3:=cell_of_cells o1 3 rfl
 go_wp2_with fail
 refine(HL.out _ _ HI.out).mono ?_
 rintro e wz ⟨rfl,I,Kz⟩
 have HI:=Lib.hid I
 clear I
 go_wp2_with fail
 go_end0
 have I:=HI.out
 refine⟨rfl,?_,(((K1).trans K3).trans K5).trans Kz⟩
 rw[V.sem_n .for_ _ _ _ _ _ _ _ _ _ trivial ok.2]
 show Inv (sem f3 (sem f2 (sem f1 (sem f0 (step (.n .for_ text num o b f0 f1 f2 f3) s))))) wz
 rw[V.none f2 m2' i2]
 rw[V.none f0 m0' i0]
 exact I
theorem walk_range{σ:Type}{T:TypeId}{x:Value}{F:Nat}{rcv:Value}{M:Nat→Prop}{Inv:σ→World→Prop}{sem step:A→σ→σ}{PA:A→σ→Prop}{SK:K→Bool}(V:Vis σ T x F rcv M Inv sem step PA SK)(text:Str)(num:Int)(o:Option Addr)(b:Nat)(f0 f1 f2 f3:A)(ok:VV (A.n .range text num o b f0 f1 f2 f3).N∧SK .range=true)(i0:f0.isn)(m0:f0.K=.none)(i1:f1.isn)(m1:f1.K=.none)(i2:f2.isn)(k2:K)(hk2:k2.real)(m2:f2.K=k2)(W2:WalkOk T x M Inv sem PA f2)(i3:f3.isn)(m3:f3.K=.block)(W3:WalkOk T x M Inv sem PA f3):WalkOk T x M Inv sem PA (.n .range text num o b f0 f1 f2 f3):=by
 intro w D v s pa hR hD hI
 have m0':=m0
 have m1':=m1
 have pas:=V.her_n .range text num o b f0 f1 f2 f3 s trivial ok.2 pa
 have pa2:=pas.2.2.1 (by decide)
 rw[V.none f0 m0 i0]at pa2
 rw[V.none f1 m1 i1]at pa2
 have PA2:=Lib.hid pa2
 clear pa2
 have pa3:=pas.2.2.2 (by decide)
 rw[V.none f0 m0 i0]at pa3
 rw[V.none f1 m1 i1]at pa3
 have PA3:=Lib.hid pa3
 clear pa3
 clear pas
 obtain⟨rfl,hb,v0,v1,v2,v3,ho,r0,r1,r2,r3⟩:=open_range (m:=1) (.inr rfl) i0 i1 i2 i3 hR
 obtain rfl:=none_of1 i0 m0 r0
 obtain rfl:=none_of1 i1 m1 r1
 obtain⟨b2,rfl,-⟩:=iface_of m2 hk2 r2
 obtain⟨b3,rfl,-⟩:=ptr_of m3 trivial r3
 have r3:=iface_ptr m3 trivial r3
 have hbM:=hD b hb
 have HV:=Lib.hid (V.visit (.n .range text num o b f0 f1 f2 f3) w D _ s ok.1 pa ok.2 hR hD hI)
 have HL:=Lib.hid V.leave
 have HD:=Lib.hid hD
 have Ho:=Lib.hid ho
 have HR0:=Lib.hid r0
 clear r0 m0
 have HR1:=Lib.hid r1
 clear r1 m1
 have HR2:=Lib.hid r2
 have HW2:=Lib.hid W2
 clear r2 W2 m2
 have HR3:=Lib.hid r3
 have HW3:=Lib.hid W3
 clear r3 W3 m3
 clear hR hI ho
 have hm:=V.meth
 have he:=V.ent
 obtain⟨a0,a1,a2,a3,a4,a5,a6,a7,a8,a9,a10,a11,a12,a13,a14,a15,a16,a17,a18,a19,a20,a21,a22,a23,a24,a25,a26,a27,a28,a29,a30,a31,a32,a33,a34,a35,a36,a37,a38,a39,a40,-⟩:=nobs 326 b 74 [83,196,120,208,211,216,220,190,224,227,230,233,172,236,238,242,245,248,251,122,257,260,262,266,272,278,280,283,286,289,293,295,298,123,305,308,311,314,317,320,323] (by decide)
 have t_RangeStmt:∀ w,(Instr.typeAssert (.iface 326 (.pointer (some ⟨b,0,none⟩))) 74 326 true).run Tryz.prog w=.ok (.tuple #[.pointer (some ⟨b,0,none⟩),.bool true]) w:=fun w=>as_range _ _ w
 show Calls Tryz.prog 59 #[.iface T x,.iface 326 (.pointer (some ⟨b,0,none⟩))] w _
 go_enter Tryz.func59,Tryz.ntmps59
 go_wp2_with fail
 refine HV.out.mono ?_
 rintro e w1 ⟨rfl,I,K1⟩
 have HI:=Lib.hid I
 have o1:=K1.obj Ho.out hbM
 have z1:b<w1.heap.size:=lt_of_heap o1
 clear I
 have p0:=cell_of_cells o1 0 rfl
 have p1:=cell_of_cells o1 1 rfl
 have p3:=cell_of_cells o1 3 rfl
 have p4:=cell_of_cells o1 4 rfl
 go_wp2_with fail
 refine(HW2.out _ D _ _ PA2.out (HR2.out.kept K1 HD.out) HD.out HI.out).mono ?_
 rintro e w4 ⟨rfl,I,K4⟩
 have HI:=Lib.hid I
 have o1:=K4.obj o1 hbM
 have z1:b<w4.heap.size:=lt_of_heap o1
 clear I
 have p0:=cell_of_cells o1 0 rfl
 have p1:=cell_of_cells o1 1 rfl
 have p3:=cell_of_cells o1 3 rfl
 have p4:=cell_of_cells o1 4 rfl
 go_wp2_with fail
 refine(HW3.out _ D _ _ PA3.out ((HR3.out.kept K1 HD.out).kept K4 HD.out) HD.out HI.out).mono ?_
 rintro e w5 ⟨rfl,I,K5⟩
 have HI:=Lib.hid I
 have o1:=K5.obj o1 hbM
 have z1:b<w5.heap.size:=lt_of_heap o1
 clear I
 have p0:=cell_of_cells o1 0 rfl
 have p1:=cell_of_cells o1 1 rfl
 have p3:=cell_of_cells o1 3 rfl
 have p4:=cell_of_cells o1 4 rfl
 go_wp2_with fail
 refine(HL.out _ _ HI.out).mono ?_
 rintro e wz ⟨rfl,I,Kz⟩
 have HI:=Lib.hid I
 clear I
 go_wp2_with fail
 go_end0
 have I:=HI.out
 refine⟨rfl,?_,(((K1).trans K4).trans K5).trans Kz⟩
 rw[V.sem_n .range _ _ _ _ _ _ _ _ _ trivial ok.2]
 show Inv (sem f3 (sem f2 (sem f1 (sem f0 (step (.n .range text num o b f0 f1 f2 f3) s))))) wz
 rw[V.none f1 m1' i1]
 rw[V.none f0 m0' i0]
 exact I
theorem walk_func{σ:Type}{T:TypeId}{x:Value}{F:Nat}{rcv:Value}{M:Nat→Prop}{Inv:σ→World→Prop}{sem step:A→σ→σ}{PA:A→σ→Prop}{SK:K→Bool}(V:Vis σ T x F rcv M Inv sem step PA SK)(text:Str)(num:Int)(o:Option Addr)(b:Nat)(f0 f1 f2 f3:A)(ok:VV (A.n .func text num o b f0 f1 f2 f3).N∧SK .func=true)(i0:f0.isn)(m0:f0.K=.none)(i1:f1.isn)(m1:f1.K=.ident)(W1:WalkOk T x M Inv sem PA f1)(i2:f2.isn)(m2:f2.K=.ftype)(W2:WalkOk T x M Inv sem PA f2)(i3:f3.isn)(m3:f3.K=.block)(W3:WalkOk T x M Inv sem PA f3):WalkOk T x M Inv sem PA (.n .func text num o b f0 f1 f2 f3):=by
 intro w D v s pa hR hD hI
 have m0':=m0
 have pas:=V.her_n .func text num o b f0 f1 f2 f3 s trivial ok.2 pa
 have pa1:=pas.2.1 (by decide)
 rw[V.none f0 m0 i0]at pa1
 have PA1:=Lib.hid pa1
 clear pa1
 have pa2:=pas.2.2.1 (by decide)
 rw[V.none f0 m0 i0]at pa2
 have PA2:=Lib.hid pa2
 clear pa2
 have pa3:=pas.2.2.2 (by decide)
 rw[V.none f0 m0 i0]at pa3
 have PA3:=Lib.hid pa3
 clear pa3
 clear pas
 obtain⟨rfl,hb,v0,v1,v2,v3,ho,r0,r1,r2,r3⟩:=open_func (m:=1) (.inr rfl) i0 i1 i2 i3 hR
 obtain rfl:=none_of0 i0 m0 r0
 obtain⟨b1,rfl,-⟩:=ptr_of m1 trivial r1
 have r1:=iface_ptr m1 trivial r1
 obtain⟨b2,rfl,-⟩:=ptr_of m2 trivial r2
 have r2:=iface_ptr m2 trivial r2
 obtain⟨b3,rfl,-⟩:=ptr_of m3 trivial r3
 have r3:=iface_ptr m3 trivial r3
 have hbM:=hD b hb
 have HV:=Lib.hid (V.visit (.n .func text num o b f0 f1 f2 f3) w D _ s ok.1 pa ok.2 hR hD hI)
 have HL:=Lib.hid V.leave
 have HD:=Lib.hid hD
 have Ho:=Lib.hid ho
 have HR0:=Lib.hid r0
 clear r0 m0
 have HR1:=Lib.hid r1
 have HW1:=Lib.hid W1
 clear r1 W1 m1
 have HR2:=Lib.hid r2
 have HW2:=Lib.hid W2
 clear r2 W2 m2
 have HR3:=Lib.hid r3
 have HW3:=Lib.hid W3
 clear r3 W3 m3
 clear hR hI ho
 have hm:=V.meth
 have he:=V.ent
 obtain⟨a0,a1,a2,a3,a4,a5,a6,a7,a8,a9,a10,a11,a12,a13,a14,a15,a16,a17,a18,a19,a20,a21,a22,a23,a24,a25,a26,a27,a28,a29,a30,a31,a32,a33,a34,a35,a36,a37,a38,a39,a40,a41,a42,a43,a44,a45,-⟩:=nobs 54 b 74 [83,196,120,208,211,216,220,190,224,227,230,233,172,236,238,242,245,248,251,122,257,260,262,266,272,278,280,283,286,289,293,295,298,123,305,308,311,314,317,320,323,326,142,329,151,134] (by decide)
 have t_FuncDecl:∀ w,(Instr.typeAssert (.iface 54 (.pointer (some ⟨b,0,none⟩))) 74 54 true).run Tryz.prog w=.ok (.tuple #[.pointer (some ⟨b,0,none⟩),.bool true]) w:=fun w=>as_func _ _ w
 show Calls Tryz.prog 59 #[.iface T x,.iface 54 (.pointer (some ⟨b,0,none⟩))] w _
 go_enter Tryz.func59,Tryz.ntmps59
 go_wp2_with fail
 refine HV.out.mono ?_
 rintro e w1 ⟨rfl,I,K1⟩
 have HI:=Lib.hid I
 have o1:=K1.obj Ho.out hbM
 have z1:b<w1.heap.size:=lt_of_heap o1
 clear I
 have p0:=cell_of_cells o1 0 rfl
 have p1:=cell_of_cells o1 1 rfl
 have p2:=cell_of_cells o1 2 rfl
 have p3:=cell_of_cells o1 3 rfl
 go_wp2_with fail
 refine(HW1.out _ D _ _ PA1.out (HR1.out.kept K1 HD.out) HD.out HI.out).mono ?_
 rintro e w3 ⟨rfl,I,K3⟩
 have HI:=Lib.hid I
 have o1:=K3.obj o1 hbM
 have z1:b<w3.heap.size:=lt_of_heap o1
 clear I
 have p0:=cell_of_cells o1 0 rfl
 have p1:=cell_of_cells o1 1 rfl
 have p2:=cell_of_cells o1 2 rfl
 have p3:=cell_of_cells o1 3 rfl
 go_wp2_with fail
 refine(HW2.out _ D _ _ PA2.out ((HR2.out.kept K1 HD.out).kept K3 HD.out) HD.out HI.out).mono ?_
 rintro e w4 ⟨rfl,I,K4⟩
 have HI:=Lib.hid I
 have o1:=K4.obj o1 hbM
 have z1:b<w4.heap.size:=lt_of_heap o1
 clear I
 have p0:=cell_of_cells o1 0 rfl
 have p1:=cell_of_cells o1 1 rfl
 have p2:=cell_of_cells o1 2 rfl
 have p3:=cell_of_cells o1 3 rfl
 go_wp2_with fail
 refine(HW3.out _ D _ _ PA3.out (((HR3.out.kept K1 HD.out).kept K3 HD.out).kept K4 HD.out) HD.out HI.out).mono ?_
 rintro e w5 ⟨rfl,I,K5⟩
 have HI:=Lib.hid I
 have o1:=K5.obj o1 hbM
 have z1:b<w5.heap.size:=lt_of_heap o1
 clear I
 have p0:=cell_of_cells o1 0 rfl
 have p1:=cell_of_cells o1 1 rfl
 have p2:=cell_of_cells o1 2 rfl
 have p3:=cell_of_cells o1 3 rfl
 go_wp2_with fail
 refine(HL.out _ _ HI.out).mono ?_
 rintro e wz ⟨rfl,I,Kz⟩
 have HI:=Lib.hid I
 clear I
 go_wp2_with fail
 go_end0
 have I:=HI.out
 refine⟨rfl,?_,((((K1).trans K3).trans K4).trans K5).trans Kz⟩
 rw[V.sem_n .func _ _ _ _ _ _ _ _ _ trivial ok.2]
 show Inv (sem f3 (sem f2 (sem f1 (sem f0 (step (.n .func text num o b f0 f1 f2 f3) s))))) wz
 rw[V.none f0 m0' i0]
 exact I
end Go.Proofs.YtleolbpibjnedaaGreat
