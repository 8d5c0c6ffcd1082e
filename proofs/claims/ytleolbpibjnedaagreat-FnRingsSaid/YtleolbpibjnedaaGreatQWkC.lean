/- xast.Walk, kind by kind. -/
import Derived.Test.YtleolbpibjnedaaGreatQWkA
set_option linter.unusedSimpArgs false
set_option linter.unusedVariables false
set_option maxRecDepth 100000
set_option maxHeartbeats 4000000
namespace Go.Proofs.YtleolbpibjnedaaGreat
open Go Go.RowKit Gc
theorem walk_branch{σ:Type}{T:TypeId}{x:Value}{F:Nat}{rcv:Value}{M:Nat→Prop}{Inv:σ→World→Prop}{sem step:A→σ→σ}{PA:A→σ→Prop}{SK:K→Bool}(V:Vis σ T x F rcv M Inv sem step PA SK)(text:Str)(num:Int)(o:Option Addr)(b:Nat)(f0 f1 f2 f3:A)(ok:VV (A.n .branch text num o b f0 f1 f2 f3).N∧SK .branch=true)(i0:f0.isn)(m0:f0.K=.none):WalkOk T x M Inv sem PA (.n .branch text num o b f0 f1 f2 f3):=by
 intro w D v s pa hR hD hI
 have m0':=m0
 have pas:=V.her_n .branch text num o b f0 f1 f2 f3 s trivial ok.2 pa
 clear pas
 obtain⟨rfl,hb,v0,ho,r0⟩:=open_branch (m:=1) (.inr rfl) i0 hR
 obtain rfl:=none_of0 i0 m0 r0
 have hbM:=hD b hb
 have HV:=Lib.hid (V.visit (.n .branch text num o b f0 f1 f2 f3) w D _ s ok.1 pa ok.2 hR hD hI)
 have HL:=Lib.hid V.leave
 have HD:=Lib.hid hD
 have Ho:=Lib.hid ho
 have HR0:=Lib.hid r0
 clear r0 m0
 clear hR hI ho
 have hm:=V.meth
 have he:=V.ent
 obtain⟨a0,a1,a2,a3,a4,a5,a6,a7,a8,a9,a10,a11,a12,a13,a14,a15,a16,a17,a18,a19,a20,a21,a22,a23,a24,a25,a26,a27,a28,a29,a30,a31,-⟩:=nobs 298 b 74 [83,196,120,208,211,216,220,190,224,227,230,233,172,236,238,242,245,248,251,122,257,260,262,266,272,278,280,283,286,289,293,295] (by decide)
 have t_BranchStmt:∀ w,(Instr.typeAssert (.iface 298 (.pointer (some ⟨b,0,none⟩))) 74 298 true).run Tryz.prog w=.ok (.tuple #[.pointer (some ⟨b,0,none⟩),.bool true]) w:=fun w=>as_branch _ _ w
 show Calls Tryz.prog 59 #[.iface T x,.iface 298 (.pointer (some ⟨b,0,none⟩))] w _
 go_enter Tryz.func59,Tryz.ntmps59
 go_wp2_with fail
 refine HV.out.mono ?_
 rintro e w1 ⟨rfl,I,K1⟩
 have HI:=Lib.hid I
 have o1:=K1.obj Ho.out hbM
 have z1:b<w1.heap.size:=lt_of_heap o1
 clear I
 have p1:=cell_of_cells o1 1 rfl
 go_wp2_with fail
 refine(HL.out _ _ HI.out).mono ?_
 rintro e wz ⟨rfl,I,Kz⟩
 have HI:=Lib.hid I
 clear I
 go_wp2_with fail
 go_end0
 have I:=HI.out
 refine⟨rfl,?_,(K1).trans Kz⟩
 rw[V.sem_n .branch _ _ _ _ _ _ _ _ _ trivial ok.2]
 show Inv (sem f0 (step (.n .branch text num o b f0 f1 f2 f3) s)) wz
 rw[V.none f0 m0' i0]
 exact I
theorem walk_branch_to{σ:Type}{T:TypeId}{x:Value}{F:Nat}{rcv:Value}{M:Nat→Prop}{Inv:σ→World→Prop}{sem step:A→σ→σ}{PA:A→σ→Prop}{SK:K→Bool}(V:Vis σ T x F rcv M Inv sem step PA SK)(text:Str)(num:Int)(o:Option Addr)(b:Nat)(f0 f1 f2 f3:A)(ok:VV (A.n .branch text num o b f0 f1 f2 f3).N∧SK .branch=true)(i0:f0.isn)(m0:f0.K=.ident)(W0:WalkOk T x M Inv sem PA f0):WalkOk T x M Inv sem PA (.n .branch text num o b f0 f1 f2 f3):=by
 intro w D v s pa hR hD hI
 have pas:=V.her_n .branch text num o b f0 f1 f2 f3 s trivial ok.2 pa
 have pa0:=pas.1 (by decide)
 have PA0:=Lib.hid pa0
 clear pa0
 clear pas
 obtain⟨rfl,hb,v0,ho,r0⟩:=open_branch (m:=1) (.inr rfl) i0 hR
 obtain⟨b0,rfl,-⟩:=ptr_of m0 trivial r0
 have r0:=iface_ptr m0 trivial r0
 have hbM:=hD b hb
 have HV:=Lib.hid (V.visit (.n .branch text num o b f0 f1 f2 f3) w D _ s ok.1 pa ok.2 hR hD hI)
 have HL:=Lib.hid V.leave
 have HD:=Lib.hid hD
 have Ho:=Lib.hid ho
 have HR0:=Lib.hid r0
 have HW0:=Lib.hid W0
 clear r0 W0 m0
 clear hR hI ho
 have hm:=V.meth
 have he:=V.ent
 obtain⟨a0,a1,a2,a3,a4,a5,a6,a7,a8,a9,a10,a11,a12,a13,a14,a15,a16,a17,a18,a19,a20,a21,a22,a23,a24,a25,a26,a27,a28,a29,a30,a31,-⟩:=nobs 298 b 74 [83,196,120,208,211,216,220,190,224,227,230,233,172,236,238,242,245,248,251,122,257,260,262,266,272,278,280,283,286,289,293,295] (by decide)
 have t_BranchStmt:∀ w,(Instr.typeAssert (.iface 298 (.pointer (some ⟨b,0,none⟩))) 74 298 true).run Tryz.prog w=.ok (.tuple #[.pointer (some ⟨b,0,none⟩),.bool true]) w:=fun w=>as_branch _ _ w
 show Calls Tryz.prog 59 #[.iface T x,.iface 298 (.pointer (some ⟨b,0,none⟩))] w _
 go_enter Tryz.func59,Tryz.ntmps59
 go_wp2_with fail
 refine HV.out.mono ?_
 rintro e w1 ⟨rfl,I,K1⟩
 have HI:=Lib.hid I
 have o1:=K1.obj Ho.out hbM
 have z1:b<w1.heap.size:=lt_of_heap o1
 clear I
 have p1:=cell_of_cells o1 1 rfl
 go_wp2_with fail
 refine(HW0.out _ D _ _ PA0.out (HR0.out.kept K1 HD.out) HD.out HI.out).mono ?_
 rintro e w2 ⟨rfl,I,K2⟩
 have HI:=Lib.hid I
 have o1:=K2.obj o1 hbM
 have z1:b<w2.heap.size:=lt_of_heap o1
 clear I
 have p1:=cell_of_cells o1 1 rfl
 go_wp2_with fail
 refine(HL.out _ _ HI.out).mono ?_
 rintro e wz ⟨rfl,I,Kz⟩
 have HI:=Lib.hid I
 clear I
 go_wp2_with fail
 go_end0
 have I:=HI.out
 refine⟨rfl,?_,((K1).trans K2).trans Kz⟩
 rw[V.sem_n .branch _ _ _ _ _ _ _ _ _ trivial ok.2]
 show Inv (sem f0 (step (.n .branch text num o b f0 f1 f2 f3) s)) wz
 exact I
theorem walk_block{σ:Type}{T:TypeId}{x:Value}{F:Nat}{rcv:Value}{M:Nat→Prop}{Inv:σ→World→Prop}{sem step:A→σ→σ}{PA:A→σ→Prop}{SK:K→Bool}(V:Vis σ T x F rcv M Inv sem step PA SK)(text:Str)(num:Int)(o:Option Addr)(b:Nat)(f0 f1 f2 f3:A)(ok:VV (A.n .block text num o b f0 f1 f2 f3).N∧SK .block=true)(i0:f0.isn)(W0:WalkLOk T x M Inv sem PA 104 f0)(c0:∃ l:A,l.isList∧∀ (w:World) (D:Nat→Prop) (v:Value),Rep w D (f0.g 2 .fin) [v]→∃ g c,v=.slice g l.len c):WalkOk T x M Inv sem PA (.n .block text num o b f0 f1 f2 f3):=by
 intro w D v s pa hR hD hI
 have pas:=V.her_n .block text num o b f0 f1 f2 f3 s trivial ok.2 pa
 have pa0:=pas.1 (by decide)
 have PA0:=Lib.hid pa0
 clear pa0
 clear pas
 obtain⟨rfl,hb,v0,ho,r0⟩:=open_block (m:=1) (.inr rfl) i0 hR
 obtain⟨l0,-,q0⟩:=c0
 obtain⟨g0,c0,rfl⟩:=q0 w D v0 r0
 have hbM:=hD b hb
 have HV:=Lib.hid (V.visit (.n .block text num o b f0 f1 f2 f3) w D _ s ok.1 pa ok.2 hR hD hI)
 have HL:=Lib.hid V.leave
 have HD:=Lib.hid hD
 have Ho:=Lib.hid ho
 have HR0:=Lib.hid r0
 have HW0:=Lib.hid W0
 clear r0 W0 q0
 clear hR hI ho
 have hm:=V.meth
 have he:=V.ent
 obtain⟨a0,a1,a2,a3,a4,a5,a6,a7,a8,a9,a10,a11,a12,a13,a14,a15,a16,a17,a18,a19,a20,a21,a22,a23,a24,a25,a26,a27,a28,a29,a30,a31,a32,-⟩:=nobs 123 b 74 [83,196,120,208,211,216,220,190,224,227,230,233,172,236,238,242,245,248,251,122,257,260,262,266,272,278,280,283,286,289,293,295,298] (by decide)
 have t_BlockStmt:∀ w,(Instr.typeAssert (.iface 123 (.pointer (some ⟨b,0,none⟩))) 74 123 true).run Tryz.prog w=.ok (.tuple #[.pointer (some ⟨b,0,none⟩),.bool true]) w:=fun w=>as_block _ _ w
 show Calls Tryz.prog 59 #[.iface T x,.iface 123 (.pointer (some ⟨b,0,none⟩))] w _
 go_enter Tryz.func59,Tryz.ntmps59
 go_wp2_with fail
 refine HV.out.mono ?_
 rintro e w1 ⟨rfl,I,K1⟩
 have HI:=Lib.hid I
 have o1:=K1.obj Ho.out hbM
 have z1:b<w1.heap.size:=lt_of_heap o1
 clear I
 have p0:=cell_of_cells o1 0 rfl
 go_wp2_with fail
 refine(HW0.out _ D _ _ PA0.out (HR0.out.kept K1 HD.out) HD.out HI.out).mono ?_
 rintro e w2 ⟨rfl,I,K2⟩
 have HI:=Lib.hid I
 have o1:=K2.obj o1 hbM
 have z1:b<w2.heap.size:=lt_of_heap o1
 clear I
 have p0:=cell_of_cells o1 0 rfl
 go_wp2_with fail
 refine(HL.out _ _ HI.out).mono ?_
 rintro e wz ⟨rfl,I,Kz⟩
 have HI:=Lib.hid I
 clear I
 go_wp2_with fail
 go_end0
 have I:=HI.out
 refine⟨rfl,?_,((K1).trans K2).trans Kz⟩
 rw[V.sem_n .block _ _ _ _ _ _ _ _ _ trivial ok.2]
 show Inv (sem f0 (step (.n .block text num o b f0 f1 f2 f3) s)) wz
 exact I
theorem walk_select{σ:Type}{T:TypeId}{x:Value}{F:Nat}{rcv:Value}{M:Nat→Prop}{Inv:σ→World→Prop}{sem step:A→σ→σ}{PA:A→σ→Prop}{SK:K→Bool}(V:Vis σ T x F rcv M Inv sem step PA SK)(text:Str)(num:Int)(o:Option Addr)(b:Nat)(f0 f1 f2 f3:A)(ok:VV (A.n .select text num o b f0 f1 f2 f3).N∧SK .select=true)(i0:f0.isn)(m0:f0.K=.block)(W0:WalkOk T x M Inv sem PA f0):WalkOk T x M Inv sem PA (.n .select text num o b f0 f1 f2 f3):=by
 intro w D v s pa hR hD hI
 have pas:=V.her_n .select text num o b f0 f1 f2 f3 s trivial ok.2 pa
 have pa0:=pas.1 (by decide)
 have PA0:=Lib.hid pa0
 clear pa0
 clear pas
 obtain⟨rfl,hb,v0,ho,r0⟩:=open_select (m:=1) (.inr rfl) i0 hR
 obtain⟨b0,rfl,-⟩:=ptr_of m0 trivial r0
 have r0:=iface_ptr m0 trivial r0
 have hbM:=hD b hb
 have HV:=Lib.hid (V.visit (.n .select text num o b f0 f1 f2 f3) w D _ s ok.1 pa ok.2 hR hD hI)
 have HL:=Lib.hid V.leave
 have HD:=Lib.hid hD
 have Ho:=Lib.hid ho
 have HR0:=Lib.hid r0
 have HW0:=Lib.hid W0
 clear r0 W0 m0
 clear hR hI ho
 have hm:=V.meth
 have he:=V.ent
 obtain⟨a0,a1,a2,a3,a4,a5,a6,a7,a8,a9,a10,a11,a12,a13,a14,a15,a16,a17,a18,a19,a20,a21,a22,a23,a24,a25,a26,a27,a28,a29,a30,a31,a32,a33,a34,a35,a36,a37,a38,-⟩:=nobs 320 b 74 [83,196,120,208,211,216,220,190,224,227,230,233,172,236,238,242,245,248,251,122,257,260,262,266,272,278,280,283,286,289,293,295,298,123,305,308,311,314,317] (by decide)
 have t_SelectStmt:∀ w,(Instr.typeAssert (.iface 320 (.pointer (some ⟨b,0,none⟩))) 74 320 true).run Tryz.prog w=.ok (.tuple #[.pointer (some ⟨b,0,none⟩),.bool true]) w:=fun w=>as_select _ _ w
 show Calls Tryz.prog 59 #[.iface T x,.iface 320 (.pointer (some ⟨b,0,none⟩))] w _
 go_enter Tryz.func59,Tryz.ntmps59
 go_wp2_with fail
 refine HV.out.mono ?_
 rintro e w1 ⟨rfl,I,K1⟩
 have HI:=Lib.hid I
 have o1:=K1.obj Ho.out hbM
 have z1:b<w1.heap.size:=lt_of_heap o1
 clear I
 have p0:=cell_of_cells o1 0 rfl
 go_wp2_with fail
 refine(HW0.out _ D _ _ PA0.out (HR0.out.kept K1 HD.out) HD.out HI.out).mono ?_
 rintro e w2 ⟨rfl,I,K2⟩
 have HI:=Lib.hid I
 have o1:=K2.obj o1 hbM
 have z1:b<w2.heap.size:=lt_of_heap o1
 clear I
 have p0:=cell_of_cells o1 0 rfl
 go_wp2_with fail
 refine(HL.out _ _ HI.out).mono ?_
 rintro e wz ⟨rfl,I,Kz⟩
 have HI:=Lib.hid I
 clear I
 go_wp2_with fail
 go_end0
 have I:=HI.out
 refine⟨rfl,?_,((K1).trans K2).trans Kz⟩
 rw[V.sem_n .select _ _ _ _ _ _ _ _ _ trivial ok.2]
 show Inv (sem f0 (step (.n .select text num o b f0 f1 f2 f3) s)) wz
 exact I
theorem walk_labeled{σ:Type}{T:TypeId}{x:Value}{F:Nat}{rcv:Value}{M:Nat→Prop}{Inv:σ→World→Prop}{sem step:A→σ→σ}{PA:A→σ→Prop}{SK:K→Bool}(V:Vis σ T x F rcv M Inv sem step PA SK)(text:Str)(num:Int)(o:Option Addr)(b:Nat)(f0 f1 f2 f3:A)(ok:VV (A.n .labeled text num o b f0 f1 f2 f3).N∧SK .labeled=true)(i0:f0.isn)(m0:f0.K=.ident)(W0:WalkOk T x M Inv sem PA f0)(i1:f1.isn)(k1:K)(hk1:k1.real)(m1:f1.K=k1)(W1:WalkOk T x M Inv sem PA f1):WalkOk T x M Inv sem PA (.n .labeled text num o b f0 f1 f2 f3):=by
 intro w D v s pa hR hD hI
 have pas:=V.her_n .labeled text num o b f0 f1 f2 f3 s trivial ok.2 pa
 have pa0:=pas.1 (by decide)
 have PA0:=Lib.hid pa0
 clear pa0
 have pa1:=pas.2.1 (by decide)
 have PA1:=Lib.hid pa1
 clear pa1
 clear pas
 obtain⟨rfl,hb,v0,v1,ho,r0,r1⟩:=open_labeled (m:=1) (.inr rfl) i0 i1 hR
 obtain⟨b0,rfl,-⟩:=ptr_of m0 trivial r0
 have r0:=iface_ptr m0 trivial r0
 obtain⟨b1,rfl,-⟩:=iface_of m1 hk1 r1
 have hbM:=hD b hb
 have HV:=Lib.hid (V.visit (.n .labeled text num o b f0 f1 f2 f3) w D _ s ok.1 pa ok.2 hR hD hI)
 have HL:=Lib.hid V.leave
 have HD:=Lib.hid hD
 have Ho:=Lib.hid ho
 have HR0:=Lib.hid r0
 have HW0:=Lib.hid W0
 clear r0 W0 m0
 have HR1:=Lib.hid r1
 have HW1:=Lib.hid W1
 clear r1 W1 m1
 clear hR hI ho
 have hm:=V.meth
 have he:=V.ent
 obtain⟨a0,a1,a2,a3,a4,a5,a6,a7,a8,a9,a10,a11,a12,a13,a14,a15,a16,a17,a18,a19,a20,a21,a22,a23,-⟩:=nobs 272 b 74 [83,196,120,208,211,216,220,190,224,227,230,233,172,236,238,242,245,248,251,122,257,260,262,266] (by decide)
 have t_LabeledStmt:∀ w,(Instr.typeAssert (.iface 272 (.pointer (some ⟨b,0,none⟩))) 74 272 true).run Tryz.prog w=.ok (.tuple #[.pointer (some ⟨b,0,none⟩),.bool true]) w:=fun w=>as_labeled _ _ w
 show Calls Tryz.prog 59 #[.iface T x,.iface 272 (.pointer (some ⟨b,0,none⟩))] w _
 go_enter Tryz.func59,Tryz.ntmps59
 go_wp2_with fail
 refine HV.out.mono ?_
 rintro e w1 ⟨rfl,I,K1⟩
 have HI:=Lib.hid I
 have o1:=K1.obj Ho.out hbM
 have z1:b<w1.heap.size:=lt_of_heap o1
 clear I
 have p0:=cell_of_cells o1 0 rfl
 have p1:=cell_of_cells o1 1 rfl
 go_wp2_with fail
 refine(HW0.out _ D _ _ PA0.out (HR0.out.kept K1 HD.out) HD.out HI.out).mono ?_
 rintro e w2 ⟨rfl,I,K2⟩
 have HI:=Lib.hid I
 have o1:=K2.obj o1 hbM
 have z1:b<w2.heap.size:=lt_of_heap o1
 clear I
 have p0:=cell_of_cells o1 0 rfl
 have p1:=cell_of_cells o1 1 rfl
 go_wp2_with fail
 refine(HW1.out _ D _ _ PA1.out ((HR1.out.kept K1 HD.out).kept K2 HD.out) HD.out HI.out).mono ?_
 rintro e w3 ⟨rfl,I,K3⟩
 have HI:=Lib.hid I
 have o1:=K3.obj o1 hbM
 have z1:b<w3.heap.size:=lt_of_heap o1
 clear I
 have p0:=cell_of_cells o1 0 rfl
 have p1:=cell_of_cells o1 1 rfl
 go_wp2_with fail
 refine(HL.out _ _ HI.out).mono ?_
 rintro e wz ⟨rfl,I,Kz⟩
 have HI:=Lib.hid I
 clear I
 go_wp2_with fail
 go_end0
 have I:=HI.out
 refine⟨rfl,?_,(((K1).trans K2).trans K3).trans Kz⟩
 rw[V.sem_n .labeled _ _ _ _ _ _ _ _ _ trivial ok.2]
 show Inv (sem f1 (sem f0 (step (.n .labeled text num o b f0 f1 f2 f3) s))) wz
 exact I
end Go.Proofs.YtleolbpibjnedaaGreat
