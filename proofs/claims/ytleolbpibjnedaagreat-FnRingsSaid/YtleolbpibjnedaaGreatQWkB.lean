/- xast.Walk, kind by kind. -/
import Derived.Test.YtleolbpibjnedaaGreatQWkA
set_option linter.unusedSimpArgs false
set_option linter.unusedVariables false
set_option maxRecDepth 100000
set_option maxHeartbeats 4000000
namespace Go.Proofs.YtleolbpibjnedaaGreat
open Go Go.RowKit Gc
theorem walk_flit{σ:Type}{T:TypeId}{x:Value}{F:Nat}{rcv:Value}{M:Nat→Prop}{Inv:σ→World→Prop}{sem step:A→σ→σ}{PA:A→σ→Prop}{SK:K→Bool}(V:Vis σ T x F rcv M Inv sem step PA SK)(text:Str)(num:Int)(o:Option Addr)(b:Nat)(f0 f1 f2 f3:A)(ok:VV (A.n .flit text num o b f0 f1 f2 f3).N∧SK .flit=true)(i0:f0.isn)(m0:f0.K=.ftype)(W0:WalkOk T x M Inv sem PA f0)(i1:f1.isn)(m1:f1.K=.block)(W1:WalkOk T x M Inv sem PA f1):WalkOk T x M Inv sem PA (.n .flit text num o b f0 f1 f2 f3):=by
 intro w D v s pa hR hD hI
 have pas:=V.her_n .flit text num o b f0 f1 f2 f3 s trivial ok.2 pa
 have pa0:=pas.1 (by decide)
 have PA0:=Lib.hid pa0
 clear pa0
 have pa1:=pas.2.1 (by decide)
 have PA1:=Lib.hid pa1
 clear pa1
 clear pas
 obtain⟨rfl,hb,v0,v1,ho,r0,r1⟩:=open_flit (m:=1) (.inr rfl) i0 i1 hR
 obtain⟨b0,rfl,-⟩:=ptr_of m0 trivial r0
 have r0:=iface_ptr m0 trivial r0
 obtain⟨b1,rfl,-⟩:=ptr_of m1 trivial r1
 have r1:=iface_ptr m1 trivial r1
 have hbM:=hD b hb
 have HV:=Lib.hid (V.visit (.n .flit text num o b f0 f1 f2 f3) w D _ s ok.1 pa ok.2 hR hD hI)
 have HL:=Lib.hid V.leave
 have HD:=Lib.hid hD
 have Ho:=Lib.hid ho
 have HR0:=Lib.hid r0
 have HW0:=Lib.hid W0
 clear r0 W0 m0
 have HR1:=Lib.hid r1
 have HW1:=Lib.hid W1
 clear r1 W1 m1
 clear hR hI ho
 have hm:=V.meth
 have he:=V.ent
 obtain⟨a0,a1,a2,a3,-⟩:=nobs 211 b 74 [83,196,120,208] (by decide)
 have t_FuncLit:∀ w,(Instr.typeAssert (.iface 211 (.pointer (some ⟨b,0,none⟩))) 74 211 true).run Tryz.prog w=.ok (.tuple #[.pointer (some ⟨b,0,none⟩),.bool true]) w:=fun w=>as_flit _ _ w
 show Calls Tryz.prog 59 #[.iface T x,.iface 211 (.pointer (some ⟨b,0,none⟩))] w _
 go_enter Tryz.func59,Tryz.ntmps59
 go_wp2_with fail
 refine HV.out.mono ?_
 rintro e w1 ⟨rfl,I,K1⟩
 have HI:=Lib.hid I
 have o1:=K1.obj Ho.out hbM
 have z1:b<w1.heap.size:=lt_of_heap o1
 clear I
 have p0:=cell_of_cells o1 0 rfl
 have p1:=cell_of_cells o1 1 rfl
 go_wp2_with fail
 refine(HW0.out _ D _ _ PA0.out (HR0.out.kept K1 HD.out) HD.out HI.out).mono ?_
 rintro e w2 ⟨rfl,I,K2⟩
 have HI:=Lib.hid I
 have o1:=K2.obj o1 hbM
 have z1:b<w2.heap.size:=lt_of_heap o1
 clear I
 have p0:=cell_of_cells o1 0 rfl
 have p1:=cell_of_cells o1 1 rfl
 go_wp2_with fail
 refine(HW1.out _ D _ _ PA1.out ((HR1.out.kept K1 HD.out).kept K2 HD.out) HD.out HI.out).mono ?_
 rintro e w3 ⟨rfl,I,K3⟩
 have HI:=Lib.hid I
 have o1:=K3.obj o1 hbM
 have z1:b<w3.heap.size:=lt_of_heap o1
 clear I
 have p0:=cell_of_cells o1 0 rfl
 have p1:=cell_of_cells o1 1 rfl
 go_wp2_with fail
 refine(HL.out _ _ HI.out).mono ?_
 rintro e wz ⟨rfl,I,Kz⟩
 have HI:=Lib.hid I
 clear I
 go_wp2_with fail
 go_end0
 have I:=HI.out
 refine⟨rfl,?_,(((K1).trans K2).trans K3).trans Kz⟩
 rw[V.sem_n .flit _ _ _ _ _ _ _ _ _ trivial ok.2]
 show Inv (sem f1 (sem f0 (step (.n .flit text num o b f0 f1 f2 f3) s))) wz
 exact I
theorem walk_call{σ:Type}{T:TypeId}{x:Value}{F:Nat}{rcv:Value}{M:Nat→Prop}{Inv:σ→World→Prop}{sem step:A→σ→σ}{PA:A→σ→Prop}{SK:K→Bool}(V:Vis σ T x F rcv M Inv sem step PA SK)(text:Str)(num:Int)(o:Option Addr)(b:Nat)(f0 f1 f2 f3:A)(ok:VV (A.n .call text num o b f0 f1 f2 f3).N∧SK .call=true)(i0:f0.isn)(k0:K)(hk0:k0.real)(m0:f0.K=k0)(W0:WalkOk T x M Inv sem PA f0)(i1:f1.isn)(W1:WalkLOk T x M Inv sem PA 103 f1)(c1:∃ l:A,l.isList∧∀ (w:World) (D:Nat→Prop) (v:Value),Rep w D (f1.g 2 .fin) [v]→∃ g c,v=.slice g l.len c):WalkOk T x M Inv sem PA (.n .call text num o b f0 f1 f2 f3):=by
 intro w D v s pa hR hD hI
 have pas:=V.her_n .call text num o b f0 f1 f2 f3 s trivial ok.2 pa
 have pa0:=pas.1 (by decide)
 have PA0:=Lib.hid pa0
 clear pa0
 have pa1:=pas.2.1 (by decide)
 have PA1:=Lib.hid pa1
 clear pa1
 clear pas
 obtain⟨rfl,hb,v0,v1,ho,r0,r1⟩:=open_call (m:=1) (.inr rfl) i0 i1 hR
 obtain⟨b0,rfl,-⟩:=iface_of m0 hk0 r0
 obtain⟨l1,-,q1⟩:=c1
 obtain⟨g1,c1,rfl⟩:=q1 w D v1 r1
 have hbM:=hD b hb
 have HV:=Lib.hid (V.visit (.n .call text num o b f0 f1 f2 f3) w D _ s ok.1 pa ok.2 hR hD hI)
 have HL:=Lib.hid V.leave
 have HD:=Lib.hid hD
 have Ho:=Lib.hid ho
 have HR0:=Lib.hid r0
 have HW0:=Lib.hid W0
 clear r0 W0 m0
 have HR1:=Lib.hid r1
 have HW1:=Lib.hid W1
 clear r1 W1 q1
 clear hR hI ho
 have hm:=V.meth
 have he:=V.ent
 obtain⟨a0,a1,a2,a3,a4,a5,a6,a7,a8,a9,a10,a11,-⟩:=nobs 172 b 74 [83,196,120,208,211,216,220,190,224,227,230,233] (by decide)
 have t_CallExpr:∀ w,(Instr.typeAssert (.iface 172 (.pointer (some ⟨b,0,none⟩))) 74 172 true).run Tryz.prog w=.ok (.tuple #[.pointer (some ⟨b,0,none⟩),.bool true]) w:=fun w=>as_call _ _ w
 show Calls Tryz.prog 59 #[.iface T x,.iface 172 (.pointer (some ⟨b,0,none⟩))] w _
 go_enter Tryz.func59,Tryz.ntmps59
 go_wp2_with fail
 refine HV.out.mono ?_
 rintro e w1 ⟨rfl,I,K1⟩
 have HI:=Lib.hid I
 have o1:=K1.obj Ho.out hbM
 have z1:b<w1.heap.size:=lt_of_heap o1
 clear I
 have p0:=cell_of_cells o1 0 rfl
 have p1:=cell_of_cells o1 1 rfl
 go_wp2_with fail
 refine(HW0.out _ D _ _ PA0.out (HR0.out.kept K1 HD.out) HD.out HI.out).mono ?_
 rintro e w2 ⟨rfl,I,K2⟩
 have HI:=Lib.hid I
 have o1:=K2.obj o1 hbM
 have z1:b<w2.heap.size:=lt_of_heap o1
 clear I
 have p0:=cell_of_cells o1 0 rfl
 have p1:=cell_of_cells o1 1 rfl
 go_wp2_with fail
 refine(HW1.out _ D _ _ PA1.out ((HR1.out.kept K1 HD.out).kept K2 HD.out) HD.out HI.out).mono ?_
 rintro e w3 ⟨rfl,I,K3⟩
 have HI:=Lib.hid I
 have o1:=K3.obj o1 hbM
 have z1:b<w3.heap.size:=lt_of_heap o1
 clear I
 have p0:=cell_of_cells o1 0 rfl
 have p1:=cell_of_cells o1 1 rfl
 go_wp2_with fail
 refine(HL.out _ _ HI.out).mono ?_
 rintro e wz ⟨rfl,I,Kz⟩
 have HI:=Lib.hid I
 clear I
 go_wp2_with fail
 go_end0
 have I:=HI.out
 refine⟨rfl,?_,(((K1).trans K2).trans K3).trans Kz⟩
 rw[V.sem_n .call _ _ _ _ _ _ _ _ _ trivial ok.2]
 show Inv (sem f1 (sem f0 (step (.n .call text num o b f0 f1 f2 f3) s))) wz
 exact I
theorem walk_ftype{σ:Type}{T:TypeId}{x:Value}{F:Nat}{rcv:Value}{M:Nat→Prop}{Inv:σ→World→Prop}{sem step:A→σ→σ}{PA:A→σ→Prop}{SK:K→Bool}(V:Vis σ T x F rcv M Inv sem step PA SK)(text:Str)(num:Int)(o:Option Addr)(b:Nat)(f0 f1 f2 f3:A)(ok:VV (A.n .ftype text num o b f0 f1 f2 f3).N∧SK .ftype=true)(i0:f0.isn)(m0:f0.K=.none)(i1:f1.isn)(m1:f1.K=.flist)(W1:WalkOk T x M Inv sem PA f1)(i2:f2.isn)(m2:f2.K=.none):WalkOk T x M Inv sem PA (.n .ftype text num o b f0 f1 f2 f3):=by
 intro w D v s pa hR hD hI
 have m0':=m0
 have m2':=m2
 have pas:=V.her_n .ftype text num o b f0 f1 f2 f3 s trivial ok.2 pa
 have pa1:=pas.2.1 (by decide)
 rw[V.none f0 m0 i0]at pa1
 have PA1:=Lib.hid pa1
 clear pa1
 clear pas
 obtain⟨rfl,hb,v0,v1,v2,ho,r0,r1,r2⟩:=open_ftype (m:=1) (.inr rfl) i0 i1 i2 hR
 obtain rfl:=none_of0 i0 m0 r0
 obtain⟨b1,rfl,-⟩:=ptr_of m1 trivial r1
 have r1:=iface_ptr m1 trivial r1
 obtain rfl:=none_of0 i2 m2 r2
 have hbM:=hD b hb
 have HV:=Lib.hid (V.visit (.n .ftype text num o b f0 f1 f2 f3) w D _ s ok.1 pa ok.2 hR hD hI)
 have HL:=Lib.hid V.leave
 have HD:=Lib.hid hD
 have Ho:=Lib.hid ho
 have HR0:=Lib.hid r0
 clear r0 m0
 have HR1:=Lib.hid r1
 have HW1:=Lib.hid W1
 clear r1 W1 m1
 have HR2:=Lib.hid r2
 clear r2 m2
 clear hR hI ho
 have hm:=V.meth
 have he:=V.ent
 obtain⟨a0,a1,a2,a3,a4,a5,a6,a7,a8,a9,a10,a11,a12,a13,a14,a15,a16,a17,a18,-⟩:=nobs 122 b 74 [83,196,120,208,211,216,220,190,224,227,230,233,172,236,238,242,245,248,251] (by decide)
 have t_FuncType:∀ w,(Instr.typeAssert (.iface 122 (.pointer (some ⟨b,0,none⟩))) 74 122 true).run Tryz.prog w=.ok (.tuple #[.pointer (some ⟨b,0,none⟩),.bool true]) w:=fun w=>as_ftype _ _ w
 show Calls Tryz.prog 59 #[.iface T x,.iface 122 (.pointer (some ⟨b,0,none⟩))] w _
 go_enter Tryz.func59,Tryz.ntmps59
 go_wp2_with fail
 refine HV.out.mono ?_
 rintro e w1 ⟨rfl,I,K1⟩
 have HI:=Lib.hid I
 have o1:=K1.obj Ho.out hbM
 have z1:b<w1.heap.size:=lt_of_heap o1
 clear I
 have p0:=cell_of_cells o1 0 rfl
 have p1:=cell_of_cells o1 1 rfl
 have p2:=cell_of_cells o1 2 rfl
 go_wp2_with fail
 refine(HW1.out _ D _ _ PA1.out (HR1.out.kept K1 HD.out) HD.out HI.out).mono ?_
 rintro e w3 ⟨rfl,I,K3⟩
 have HI:=Lib.hid I
 have o1:=K3.obj o1 hbM
 have z1:b<w3.heap.size:=lt_of_heap o1
 clear I
 have p0:=cell_of_cells o1 0 rfl
 have p1:=cell_of_cells o1 1 rfl
 have p2:=cell_of_cells o1 2 rfl
 go_wp2_with fail
 refine(HL.out _ _ HI.out).mono ?_
 rintro e wz ⟨rfl,I,Kz⟩
 have HI:=Lib.hid I
 clear I
 go_wp2_with fail
 go_end0
 have I:=HI.out
 refine⟨rfl,?_,((K1).trans K3).trans Kz⟩
 rw[V.sem_n .ftype _ _ _ _ _ _ _ _ _ trivial ok.2]
 show Inv (sem f2 (sem f1 (sem f0 (step (.n .ftype text num o b f0 f1 f2 f3) s)))) wz
 rw[V.none f2 m2' i2]
 rw[V.none f0 m0' i0]
 exact I
theorem walk_flist{σ:Type}{T:TypeId}{x:Value}{F:Nat}{rcv:Value}{M:Nat→Prop}{Inv:σ→World→Prop}{sem step:A→σ→σ}{PA:A→σ→Prop}{SK:K→Bool}(V:Vis σ T x F rcv M Inv sem step PA SK)(text:Str)(num:Int)(o:Option Addr)(b:Nat)(f0 f1 f2 f3:A)(ok:VV (A.n .flist text num o b f0 f1 f2 f3).N∧SK .flist=true)(i0:f0.isn)(m0:f0.K=.none)(W0:WalkLOk T x M Inv sem PA 102 f0)(c0:∃ l:A,l.isList∧∀ (w:World) (D:Nat→Prop) (v:Value),Rep w D (f0.g 2 .fin) [v]→∃ g c,v=.slice g l.len c):WalkOk T x M Inv sem PA (.n .flist text num o b f0 f1 f2 f3):=by
 intro w D v s pa hR hD hI
 have pas:=V.her_n .flist text num o b f0 f1 f2 f3 s trivial ok.2 pa
 have pa0:=pas.1 (by decide)
 have PA0:=Lib.hid pa0
 clear pa0
 clear pas
 obtain⟨rfl,hb,v0,ho,r0⟩:=open_flist (m:=1) (.inr rfl) i0 hR
 obtain⟨l0,-,q0⟩:=c0
 obtain⟨g0,c0,rfl⟩:=q0 w D v0 r0
 have hbM:=hD b hb
 have HV:=Lib.hid (V.visit (.n .flist text num o b f0 f1 f2 f3) w D _ s ok.1 pa ok.2 hR hD hI)
 have HL:=Lib.hid V.leave
 have HD:=Lib.hid hD
 have Ho:=Lib.hid ho
 have HR0:=Lib.hid r0
 have HW0:=Lib.hid W0
 clear r0 W0 q0 m0
 clear hR hI ho
 have hm:=V.meth
 have he:=V.ent
 obtain⟨a0,a1,-⟩:=nobs 120 b 74 [83,196] (by decide)
 have t_FieldList:∀ w,(Instr.typeAssert (.iface 120 (.pointer (some ⟨b,0,none⟩))) 74 120 true).run Tryz.prog w=.ok (.tuple #[.pointer (some ⟨b,0,none⟩),.bool true]) w:=fun w=>as_flist _ _ w
 show Calls Tryz.prog 59 #[.iface T x,.iface 120 (.pointer (some ⟨b,0,none⟩))] w _
 go_enter Tryz.func59,Tryz.ntmps59
 go_wp2_with fail
 refine HV.out.mono ?_
 rintro e w1 ⟨rfl,I,K1⟩
 have HI:=Lib.hid I
 have o1:=K1.obj Ho.out hbM
 have z1:b<w1.heap.size:=lt_of_heap o1
 clear I
 have p0:=cell_of_cells o1 0 rfl
 go_wp2_with fail
 refine(HW0.out _ D _ _ PA0.out (HR0.out.kept K1 HD.out) HD.out HI.out).mono ?_
 rintro e w2 ⟨rfl,I,K2⟩
 have HI:=Lib.hid I
 have o1:=K2.obj o1 hbM
 have z1:b<w2.heap.size:=lt_of_heap o1
 clear I
 have p0:=cell_of_cells o1 0 rfl
 go_wp2_with fail
 refine(HL.out _ _ HI.out).mono ?_
 rintro e wz ⟨rfl,I,Kz⟩
 have HI:=Lib.hid I
 clear I
 go_wp2_with fail
 go_end0
 have I:=HI.out
 refine⟨rfl,?_,((K1).trans K2).trans Kz⟩
 rw[V.sem_n .flist _ _ _ _ _ _ _ _ _ trivial ok.2]
 show Inv (sem f0 (step (.n .flist text num o b f0 f1 f2 f3) s)) wz
 exact I
theorem walk_exprS{σ:Type}{T:TypeId}{x:Value}{F:Nat}{rcv:Value}{M:Nat→Prop}{Inv:σ→World→Prop}{sem step:A→σ→σ}{PA:A→σ→Prop}{SK:K→Bool}(V:Vis σ T x F rcv M Inv sem step PA SK)(text:Str)(num:Int)(o:Option Addr)(b:Nat)(f0 f1 f2 f3:A)(ok:VV (A.n .exprS text num o b f0 f1 f2 f3).N∧SK .exprS=true)(i0:f0.isn)(k0:K)(hk0:k0.real)(m0:f0.K=k0)(W0:WalkOk T x M Inv sem PA f0):WalkOk T x M Inv sem PA (.n .exprS text num o b f0 f1 f2 f3):=by
 intro w D v s pa hR hD hI
 have pas:=V.her_n .exprS text num o b f0 f1 f2 f3 s trivial ok.2 pa
 have pa0:=pas.1 (by decide)
 have PA0:=Lib.hid pa0
 clear pa0
 clear pas
 obtain⟨rfl,hb,v0,ho,r0⟩:=open_exprS (m:=1) (.inr rfl) i0 hR
 obtain⟨b0,rfl,-⟩:=iface_of m0 hk0 r0
 have hbM:=hD b hb
 have HV:=Lib.hid (V.visit (.n .exprS text num o b f0 f1 f2 f3) w D _ s ok.1 pa ok.2 hR hD hI)
 have HL:=Lib.hid V.leave
 have HD:=Lib.hid hD
 have Ho:=Lib.hid ho
 have HR0:=Lib.hid r0
 have HW0:=Lib.hid W0
 clear r0 W0 m0
 clear hR hI ho
 have hm:=V.meth
 have he:=V.ent
 obtain⟨a0,a1,a2,a3,a4,a5,a6,a7,a8,a9,a10,a11,a12,a13,a14,a15,a16,a17,a18,a19,a20,a21,a22,a23,a24,-⟩:=nobs 278 b 74 [83,196,120,208,211,216,220,190,224,227,230,233,172,236,238,242,245,248,251,122,257,260,262,266,272] (by decide)
 have t_ExprStmt:∀ w,(Instr.typeAssert (.iface 278 (.pointer (some ⟨b,0,none⟩))) 74 278 true).run Tryz.prog w=.ok (.tuple #[.pointer (some ⟨b,0,none⟩),.bool true]) w:=fun w=>as_exprS _ _ w
 show Calls Tryz.prog 59 #[.iface T x,.iface 278 (.pointer (some ⟨b,0,none⟩))] w _
 go_enter Tryz.func59,Tryz.ntmps59
 go_wp2_with fail
 refine HV.out.mono ?_
 rintro e w1 ⟨rfl,I,K1⟩
 have HI:=Lib.hid I
 have o1:=K1.obj Ho.out hbM
 have z1:b<w1.heap.size:=lt_of_heap o1
 clear I
 have p0:=cell_of_cells o1 0 rfl
 go_wp2_with fail
 refine(HW0.out _ D _ _ PA0.out (HR0.out.kept K1 HD.out) HD.out HI.out).mono ?_
 rintro e w2 ⟨rfl,I,K2⟩
 have HI:=Lib.hid I
 have o1:=K2.obj o1 hbM
 have z1:b<w2.heap.size:=lt_of_heap o1
 clear I
 have p0:=cell_of_cells o1 0 rfl
 go_wp2_with fail
 refine(HL.out _ _ HI.out).mono ?_
 rintro e wz ⟨rfl,I,Kz⟩
 have HI:=Lib.hid I
 clear I
 go_wp2_with fail
 go_end0
 have I:=HI.out
 refine⟨rfl,?_,((K1).trans K2).trans Kz⟩
 rw[V.sem_n .exprS _ _ _ _ _ _ _ _ _ trivial ok.2]
 show Inv (sem f0 (step (.n .exprS text num o b f0 f1 f2 f3) s)) wz
 exact I
theorem walk_inc{σ:Type}{T:TypeId}{x:Value}{F:Nat}{rcv:Value}{M:Nat→Prop}{Inv:σ→World→Prop}{sem step:A→σ→σ}{PA:A→σ→Prop}{SK:K→Bool}(V:Vis σ T x F rcv M Inv sem step PA SK)(text:Str)(num:Int)(o:Option Addr)(b:Nat)(f0 f1 f2 f3:A)(ok:VV (A.n .inc text num o b f0 f1 f2 f3).N∧SK .inc=true)(i0:f0.isn)(k0:K)(hk0:k0.real)(m0:f0.K=k0)(W0:WalkOk T x M Inv sem PA f0):WalkOk T x M Inv sem PA (.n .inc text num o b f0 f1 f2 f3):=by
 intro w D v s pa hR hD hI
 have pas:=V.her_n .inc text num o b f0 f1 f2 f3 s trivial ok.2 pa
 have pa0:=pas.1 (by decide)
 have PA0:=Lib.hid pa0
 clear pa0
 clear pas
 obtain⟨rfl,hb,v0,ho,r0⟩:=open_inc (m:=1) (.inr rfl) i0 hR
 obtain⟨b0,rfl,-⟩:=iface_of m0 hk0 r0
 have hbM:=hD b hb
 have HV:=Lib.hid (V.visit (.n .inc text num o b f0 f1 f2 f3) w D _ s ok.1 pa ok.2 hR hD hI)
 have HL:=Lib.hid V.leave
 have HD:=Lib.hid hD
 have Ho:=Lib.hid ho
 have HR0:=Lib.hid r0
 have HW0:=Lib.hid W0
 clear r0 W0 m0
 clear hR hI ho
 have hm:=V.meth
 have he:=V.ent
 obtain⟨a0,a1,a2,a3,a4,a5,a6,a7,a8,a9,a10,a11,a12,a13,a14,a15,a16,a17,a18,a19,a20,a21,a22,a23,a24,a25,a26,-⟩:=nobs 283 b 74 [83,196,120,208,211,216,220,190,224,227,230,233,172,236,238,242,245,248,251,122,257,260,262,266,272,278,280] (by decide)
 have t_IncDecStmt:∀ w,(Instr.typeAssert (.iface 283 (.pointer (some ⟨b,0,none⟩))) 74 283 true).run Tryz.prog w=.ok (.tuple #[.pointer (some ⟨b,0,none⟩),.bool true]) w:=fun w=>as_inc _ _ w
 show Calls Tryz.prog 59 #[.iface T x,.iface 283 (.pointer (some ⟨b,0,none⟩))] w _
 go_enter Tryz.func59,Tryz.ntmps59
 go_wp2_with fail
 refine HV.out.mono ?_
 rintro e w1 ⟨rfl,I,K1⟩
 have HI:=Lib.hid I
 have o1:=K1.obj Ho.out hbM
 have z1:b<w1.heap.size:=lt_of_heap o1
 clear I
 have p0:=cell_of_cells o1 0 rfl
 go_wp2_with fail
 refine(HW0.out _ D _ _ PA0.out (HR0.out.kept K1 HD.out) HD.out HI.out).mono ?_
 rintro e w2 ⟨rfl,I,K2⟩
 have HI:=Lib.hid I
 have o1:=K2.obj o1 hbM
 have z1:b<w2.heap.size:=lt_of_heap o1
 clear I
 have p0:=cell_of_cells o1 0 rfl
 go_wp2_with fail
 refine(HL.out _ _ HI.out).mono ?_
 rintro e wz ⟨rfl,I,Kz⟩
 have HI:=Lib.hid I
 clear I
 go_wp2_with fail
 go_end0
 have I:=HI.out
 refine⟨rfl,?_,((K1).trans K2).trans Kz⟩
 rw[V.sem_n .inc _ _ _ _ _ _ _ _ _ trivial ok.2]
 show Inv (sem f0 (step (.n .inc text num o b f0 f1 f2 f3) s)) wz
 exact I
theorem walk_assign{σ:Type}{T:TypeId}{x:Value}{F:Nat}{rcv:Value}{M:Nat→Prop}{Inv:σ→World→Prop}{sem step:A→σ→σ}{PA:A→σ→Prop}{SK:K→Bool}(V:Vis σ T x F rcv M Inv sem step PA SK)(text:Str)(num:Int)(o:Option Addr)(b:Nat)(f0 f1 f2 f3:A)(ok:VV (A.n .assign text num o b f0 f1 f2 f3).N∧SK .assign=true)(i0:f0.isn)(W0:WalkLOk T x M Inv sem PA 103 f0)(c0:∃ l:A,l.isList∧∀ (w:World) (D:Nat→Prop) (v:Value),Rep w D (f0.g 2 .fin) [v]→∃ g c,v=.slice g l.len c)(i1:f1.isn)(W1:WalkLOk T x M Inv sem PA 103 f1)(c1:∃ l:A,l.isList∧∀ (w:World) (D:Nat→Prop) (v:Value),Rep w D (f1.g 2 .fin) [v]→∃ g c,v=.slice g l.len c):WalkOk T x M Inv sem PA (.n .assign text num o b f0 f1 f2 f3):=by
 intro w D v s pa hR hD hI
 have pas:=V.her_n .assign text num o b f0 f1 f2 f3 s trivial ok.2 pa
 have pa0:=pas.1 (by decide)
 have PA0:=Lib.hid pa0
 clear pa0
 have pa1:=pas.2.1 (by decide)
 have PA1:=Lib.hid pa1
 clear pa1
 clear pas
 obtain⟨rfl,hb,v0,v1,ho,r0,r1⟩:=open_assign (m:=1) (.inr rfl) i0 i1 hR
 obtain⟨l0,-,q0⟩:=c0
 obtain⟨g0,c0,rfl⟩:=q0 w D v0 r0
 obtain⟨l1,-,q1⟩:=c1
 obtain⟨g1,c1,rfl⟩:=q1 w D v1 r1
 have hbM:=hD b hb
 have HV:=Lib.hid (V.visit (.n .assign text num o b f0 f1 f2 f3) w D _ s ok.1 pa ok.2 hR hD hI)
 have HL:=Lib.hid V.leave
 have HD:=Lib.hid hD
 have Ho:=Lib.hid ho
 have HR0:=Lib.hid r0
 have HW0:=Lib.hid W0
 clear r0 W0 q0
 have HR1:=Lib.hid r1
 have HW1:=Lib.hid W1
 clear r1 W1 q1
 clear hR hI ho
 have hm:=V.meth
 have he:=V.ent
 obtain⟨a0,a1,a2,a3,a4,a5,a6,a7,a8,a9,a10,a11,a12,a13,a14,a15,a16,a17,a18,a19,a20,a21,a22,a23,a24,a25,a26,a27,-⟩:=nobs 286 b 74 [83,196,120,208,211,216,220,190,224,227,230,233,172,236,238,242,245,248,251,122,257,260,262,266,272,278,280,283] (by decide)
 have t_AssignStmt:∀ w,(Instr.typeAssert (.iface 286 (.pointer (some ⟨b,0,none⟩))) 74 286 true).run Tryz.prog w=.ok (.tuple #[.pointer (some ⟨b,0,none⟩),.bool true]) w:=fun w=>as_assign _ _ w
 show Calls Tryz.prog 59 #[.iface T x,.iface 286 (.pointer (some ⟨b,0,none⟩))] w _
 go_enter Tryz.func59,Tryz.ntmps59
 go_wp2_with fail
 refine HV.out.mono ?_
 rintro e w1 ⟨rfl,I,K1⟩
 have HI:=Lib.hid I
 have o1:=K1.obj Ho.out hbM
 have z1:b<w1.heap.size:=lt_of_heap o1
 clear I
 have p0:=cell_of_cells o1 0 rfl
 have p2:=cell_of_cells o1 2 rfl
 go_wp2_with fail
 refine(HW0.out _ D _ _ PA0.out (HR0.out.kept K1 HD.out) HD.out HI.out).mono ?_
 rintro e w2 ⟨rfl,I,K2⟩
 have HI:=Lib.hid I
 have o1:=K2.obj o1 hbM
 have z1:b<w2.heap.size:=lt_of_heap o1
 clear I
 have p0:=cell_of_cells o1 0 rfl
 have p2:=cell_of_cells o1 2 rfl
 go_wp2_with fail
 refine(HW1.out _ D _ _ PA1.out ((HR1.out.kept K1 HD.out).kept K2 HD.out) HD.out HI.out).mono ?_
 rintro e w3 ⟨rfl,I,K3⟩
 have HI:=Lib.hid I
 have o1:=K3.obj o1 hbM
 have z1:b<w3.heap.size:=lt_of_heap o1
 clear I
 have p0:=cell_of_cells o1 0 rfl
 have p2:=cell_of_cells o1 2 rfl
 go_wp2_with fail
 refine(HL.out _ _ HI.out).mono ?_
 rintro e wz ⟨rfl,I,Kz⟩
 have HI:=Lib.hid I
 clear I
 go_wp2_with fail
 go_end0
 have I:=HI.out
 refine⟨rfl,?_,(((K1).trans K2).trans K3).trans Kz⟩
 rw[V.sem_n .assign _ _ _ _ _ _ _ _ _ trivial ok.2]
 show Inv (sem f1 (sem f0 (step (.n .assign text num o b f0 f1 f2 f3) s))) wz
 exact I
theorem walk_ret{σ:Type}{T:TypeId}{x:Value}{F:Nat}{rcv:Value}{M:Nat→Prop}{Inv:σ→World→Prop}{sem step:A→σ→σ}{PA:A→σ→Prop}{SK:K→Bool}(V:Vis σ T x F rcv M Inv sem step PA SK)(text:Str)(num:Int)(o:Option Addr)(b:Nat)(f0 f1 f2 f3:A)(ok:VV (A.n .ret text num o b f0 f1 f2 f3).N∧SK .ret=true)(i0:f0.isn)(W0:WalkLOk T x M Inv sem PA 103 f0)(c0:∃ l:A,l.isList∧∀ (w:World) (D:Nat→Prop) (v:Value),Rep w D (f0.g 2 .fin) [v]→∃ g c,v=.slice g l.len c):WalkOk T x M Inv sem PA (.n .ret text num o b f0 f1 f2 f3):=by
 intro w D v s pa hR hD hI
 have pas:=V.her_n .ret text num o b f0 f1 f2 f3 s trivial ok.2 pa
 have pa0:=pas.1 (by decide)
 have PA0:=Lib.hid pa0
 clear pa0
 clear pas
 obtain⟨rfl,hb,v0,ho,r0⟩:=open_ret (m:=1) (.inr rfl) i0 hR
 obtain⟨l0,-,q0⟩:=c0
 obtain⟨g0,c0,rfl⟩:=q0 w D v0 r0
 have hbM:=hD b hb
 have HV:=Lib.hid (V.visit (.n .ret text num o b f0 f1 f2 f3) w D _ s ok.1 pa ok.2 hR hD hI)
 have HL:=Lib.hid V.leave
 have HD:=Lib.hid hD
 have Ho:=Lib.hid ho
 have HR0:=Lib.hid r0
 have HW0:=Lib.hid W0
 clear r0 W0 q0
 clear hR hI ho
 have hm:=V.meth
 have he:=V.ent
 obtain⟨a0,a1,a2,a3,a4,a5,a6,a7,a8,a9,a10,a11,a12,a13,a14,a15,a16,a17,a18,a19,a20,a21,a22,a23,a24,a25,a26,a27,a28,a29,a30,-⟩:=nobs 295 b 74 [83,196,120,208,211,216,220,190,224,227,230,233,172,236,238,242,245,248,251,122,257,260,262,266,272,278,280,283,286,289,293] (by decide)
 have t_ReturnStmt:∀ w,(Instr.typeAssert (.iface 295 (.pointer (some ⟨b,0,none⟩))) 74 295 true).run Tryz.prog w=.ok (.tuple #[.pointer (some ⟨b,0,none⟩),.bool true]) w:=fun w=>as_ret _ _ w
 show Calls Tryz.prog 59 #[.iface T x,.iface 295 (.pointer (some ⟨b,0,none⟩))] w _
 go_enter Tryz.func59,Tryz.ntmps59
 go_wp2_with fail
 refine HV.out.mono ?_
 rintro e w1 ⟨rfl,I,K1⟩
 have HI:=Lib.hid I
 have o1:=K1.obj Ho.out hbM
 have z1:b<w1.heap.size:=lt_of_heap o1
 clear I
 have p0:=cell_of_cells o1 0 rfl
 go_wp2_with fail
 refine(HW0.out _ D _ _ PA0.out (HR0.out.kept K1 HD.out) HD.out HI.out).mono ?_
 rintro e w2 ⟨rfl,I,K2⟩
 have HI:=Lib.hid I
 have o1:=K2.obj o1 hbM
 have z1:b<w2.heap.size:=lt_of_heap o1
 clear I
 have p0:=cell_of_cells o1 0 rfl
 go_wp2_with fail
 refine(HL.out _ _ HI.out).mono ?_
 rintro e wz ⟨rfl,I,Kz⟩
 have HI:=Lib.hid I
 clear I
 go_wp2_with fail
 go_end0
 have I:=HI.out
 refine⟨rfl,?_,((K1).trans K2).trans Kz⟩
 rw[V.sem_n .ret _ _ _ _ _ _ _ _ _ trivial ok.2]
 show Inv (sem f0 (step (.n .ret text num o b f0 f1 f2 f3) s)) wz
 exact I
end Go.Proofs.YtleolbpibjnedaaGreat
