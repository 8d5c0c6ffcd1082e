/- xast.Walk, kind by kind. -/
import Derived.Test.YtleolbpibjnedaaGreatQWkA
set_option linter.unusedSimpArgs false
set_option linter.unusedVariables false
namespace Go.Proofs.YtleolbpibjnedaaGreat
open Go Go.RowKit Gc

set_option maxRecDepth 100000 in
set_option maxHeartbeats 1000000 in
theorem walk_flit {σ : Type} {T : TypeId} {x : Value} {F : Nat} {rcv : Value} {M : Nat → Prop} {Inv : σ → World → Prop} {sem step : A → σ → σ} {PA : A → σ → Prop} {SK : K → Bool} (V : Vis σ T x F rcv M Inv sem step PA SK) (text : Str) (num : Int) (o : Option Addr) (b : Nat) (f0 f1 f2 f3 : A) (ok : VV (A.n .flit text num o b f0 f1 f2 f3).N ∧ SK .flit = true) (i0 : f0.isn) (m0 : f0.K = .ftype) (W0 : WalkOk T x M Inv sem PA f0) (i1 : f1.isn) (m1 : f1.K = .block) (W1 : WalkOk T x M Inv sem PA f1) : WalkOk T x M Inv sem PA (.n .flit text num o b f0 f1 f2 f3) := by
  intro w D v s pa hR hD hI
  have pas := V.her_n .flit text num o b f0 f1 f2 f3 s trivial ok.2 pa
  have pa0 := pas.1 (by decide)
  have PA0 := Lib.hid pa0
  clear pa0
  have pa1 := pas.2.1 (by decide)
  have PA1 := Lib.hid pa1
  clear pa1
  clear pas
  obtain ⟨rfl, hb, v0, v1, ho, r0, r1⟩ := open_flit (m := 1) (.inr rfl) i0 i1 hR
  obtain ⟨b0, rfl, -⟩ := ptr_of m0 trivial r0
  have r0 := iface_ptr m0 trivial r0
  obtain ⟨b1, rfl, -⟩ := ptr_of m1 trivial r1
  have r1 := iface_ptr m1 trivial r1
  have hbM := hD b hb
  have HV := Lib.hid (V.visit (.n .flit text num o b f0 f1 f2 f3) w D _ s ok.1 pa ok.2 hR hD hI)
  have HL := Lib.hid V.leave
  have HD := Lib.hid hD
  have Ho := Lib.hid ho
  have HR0 := Lib.hid r0
  have HW0 := Lib.hid W0
  clear r0 W0 m0
  have HR1 := Lib.hid r1
  have HW1 := Lib.hid W1
  clear r1 W1 m1
  clear hR hI ho
  have hm := V.meth
  have he := V.ent
  have t_File := nob 211 b 74 un_File zp_File (by decide)
  have t_Field := nob 211 b 74 un_Field zp_Field (by decide)
  have t_FieldList := nob 211 b 74 un_FieldList zp_FieldList (by decide)
  have t_Ellipsis := nob 211 b 74 un_Ellipsis zp_Ellipsis (by decide)
  have t_FuncLit : ∀ w, (Instr.typeAssert (.iface 211 (.pointer (some ⟨b, 0, none⟩))) 74 211 true).run Tryz.prog w = .ok (.tuple #[.pointer (some ⟨b, 0, none⟩), .bool true]) w := fun w => as_flit _ _ w
  show Calls Tryz.prog 59 #[.iface T x, .iface 211 (.pointer (some ⟨b, 0, none⟩))] w _
  go_enter Tryz.func59, Tryz.ntmps59
  go_wp2_with fail
  refine HV.out.mono ?_
  rintro e w1 ⟨rfl, I, K1⟩
  have HI := Lib.hid I
  have o1 := K1.obj Ho.out hbM
  have z1 : b < w1.heap.size := lt_of_heap o1
  clear I
  have p0 := cell_of_cells o1 0 rfl
  have p1 := cell_of_cells o1 1 rfl
  go_wp2_with fail
  refine (HW0.out _ D _ _ PA0.out (HR0.out.kept K1 HD.out) HD.out HI.out).mono ?_
  rintro e w2 ⟨rfl, I, K2⟩
  have HI := Lib.hid I
  have o1 := K2.obj o1 hbM
  have z1 : b < w2.heap.size := lt_of_heap o1
  clear I
  have p0 := cell_of_cells o1 0 rfl
  have p1 := cell_of_cells o1 1 rfl
  go_wp2_with fail
  refine (HW1.out _ D _ _ PA1.out ((HR1.out.kept K1 HD.out).kept K2 HD.out) HD.out HI.out).mono ?_
  rintro e w3 ⟨rfl, I, K3⟩
  have HI := Lib.hid I
  have o1 := K3.obj o1 hbM
  have z1 : b < w3.heap.size := lt_of_heap o1
  clear I
  have p0 := cell_of_cells o1 0 rfl
  have p1 := cell_of_cells o1 1 rfl
  go_wp2_with fail
  refine (HL.out _ _ HI.out).mono ?_
  rintro e wz ⟨rfl, I, Kz⟩
  have HI := Lib.hid I
  clear I
  go_wp2_with fail
  go_end0
  have I := HI.out
  refine ⟨rfl, ?_, (((K1).trans K2).trans K3).trans Kz⟩
  rw [V.sem_n .flit _ _ _ _ _ _ _ _ _ trivial ok.2]
  show Inv (sem f1 (sem f0 (step (.n .flit text num o b f0 f1 f2 f3) s))) wz
  exact I

set_option maxRecDepth 100000 in
set_option maxHeartbeats 1000000 in
theorem walk_call {σ : Type} {T : TypeId} {x : Value} {F : Nat} {rcv : Value} {M : Nat → Prop} {Inv : σ → World → Prop} {sem step : A → σ → σ} {PA : A → σ → Prop} {SK : K → Bool} (V : Vis σ T x F rcv M Inv sem step PA SK) (text : Str) (num : Int) (o : Option Addr) (b : Nat) (f0 f1 f2 f3 : A) (ok : VV (A.n .call text num o b f0 f1 f2 f3).N ∧ SK .call = true) (i0 : f0.isn) (k0 : K) (hk0 : k0.real) (m0 : f0.K = k0) (W0 : WalkOk T x M Inv sem PA f0) (i1 : f1.isn) (W1 : WalkLOk T x M Inv sem PA 103 f1) (c1 : ∃ l : A, l.isList ∧ ∀ (w : World) (D : Nat → Prop) (v : Value), Rep w D (f1.g 2 .fin) [v] → ∃ g c, v = .slice g l.len c) : WalkOk T x M Inv sem PA (.n .call text num o b f0 f1 f2 f3) := by
  intro w D v s pa hR hD hI
  have pas := V.her_n .call text num o b f0 f1 f2 f3 s trivial ok.2 pa
  have pa0 := pas.1 (by decide)
  have PA0 := Lib.hid pa0
  clear pa0
  have pa1 := pas.2.1 (by decide)
  have PA1 := Lib.hid pa1
  clear pa1
  clear pas
  obtain ⟨rfl, hb, v0, v1, ho, r0, r1⟩ := open_call (m := 1) (.inr rfl) i0 i1 hR
  obtain ⟨b0, rfl, -⟩ := iface_of m0 hk0 r0
  obtain ⟨l1, -, q1⟩ := c1
  obtain ⟨g1, c1, rfl⟩ := q1 w D v1 r1
  have hbM := hD b hb
  have HV := Lib.hid (V.visit (.n .call text num o b f0 f1 f2 f3) w D _ s ok.1 pa ok.2 hR hD hI)
  have HL := Lib.hid V.leave
  have HD := Lib.hid hD
  have Ho := Lib.hid ho
  have HR0 := Lib.hid r0
  have HW0 := Lib.hid W0
  clear r0 W0 m0
  have HR1 := Lib.hid r1
  have HW1 := Lib.hid W1
  clear r1 W1 q1
  clear hR hI ho
  have hm := V.meth
  have he := V.ent
  have t_File := nob 172 b 74 un_File zp_File (by decide)
  have t_Field := nob 172 b 74 un_Field zp_Field (by decide)
  have t_FieldList := nob 172 b 74 un_FieldList zp_FieldList (by decide)
  have t_Ellipsis := nob 172 b 74 un_Ellipsis zp_Ellipsis (by decide)
  have t_FuncLit := nob 172 b 74 un_FuncLit zp_FuncLit (by decide)
  have t_CompositeLit := nob 172 b 74 un_CompositeLit zp_CompositeLit (by decide)
  have t_ParenExpr := nob 172 b 74 un_ParenExpr zp_ParenExpr (by decide)
  have t_SelectorExpr := nob 172 b 74 un_SelectorExpr zp_SelectorExpr (by decide)
  have t_IndexExpr := nob 172 b 74 un_IndexExpr zp_IndexExpr (by decide)
  have t_IndexListExpr := nob 172 b 74 un_IndexListExpr zp_IndexListExpr (by decide)
  have t_SliceExpr := nob 172 b 74 un_SliceExpr zp_SliceExpr (by decide)
  have t_TypeAssertExpr := nob 172 b 74 un_TypeAssertExpr zp_TypeAssertExpr (by decide)
  have t_CallExpr : ∀ w, (Instr.typeAssert (.iface 172 (.pointer (some ⟨b, 0, none⟩))) 74 172 true).run Tryz.prog w = .ok (.tuple #[.pointer (some ⟨b, 0, none⟩), .bool true]) w := fun w => as_call _ _ w
  show Calls Tryz.prog 59 #[.iface T x, .iface 172 (.pointer (some ⟨b, 0, none⟩))] w _
  go_enter Tryz.func59, Tryz.ntmps59
  go_wp2_with fail
  refine HV.out.mono ?_
  rintro e w1 ⟨rfl, I, K1⟩
  have HI := Lib.hid I
  have o1 := K1.obj Ho.out hbM
  have z1 : b < w1.heap.size := lt_of_heap o1
  clear I
  have p0 := cell_of_cells o1 0 rfl
  have p1 := cell_of_cells o1 1 rfl
  go_wp2_with fail
  refine (HW0.out _ D _ _ PA0.out (HR0.out.kept K1 HD.out) HD.out HI.out).mono ?_
  rintro e w2 ⟨rfl, I, K2⟩
  have HI := Lib.hid I
  have o1 := K2.obj o1 hbM
  have z1 : b < w2.heap.size := lt_of_heap o1
  clear I
  have p0 := cell_of_cells o1 0 rfl
  have p1 := cell_of_cells o1 1 rfl
  go_wp2_with fail
  refine (HW1.out _ D _ _ PA1.out ((HR1.out.kept K1 HD.out).kept K2 HD.out) HD.out HI.out).mono ?_
  rintro e w3 ⟨rfl, I, K3⟩
  have HI := Lib.hid I
  have o1 := K3.obj o1 hbM
  have z1 : b < w3.heap.size := lt_of_heap o1
  clear I
  have p0 := cell_of_cells o1 0 rfl
  have p1 := cell_of_cells o1 1 rfl
  go_wp2_with fail
  refine (HL.out _ _ HI.out).mono ?_
  rintro e wz ⟨rfl, I, Kz⟩
  have HI := Lib.hid I
  clear I
  go_wp2_with fail
  go_end0
  have I := HI.out
  refine ⟨rfl, ?_, (((K1).trans K2).trans K3).trans Kz⟩
  rw [V.sem_n .call _ _ _ _ _ _ _ _ _ trivial ok.2]
  show Inv (sem f1 (sem f0 (step (.n .call text num o b f0 f1 f2 f3) s))) wz
  exact I

set_option maxRecDepth 100000 in
set_option maxHeartbeats 1000000 in
theorem walk_ftype {σ : Type} {T : TypeId} {x : Value} {F : Nat} {rcv : Value} {M : Nat → Prop} {Inv : σ → World → Prop} {sem step : A → σ → σ} {PA : A → σ → Prop} {SK : K → Bool} (V : Vis σ T x F rcv M Inv sem step PA SK) (text : Str) (num : Int) (o : Option Addr) (b : Nat) (f0 f1 f2 f3 : A) (ok : VV (A.n .ftype text num o b f0 f1 f2 f3).N ∧ SK .ftype = true) (i0 : f0.isn) (m0 : f0.K = .none) (i1 : f1.isn) (m1 : f1.K = .flist) (W1 : WalkOk T x M Inv sem PA f1) (i2 : f2.isn) (m2 : f2.K = .none) : WalkOk T x M Inv sem PA (.n .ftype text num o b f0 f1 f2 f3) := by
  intro w D v s pa hR hD hI
  have m0' := m0
  have m2' := m2
  have pas := V.her_n .ftype text num o b f0 f1 f2 f3 s trivial ok.2 pa
  have pa1 := pas.2.1 (by decide)
  rw [V.none f0 m0 i0] at pa1
  have PA1 := Lib.hid pa1
  clear pa1
  clear pas
  obtain ⟨rfl, hb, v0, v1, v2, ho, r0, r1, r2⟩ := open_ftype (m := 1) (.inr rfl) i0 i1 i2 hR
  obtain rfl := none_of0 i0 m0 r0
  obtain ⟨b1, rfl, -⟩ := ptr_of m1 trivial r1
  have r1 := iface_ptr m1 trivial r1
  obtain rfl := none_of0 i2 m2 r2
  have hbM := hD b hb
  have HV := Lib.hid (V.visit (.n .ftype text num o b f0 f1 f2 f3) w D _ s ok.1 pa ok.2 hR hD hI)
  have HL := Lib.hid V.leave
  have HD := Lib.hid hD
  have Ho := Lib.hid ho
  have HR0 := Lib.hid r0
  clear r0 m0
  have HR1 := Lib.hid r1
  have HW1 := Lib.hid W1
  clear r1 W1 m1
  have HR2 := Lib.hid r2
  clear r2 m2
  clear hR hI ho
  have hm := V.meth
  have he := V.ent
  have t_File := nob 122 b 74 un_File zp_File (by decide)
  have t_Field := nob 122 b 74 un_Field zp_Field (by decide)
  have t_FieldList := nob 122 b 74 un_FieldList zp_FieldList (by decide)
  have t_Ellipsis := nob 122 b 74 un_Ellipsis zp_Ellipsis (by decide)
  have t_FuncLit := nob 122 b 74 un_FuncLit zp_FuncLit (by decide)
  have t_CompositeLit := nob 122 b 74 un_CompositeLit zp_CompositeLit (by decide)
  have t_ParenExpr := nob 122 b 74 un_ParenExpr zp_ParenExpr (by decide)
  have t_SelectorExpr := nob 122 b 74 un_SelectorExpr zp_SelectorExpr (by decide)
  have t_IndexExpr := nob 122 b 74 un_IndexExpr zp_IndexExpr (by decide)
  have t_IndexListExpr := nob 122 b 74 un_IndexListExpr zp_IndexListExpr (by decide)
  have t_SliceExpr := nob 122 b 74 un_SliceExpr zp_SliceExpr (by decide)
  have t_TypeAssertExpr := nob 122 b 74 un_TypeAssertExpr zp_TypeAssertExpr (by decide)
  have t_CallExpr := nob 122 b 74 un_CallExpr zp_CallExpr (by decide)
  have t_StarExpr := nob 122 b 74 un_StarExpr zp_StarExpr (by decide)
  have t_UnaryExpr := nob 122 b 74 un_UnaryExpr zp_UnaryExpr (by decide)
  have t_BinaryExpr := nob 122 b 74 un_BinaryExpr zp_BinaryExpr (by decide)
  have t_KeyValueExpr := nob 122 b 74 un_KeyValueExpr zp_KeyValueExpr (by decide)
  have t_ArrayType := nob 122 b 74 un_ArrayType zp_ArrayType (by decide)
  have t_StructType := nob 122 b 74 un_StructType zp_StructType (by decide)
  have t_FuncType : ∀ w, (Instr.typeAssert (.iface 122 (.pointer (some ⟨b, 0, none⟩))) 74 122 true).run Tryz.prog w = .ok (.tuple #[.pointer (some ⟨b, 0, none⟩), .bool true]) w := fun w => as_ftype _ _ w
  show Calls Tryz.prog 59 #[.iface T x, .iface 122 (.pointer (some ⟨b, 0, none⟩))] w _
  go_enter Tryz.func59, Tryz.ntmps59
  go_wp2_with fail
  refine HV.out.mono ?_
  rintro e w1 ⟨rfl, I, K1⟩
  have HI := Lib.hid I
  have o1 := K1.obj Ho.out hbM
  have z1 : b < w1.heap.size := lt_of_heap o1
  clear I
  have p0 := cell_of_cells o1 0 rfl
  have p1 := cell_of_cells o1 1 rfl
  have p2 := cell_of_cells o1 2 rfl
  go_wp2_with fail
  refine (HW1.out _ D _ _ PA1.out (HR1.out.kept K1 HD.out) HD.out HI.out).mono ?_
  rintro e w3 ⟨rfl, I, K3⟩
  have HI := Lib.hid I
  have o1 := K3.obj o1 hbM
  have z1 : b < w3.heap.size := lt_of_heap o1
  clear I
  have p0 := cell_of_cells o1 0 rfl
  have p1 := cell_of_cells o1 1 rfl
  have p2 := cell_of_cells o1 2 rfl
  go_wp2_with fail
  refine (HL.out _ _ HI.out).mono ?_
  rintro e wz ⟨rfl, I, Kz⟩
  have HI := Lib.hid I
  clear I
  go_wp2_with fail
  go_end0
  have I := HI.out
  refine ⟨rfl, ?_, ((K1).trans K3).trans Kz⟩
  rw [V.sem_n .ftype _ _ _ _ _ _ _ _ _ trivial ok.2]
  show Inv (sem f2 (sem f1 (sem f0 (step (.n .ftype text num o b f0 f1 f2 f3) s)))) wz
  rw [V.none f2 m2' i2]
  rw [V.none f0 m0' i0]
  exact I

set_option maxRecDepth 100000 in
set_option maxHeartbeats 1000000 in
theorem walk_flist {σ : Type} {T : TypeId} {x : Value} {F : Nat} {rcv : Value} {M : Nat → Prop} {Inv : σ → World → Prop} {sem step : A → σ → σ} {PA : A → σ → Prop} {SK : K → Bool} (V : Vis σ T x F rcv M Inv sem step PA SK) (text : Str) (num : Int) (o : Option Addr) (b : Nat) (f0 f1 f2 f3 : A) (ok : VV (A.n .flist text num o b f0 f1 f2 f3).N ∧ SK .flist = true) (i0 : f0.isn) (m0 : f0.K = .none) (W0 : WalkLOk T x M Inv sem PA 102 f0) (c0 : ∃ l : A, l.isList ∧ ∀ (w : World) (D : Nat → Prop) (v : Value), Rep w D (f0.g 2 .fin) [v] → ∃ g c, v = .slice g l.len c) : WalkOk T x M Inv sem PA (.n .flist text num o b f0 f1 f2 f3) := by
  intro w D v s pa hR hD hI
  have pas := V.her_n .flist text num o b f0 f1 f2 f3 s trivial ok.2 pa
  have pa0 := pas.1 (by decide)
  have PA0 := Lib.hid pa0
  clear pa0
  clear pas
  obtain ⟨rfl, hb, v0, ho, r0⟩ := open_flist (m := 1) (.inr rfl) i0 hR
  obtain ⟨l0, -, q0⟩ := c0
  obtain ⟨g0, c0, rfl⟩ := q0 w D v0 r0
  have hbM := hD b hb
  have HV := Lib.hid (V.visit (.n .flist text num o b f0 f1 f2 f3) w D _ s ok.1 pa ok.2 hR hD hI)
  have HL := Lib.hid V.leave
  have HD := Lib.hid hD
  have Ho := Lib.hid ho
  have HR0 := Lib.hid r0
  have HW0 := Lib.hid W0
  clear r0 W0 q0 m0
  clear hR hI ho
  have hm := V.meth
  have he := V.ent
  have t_File := nob 120 b 74 un_File zp_File (by decide)
  have t_Field := nob 120 b 74 un_Field zp_Field (by decide)
  have t_FieldList : ∀ w, (Instr.typeAssert (.iface 120 (.pointer (some ⟨b, 0, none⟩))) 74 120 true).run Tryz.prog w = .ok (.tuple #[.pointer (some ⟨b, 0, none⟩), .bool true]) w := fun w => as_flist _ _ w
  show Calls Tryz.prog 59 #[.iface T x, .iface 120 (.pointer (some ⟨b, 0, none⟩))] w _
  go_enter Tryz.func59, Tryz.ntmps59
  go_wp2_with fail
  refine HV.out.mono ?_
  rintro e w1 ⟨rfl, I, K1⟩
  have HI := Lib.hid I
  have o1 := K1.obj Ho.out hbM
  have z1 : b < w1.heap.size := lt_of_heap o1
  clear I
  have p0 := cell_of_cells o1 0 rfl
  go_wp2_with fail
  refine (HW0.out _ D _ _ PA0.out (HR0.out.kept K1 HD.out) HD.out HI.out).mono ?_
  rintro e w2 ⟨rfl, I, K2⟩
  have HI := Lib.hid I
  have o1 := K2.obj o1 hbM
  have z1 : b < w2.heap.size := lt_of_heap o1
  clear I
  have p0 := cell_of_cells o1 0 rfl
  go_wp2_with fail
  refine (HL.out _ _ HI.out).mono ?_
  rintro e wz ⟨rfl, I, Kz⟩
  have HI := Lib.hid I
  clear I
  go_wp2_with fail
  go_end0
  have I := HI.out
  refine ⟨rfl, ?_, ((K1).trans K2).trans Kz⟩
  rw [V.sem_n .flist _ _ _ _ _ _ _ _ _ trivial ok.2]
  show Inv (sem f0 (step (.n .flist text num o b f0 f1 f2 f3) s)) wz
  exact I
end Go.Proofs.YtleolbpibjnedaaGreat
/- xast.Walk, kind by kind. -/
namespace Go.Proofs.YtleolbpibjnedaaGreat
open Go Go.RowKit Gc

set_option maxRecDepth 100000 in
set_option maxHeartbeats 1000000 in
theorem walk_exprS {σ : Type} {T : TypeId} {x : Value} {F : Nat} {rcv : Value} {M : Nat → Prop} {Inv : σ → World → Prop} {sem step : A → σ → σ} {PA : A → σ → Prop} {SK : K → Bool} (V : Vis σ T x F rcv M Inv sem step PA SK) (text : Str) (num : Int) (o : Option Addr) (b : Nat) (f0 f1 f2 f3 : A) (ok : VV (A.n .exprS text num o b f0 f1 f2 f3).N ∧ SK .exprS = true) (i0 : f0.isn) (k0 : K) (hk0 : k0.real) (m0 : f0.K = k0) (W0 : WalkOk T x M Inv sem PA f0) : WalkOk T x M Inv sem PA (.n .exprS text num o b f0 f1 f2 f3) := by
  intro w D v s pa hR hD hI
  have pas := V.her_n .exprS text num o b f0 f1 f2 f3 s trivial ok.2 pa
  have pa0 := pas.1 (by decide)
  have PA0 := Lib.hid pa0
  clear pa0
  clear pas
  obtain ⟨rfl, hb, v0, ho, r0⟩ := open_exprS (m := 1) (.inr rfl) i0 hR
  obtain ⟨b0, rfl, -⟩ := iface_of m0 hk0 r0
  have hbM := hD b hb
  have HV := Lib.hid (V.visit (.n .exprS text num o b f0 f1 f2 f3) w D _ s ok.1 pa ok.2 hR hD hI)
  have HL := Lib.hid V.leave
  have HD := Lib.hid hD
  have Ho := Lib.hid ho
  have HR0 := Lib.hid r0
  have HW0 := Lib.hid W0
  clear r0 W0 m0
  clear hR hI ho
  have hm := V.meth
  have he := V.ent
  have t_File := nob 278 b 74 un_File zp_File (by decide)
  have t_Field := nob 278 b 74 un_Field zp_Field (by decide)
  have t_FieldList := nob 278 b 74 un_FieldList zp_FieldList (by decide)
  have t_Ellipsis := nob 278 b 74 un_Ellipsis zp_Ellipsis (by decide)
  have t_FuncLit := nob 278 b 74 un_FuncLit zp_FuncLit (by decide)
  have t_CompositeLit := nob 278 b 74 un_CompositeLit zp_CompositeLit (by decide)
  have t_ParenExpr := nob 278 b 74 un_ParenExpr zp_ParenExpr (by decide)
  have t_SelectorExpr := nob 278 b 74 un_SelectorExpr zp_SelectorExpr (by decide)
  have t_IndexExpr := nob 278 b 74 un_IndexExpr zp_IndexExpr (by decide)
  have t_IndexListExpr := nob 278 b 74 un_IndexListExpr zp_IndexListExpr (by decide)
  have t_SliceExpr := nob 278 b 74 un_SliceExpr zp_SliceExpr (by decide)
  have t_TypeAssertExpr := nob 278 b 74 un_TypeAssertExpr zp_TypeAssertExpr (by decide)
  have t_CallExpr := nob 278 b 74 un_CallExpr zp_CallExpr (by decide)
  have t_StarExpr := nob 278 b 74 un_StarExpr zp_StarExpr (by decide)
  have t_UnaryExpr := nob 278 b 74 un_UnaryExpr zp_UnaryExpr (by decide)
  have t_BinaryExpr := nob 278 b 74 un_BinaryExpr zp_BinaryExpr (by decide)
  have t_KeyValueExpr := nob 278 b 74 un_KeyValueExpr zp_KeyValueExpr (by decide)
  have t_ArrayType := nob 278 b 74 un_ArrayType zp_ArrayType (by decide)
  have t_StructType := nob 278 b 74 un_StructType zp_StructType (by decide)
  have t_FuncType := nob 278 b 74 un_FuncType zp_FuncType (by decide)
  have t_InterfaceType := nob 278 b 74 un_InterfaceType zp_InterfaceType (by decide)
  have t_MapType := nob 278 b 74 un_MapType zp_MapType (by decide)
  have t_ChanType := nob 278 b 74 un_ChanType zp_ChanType (by decide)
  have t_DeclStmt := nob 278 b 74 un_DeclStmt zp_DeclStmt (by decide)
  have t_LabeledStmt := nob 278 b 74 un_LabeledStmt zp_LabeledStmt (by decide)
  have t_ExprStmt : ∀ w, (Instr.typeAssert (.iface 278 (.pointer (some ⟨b, 0, none⟩))) 74 278 true).run Tryz.prog w = .ok (.tuple #[.pointer (some ⟨b, 0, none⟩), .bool true]) w := fun w => as_exprS _ _ w
  show Calls Tryz.prog 59 #[.iface T x, .iface 278 (.pointer (some ⟨b, 0, none⟩))] w _
  go_enter Tryz.func59, Tryz.ntmps59
  go_wp2_with fail
  refine HV.out.mono ?_
  rintro e w1 ⟨rfl, I, K1⟩
  have HI := Lib.hid I
  have o1 := K1.obj Ho.out hbM
  have z1 : b < w1.heap.size := lt_of_heap o1
  clear I
  have p0 := cell_of_cells o1 0 rfl
  go_wp2_with fail
  refine (HW0.out _ D _ _ PA0.out (HR0.out.kept K1 HD.out) HD.out HI.out).mono ?_
  rintro e w2 ⟨rfl, I, K2⟩
  have HI := Lib.hid I
  have o1 := K2.obj o1 hbM
  have z1 : b < w2.heap.size := lt_of_heap o1
  clear I
  have p0 := cell_of_cells o1 0 rfl
  go_wp2_with fail
  refine (HL.out _ _ HI.out).mono ?_
  rintro e wz ⟨rfl, I, Kz⟩
  have HI := Lib.hid I
  clear I
  go_wp2_with fail
  go_end0
  have I := HI.out
  refine ⟨rfl, ?_, ((K1).trans K2).trans Kz⟩
  rw [V.sem_n .exprS _ _ _ _ _ _ _ _ _ trivial ok.2]
  show Inv (sem f0 (step (.n .exprS text num o b f0 f1 f2 f3) s)) wz
  exact I

set_option maxRecDepth 100000 in
set_option maxHeartbeats 1000000 in
theorem walk_inc {σ : Type} {T : TypeId} {x : Value} {F : Nat} {rcv : Value} {M : Nat → Prop} {Inv : σ → World → Prop} {sem step : A → σ → σ} {PA : A → σ → Prop} {SK : K → Bool} (V : Vis σ T x F rcv M Inv sem step PA SK) (text : Str) (num : Int) (o : Option Addr) (b : Nat) (f0 f1 f2 f3 : A) (ok : VV (A.n .inc text num o b f0 f1 f2 f3).N ∧ SK .inc = true) (i0 : f0.isn) (k0 : K) (hk0 : k0.real) (m0 : f0.K = k0) (W0 : WalkOk T x M Inv sem PA f0) : WalkOk T x M Inv sem PA (.n .inc text num o b f0 f1 f2 f3) := by
  intro w D v s pa hR hD hI
  have pas := V.her_n .inc text num o b f0 f1 f2 f3 s trivial ok.2 pa
  have pa0 := pas.1 (by decide)
  have PA0 := Lib.hid pa0
  clear pa0
  clear pas
  obtain ⟨rfl, hb, v0, ho, r0⟩ := open_inc (m := 1) (.inr rfl) i0 hR
  obtain ⟨b0, rfl, -⟩ := iface_of m0 hk0 r0
  have hbM := hD b hb
  have HV := Lib.hid (V.visit (.n .inc text num o b f0 f1 f2 f3) w D _ s ok.1 pa ok.2 hR hD hI)
  have HL := Lib.hid V.leave
  have HD := Lib.hid hD
  have Ho := Lib.hid ho
  have HR0 := Lib.hid r0
  have HW0 := Lib.hid W0
  clear r0 W0 m0
  clear hR hI ho
  have hm := V.meth
  have he := V.ent
  have t_File := nob 283 b 74 un_File zp_File (by decide)
  have t_Field := nob 283 b 74 un_Field zp_Field (by decide)
  have t_FieldList := nob 283 b 74 un_FieldList zp_FieldList (by decide)
  have t_Ellipsis := nob 283 b 74 un_Ellipsis zp_Ellipsis (by decide)
  have t_FuncLit := nob 283 b 74 un_FuncLit zp_FuncLit (by decide)
  have t_CompositeLit := nob 283 b 74 un_CompositeLit zp_CompositeLit (by decide)
  have t_ParenExpr := nob 283 b 74 un_ParenExpr zp_ParenExpr (by decide)
  have t_SelectorExpr := nob 283 b 74 un_SelectorExpr zp_SelectorExpr (by decide)
  have t_IndexExpr := nob 283 b 74 un_IndexExpr zp_IndexExpr (by decide)
  have t_IndexListExpr := nob 283 b 74 un_IndexListExpr zp_IndexListExpr (by decide)
  have t_SliceExpr := nob 283 b 74 un_SliceExpr zp_SliceExpr (by decide)
  have t_TypeAssertExpr := nob 283 b 74 un_TypeAssertExpr zp_TypeAssertExpr (by decide)
  have t_CallExpr := nob 283 b 74 un_CallExpr zp_CallExpr (by decide)
  have t_StarExpr := nob 283 b 74 un_StarExpr zp_StarExpr (by decide)
  have t_UnaryExpr := nob 283 b 74 un_UnaryExpr zp_UnaryExpr (by decide)
  have t_BinaryExpr := nob 283 b 74 un_BinaryExpr zp_BinaryExpr (by decide)
  have t_KeyValueExpr := nob 283 b 74 un_KeyValueExpr zp_KeyValueExpr (by decide)
  have t_ArrayType := nob 283 b 74 un_ArrayType zp_ArrayType (by decide)
  have t_StructType := nob 283 b 74 un_StructType zp_StructType (by decide)
  have t_FuncType := nob 283 b 74 un_FuncType zp_FuncType (by decide)
  have t_InterfaceType := nob 283 b 74 un_InterfaceType zp_InterfaceType (by decide)
  have t_MapType := nob 283 b 74 un_MapType zp_MapType (by decide)
  have t_ChanType := nob 283 b 74 un_ChanType zp_ChanType (by decide)
  have t_DeclStmt := nob 283 b 74 un_DeclStmt zp_DeclStmt (by decide)
  have t_LabeledStmt := nob 283 b 74 un_LabeledStmt zp_LabeledStmt (by decide)
  have t_ExprStmt := nob 283 b 74 un_ExprStmt zp_ExprStmt (by decide)
  have t_SendStmt := nob 283 b 74 un_SendStmt zp_SendStmt (by decide)
  have t_IncDecStmt : ∀ w, (Instr.typeAssert (.iface 283 (.pointer (some ⟨b, 0, none⟩))) 74 283 true).run Tryz.prog w = .ok (.tuple #[.pointer (some ⟨b, 0, none⟩), .bool true]) w := fun w => as_inc _ _ w
  show Calls Tryz.prog 59 #[.iface T x, .iface 283 (.pointer (some ⟨b, 0, none⟩))] w _
  go_enter Tryz.func59, Tryz.ntmps59
  go_wp2_with fail
  refine HV.out.mono ?_
  rintro e w1 ⟨rfl, I, K1⟩
  have HI := Lib.hid I
  have o1 := K1.obj Ho.out hbM
  have z1 : b < w1.heap.size := lt_of_heap o1
  clear I
  have p0 := cell_of_cells o1 0 rfl
  go_wp2_with fail
  refine (HW0.out _ D _ _ PA0.out (HR0.out.kept K1 HD.out) HD.out HI.out).mono ?_
  rintro e w2 ⟨rfl, I, K2⟩
  have HI := Lib.hid I
  have o1 := K2.obj o1 hbM
  have z1 : b < w2.heap.size := lt_of_heap o1
  clear I
  have p0 := cell_of_cells o1 0 rfl
  go_wp2_with fail
  refine (HL.out _ _ HI.out).mono ?_
  rintro e wz ⟨rfl, I, Kz⟩
  have HI := Lib.hid I
  clear I
  go_wp2_with fail
  go_end0
  have I := HI.out
  refine ⟨rfl, ?_, ((K1).trans K2).trans Kz⟩
  rw [V.sem_n .inc _ _ _ _ _ _ _ _ _ trivial ok.2]
  show Inv (sem f0 (step (.n .inc text num o b f0 f1 f2 f3) s)) wz
  exact I

set_option maxRecDepth 100000 in
set_option maxHeartbeats 1000000 in
theorem walk_assign {σ : Type} {T : TypeId} {x : Value} {F : Nat} {rcv : Value} {M : Nat → Prop} {Inv : σ → World → Prop} {sem step : A → σ → σ} {PA : A → σ → Prop} {SK : K → Bool} (V : Vis σ T x F rcv M Inv sem step PA SK) (text : Str) (num : Int) (o : Option Addr) (b : Nat) (f0 f1 f2 f3 : A) (ok : VV (A.n .assign text num o b f0 f1 f2 f3).N ∧ SK .assign = true) (i0 : f0.isn) (W0 : WalkLOk T x M Inv sem PA 103 f0) (c0 : ∃ l : A, l.isList ∧ ∀ (w : World) (D : Nat → Prop) (v : Value), Rep w D (f0.g 2 .fin) [v] → ∃ g c, v = .slice g l.len c) (i1 : f1.isn) (W1 : WalkLOk T x M Inv sem PA 103 f1) (c1 : ∃ l : A, l.isList ∧ ∀ (w : World) (D : Nat → Prop) (v : Value), Rep w D (f1.g 2 .fin) [v] → ∃ g c, v = .slice g l.len c) : WalkOk T x M Inv sem PA (.n .assign text num o b f0 f1 f2 f3) := by
  intro w D v s pa hR hD hI
  have pas := V.her_n .assign text num o b f0 f1 f2 f3 s trivial ok.2 pa
  have pa0 := pas.1 (by decide)
  have PA0 := Lib.hid pa0
  clear pa0
  have pa1 := pas.2.1 (by decide)
  have PA1 := Lib.hid pa1
  clear pa1
  clear pas
  obtain ⟨rfl, hb, v0, v1, ho, r0, r1⟩ := open_assign (m := 1) (.inr rfl) i0 i1 hR
  obtain ⟨l0, -, q0⟩ := c0
  obtain ⟨g0, c0, rfl⟩ := q0 w D v0 r0
  obtain ⟨l1, -, q1⟩ := c1
  obtain ⟨g1, c1, rfl⟩ := q1 w D v1 r1
  have hbM := hD b hb
  have HV := Lib.hid (V.visit (.n .assign text num o b f0 f1 f2 f3) w D _ s ok.1 pa ok.2 hR hD hI)
  have HL := Lib.hid V.leave
  have HD := Lib.hid hD
  have Ho := Lib.hid ho
  have HR0 := Lib.hid r0
  have HW0 := Lib.hid W0
  clear r0 W0 q0
  have HR1 := Lib.hid r1
  have HW1 := Lib.hid W1
  clear r1 W1 q1
  clear hR hI ho
  have hm := V.meth
  have he := V.ent
  have t_File := nob 286 b 74 un_File zp_File (by decide)
  have t_Field := nob 286 b 74 un_Field zp_Field (by decide)
  have t_FieldList := nob 286 b 74 un_FieldList zp_FieldList (by decide)
  have t_Ellipsis := nob 286 b 74 un_Ellipsis zp_Ellipsis (by decide)
  have t_FuncLit := nob 286 b 74 un_FuncLit zp_FuncLit (by decide)
  have t_CompositeLit := nob 286 b 74 un_CompositeLit zp_CompositeLit (by decide)
  have t_ParenExpr := nob 286 b 74 un_ParenExpr zp_ParenExpr (by decide)
  have t_SelectorExpr := nob 286 b 74 un_SelectorExpr zp_SelectorExpr (by decide)
  have t_IndexExpr := nob 286 b 74 un_IndexExpr zp_IndexExpr (by decide)
  have t_IndexListExpr := nob 286 b 74 un_IndexListExpr zp_IndexListExpr (by decide)
  have t_SliceExpr := nob 286 b 74 un_SliceExpr zp_SliceExpr (by decide)
  have t_TypeAssertExpr := nob 286 b 74 un_TypeAssertExpr zp_TypeAssertExpr (by decide)
  have t_CallExpr := nob 286 b 74 un_CallExpr zp_CallExpr (by decide)
  have t_StarExpr := nob 286 b 74 un_StarExpr zp_StarExpr (by decide)
  have t_UnaryExpr := nob 286 b 74 un_UnaryExpr zp_UnaryExpr (by decide)
  have t_BinaryExpr := nob 286 b 74 un_BinaryExpr zp_BinaryExpr (by decide)
  have t_KeyValueExpr := nob 286 b 74 un_KeyValueExpr zp_KeyValueExpr (by decide)
  have t_ArrayType := nob 286 b 74 un_ArrayType zp_ArrayType (by decide)
  have t_StructType := nob 286 b 74 un_StructType zp_StructType (by decide)
  have t_FuncType := nob 286 b 74 un_FuncType zp_FuncType (by decide)
  have t_InterfaceType := nob 286 b 74 un_InterfaceType zp_InterfaceType (by decide)
  have t_MapType := nob 286 b 74 un_MapType zp_MapType (by decide)
  have t_ChanType := nob 286 b 74 un_ChanType zp_ChanType (by decide)
  have t_DeclStmt := nob 286 b 74 un_DeclStmt zp_DeclStmt (by decide)
  have t_LabeledStmt := nob 286 b 74 un_LabeledStmt zp_LabeledStmt (by decide)
  have t_ExprStmt := nob 286 b 74 un_ExprStmt zp_ExprStmt (by decide)
  have t_SendStmt := nob 286 b 74 un_SendStmt zp_SendStmt (by decide)
  have t_IncDecStmt := nob 286 b 74 un_IncDecStmt zp_IncDecStmt (by decide)
  have t_AssignStmt : ∀ w, (Instr.typeAssert (.iface 286 (.pointer (some ⟨b, 0, none⟩))) 74 286 true).run Tryz.prog w = .ok (.tuple #[.pointer (some ⟨b, 0, none⟩), .bool true]) w := fun w => as_assign _ _ w
  show Calls Tryz.prog 59 #[.iface T x, .iface 286 (.pointer (some ⟨b, 0, none⟩))] w _
  go_enter Tryz.func59, Tryz.ntmps59
  go_wp2_with fail
  refine HV.out.mono ?_
  rintro e w1 ⟨rfl, I, K1⟩
  have HI := Lib.hid I
  have o1 := K1.obj Ho.out hbM
  have z1 : b < w1.heap.size := lt_of_heap o1
  clear I
  have p0 := cell_of_cells o1 0 rfl
  have p2 := cell_of_cells o1 2 rfl
  go_wp2_with fail
  refine (HW0.out _ D _ _ PA0.out (HR0.out.kept K1 HD.out) HD.out HI.out).mono ?_
  rintro e w2 ⟨rfl, I, K2⟩
  have HI := Lib.hid I
  have o1 := K2.obj o1 hbM
  have z1 : b < w2.heap.size := lt_of_heap o1
  clear I
  have p0 := cell_of_cells o1 0 rfl
  have p2 := cell_of_cells o1 2 rfl
  go_wp2_with fail
  refine (HW1.out _ D _ _ PA1.out ((HR1.out.kept K1 HD.out).kept K2 HD.out) HD.out HI.out).mono ?_
  rintro e w3 ⟨rfl, I, K3⟩
  have HI := Lib.hid I
  have o1 := K3.obj o1 hbM
  have z1 : b < w3.heap.size := lt_of_heap o1
  clear I
  have p0 := cell_of_cells o1 0 rfl
  have p2 := cell_of_cells o1 2 rfl
  go_wp2_with fail
  refine (HL.out _ _ HI.out).mono ?_
  rintro e wz ⟨rfl, I, Kz⟩
  have HI := Lib.hid I
  clear I
  go_wp2_with fail
  go_end0
  have I := HI.out
  refine ⟨rfl, ?_, (((K1).trans K2).trans K3).trans Kz⟩
  rw [V.sem_n .assign _ _ _ _ _ _ _ _ _ trivial ok.2]
  show Inv (sem f1 (sem f0 (step (.n .assign text num o b f0 f1 f2 f3) s))) wz
  exact I

set_option maxRecDepth 100000 in
set_option maxHeartbeats 1000000 in
theorem walk_ret {σ : Type} {T : TypeId} {x : Value} {F : Nat} {rcv : Value} {M : Nat → Prop} {Inv : σ → World → Prop} {sem step : A → σ → σ} {PA : A → σ → Prop} {SK : K → Bool} (V : Vis σ T x F rcv M Inv sem step PA SK) (text : Str) (num : Int) (o : Option Addr) (b : Nat) (f0 f1 f2 f3 : A) (ok : VV (A.n .ret text num o b f0 f1 f2 f3).N ∧ SK .ret = true) (i0 : f0.isn) (W0 : WalkLOk T x M Inv sem PA 103 f0) (c0 : ∃ l : A, l.isList ∧ ∀ (w : World) (D : Nat → Prop) (v : Value), Rep w D (f0.g 2 .fin) [v] → ∃ g c, v = .slice g l.len c) : WalkOk T x M Inv sem PA (.n .ret text num o b f0 f1 f2 f3) := by
  intro w D v s pa hR hD hI
  have pas := V.her_n .ret text num o b f0 f1 f2 f3 s trivial ok.2 pa
  have pa0 := pas.1 (by decide)
  have PA0 := Lib.hid pa0
  clear pa0
  clear pas
  obtain ⟨rfl, hb, v0, ho, r0⟩ := open_ret (m := 1) (.inr rfl) i0 hR
  obtain ⟨l0, -, q0⟩ := c0
  obtain ⟨g0, c0, rfl⟩ := q0 w D v0 r0
  have hbM := hD b hb
  have HV := Lib.hid (V.visit (.n .ret text num o b f0 f1 f2 f3) w D _ s ok.1 pa ok.2 hR hD hI)
  have HL := Lib.hid V.leave
  have HD := Lib.hid hD
  have Ho := Lib.hid ho
  have HR0 := Lib.hid r0
  have HW0 := Lib.hid W0
  clear r0 W0 q0
  clear hR hI ho
  have hm := V.meth
  have he := V.ent
  have t_File := nob 295 b 74 un_File zp_File (by decide)
  have t_Field := nob 295 b 74 un_Field zp_Field (by decide)
  have t_FieldList := nob 295 b 74 un_FieldList zp_FieldList (by decide)
  have t_Ellipsis := nob 295 b 74 un_Ellipsis zp_Ellipsis (by decide)
  have t_FuncLit := nob 295 b 74 un_FuncLit zp_FuncLit (by decide)
  have t_CompositeLit := nob 295 b 74 un_CompositeLit zp_CompositeLit (by decide)
  have t_ParenExpr := nob 295 b 74 un_ParenExpr zp_ParenExpr (by decide)
  have t_SelectorExpr := nob 295 b 74 un_SelectorExpr zp_SelectorExpr (by decide)
  have t_IndexExpr := nob 295 b 74 un_IndexExpr zp_IndexExpr (by decide)
  have t_IndexListExpr := nob 295 b 74 un_IndexListExpr zp_IndexListExpr (by decide)
  have t_SliceExpr := nob 295 b 74 un_SliceExpr zp_SliceExpr (by decide)
  have t_TypeAssertExpr := nob 295 b 74 un_TypeAssertExpr zp_TypeAssertExpr (by decide)
  have t_CallExpr := nob 295 b 74 un_CallExpr zp_CallExpr (by decide)
  have t_StarExpr := nob 295 b 74 un_StarExpr zp_StarExpr (by decide)
  have t_UnaryExpr := nob 295 b 74 un_UnaryExpr zp_UnaryExpr (by decide)
  have t_BinaryExpr := nob 295 b 74 un_BinaryExpr zp_BinaryExpr (by decide)
  have t_KeyValueExpr := nob 295 b 74 un_KeyValueExpr zp_KeyValueExpr (by decide)
  have t_ArrayType := nob 295 b 74 un_ArrayType zp_ArrayType (by decide)
  have t_StructType := nob 295 b 74 un_StructType zp_StructType (by decide)
  have t_FuncType := nob 295 b 74 un_FuncType zp_FuncType (by decide)
  have t_InterfaceType := nob 295 b 74 un_InterfaceType zp_InterfaceType (by decide)
  have t_MapType := nob 295 b 74 un_MapType zp_MapType (by decide)
  have t_ChanType := nob 295 b 74 un_ChanType zp_ChanType (by decide)
  have t_DeclStmt := nob 295 b 74 un_DeclStmt zp_DeclStmt (by decide)
  have t_LabeledStmt := nob 295 b 74 un_LabeledStmt zp_LabeledStmt (by decide)
  have t_ExprStmt := nob 295 b 74 un_ExprStmt zp_ExprStmt (by decide)
  have t_SendStmt := nob 295 b 74 un_SendStmt zp_SendStmt (by decide)
  have t_IncDecStmt := nob 295 b 74 un_IncDecStmt zp_IncDecStmt (by decide)
  have t_AssignStmt := nob 295 b 74 un_AssignStmt zp_AssignStmt (by decide)
  have t_GoStmt := nob 295 b 74 un_GoStmt zp_GoStmt (by decide)
  have t_DeferStmt := nob 295 b 74 un_DeferStmt zp_DeferStmt (by decide)
  have t_ReturnStmt : ∀ w, (Instr.typeAssert (.iface 295 (.pointer (some ⟨b, 0, none⟩))) 74 295 true).run Tryz.prog w = .ok (.tuple #[.pointer (some ⟨b, 0, none⟩), .bool true]) w := fun w => as_ret _ _ w
  show Calls Tryz.prog 59 #[.iface T x, .iface 295 (.pointer (some ⟨b, 0, none⟩))] w _
  go_enter Tryz.func59, Tryz.ntmps59
  go_wp2_with fail
  refine HV.out.mono ?_
  rintro e w1 ⟨rfl, I, K1⟩
  have HI := Lib.hid I
  have o1 := K1.obj Ho.out hbM
  have z1 : b < w1.heap.size := lt_of_heap o1
  clear I
  have p0 := cell_of_cells o1 0 rfl
  go_wp2_with fail
  refine (HW0.out _ D _ _ PA0.out (HR0.out.kept K1 HD.out) HD.out HI.out).mono ?_
  rintro e w2 ⟨rfl, I, K2⟩
  have HI := Lib.hid I
  have o1 := K2.obj o1 hbM
  have z1 : b < w2.heap.size := lt_of_heap o1
  clear I
  have p0 := cell_of_cells o1 0 rfl
  go_wp2_with fail
  refine (HL.out _ _ HI.out).mono ?_
  rintro e wz ⟨rfl, I, Kz⟩
  have HI := Lib.hid I
  clear I
  go_wp2_with fail
  go_end0
  have I := HI.out
  refine ⟨rfl, ?_, ((K1).trans K2).trans Kz⟩
  rw [V.sem_n .ret _ _ _ _ _ _ _ _ _ trivial ok.2]
  show Inv (sem f0 (step (.n .ret text num o b f0 f1 f2 f3) s)) wz
  exact I
end Go.Proofs.YtleolbpibjnedaaGreat
