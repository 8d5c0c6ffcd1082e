/- xast.Walk, kind by kind. -/
import Derived.Test.YtleolbpibjnedaaGreatQWkA
set_option linter.unusedSimpArgs false
set_option linter.unusedVariables false
namespace Go.Proofs.YtleolbpibjnedaaGreat
open Go Go.RowKit Gc

set_option maxRecDepth 100000 in
set_option maxHeartbeats 1000000 in
theorem walk_for_ {σ : Type} {T : TypeId} {x : Value} {F : Nat} {rcv : Value} {M : Nat → Prop} {Inv : σ → World → Prop} {sem step : A → σ → σ} {PA : A → σ → Prop} {SK : K → Bool} (V : Vis σ T x F rcv M Inv sem step PA SK) (text : Str) (num : Int) (o : Option Addr) (b : Nat) (f0 f1 f2 f3 : A) (ok : VV (A.n .for_ text num o b f0 f1 f2 f3).N ∧ SK .for_ = true) (i0 : f0.isn) (m0 : f0.K = .none) (i1 : f1.isn) (k1 : K) (hk1 : k1.real) (m1 : f1.K = k1) (W1 : WalkOk T x M Inv sem PA f1) (i2 : f2.isn) (m2 : f2.K = .none) (i3 : f3.isn) (m3 : f3.K = .block) (W3 : WalkOk T x M Inv sem PA f3) : WalkOk T x M Inv sem PA (.n .for_ text num o b f0 f1 f2 f3) := by
  intro w D v s pa hR hD hI
  have m0' := m0
  have m2' := m2
  have pas := V.her_n .for_ text num o b f0 f1 f2 f3 s trivial ok.2 pa
  have pa1 := pas.2.1 (by decide)
  rw [V.none f0 m0 i0] at pa1
  have PA1 := Lib.hid pa1
  clear pa1
  have pa3 := pas.2.2.2 (by decide)
  rw [V.none f0 m0 i0] at pa3
  rw [V.none f2 m2 i2] at pa3
  have PA3 := Lib.hid pa3
  clear pa3
  clear pas
  obtain ⟨rfl, hb, v0, v1, v2, v3, ho, r0, r1, r2, r3⟩ := open_for_ (m := 1) (.inr rfl) i0 i1 i2 i3 hR
  obtain rfl := none_of1 i0 m0 r0
  obtain ⟨b1, rfl, -⟩ := iface_of m1 hk1 r1
  obtain rfl := none_of1 i2 m2 r2
  obtain ⟨b3, rfl, -⟩ := ptr_of m3 trivial r3
  have r3 := iface_ptr m3 trivial r3
  have hbM := hD b hb
  have HV := Lib.hid (V.visit (.n .for_ text num o b f0 f1 f2 f3) w D _ s ok.1 pa ok.2 hR hD hI)
  have HL := Lib.hid V.leave
  have HD := Lib.hid hD
  have Ho := Lib.hid ho
  have HR0 := Lib.hid r0
  clear r0 m0
  have HR1 := Lib.hid r1
  have HW1 := Lib.hid W1
  clear r1 W1 m1
  have HR2 := Lib.hid r2
  clear r2 m2
  have HR3 := Lib.hid r3
  have HW3 := Lib.hid W3
  clear r3 W3 m3
  clear hR hI ho
  have hm := V.meth
  have he := V.ent
  have t_File := nob 323 b 74 un_File zp_File (by decide)
  have t_Field := nob 323 b 74 un_Field zp_Field (by decide)
  have t_FieldList := nob 323 b 74 un_FieldList zp_FieldList (by decide)
  have t_Ellipsis := nob 323 b 74 un_Ellipsis zp_Ellipsis (by decide)
  have t_FuncLit := nob 323 b 74 un_FuncLit zp_FuncLit (by decide)
  have t_CompositeLit := nob 323 b 74 un_CompositeLit zp_CompositeLit (by decide)
  have t_ParenExpr := nob 323 b 74 un_ParenExpr zp_ParenExpr (by decide)
  have t_SelectorExpr := nob 323 b 74 un_SelectorExpr zp_SelectorExpr (by decide)
  have t_IndexExpr := nob 323 b 74 un_IndexExpr zp_IndexExpr (by decide)
  have t_IndexListExpr := nob 323 b 74 un_IndexListExpr zp_IndexListExpr (by decide)
  have t_SliceExpr := nob 323 b 74 un_SliceExpr zp_SliceExpr (by decide)
  have t_TypeAssertExpr := nob 323 b 74 un_TypeAssertExpr zp_TypeAssertExpr (by decide)
  have t_CallExpr := nob 323 b 74 un_CallExpr zp_CallExpr (by decide)
  have t_StarExpr := nob 323 b 74 un_StarExpr zp_StarExpr (by decide)
  have t_UnaryExpr := nob 323 b 74 un_UnaryExpr zp_UnaryExpr (by decide)
  have t_BinaryExpr := nob 323 b 74 un_BinaryExpr zp_BinaryExpr (by decide)
  have t_KeyValueExpr := nob 323 b 74 un_KeyValueExpr zp_KeyValueExpr (by decide)
  have t_ArrayType := nob 323 b 74 un_ArrayType zp_ArrayType (by decide)
  have t_StructType := nob 323 b 74 un_StructType zp_StructType (by decide)
  have t_FuncType := nob 323 b 74 un_FuncType zp_FuncType (by decide)
  have t_InterfaceType := nob 323 b 74 un_InterfaceType zp_InterfaceType (by decide)
  have t_MapType := nob 323 b 74 un_MapType zp_MapType (by decide)
  have t_ChanType := nob 323 b 74 un_ChanType zp_ChanType (by decide)
  have t_DeclStmt := nob 323 b 74 un_DeclStmt zp_DeclStmt (by decide)
  have t_LabeledStmt := nob 323 b 74 un_LabeledStmt zp_LabeledStmt (by decide)
  have t_ExprStmt := nob 323 b 74 un_ExprStmt zp_ExprStmt (by decide)
  have t_SendStmt := nob 323 b 74 un_SendStmt zp_SendStmt (by decide)
  have t_IncDecStmt := nob 323 b 74 un_IncDecStmt zp_IncDecStmt (by decide)
  have t_AssignStmt := nob 323 b 74 un_AssignStmt zp_AssignStmt (by decide)
  have t_GoStmt := nob 323 b 74 un_GoStmt zp_GoStmt (by decide)
  have t_DeferStmt := nob 323 b 74 un_DeferStmt zp_DeferStmt (by decide)
  have t_ReturnStmt := nob 323 b 74 un_ReturnStmt zp_ReturnStmt (by decide)
  have t_BranchStmt := nob 323 b 74 un_BranchStmt zp_BranchStmt (by decide)
  have t_BlockStmt := nob 323 b 74 un_BlockStmt zp_BlockStmt (by decide)
  have t_IfStmt := nob 323 b 74 un_IfStmt zp_IfStmt (by decide)
  have t_CaseClause := nob 323 b 74 un_CaseClause zp_CaseClause (by decide)
  have t_SwitchStmt := nob 323 b 74 un_SwitchStmt zp_SwitchStmt (by decide)
  have t_TypeSwitchStmt := nob 323 b 74 un_TypeSwitchStmt zp_TypeSwitchStmt (by decide)
  have t_CommClause := nob 323 b 74 un_CommClause zp_CommClause (by decide)
  have t_SelectStmt := nob 323 b 74 un_SelectStmt zp_SelectStmt (by decide)
  have t_ForStmt : ∀ w, (Instr.typeAssert (.iface 323 (.pointer (some ⟨b, 0, none⟩))) 74 323 true).run Tryz.prog w = .ok (.tuple #[.pointer (some ⟨b, 0, none⟩), .bool true]) w := fun w => as_for_ _ _ w
  show Calls Tryz.prog 59 #[.iface T x, .iface 323 (.pointer (some ⟨b, 0, none⟩))] w _
  go_enter Tryz.func59, Tryz.ntmps59
  go_wp2_with fail
  refine HV.out.mono ?_
  rintro e w1 ⟨rfl, I, K1⟩
  have HI := Lib.hid I
  have o1 := K1.obj Ho.out hbM
  have z1 : b < w1.heap.size := lt_of_heap o1
  clear I
  have p0 := cell_of_cells o1 0 rfl
  have p1 := cell_of_cells o1 1 rfl
  have p2 := cell_of_cells o1 2 rfl
  have p3 := cell_of_cells o1 3 rfl
  go_wp2_with fail
  refine (HW1.out _ D _ _ PA1.out (HR1.out.kept K1 HD.out) HD.out HI.out).mono ?_
  rintro e w3 ⟨rfl, I, K3⟩
  have HI := Lib.hid I
  have o1 := K3.obj o1 hbM
  have z1 : b < w3.heap.size := lt_of_heap o1
  clear I
  have p0 := cell_of_cells o1 0 rfl
  have p1 := cell_of_cells o1 1 rfl
  have p2 := cell_of_cells o1 2 rfl
  have p3 := cell_of_cells o1 3 rfl
  go_wp2_with fail
  refine (HW3.out _ D _ _ PA3.out ((HR3.out.kept K1 HD.out).kept K3 HD.out) HD.out HI.out).mono ?_
  rintro e w5 ⟨rfl, I, K5⟩
  have HI := Lib.hid I
  have o1 := K5.obj o1 hbM
  have z1 : b < w5.heap.size := lt_of_heap o1
  clear I
  have p0 := cell_of_cells o1 0 rfl
  have p1 := cell_of_cells o1 1 rfl
  have p2 := cell_of_cells o1 2 rfl
  have p3 := cell_of_cells o1 3 rfl
  go_wp2_with fail
  refine (HL.out _ _ HI.out).mono ?_
  rintro e wz ⟨rfl, I, Kz⟩
  have HI := Lib.hid I
  clear I
  go_wp2_with fail
  go_end0
  have I := HI.out
  refine ⟨rfl, ?_, (((K1).trans K3).trans K5).trans Kz⟩
  rw [V.sem_n .for_ _ _ _ _ _ _ _ _ _ trivial ok.2]
  show Inv (sem f3 (sem f2 (sem f1 (sem f0 (step (.n .for_ text num o b f0 f1 f2 f3) s))))) wz
  rw [V.none f2 m2' i2]
  rw [V.none f0 m0' i0]
  exact I

set_option maxRecDepth 100000 in
set_option maxHeartbeats 1000000 in
theorem walk_range {σ : Type} {T : TypeId} {x : Value} {F : Nat} {rcv : Value} {M : Nat → Prop} {Inv : σ → World → Prop} {sem step : A → σ → σ} {PA : A → σ → Prop} {SK : K → Bool} (V : Vis σ T x F rcv M Inv sem step PA SK) (text : Str) (num : Int) (o : Option Addr) (b : Nat) (f0 f1 f2 f3 : A) (ok : VV (A.n .range text num o b f0 f1 f2 f3).N ∧ SK .range = true) (i0 : f0.isn) (m0 : f0.K = .none) (i1 : f1.isn) (m1 : f1.K = .none) (i2 : f2.isn) (k2 : K) (hk2 : k2.real) (m2 : f2.K = k2) (W2 : WalkOk T x M Inv sem PA f2) (i3 : f3.isn) (m3 : f3.K = .block) (W3 : WalkOk T x M Inv sem PA f3) : WalkOk T x M Inv sem PA (.n .range text num o b f0 f1 f2 f3) := by
  intro w D v s pa hR hD hI
  have m0' := m0
  have m1' := m1
  have pas := V.her_n .range text num o b f0 f1 f2 f3 s trivial ok.2 pa
  have pa2 := pas.2.2.1 (by decide)
  rw [V.none f0 m0 i0] at pa2
  rw [V.none f1 m1 i1] at pa2
  have PA2 := Lib.hid pa2
  clear pa2
  have pa3 := pas.2.2.2 (by decide)
  rw [V.none f0 m0 i0] at pa3
  rw [V.none f1 m1 i1] at pa3
  have PA3 := Lib.hid pa3
  clear pa3
  clear pas
  obtain ⟨rfl, hb, v0, v1, v2, v3, ho, r0, r1, r2, r3⟩ := open_range (m := 1) (.inr rfl) i0 i1 i2 i3 hR
  obtain rfl := none_of1 i0 m0 r0
  obtain rfl := none_of1 i1 m1 r1
  obtain ⟨b2, rfl, -⟩ := iface_of m2 hk2 r2
  obtain ⟨b3, rfl, -⟩ := ptr_of m3 trivial r3
  have r3 := iface_ptr m3 trivial r3
  have hbM := hD b hb
  have HV := Lib.hid (V.visit (.n .range text num o b f0 f1 f2 f3) w D _ s ok.1 pa ok.2 hR hD hI)
  have HL := Lib.hid V.leave
  have HD := Lib.hid hD
  have Ho := Lib.hid ho
  have HR0 := Lib.hid r0
  clear r0 m0
  have HR1 := Lib.hid r1
  clear r1 m1
  have HR2 := Lib.hid r2
  have HW2 := Lib.hid W2
  clear r2 W2 m2
  have HR3 := Lib.hid r3
  have HW3 := Lib.hid W3
  clear r3 W3 m3
  clear hR hI ho
  have hm := V.meth
  have he := V.ent
  have t_File := nob 326 b 74 un_File zp_File (by decide)
  have t_Field := nob 326 b 74 un_Field zp_Field (by decide)
  have t_FieldList := nob 326 b 74 un_FieldList zp_FieldList (by decide)
  have t_Ellipsis := nob 326 b 74 un_Ellipsis zp_Ellipsis (by decide)
  have t_FuncLit := nob 326 b 74 un_FuncLit zp_FuncLit (by decide)
  have t_CompositeLit := nob 326 b 74 un_CompositeLit zp_CompositeLit (by decide)
  have t_ParenExpr := nob 326 b 74 un_ParenExpr zp_ParenExpr (by decide)
  have t_SelectorExpr := nob 326 b 74 un_SelectorExpr zp_SelectorExpr (by decide)
  have t_IndexExpr := nob 326 b 74 un_IndexExpr zp_IndexExpr (by decide)
  have t_IndexListExpr := nob 326 b 74 un_IndexListExpr zp_IndexListExpr (by decide)
  have t_SliceExpr := nob 326 b 74 un_SliceExpr zp_SliceExpr (by decide)
  have t_TypeAssertExpr := nob 326 b 74 un_TypeAssertExpr zp_TypeAssertExpr (by decide)
  have t_CallExpr := nob 326 b 74 un_CallExpr zp_CallExpr (by decide)
  have t_StarExpr := nob 326 b 74 un_StarExpr zp_StarExpr (by decide)
  have t_UnaryExpr := nob 326 b 74 un_UnaryExpr zp_UnaryExpr (by decide)
  have t_BinaryExpr := nob 326 b 74 un_BinaryExpr zp_BinaryExpr (by decide)
  have t_KeyValueExpr := nob 326 b 74 un_KeyValueExpr zp_KeyValueExpr (by decide)
  have t_ArrayType := nob 326 b 74 un_ArrayType zp_ArrayType (by decide)
  have t_StructType := nob 326 b 74 un_StructType zp_StructType (by decide)
  have t_FuncType := nob 326 b 74 un_FuncType zp_FuncType (by decide)
  have t_InterfaceType := nob 326 b 74 un_InterfaceType zp_InterfaceType (by decide)
  have t_MapType := nob 326 b 74 un_MapType zp_MapType (by decide)
  have t_ChanType := nob 326 b 74 un_ChanType zp_ChanType (by decide)
  have t_DeclStmt := nob 326 b 74 un_DeclStmt zp_DeclStmt (by decide)
  have t_LabeledStmt := nob 326 b 74 un_LabeledStmt zp_LabeledStmt (by decide)
  have t_ExprStmt := nob 326 b 74 un_ExprStmt zp_ExprStmt (by decide)
  have t_SendStmt := nob 326 b 74 un_SendStmt zp_SendStmt (by decide)
  have t_IncDecStmt := nob 326 b 74 un_IncDecStmt zp_IncDecStmt (by decide)
  have t_AssignStmt := nob 326 b 74 un_AssignStmt zp_AssignStmt (by decide)
  have t_GoStmt := nob 326 b 74 un_GoStmt zp_GoStmt (by decide)
  have t_DeferStmt := nob 326 b 74 un_DeferStmt zp_DeferStmt (by decide)
  have t_ReturnStmt := nob 326 b 74 un_ReturnStmt zp_ReturnStmt (by decide)
  have t_BranchStmt := nob 326 b 74 un_BranchStmt zp_BranchStmt (by decide)
  have t_BlockStmt := nob 326 b 74 un_BlockStmt zp_BlockStmt (by decide)
  have t_IfStmt := nob 326 b 74 un_IfStmt zp_IfStmt (by decide)
  have t_CaseClause := nob 326 b 74 un_CaseClause zp_CaseClause (by decide)
  have t_SwitchStmt := nob 326 b 74 un_SwitchStmt zp_SwitchStmt (by decide)
  have t_TypeSwitchStmt := nob 326 b 74 un_TypeSwitchStmt zp_TypeSwitchStmt (by decide)
  have t_CommClause := nob 326 b 74 un_CommClause zp_CommClause (by decide)
  have t_SelectStmt := nob 326 b 74 un_SelectStmt zp_SelectStmt (by decide)
  have t_ForStmt := nob 326 b 74 un_ForStmt zp_ForStmt (by decide)
  have t_RangeStmt : ∀ w, (Instr.typeAssert (.iface 326 (.pointer (some ⟨b, 0, none⟩))) 74 326 true).run Tryz.prog w = .ok (.tuple #[.pointer (some ⟨b, 0, none⟩), .bool true]) w := fun w => as_range _ _ w
  show Calls Tryz.prog 59 #[.iface T x, .iface 326 (.pointer (some ⟨b, 0, none⟩))] w _
  go_enter Tryz.func59, Tryz.ntmps59
  go_wp2_with fail
  refine HV.out.mono ?_
  rintro e w1 ⟨rfl, I, K1⟩
  have HI := Lib.hid I
  have o1 := K1.obj Ho.out hbM
  have z1 : b < w1.heap.size := lt_of_heap o1
  clear I
  have p0 := cell_of_cells o1 0 rfl
  have p1 := cell_of_cells o1 1 rfl
  have p3 := cell_of_cells o1 3 rfl
  have p4 := cell_of_cells o1 4 rfl
  go_wp2_with fail
  refine (HW2.out _ D _ _ PA2.out (HR2.out.kept K1 HD.out) HD.out HI.out).mono ?_
  rintro e w4 ⟨rfl, I, K4⟩
  have HI := Lib.hid I
  have o1 := K4.obj o1 hbM
  have z1 : b < w4.heap.size := lt_of_heap o1
  clear I
  have p0 := cell_of_cells o1 0 rfl
  have p1 := cell_of_cells o1 1 rfl
  have p3 := cell_of_cells o1 3 rfl
  have p4 := cell_of_cells o1 4 rfl
  go_wp2_with fail
  refine (HW3.out _ D _ _ PA3.out ((HR3.out.kept K1 HD.out).kept K4 HD.out) HD.out HI.out).mono ?_
  rintro e w5 ⟨rfl, I, K5⟩
  have HI := Lib.hid I
  have o1 := K5.obj o1 hbM
  have z1 : b < w5.heap.size := lt_of_heap o1
  clear I
  have p0 := cell_of_cells o1 0 rfl
  have p1 := cell_of_cells o1 1 rfl
  have p3 := cell_of_cells o1 3 rfl
  have p4 := cell_of_cells o1 4 rfl
  go_wp2_with fail
  refine (HL.out _ _ HI.out).mono ?_
  rintro e wz ⟨rfl, I, Kz⟩
  have HI := Lib.hid I
  clear I
  go_wp2_with fail
  go_end0
  have I := HI.out
  refine ⟨rfl, ?_, (((K1).trans K4).trans K5).trans Kz⟩
  rw [V.sem_n .range _ _ _ _ _ _ _ _ _ trivial ok.2]
  show Inv (sem f3 (sem f2 (sem f1 (sem f0 (step (.n .range text num o b f0 f1 f2 f3) s))))) wz
  rw [V.none f1 m1' i1]
  rw [V.none f0 m0' i0]
  exact I

set_option maxRecDepth 100000 in
set_option maxHeartbeats 1000000 in
theorem walk_func {σ : Type} {T : TypeId} {x : Value} {F : Nat} {rcv : Value} {M : Nat → Prop} {Inv : σ → World → Prop} {sem step : A → σ → σ} {PA : A → σ → Prop} {SK : K → Bool} (V : Vis σ T x F rcv M Inv sem step PA SK) (text : Str) (num : Int) (o : Option Addr) (b : Nat) (f0 f1 f2 f3 : A) (ok : VV (A.n .func text num o b f0 f1 f2 f3).N ∧ SK .func = true) (i0 : f0.isn) (m0 : f0.K = .none) (i1 : f1.isn) (m1 : f1.K = .ident) (W1 : WalkOk T x M Inv sem PA f1) (i2 : f2.isn) (m2 : f2.K = .ftype) (W2 : WalkOk T x M Inv sem PA f2) (i3 : f3.isn) (m3 : f3.K = .block) (W3 : WalkOk T x M Inv sem PA f3) : WalkOk T x M Inv sem PA (.n .func text num o b f0 f1 f2 f3) := by
  intro w D v s pa hR hD hI
  have m0' := m0
  have pas := V.her_n .func text num o b f0 f1 f2 f3 s trivial ok.2 pa
  have pa1 := pas.2.1 (by decide)
  rw [V.none f0 m0 i0] at pa1
  have PA1 := Lib.hid pa1
  clear pa1
  have pa2 := pas.2.2.1 (by decide)
  rw [V.none f0 m0 i0] at pa2
  have PA2 := Lib.hid pa2
  clear pa2
  have pa3 := pas.2.2.2 (by decide)
  rw [V.none f0 m0 i0] at pa3
  have PA3 := Lib.hid pa3
  clear pa3
  clear pas
  obtain ⟨rfl, hb, v0, v1, v2, v3, ho, r0, r1, r2, r3⟩ := open_func (m := 1) (.inr rfl) i0 i1 i2 i3 hR
  obtain rfl := none_of0 i0 m0 r0
  obtain ⟨b1, rfl, -⟩ := ptr_of m1 trivial r1
  have r1 := iface_ptr m1 trivial r1
  obtain ⟨b2, rfl, -⟩ := ptr_of m2 trivial r2
  have r2 := iface_ptr m2 trivial r2
  obtain ⟨b3, rfl, -⟩ := ptr_of m3 trivial r3
  have r3 := iface_ptr m3 trivial r3
  have hbM := hD b hb
  have HV := Lib.hid (V.visit (.n .func text num o b f0 f1 f2 f3) w D _ s ok.1 pa ok.2 hR hD hI)
  have HL := Lib.hid V.leave
  have HD := Lib.hid hD
  have Ho := Lib.hid ho
  have HR0 := Lib.hid r0
  clear r0 m0
  have HR1 := Lib.hid r1
  have HW1 := Lib.hid W1
  clear r1 W1 m1
  have HR2 := Lib.hid r2
  have HW2 := Lib.hid W2
  clear r2 W2 m2
  have HR3 := Lib.hid r3
  have HW3 := Lib.hid W3
  clear r3 W3 m3
  clear hR hI ho
  have hm := V.meth
  have he := V.ent
  have t_File := nob 54 b 74 un_File zp_File (by decide)
  have t_Field := nob 54 b 74 un_Field zp_Field (by decide)
  have t_FieldList := nob 54 b 74 un_FieldList zp_FieldList (by decide)
  have t_Ellipsis := nob 54 b 74 un_Ellipsis zp_Ellipsis (by decide)
  have t_FuncLit := nob 54 b 74 un_FuncLit zp_FuncLit (by decide)
  have t_CompositeLit := nob 54 b 74 un_CompositeLit zp_CompositeLit (by decide)
  have t_ParenExpr := nob 54 b 74 un_ParenExpr zp_ParenExpr (by decide)
  have t_SelectorExpr := nob 54 b 74 un_SelectorExpr zp_SelectorExpr (by decide)
  have t_IndexExpr := nob 54 b 74 un_IndexExpr zp_IndexExpr (by decide)
  have t_IndexListExpr := nob 54 b 74 un_IndexListExpr zp_IndexListExpr (by decide)
  have t_SliceExpr := nob 54 b 74 un_SliceExpr zp_SliceExpr (by decide)
  have t_TypeAssertExpr := nob 54 b 74 un_TypeAssertExpr zp_TypeAssertExpr (by decide)
  have t_CallExpr := nob 54 b 74 un_CallExpr zp_CallExpr (by decide)
  have t_StarExpr := nob 54 b 74 un_StarExpr zp_StarExpr (by decide)
  have t_UnaryExpr := nob 54 b 74 un_UnaryExpr zp_UnaryExpr (by decide)
  have t_BinaryExpr := nob 54 b 74 un_BinaryExpr zp_BinaryExpr (by decide)
  have t_KeyValueExpr := nob 54 b 74 un_KeyValueExpr zp_KeyValueExpr (by decide)
  have t_ArrayType := nob 54 b 74 un_ArrayType zp_ArrayType (by decide)
  have t_StructType := nob 54 b 74 un_StructType zp_StructType (by decide)
  have t_FuncType := nob 54 b 74 un_FuncType zp_FuncType (by decide)
  have t_InterfaceType := nob 54 b 74 un_InterfaceType zp_InterfaceType (by decide)
  have t_MapType := nob 54 b 74 un_MapType zp_MapType (by decide)
  have t_ChanType := nob 54 b 74 un_ChanType zp_ChanType (by decide)
  have t_DeclStmt := nob 54 b 74 un_DeclStmt zp_DeclStmt (by decide)
  have t_LabeledStmt := nob 54 b 74 un_LabeledStmt zp_LabeledStmt (by decide)
  have t_ExprStmt := nob 54 b 74 un_ExprStmt zp_ExprStmt (by decide)
  have t_SendStmt := nob 54 b 74 un_SendStmt zp_SendStmt (by decide)
  have t_IncDecStmt := nob 54 b 74 un_IncDecStmt zp_IncDecStmt (by decide)
  have t_AssignStmt := nob 54 b 74 un_AssignStmt zp_AssignStmt (by decide)
  have t_GoStmt := nob 54 b 74 un_GoStmt zp_GoStmt (by decide)
  have t_DeferStmt := nob 54 b 74 un_DeferStmt zp_DeferStmt (by decide)
  have t_ReturnStmt := nob 54 b 74 un_ReturnStmt zp_ReturnStmt (by decide)
  have t_BranchStmt := nob 54 b 74 un_BranchStmt zp_BranchStmt (by decide)
  have t_BlockStmt := nob 54 b 74 un_BlockStmt zp_BlockStmt (by decide)
  have t_IfStmt := nob 54 b 74 un_IfStmt zp_IfStmt (by decide)
  have t_CaseClause := nob 54 b 74 un_CaseClause zp_CaseClause (by decide)
  have t_SwitchStmt := nob 54 b 74 un_SwitchStmt zp_SwitchStmt (by decide)
  have t_TypeSwitchStmt := nob 54 b 74 un_TypeSwitchStmt zp_TypeSwitchStmt (by decide)
  have t_CommClause := nob 54 b 74 un_CommClause zp_CommClause (by decide)
  have t_SelectStmt := nob 54 b 74 un_SelectStmt zp_SelectStmt (by decide)
  have t_ForStmt := nob 54 b 74 un_ForStmt zp_ForStmt (by decide)
  have t_RangeStmt := nob 54 b 74 un_RangeStmt zp_RangeStmt (by decide)
  have t_ImportSpec := nob 54 b 74 un_ImportSpec zp_ImportSpec (by decide)
  have t_ValueSpec := nob 54 b 74 un_ValueSpec zp_ValueSpec (by decide)
  have t_TypeSpec := nob 54 b 74 un_TypeSpec zp_TypeSpec (by decide)
  have t_GenDecl := nob 54 b 74 un_GenDecl zp_GenDecl (by decide)
  have t_FuncDecl : ∀ w, (Instr.typeAssert (.iface 54 (.pointer (some ⟨b, 0, none⟩))) 74 54 true).run Tryz.prog w = .ok (.tuple #[.pointer (some ⟨b, 0, none⟩), .bool true]) w := fun w => as_func _ _ w
  show Calls Tryz.prog 59 #[.iface T x, .iface 54 (.pointer (some ⟨b, 0, none⟩))] w _
  go_enter Tryz.func59, Tryz.ntmps59
  go_wp2_with fail
  refine HV.out.mono ?_
  rintro e w1 ⟨rfl, I, K1⟩
  have HI := Lib.hid I
  have o1 := K1.obj Ho.out hbM
  have z1 : b < w1.heap.size := lt_of_heap o1
  clear I
  have p0 := cell_of_cells o1 0 rfl
  have p1 := cell_of_cells o1 1 rfl
  have p2 := cell_of_cells o1 2 rfl
  have p3 := cell_of_cells o1 3 rfl
  go_wp2_with fail
  refine (HW1.out _ D _ _ PA1.out (HR1.out.kept K1 HD.out) HD.out HI.out).mono ?_
  rintro e w3 ⟨rfl, I, K3⟩
  have HI := Lib.hid I
  have o1 := K3.obj o1 hbM
  have z1 : b < w3.heap.size := lt_of_heap o1
  clear I
  have p0 := cell_of_cells o1 0 rfl
  have p1 := cell_of_cells o1 1 rfl
  have p2 := cell_of_cells o1 2 rfl
  have p3 := cell_of_cells o1 3 rfl
  go_wp2_with fail
  refine (HW2.out _ D _ _ PA2.out ((HR2.out.kept K1 HD.out).kept K3 HD.out) HD.out HI.out).mono ?_
  rintro e w4 ⟨rfl, I, K4⟩
  have HI := Lib.hid I
  have o1 := K4.obj o1 hbM
  have z1 : b < w4.heap.size := lt_of_heap o1
  clear I
  have p0 := cell_of_cells o1 0 rfl
  have p1 := cell_of_cells o1 1 rfl
  have p2 := cell_of_cells o1 2 rfl
  have p3 := cell_of_cells o1 3 rfl
  go_wp2_with fail
  refine (HW3.out _ D _ _ PA3.out (((HR3.out.kept K1 HD.out).kept K3 HD.out).kept K4 HD.out) HD.out HI.out).mono ?_
  rintro e w5 ⟨rfl, I, K5⟩
  have HI := Lib.hid I
  have o1 := K5.obj o1 hbM
  have z1 : b < w5.heap.size := lt_of_heap o1
  clear I
  have p0 := cell_of_cells o1 0 rfl
  have p1 := cell_of_cells o1 1 rfl
  have p2 := cell_of_cells o1 2 rfl
  have p3 := cell_of_cells o1 3 rfl
  go_wp2_with fail
  refine (HL.out _ _ HI.out).mono ?_
  rintro e wz ⟨rfl, I, Kz⟩
  have HI := Lib.hid I
  clear I
  go_wp2_with fail
  go_end0
  have I := HI.out
  refine ⟨rfl, ?_, ((((K1).trans K3).trans K4).trans K5).trans Kz⟩
  rw [V.sem_n .func _ _ _ _ _ _ _ _ _ trivial ok.2]
  show Inv (sem f3 (sem f2 (sem f1 (sem f0 (step (.n .func text num o b f0 f1 f2 f3) s))))) wz
  rw [V.none f0 m0' i0]
  exact I
end Go.Proofs.YtleolbpibjnedaaGreat
