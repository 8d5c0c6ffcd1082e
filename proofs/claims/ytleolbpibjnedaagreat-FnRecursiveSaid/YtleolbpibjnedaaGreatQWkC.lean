/- xast.Walk, kind by kind. -/
import Derived.Test.YtleolbpibjnedaaGreatQWkA
set_option linter.unusedSimpArgs false
set_option linter.unusedVariables false
namespace Go.Proofs.YtleolbpibjnedaaGreat
open Go Go.RowKit Gc

set_option maxRecDepth 100000 in
set_option maxHeartbeats 1000000 in
theorem walk_branch {σ : Type} {T : TypeId} {x : Value} {F : Nat} {rcv : Value} {M : Nat → Prop} {Inv : σ → World → Prop} {sem step : A → σ → σ} {PA : A → σ → Prop} {SK : K → Bool} (V : Vis σ T x F rcv M Inv sem step PA SK) (text : Str) (num : Int) (o : Option Addr) (b : Nat) (f0 f1 f2 f3 : A) (ok : VV (A.n .branch text num o b f0 f1 f2 f3).N ∧ SK .branch = true) (i0 : f0.isn) (m0 : f0.K = .none) : WalkOk T x M Inv sem PA (.n .branch text num o b f0 f1 f2 f3) := by
  intro w D v s pa hR hD hI
  have m0' := m0
  have pas := V.her_n .branch text num o b f0 f1 f2 f3 s trivial ok.2 pa
  clear pas
  obtain ⟨rfl, hb, v0, ho, r0⟩ := open_branch (m := 1) (.inr rfl) i0 hR
  obtain rfl := none_of0 i0 m0 r0
  have hbM := hD b hb
  have HV := Lib.hid (V.visit (.n .branch text num o b f0 f1 f2 f3) w D _ s ok.1 pa ok.2 hR hD hI)
  have HL := Lib.hid V.leave
  have HD := Lib.hid hD
  have Ho := Lib.hid ho
  have HR0 := Lib.hid r0
  clear r0 m0
  clear hR hI ho
  have hm := V.meth
  have he := V.ent
  have t_File := nob 298 b 74 un_File zp_File (by decide)
  have t_Field := nob 298 b 74 un_Field zp_Field (by decide)
  have t_FieldList := nob 298 b 74 un_FieldList zp_FieldList (by decide)
  have t_Ellipsis := nob 298 b 74 un_Ellipsis zp_Ellipsis (by decide)
  have t_FuncLit := nob 298 b 74 un_FuncLit zp_FuncLit (by decide)
  have t_CompositeLit := nob 298 b 74 un_CompositeLit zp_CompositeLit (by decide)
  have t_ParenExpr := nob 298 b 74 un_ParenExpr zp_ParenExpr (by decide)
  have t_SelectorExpr := nob 298 b 74 un_SelectorExpr zp_SelectorExpr (by decide)
  have t_IndexExpr := nob 298 b 74 un_IndexExpr zp_IndexExpr (by decide)
  have t_IndexListExpr := nob 298 b 74 un_IndexListExpr zp_IndexListExpr (by decide)
  have t_SliceExpr := nob 298 b 74 un_SliceExpr zp_SliceExpr (by decide)
  have t_TypeAssertExpr := nob 298 b 74 un_TypeAssertExpr zp_TypeAssertExpr (by decide)
  have t_CallExpr := nob 298 b 74 un_CallExpr zp_CallExpr (by decide)
  have t_StarExpr := nob 298 b 74 un_StarExpr zp_StarExpr (by decide)
  have t_UnaryExpr := nob 298 b 74 un_UnaryExpr zp_UnaryExpr (by decide)
  have t_BinaryExpr := nob 298 b 74 un_BinaryExpr zp_BinaryExpr (by decide)
  have t_KeyValueExpr := nob 298 b 74 un_KeyValueExpr zp_KeyValueExpr (by decide)
  have t_ArrayType := nob 298 b 74 un_ArrayType zp_ArrayType (by decide)
  have t_StructType := nob 298 b 74 un_StructType zp_StructType (by decide)
  have t_FuncType := nob 298 b 74 un_FuncType zp_FuncType (by decide)
  have t_InterfaceType := nob 298 b 74 un_InterfaceType zp_InterfaceType (by decide)
  have t_MapType := nob 298 b 74 un_MapType zp_MapType (by decide)
  have t_ChanType := nob 298 b 74 un_ChanType zp_ChanType (by decide)
  have t_DeclStmt := nob 298 b 74 un_DeclStmt zp_DeclStmt (by decide)
  have t_LabeledStmt := nob 298 b 74 un_LabeledStmt zp_LabeledStmt (by decide)
  have t_ExprStmt := nob 298 b 74 un_ExprStmt zp_ExprStmt (by decide)
  have t_SendStmt := nob 298 b 74 un_SendStmt zp_SendStmt (by decide)
  have t_IncDecStmt := nob 298 b 74 un_IncDecStmt zp_IncDecStmt (by decide)
  have t_AssignStmt := nob 298 b 74 un_AssignStmt zp_AssignStmt (by decide)
  have t_GoStmt := nob 298 b 74 un_GoStmt zp_GoStmt (by decide)
  have t_DeferStmt := nob 298 b 74 un_DeferStmt zp_DeferStmt (by decide)
  have t_ReturnStmt := nob 298 b 74 un_ReturnStmt zp_ReturnStmt (by decide)
  have t_BranchStmt : ∀ w, (Instr.typeAssert (.iface 298 (.pointer (some ⟨b, 0, none⟩))) 74 298 true).run Tryz.prog w = .ok (.tuple #[.pointer (some ⟨b, 0, none⟩), .bool true]) w := fun w => as_branch _ _ w
  show Calls Tryz.prog 59 #[.iface T x, .iface 298 (.pointer (some ⟨b, 0, none⟩))] w _
  go_enter Tryz.func59, Tryz.ntmps59
  go_wp2_with fail
  refine HV.out.mono ?_
  rintro e w1 ⟨rfl, I, K1⟩
  have HI := Lib.hid I
  have o1 := K1.obj Ho.out hbM
  have z1 : b < w1.heap.size := lt_of_heap o1
  clear I
  have p1 := cell_of_cells o1 1 rfl
  go_wp2_with fail
  refine (HL.out _ _ HI.out).mono ?_
  rintro e wz ⟨rfl, I, Kz⟩
  have HI := Lib.hid I
  clear I
  go_wp2_with fail
  go_end0
  have I := HI.out
  refine ⟨rfl, ?_, (K1).trans Kz⟩
  rw [V.sem_n .branch _ _ _ _ _ _ _ _ _ trivial ok.2]
  show Inv (sem f0 (step (.n .branch text num o b f0 f1 f2 f3) s)) wz
  rw [V.none f0 m0' i0]
  exact I

set_option maxRecDepth 100000 in
set_option maxHeartbeats 1000000 in
theorem walk_branch_to {σ : Type} {T : TypeId} {x : Value} {F : Nat} {rcv : Value} {M : Nat → Prop} {Inv : σ → World → Prop} {sem step : A → σ → σ} {PA : A → σ → Prop} {SK : K → Bool} (V : Vis σ T x F rcv M Inv sem step PA SK) (text : Str) (num : Int) (o : Option Addr) (b : Nat) (f0 f1 f2 f3 : A) (ok : VV (A.n .branch text num o b f0 f1 f2 f3).N ∧ SK .branch = true) (i0 : f0.isn) (m0 : f0.K = .ident) (W0 : WalkOk T x M Inv sem PA f0) : WalkOk T x M Inv sem PA (.n .branch text num o b f0 f1 f2 f3) := by
  intro w D v s pa hR hD hI
  have pas := V.her_n .branch text num o b f0 f1 f2 f3 s trivial ok.2 pa
  have pa0 := pas.1 (by decide)
  have PA0 := Lib.hid pa0
  clear pa0
  clear pas
  obtain ⟨rfl, hb, v0, ho, r0⟩ := open_branch (m := 1) (.inr rfl) i0 hR
  obtain ⟨b0, rfl, -⟩ := ptr_of m0 trivial r0
  have r0 := iface_ptr m0 trivial r0
  have hbM := hD b hb
  have HV := Lib.hid (V.visit (.n .branch text num o b f0 f1 f2 f3) w D _ s ok.1 pa ok.2 hR hD hI)
  have HL := Lib.hid V.leave
  have HD := Lib.hid hD
  have Ho := Lib.hid ho
  have HR0 := Lib.hid r0
  have HW0 := Lib.hid W0
  clear r0 W0 m0
  clear hR hI ho
  have hm := V.meth
  have he := V.ent
  have t_File := nob 298 b 74 un_File zp_File (by decide)
  have t_Field := nob 298 b 74 un_Field zp_Field (by decide)
  have t_FieldList := nob 298 b 74 un_FieldList zp_FieldList (by decide)
  have t_Ellipsis := nob 298 b 74 un_Ellipsis zp_Ellipsis (by decide)
  have t_FuncLit := nob 298 b 74 un_FuncLit zp_FuncLit (by decide)
  have t_CompositeLit := nob 298 b 74 un_CompositeLit zp_CompositeLit (by decide)
  have t_ParenExpr := nob 298 b 74 un_ParenExpr zp_ParenExpr (by decide)
  have t_SelectorExpr := nob 298 b 74 un_SelectorExpr zp_SelectorExpr (by decide)
  have t_IndexExpr := nob 298 b 74 un_IndexExpr zp_IndexExpr (by decide)
  have t_IndexListExpr := nob 298 b 74 un_IndexListExpr zp_IndexListExpr (by decide)
  have t_SliceExpr := nob 298 b 74 un_SliceExpr zp_SliceExpr (by decide)
  have t_TypeAssertExpr := nob 298 b 74 un_TypeAssertExpr zp_TypeAssertExpr (by decide)
  have t_CallExpr := nob 298 b 74 un_CallExpr zp_CallExpr (by decide)
  have t_StarExpr := nob 298 b 74 un_StarExpr zp_StarExpr (by decide)
  have t_UnaryExpr := nob 298 b 74 un_UnaryExpr zp_UnaryExpr (by decide)
  have t_BinaryExpr := nob 298 b 74 un_BinaryExpr zp_BinaryExpr (by decide)
  have t_KeyValueExpr := nob 298 b 74 un_KeyValueExpr zp_KeyValueExpr (by decide)
  have t_ArrayType := nob 298 b 74 un_ArrayType zp_ArrayType (by decide)
  have t_StructType := nob 298 b 74 un_StructType zp_StructType (by decide)
  have t_FuncType := nob 298 b 74 un_FuncType zp_FuncType (by decide)
  have t_InterfaceType := nob 298 b 74 un_InterfaceType zp_InterfaceType (by decide)
  have t_MapType := nob 298 b 74 un_MapType zp_MapType (by decide)
  have t_ChanType := nob 298 b 74 un_ChanType zp_ChanType (by decide)
  have t_DeclStmt := nob 298 b 74 un_DeclStmt zp_DeclStmt (by decide)
  have t_LabeledStmt := nob 298 b 74 un_LabeledStmt zp_LabeledStmt (by decide)
  have t_ExprStmt := nob 298 b 74 un_ExprStmt zp_ExprStmt (by decide)
  have t_SendStmt := nob 298 b 74 un_SendStmt zp_SendStmt (by decide)
  have t_IncDecStmt := nob 298 b 74 un_IncDecStmt zp_IncDecStmt (by decide)
  have t_AssignStmt := nob 298 b 74 un_AssignStmt zp_AssignStmt (by decide)
  have t_GoStmt := nob 298 b 74 un_GoStmt zp_GoStmt (by decide)
  have t_DeferStmt := nob 298 b 74 un_DeferStmt zp_DeferStmt (by decide)
  have t_ReturnStmt := nob 298 b 74 un_ReturnStmt zp_ReturnStmt (by decide)
  have t_BranchStmt : ∀ w, (Instr.typeAssert (.iface 298 (.pointer (some ⟨b, 0, none⟩))) 74 298 true).run Tryz.prog w = .ok (.tuple #[.pointer (some ⟨b, 0, none⟩), .bool true]) w := fun w => as_branch _ _ w
  show Calls Tryz.prog 59 #[.iface T x, .iface 298 (.pointer (some ⟨b, 0, none⟩))] w _
  go_enter Tryz.func59, Tryz.ntmps59
  go_wp2_with fail
  refine HV.out.mono ?_
  rintro e w1 ⟨rfl, I, K1⟩
  have HI := Lib.hid I
  have o1 := K1.obj Ho.out hbM
  have z1 : b < w1.heap.size := lt_of_heap o1
  clear I
  have p1 := cell_of_cells o1 1 rfl
  go_wp2_with fail
  refine (HW0.out _ D _ _ PA0.out (HR0.out.kept K1 HD.out) HD.out HI.out).mono ?_
  rintro e w2 ⟨rfl, I, K2⟩
  have HI := Lib.hid I
  have o1 := K2.obj o1 hbM
  have z1 : b < w2.heap.size := lt_of_heap o1
  clear I
  have p1 := cell_of_cells o1 1 rfl
  go_wp2_with fail
  refine (HL.out _ _ HI.out).mono ?_
  rintro e wz ⟨rfl, I, Kz⟩
  have HI := Lib.hid I
  clear I
  go_wp2_with fail
  go_end0
  have I := HI.out
  refine ⟨rfl, ?_, ((K1).trans K2).trans Kz⟩
  rw [V.sem_n .branch _ _ _ _ _ _ _ _ _ trivial ok.2]
  show Inv (sem f0 (step (.n .branch text num o b f0 f1 f2 f3) s)) wz
  exact I

set_option maxRecDepth 100000 in
set_option maxHeartbeats 1000000 in
theorem walk_block {σ : Type} {T : TypeId} {x : Value} {F : Nat} {rcv : Value} {M : Nat → Prop} {Inv : σ → World → Prop} {sem step : A → σ → σ} {PA : A → σ → Prop} {SK : K → Bool} (V : Vis σ T x F rcv M Inv sem step PA SK) (text : Str) (num : Int) (o : Option Addr) (b : Nat) (f0 f1 f2 f3 : A) (ok : VV (A.n .block text num o b f0 f1 f2 f3).N ∧ SK .block = true) (i0 : f0.isn) (W0 : WalkLOk T x M Inv sem PA 104 f0) (c0 : ∃ l : A, l.isList ∧ ∀ (w : World) (D : Nat → Prop) (v : Value), Rep w D (f0.g 2 .fin) [v] → ∃ g c, v = .slice g l.len c) : WalkOk T x M Inv sem PA (.n .block text num o b f0 f1 f2 f3) := by
  intro w D v s pa hR hD hI
  have pas := V.her_n .block text num o b f0 f1 f2 f3 s trivial ok.2 pa
  have pa0 := pas.1 (by decide)
  have PA0 := Lib.hid pa0
  clear pa0
  clear pas
  obtain ⟨rfl, hb, v0, ho, r0⟩ := open_block (m := 1) (.inr rfl) i0 hR
  obtain ⟨l0, -, q0⟩ := c0
  obtain ⟨g0, c0, rfl⟩ := q0 w D v0 r0
  have hbM := hD b hb
  have HV := Lib.hid (V.visit (.n .block text num o b f0 f1 f2 f3) w D _ s ok.1 pa ok.2 hR hD hI)
  have HL := Lib.hid V.leave
  have HD := Lib.hid hD
  have Ho := Lib.hid ho
  have HR0 := Lib.hid r0
  have HW0 := Lib.hid W0
  clear r0 W0 q0
  clear hR hI ho
  have hm := V.meth
  have he := V.ent
  have t_File := nob 123 b 74 un_File zp_File (by decide)
  have t_Field := nob 123 b 74 un_Field zp_Field (by decide)
  have t_FieldList := nob 123 b 74 un_FieldList zp_FieldList (by decide)
  have t_Ellipsis := nob 123 b 74 un_Ellipsis zp_Ellipsis (by decide)
  have t_FuncLit := nob 123 b 74 un_FuncLit zp_FuncLit (by decide)
  have t_CompositeLit := nob 123 b 74 un_CompositeLit zp_CompositeLit (by decide)
  have t_ParenExpr := nob 123 b 74 un_ParenExpr zp_ParenExpr (by decide)
  have t_SelectorExpr := nob 123 b 74 un_SelectorExpr zp_SelectorExpr (by decide)
  have t_IndexExpr := nob 123 b 74 un_IndexExpr zp_IndexExpr (by decide)
  have t_IndexListExpr := nob 123 b 74 un_IndexListExpr zp_IndexListExpr (by decide)
  have t_SliceExpr := nob 123 b 74 un_SliceExpr zp_SliceExpr (by decide)
  have t_TypeAssertExpr := nob 123 b 74 un_TypeAssertExpr zp_TypeAssertExpr (by decide)
  have t_CallExpr := nob 123 b 74 un_CallExpr zp_CallExpr (by decide)
  have t_StarExpr := nob 123 b 74 un_StarExpr zp_StarExpr (by decide)
  have t_UnaryExpr := nob 123 b 74 un_UnaryExpr zp_UnaryExpr (by decide)
  have t_BinaryExpr := nob 123 b 74 un_BinaryExpr zp_BinaryExpr (by decide)
  have t_KeyValueExpr := nob 123 b 74 un_KeyValueExpr zp_KeyValueExpr (by decide)
  have t_ArrayType := nob 123 b 74 un_ArrayType zp_ArrayType (by decide)
  have t_StructType := nob 123 b 74 un_StructType zp_StructType (by decide)
  have t_FuncType := nob 123 b 74 un_FuncType zp_FuncType (by decide)
  have t_InterfaceType := nob 123 b 74 un_InterfaceType zp_InterfaceType (by decide)
  have t_MapType := nob 123 b 74 un_MapType zp_MapType (by decide)
  have t_ChanType := nob 123 b 74 un_ChanType zp_ChanType (by decide)
  have t_DeclStmt := nob 123 b 74 un_DeclStmt zp_DeclStmt (by decide)
  have t_LabeledStmt := nob 123 b 74 un_LabeledStmt zp_LabeledStmt (by decide)
  have t_ExprStmt := nob 123 b 74 un_ExprStmt zp_ExprStmt (by decide)
  have t_SendStmt := nob 123 b 74 un_SendStmt zp_SendStmt (by decide)
  have t_IncDecStmt := nob 123 b 74 un_IncDecStmt zp_IncDecStmt (by decide)
  have t_AssignStmt := nob 123 b 74 un_AssignStmt zp_AssignStmt (by decide)
  have t_GoStmt := nob 123 b 74 un_GoStmt zp_GoStmt (by decide)
  have t_DeferStmt := nob 123 b 74 un_DeferStmt zp_DeferStmt (by decide)
  have t_ReturnStmt := nob 123 b 74 un_ReturnStmt zp_ReturnStmt (by decide)
  have t_BranchStmt := nob 123 b 74 un_BranchStmt zp_BranchStmt (by decide)
  have t_BlockStmt : ∀ w, (Instr.typeAssert (.iface 123 (.pointer (some ⟨b, 0, none⟩))) 74 123 true).run Tryz.prog w = .ok (.tuple #[.pointer (some ⟨b, 0, none⟩), .bool true]) w := fun w => as_block _ _ w
  show Calls Tryz.prog 59 #[.iface T x, .iface 123 (.pointer (some ⟨b, 0, none⟩))] w _
  go_enter Tryz.func59, Tryz.ntmps59
  go_wp2_with fail
  refine HV.out.mono ?_
  rintro e w1 ⟨rfl, I, K1⟩
  have HI := Lib.hid I
  have o1 := K1.obj Ho.out hbM
  have z1 : b < w1.heap.size := lt_of_heap o1
  clear I
  have p0 := cell_of_cells o1 0 rfl
  go_wp2_with fail
  refine (HW0.out _ D _ _ PA0.out (HR0.out.kept K1 HD.out) HD.out HI.out).mono ?_
  rintro e w2 ⟨rfl, I, K2⟩
  have HI := Lib.hid I
  have o1 := K2.obj o1 hbM
  have z1 : b < w2.heap.size := lt_of_heap o1
  clear I
  have p0 := cell_of_cells o1 0 rfl
  go_wp2_with fail
  refine (HL.out _ _ HI.out).mono ?_
  rintro e wz ⟨rfl, I, Kz⟩
  have HI := Lib.hid I
  clear I
  go_wp2_with fail
  go_end0
  have I := HI.out
  refine ⟨rfl, ?_, ((K1).trans K2).trans Kz⟩
  rw [V.sem_n .block _ _ _ _ _ _ _ _ _ trivial ok.2]
  show Inv (sem f0 (step (.n .block text num o b f0 f1 f2 f3) s)) wz
  exact I

set_option maxRecDepth 100000 in
set_option maxHeartbeats 1000000 in
theorem walk_select {σ : Type} {T : TypeId} {x : Value} {F : Nat} {rcv : Value} {M : Nat → Prop} {Inv : σ → World → Prop} {sem step : A → σ → σ} {PA : A → σ → Prop} {SK : K → Bool} (V : Vis σ T x F rcv M Inv sem step PA SK) (text : Str) (num : Int) (o : Option Addr) (b : Nat) (f0 f1 f2 f3 : A) (ok : VV (A.n .select text num o b f0 f1 f2 f3).N ∧ SK .select = true) (i0 : f0.isn) (m0 : f0.K = .block) (W0 : WalkOk T x M Inv sem PA f0) : WalkOk T x M Inv sem PA (.n .select text num o b f0 f1 f2 f3) := by
  intro w D v s pa hR hD hI
  have pas := V.her_n .select text num o b f0 f1 f2 f3 s trivial ok.2 pa
  have pa0 := pas.1 (by decide)
  have PA0 := Lib.hid pa0
  clear pa0
  clear pas
  obtain ⟨rfl, hb, v0, ho, r0⟩ := open_select (m := 1) (.inr rfl) i0 hR
  obtain ⟨b0, rfl, -⟩ := ptr_of m0 trivial r0
  have r0 := iface_ptr m0 trivial r0
  have hbM := hD b hb
  have HV := Lib.hid (V.visit (.n .select text num o b f0 f1 f2 f3) w D _ s ok.1 pa ok.2 hR hD hI)
  have HL := Lib.hid V.leave
  have HD := Lib.hid hD
  have Ho := Lib.hid ho
  have HR0 := Lib.hid r0
  have HW0 := Lib.hid W0
  clear r0 W0 m0
  clear hR hI ho
  have hm := V.meth
  have he := V.ent
  have t_File := nob 320 b 74 un_File zp_File (by decide)
  have t_Field := nob 320 b 74 un_Field zp_Field (by decide)
  have t_FieldList := nob 320 b 74 un_FieldList zp_FieldList (by decide)
  have t_Ellipsis := nob 320 b 74 un_Ellipsis zp_Ellipsis (by decide)
  have t_FuncLit := nob 320 b 74 un_FuncLit zp_FuncLit (by decide)
  have t_CompositeLit := nob 320 b 74 un_CompositeLit zp_CompositeLit (by decide)
  have t_ParenExpr := nob 320 b 74 un_ParenExpr zp_ParenExpr (by decide)
  have t_SelectorExpr := nob 320 b 74 un_SelectorExpr zp_SelectorExpr (by decide)
  have t_IndexExpr := nob 320 b 74 un_IndexExpr zp_IndexExpr (by decide)
  have t_IndexListExpr := nob 320 b 74 un_IndexListExpr zp_IndexListExpr (by decide)
  have t_SliceExpr := nob 320 b 74 un_SliceExpr zp_SliceExpr (by decide)
  have t_TypeAssertExpr := nob 320 b 74 un_TypeAssertExpr zp_TypeAssertExpr (by decide)
  have t_CallExpr := nob 320 b 74 un_CallExpr zp_CallExpr (by decide)
  have t_StarExpr := nob 320 b 74 un_StarExpr zp_StarExpr (by decide)
  have t_UnaryExpr := nob 320 b 74 un_UnaryExpr zp_UnaryExpr (by decide)
  have t_BinaryExpr := nob 320 b 74 un_BinaryExpr zp_BinaryExpr (by decide)
  have t_KeyValueExpr := nob 320 b 74 un_KeyValueExpr zp_KeyValueExpr (by decide)
  have t_ArrayType := nob 320 b 74 un_ArrayType zp_ArrayType (by decide)
  have t_StructType := nob 320 b 74 un_StructType zp_StructType (by decide)
  have t_FuncType := nob 320 b 74 un_FuncType zp_FuncType (by decide)
  have t_InterfaceType := nob 320 b 74 un_InterfaceType zp_InterfaceType (by decide)
  have t_MapType := nob 320 b 74 un_MapType zp_MapType (by decide)
  have t_ChanType := nob 320 b 74 un_ChanType zp_ChanType (by decide)
  have t_DeclStmt := nob 320 b 74 un_DeclStmt zp_DeclStmt (by decide)
  have t_LabeledStmt := nob 320 b 74 un_LabeledStmt zp_LabeledStmt (by decide)
  have t_ExprStmt := nob 320 b 74 un_ExprStmt zp_ExprStmt (by decide)
  have t_SendStmt := nob 320 b 74 un_SendStmt zp_SendStmt (by decide)
  have t_IncDecStmt := nob 320 b 74 un_IncDecStmt zp_IncDecStmt (by decide)
  have t_AssignStmt := nob 320 b 74 un_AssignStmt zp_AssignStmt (by decide)
  have t_GoStmt := nob 320 b 74 un_GoStmt zp_GoStmt (by decide)
  have t_DeferStmt := nob 320 b 74 un_DeferStmt zp_DeferStmt (by decide)
  have t_ReturnStmt := nob 320 b 74 un_ReturnStmt zp_ReturnStmt (by decide)
  have t_BranchStmt := nob 320 b 74 un_BranchStmt zp_BranchStmt (by decide)
  have t_BlockStmt := nob 320 b 74 un_BlockStmt zp_BlockStmt (by decide)
  have t_IfStmt := nob 320 b 74 un_IfStmt zp_IfStmt (by decide)
  have t_CaseClause := nob 320 b 74 un_CaseClause zp_CaseClause (by decide)
  have t_SwitchStmt := nob 320 b 74 un_SwitchStmt zp_SwitchStmt (by decide)
  have t_TypeSwitchStmt := nob 320 b 74 un_TypeSwitchStmt zp_TypeSwitchStmt (by decide)
  have t_CommClause := nob 320 b 74 un_CommClause zp_CommClause (by decide)
  have t_SelectStmt : ∀ w, (Instr.typeAssert (.iface 320 (.pointer (some ⟨b, 0, none⟩))) 74 320 true).run Tryz.prog w = .ok (.tuple #[.pointer (some ⟨b, 0, none⟩), .bool true]) w := fun w => as_select _ _ w
  show Calls Tryz.prog 59 #[.iface T x, .iface 320 (.pointer (some ⟨b, 0, none⟩))] w _
  go_enter Tryz.func59, Tryz.ntmps59
  go_wp2_with fail
  refine HV.out.mono ?_
  rintro e w1 ⟨rfl, I, K1⟩
  have HI := Lib.hid I
  have o1 := K1.obj Ho.out hbM
  have z1 : b < w1.heap.size := lt_of_heap o1
  clear I
  have p0 := cell_of_cells o1 0 rfl
  go_wp2_with fail
  refine (HW0.out _ D _ _ PA0.out (HR0.out.kept K1 HD.out) HD.out HI.out).mono ?_
  rintro e w2 ⟨rfl, I, K2⟩
  have HI := Lib.hid I
  have o1 := K2.obj o1 hbM
  have z1 : b < w2.heap.size := lt_of_heap o1
  clear I
  have p0 := cell_of_cells o1 0 rfl
  go_wp2_with fail
  refine (HL.out _ _ HI.out).mono ?_
  rintro e wz ⟨rfl, I, Kz⟩
  have HI := Lib.hid I
  clear I
  go_wp2_with fail
  go_end0
  have I := HI.out
  refine ⟨rfl, ?_, ((K1).trans K2).trans Kz⟩
  rw [V.sem_n .select _ _ _ _ _ _ _ _ _ trivial ok.2]
  show Inv (sem f0 (step (.n .select text num o b f0 f1 f2 f3) s)) wz
  exact I

set_option maxRecDepth 100000 in
set_option maxHeartbeats 1000000 in
theorem walk_labeled {σ : Type} {T : TypeId} {x : Value} {F : Nat} {rcv : Value} {M : Nat → Prop} {Inv : σ → World → Prop} {sem step : A → σ → σ} {PA : A → σ → Prop} {SK : K → Bool} (V : Vis σ T x F rcv M Inv sem step PA SK) (text : Str) (num : Int) (o : Option Addr) (b : Nat) (f0 f1 f2 f3 : A) (ok : VV (A.n .labeled text num o b f0 f1 f2 f3).N ∧ SK .labeled = true) (i0 : f0.isn) (m0 : f0.K = .ident) (W0 : WalkOk T x M Inv sem PA f0) (i1 : f1.isn) (k1 : K) (hk1 : k1.real) (m1 : f1.K = k1) (W1 : WalkOk T x M Inv sem PA f1) : WalkOk T x M Inv sem PA (.n .labeled text num o b f0 f1 f2 f3) := by
  intro w D v s pa hR hD hI
  have pas := V.her_n .labeled text num o b f0 f1 f2 f3 s trivial ok.2 pa
  have pa0 := pas.1 (by decide)
  have PA0 := Lib.hid pa0
  clear pa0
  have pa1 := pas.2.1 (by decide)
  have PA1 := Lib.hid pa1
  clear pa1
  clear pas
  obtain ⟨rfl, hb, v0, v1, ho, r0, r1⟩ := open_labeled (m := 1) (.inr rfl) i0 i1 hR
  obtain ⟨b0, rfl, -⟩ := ptr_of m0 trivial r0
  have r0 := iface_ptr m0 trivial r0
  obtain ⟨b1, rfl, -⟩ := iface_of m1 hk1 r1
  have hbM := hD b hb
  have HV := Lib.hid (V.visit (.n .labeled text num o b f0 f1 f2 f3) w D _ s ok.1 pa ok.2 hR hD hI)
  have HL := Lib.hid V.leave
  have HD := Lib.hid hD
  have Ho := Lib.hid ho
  have HR0 := Lib.hid r0
  have HW0 := Lib.hid W0
  clear r0 W0 m0
  have HR1 := Lib.hid r1
  have HW1 := Lib.hid W1
  clear r1 W1 m1
  clear hR hI ho
  have hm := V.meth
  have he := V.ent
  have t_File := nob 272 b 74 un_File zp_File (by decide)
  have t_Field := nob 272 b 74 un_Field zp_Field (by decide)
  have t_FieldList := nob 272 b 74 un_FieldList zp_FieldList (by decide)
  have t_Ellipsis := nob 272 b 74 un_Ellipsis zp_Ellipsis (by decide)
  have t_FuncLit := nob 272 b 74 un_FuncLit zp_FuncLit (by decide)
  have t_CompositeLit := nob 272 b 74 un_CompositeLit zp_CompositeLit (by decide)
  have t_ParenExpr := nob 272 b 74 un_ParenExpr zp_ParenExpr (by decide)
  have t_SelectorExpr := nob 272 b 74 un_SelectorExpr zp_SelectorExpr (by decide)
  have t_IndexExpr := nob 272 b 74 un_IndexExpr zp_IndexExpr (by decide)
  have t_IndexListExpr := nob 272 b 74 un_IndexListExpr zp_IndexListExpr (by decide)
  have t_SliceExpr := nob 272 b 74 un_SliceExpr zp_SliceExpr (by decide)
  have t_TypeAssertExpr := nob 272 b 74 un_TypeAssertExpr zp_TypeAssertExpr (by decide)
  have t_CallExpr := nob 272 b 74 un_CallExpr zp_CallExpr (by decide)
  have t_StarExpr := nob 272 b 74 un_StarExpr zp_StarExpr (by decide)
  have t_UnaryExpr := nob 272 b 74 un_UnaryExpr zp_UnaryExpr (by decide)
  have t_BinaryExpr := nob 272 b 74 un_BinaryExpr zp_BinaryExpr (by decide)
  have t_KeyValueExpr := nob 272 b 74 un_KeyValueExpr zp_KeyValueExpr (by decide)
  have t_ArrayType := nob 272 b 74 un_ArrayType zp_ArrayType (by decide)
  have t_StructType := nob 272 b 74 un_StructType zp_StructType (by decide)
  have t_FuncType := nob 272 b 74 un_FuncType zp_FuncType (by decide)
  have t_InterfaceType := nob 272 b 74 un_InterfaceType zp_InterfaceType (by decide)
  have t_MapType := nob 272 b 74 un_MapType zp_MapType (by decide)
  have t_ChanType := nob 272 b 74 un_ChanType zp_ChanType (by decide)
  have t_DeclStmt := nob 272 b 74 un_DeclStmt zp_DeclStmt (by decide)
  have t_LabeledStmt : ∀ w, (Instr.typeAssert (.iface 272 (.pointer (some ⟨b, 0, none⟩))) 74 272 true).run Tryz.prog w = .ok (.tuple #[.pointer (some ⟨b, 0, none⟩), .bool true]) w := fun w => as_labeled _ _ w
  show Calls Tryz.prog 59 #[.iface T x, .iface 272 (.pointer (some ⟨b, 0, none⟩))] w _
  go_enter Tryz.func59, Tryz.ntmps59
  go_wp2_with fail
  refine HV.out.mono ?_
  rintro e w1 ⟨rfl, I, K1⟩
  have HI := Lib.hid I
  have o1 := K1.obj Ho.out hbM
  have z1 : b < w1.heap.size := lt_of_heap o1
  clear I
  have p0 := cell_of_cells o1 0 rfl
  have p1 := cell_of_cells o1 1 rfl
  go_wp2_with fail
  refine (HW0.out _ D _ _ PA0.out (HR0.out.kept K1 HD.out) HD.out HI.out).mono ?_
  rintro e w2 ⟨rfl, I, K2⟩
  have HI := Lib.hid I
  have o1 := K2.obj o1 hbM
  have z1 : b < w2.heap.size := lt_of_heap o1
  clear I
  have p0 := cell_of_cells o1 0 rfl
  have p1 := cell_of_cells o1 1 rfl
  go_wp2_with fail
  refine (HW1.out _ D _ _ PA1.out ((HR1.out.kept K1 HD.out).kept K2 HD.out) HD.out HI.out).mono ?_
  rintro e w3 ⟨rfl, I, K3⟩
  have HI := Lib.hid I
  have o1 := K3.obj o1 hbM
  have z1 : b < w3.heap.size := lt_of_heap o1
  clear I
  have p0 := cell_of_cells o1 0 rfl
  have p1 := cell_of_cells o1 1 rfl
  go_wp2_with fail
  refine (HL.out _ _ HI.out).mono ?_
  rintro e wz ⟨rfl, I, Kz⟩
  have HI := Lib.hid I
  clear I
  go_wp2_with fail
  go_end0
  have I := HI.out
  refine ⟨rfl, ?_, (((K1).trans K2).trans K3).trans Kz⟩
  rw [V.sem_n .labeled _ _ _ _ _ _ _ _ _ trivial ok.2]
  show Inv (sem f1 (sem f0 (step (.n .labeled text num o b f0 f1 f2 f3) s))) wz
  exact I
end Go.Proofs.YtleolbpibjnedaaGreat
