/- revive's counting visitor. -/
import Derived.Test.YtleolbpibjnedaaGreatQWkG
set_option linter.unusedSimpArgs false
set_option linter.unusedVariables false
namespace Go.Proofs.YtleolbpibjnedaaGreat
open Go Go.RowKit Gc

/-- The count, and that nothing else turns. -/
def CycP (vb : Nat) (c : Int) (w : World) (e : Ending) (w' : World) : Prop :=
  e = .returned (.iface 162 (.pointer (some ⟨vb, 0, none⟩))) ∧ w'.heap[vb]? = some (.cells #[.int .i64 c] 160 (0, 0)) ∧ Kept (fun b => b = vb) w w'

set_option maxRecDepth 100000 in
theorem cyc_ident (vb b : Nat) (c : Int) (w : World) (hv : w.heap[vb]? = some (.cells #[.int .i64 c] 160 (0, 0))) : Calls Tryz.prog 138 #[.pointer (some ⟨vb, 0, none⟩), .iface 121 (.pointer (some ⟨b, 0, none⟩))] w (CycP vb c w) := by
  have p0 := cell_of_cells (cs := [_]) hv 0 rfl
  have f0 := free_of_cells hv 0
  have zv : vb < w.heap.size := lt_of_heap hv
  have HV := Lib.hid hv
  clear hv
  have t_FuncDecl := nob 121 b 74 un_FuncDecl zp_FuncDecl (by decide)
  have t_IfStmt := nob 121 b 74 un_IfStmt zp_IfStmt (by decide)
  have t_ForStmt := nob 121 b 74 un_ForStmt zp_ForStmt (by decide)
  have t_RangeStmt := nob 121 b 74 un_RangeStmt zp_RangeStmt (by decide)
  have t_CaseClause := nob 121 b 74 un_CaseClause zp_CaseClause (by decide)
  have t_CommClause := nob 121 b 74 un_CommClause zp_CommClause (by decide)
  have t_BinaryExpr := nob 121 b 74 un_BinaryExpr zp_BinaryExpr (by decide)
  go_enter Tryz.func138, Tryz.ntmps138
  go_wp2_with fail
  go_ret
  exact ⟨rfl, HV.out, Kept.refl _ _⟩

set_option maxRecDepth 100000 in
theorem cyc_lit (vb b : Nat) (c : Int) (w : World) (hv : w.heap[vb]? = some (.cells #[.int .i64 c] 160 (0, 0))) : Calls Tryz.prog 138 #[.pointer (some ⟨vb, 0, none⟩), .iface 183 (.pointer (some ⟨b, 0, none⟩))] w (CycP vb c w) := by
  have p0 := cell_of_cells (cs := [_]) hv 0 rfl
  have f0 := free_of_cells hv 0
  have zv : vb < w.heap.size := lt_of_heap hv
  have HV := Lib.hid hv
  clear hv
  have t_FuncDecl := nob 183 b 74 un_FuncDecl zp_FuncDecl (by decide)
  have t_IfStmt := nob 183 b 74 un_IfStmt zp_IfStmt (by decide)
  have t_ForStmt := nob 183 b 74 un_ForStmt zp_ForStmt (by decide)
  have t_RangeStmt := nob 183 b 74 un_RangeStmt zp_RangeStmt (by decide)
  have t_CaseClause := nob 183 b 74 un_CaseClause zp_CaseClause (by decide)
  have t_CommClause := nob 183 b 74 un_CommClause zp_CommClause (by decide)
  have t_BinaryExpr := nob 183 b 74 un_BinaryExpr zp_BinaryExpr (by decide)
  go_enter Tryz.func138, Tryz.ntmps138
  go_wp2_with fail
  go_ret
  exact ⟨rfl, HV.out, Kept.refl _ _⟩

set_option maxRecDepth 100000 in
theorem cyc_flit (vb b : Nat) (c : Int) (w : World) (hv : w.heap[vb]? = some (.cells #[.int .i64 c] 160 (0, 0))) : Calls Tryz.prog 138 #[.pointer (some ⟨vb, 0, none⟩), .iface 211 (.pointer (some ⟨b, 0, none⟩))] w (CycP vb c w) := by
  have p0 := cell_of_cells (cs := [_]) hv 0 rfl
  have f0 := free_of_cells hv 0
  have zv : vb < w.heap.size := lt_of_heap hv
  have HV := Lib.hid hv
  clear hv
  have t_FuncDecl := nob 211 b 74 un_FuncDecl zp_FuncDecl (by decide)
  have t_IfStmt := nob 211 b 74 un_IfStmt zp_IfStmt (by decide)
  have t_ForStmt := nob 211 b 74 un_ForStmt zp_ForStmt (by decide)
  have t_RangeStmt := nob 211 b 74 un_RangeStmt zp_RangeStmt (by decide)
  have t_CaseClause := nob 211 b 74 un_CaseClause zp_CaseClause (by decide)
  have t_CommClause := nob 211 b 74 un_CommClause zp_CommClause (by decide)
  have t_BinaryExpr := nob 211 b 74 un_BinaryExpr zp_BinaryExpr (by decide)
  go_enter Tryz.func138, Tryz.ntmps138
  go_wp2_with fail
  go_ret
  exact ⟨rfl, HV.out, Kept.refl _ _⟩

set_option maxRecDepth 100000 in
theorem cyc_paren (vb b : Nat) (c : Int) (w : World) (hv : w.heap[vb]? = some (.cells #[.int .i64 c] 160 (0, 0))) : Calls Tryz.prog 138 #[.pointer (some ⟨vb, 0, none⟩), .iface 220 (.pointer (some ⟨b, 0, none⟩))] w (CycP vb c w) := by
  have p0 := cell_of_cells (cs := [_]) hv 0 rfl
  have f0 := free_of_cells hv 0
  have zv : vb < w.heap.size := lt_of_heap hv
  have HV := Lib.hid hv
  clear hv
  have t_FuncDecl := nob 220 b 74 un_FuncDecl zp_FuncDecl (by decide)
  have t_IfStmt := nob 220 b 74 un_IfStmt zp_IfStmt (by decide)
  have t_ForStmt := nob 220 b 74 un_ForStmt zp_ForStmt (by decide)
  have t_RangeStmt := nob 220 b 74 un_RangeStmt zp_RangeStmt (by decide)
  have t_CaseClause := nob 220 b 74 un_CaseClause zp_CaseClause (by decide)
  have t_CommClause := nob 220 b 74 un_CommClause zp_CommClause (by decide)
  have t_BinaryExpr := nob 220 b 74 un_BinaryExpr zp_BinaryExpr (by decide)
  go_enter Tryz.func138, Tryz.ntmps138
  go_wp2_with fail
  go_ret
  exact ⟨rfl, HV.out, Kept.refl _ _⟩

set_option maxRecDepth 100000 in
theorem cyc_call (vb b : Nat) (c : Int) (w : World) (hv : w.heap[vb]? = some (.cells #[.int .i64 c] 160 (0, 0))) : Calls Tryz.prog 138 #[.pointer (some ⟨vb, 0, none⟩), .iface 172 (.pointer (some ⟨b, 0, none⟩))] w (CycP vb c w) := by
  have p0 := cell_of_cells (cs := [_]) hv 0 rfl
  have f0 := free_of_cells hv 0
  have zv : vb < w.heap.size := lt_of_heap hv
  have HV := Lib.hid hv
  clear hv
  have t_FuncDecl := nob 172 b 74 un_FuncDecl zp_FuncDecl (by decide)
  have t_IfStmt := nob 172 b 74 un_IfStmt zp_IfStmt (by decide)
  have t_ForStmt := nob 172 b 74 un_ForStmt zp_ForStmt (by decide)
  have t_RangeStmt := nob 172 b 74 un_RangeStmt zp_RangeStmt (by decide)
  have t_CaseClause := nob 172 b 74 un_CaseClause zp_CaseClause (by decide)
  have t_CommClause := nob 172 b 74 un_CommClause zp_CommClause (by decide)
  have t_BinaryExpr := nob 172 b 74 un_BinaryExpr zp_BinaryExpr (by decide)
  go_enter Tryz.func138, Tryz.ntmps138
  go_wp2_with fail
  go_ret
  exact ⟨rfl, HV.out, Kept.refl _ _⟩

set_option maxRecDepth 100000 in
theorem cyc_un (vb b : Nat) (c : Int) (w : World) (hv : w.heap[vb]? = some (.cells #[.int .i64 c] 160 (0, 0))) : Calls Tryz.prog 138 #[.pointer (some ⟨vb, 0, none⟩), .iface 238 (.pointer (some ⟨b, 0, none⟩))] w (CycP vb c w) := by
  have p0 := cell_of_cells (cs := [_]) hv 0 rfl
  have f0 := free_of_cells hv 0
  have zv : vb < w.heap.size := lt_of_heap hv
  have HV := Lib.hid hv
  clear hv
  have t_FuncDecl := nob 238 b 74 un_FuncDecl zp_FuncDecl (by decide)
  have t_IfStmt := nob 238 b 74 un_IfStmt zp_IfStmt (by decide)
  have t_ForStmt := nob 238 b 74 un_ForStmt zp_ForStmt (by decide)
  have t_RangeStmt := nob 238 b 74 un_RangeStmt zp_RangeStmt (by decide)
  have t_CaseClause := nob 238 b 74 un_CaseClause zp_CaseClause (by decide)
  have t_CommClause := nob 238 b 74 un_CommClause zp_CommClause (by decide)
  have t_BinaryExpr := nob 238 b 74 un_BinaryExpr zp_BinaryExpr (by decide)
  go_enter Tryz.func138, Tryz.ntmps138
  go_wp2_with fail
  go_ret
  exact ⟨rfl, HV.out, Kept.refl _ _⟩

set_option maxRecDepth 100000 in
theorem cyc_ftype (vb b : Nat) (c : Int) (w : World) (hv : w.heap[vb]? = some (.cells #[.int .i64 c] 160 (0, 0))) : Calls Tryz.prog 138 #[.pointer (some ⟨vb, 0, none⟩), .iface 122 (.pointer (some ⟨b, 0, none⟩))] w (CycP vb c w) := by
  have p0 := cell_of_cells (cs := [_]) hv 0 rfl
  have f0 := free_of_cells hv 0
  have zv : vb < w.heap.size := lt_of_heap hv
  have HV := Lib.hid hv
  clear hv
  have t_FuncDecl := nob 122 b 74 un_FuncDecl zp_FuncDecl (by decide)
  have t_IfStmt := nob 122 b 74 un_IfStmt zp_IfStmt (by decide)
  have t_ForStmt := nob 122 b 74 un_ForStmt zp_ForStmt (by decide)
  have t_RangeStmt := nob 122 b 74 un_RangeStmt zp_RangeStmt (by decide)
  have t_CaseClause := nob 122 b 74 un_CaseClause zp_CaseClause (by decide)
  have t_CommClause := nob 122 b 74 un_CommClause zp_CommClause (by decide)
  have t_BinaryExpr := nob 122 b 74 un_BinaryExpr zp_BinaryExpr (by decide)
  go_enter Tryz.func138, Tryz.ntmps138
  go_wp2_with fail
  go_ret
  exact ⟨rfl, HV.out, Kept.refl _ _⟩

set_option maxRecDepth 100000 in
theorem cyc_flist (vb b : Nat) (c : Int) (w : World) (hv : w.heap[vb]? = some (.cells #[.int .i64 c] 160 (0, 0))) : Calls Tryz.prog 138 #[.pointer (some ⟨vb, 0, none⟩), .iface 120 (.pointer (some ⟨b, 0, none⟩))] w (CycP vb c w) := by
  have p0 := cell_of_cells (cs := [_]) hv 0 rfl
  have f0 := free_of_cells hv 0
  have zv : vb < w.heap.size := lt_of_heap hv
  have HV := Lib.hid hv
  clear hv
  have t_FuncDecl := nob 120 b 74 un_FuncDecl zp_FuncDecl (by decide)
  have t_IfStmt := nob 120 b 74 un_IfStmt zp_IfStmt (by decide)
  have t_ForStmt := nob 120 b 74 un_ForStmt zp_ForStmt (by decide)
  have t_RangeStmt := nob 120 b 74 un_RangeStmt zp_RangeStmt (by decide)
  have t_CaseClause := nob 120 b 74 un_CaseClause zp_CaseClause (by decide)
  have t_CommClause := nob 120 b 74 un_CommClause zp_CommClause (by decide)
  have t_BinaryExpr := nob 120 b 74 un_BinaryExpr zp_BinaryExpr (by decide)
  go_enter Tryz.func138, Tryz.ntmps138
  go_wp2_with fail
  go_ret
  exact ⟨rfl, HV.out, Kept.refl _ _⟩

set_option maxRecDepth 100000 in
theorem cyc_exprS (vb b : Nat) (c : Int) (w : World) (hv : w.heap[vb]? = some (.cells #[.int .i64 c] 160 (0, 0))) : Calls Tryz.prog 138 #[.pointer (some ⟨vb, 0, none⟩), .iface 278 (.pointer (some ⟨b, 0, none⟩))] w (CycP vb c w) := by
  have p0 := cell_of_cells (cs := [_]) hv 0 rfl
  have f0 := free_of_cells hv 0
  have zv : vb < w.heap.size := lt_of_heap hv
  have HV := Lib.hid hv
  clear hv
  have t_FuncDecl := nob 278 b 74 un_FuncDecl zp_FuncDecl (by decide)
  have t_IfStmt := nob 278 b 74 un_IfStmt zp_IfStmt (by decide)
  have t_ForStmt := nob 278 b 74 un_ForStmt zp_ForStmt (by decide)
  have t_RangeStmt := nob 278 b 74 un_RangeStmt zp_RangeStmt (by decide)
  have t_CaseClause := nob 278 b 74 un_CaseClause zp_CaseClause (by decide)
  have t_CommClause := nob 278 b 74 un_CommClause zp_CommClause (by decide)
  have t_BinaryExpr := nob 278 b 74 un_BinaryExpr zp_BinaryExpr (by decide)
  go_enter Tryz.func138, Tryz.ntmps138
  go_wp2_with fail
  go_ret
  exact ⟨rfl, HV.out, Kept.refl _ _⟩

set_option maxRecDepth 100000 in
theorem cyc_inc (vb b : Nat) (c : Int) (w : World) (hv : w.heap[vb]? = some (.cells #[.int .i64 c] 160 (0, 0))) : Calls Tryz.prog 138 #[.pointer (some ⟨vb, 0, none⟩), .iface 283 (.pointer (some ⟨b, 0, none⟩))] w (CycP vb c w) := by
  have p0 := cell_of_cells (cs := [_]) hv 0 rfl
  have f0 := free_of_cells hv 0
  have zv : vb < w.heap.size := lt_of_heap hv
  have HV := Lib.hid hv
  clear hv
  have t_FuncDecl := nob 283 b 74 un_FuncDecl zp_FuncDecl (by decide)
  have t_IfStmt := nob 283 b 74 un_IfStmt zp_IfStmt (by decide)
  have t_ForStmt := nob 283 b 74 un_ForStmt zp_ForStmt (by decide)
  have t_RangeStmt := nob 283 b 74 un_RangeStmt zp_RangeStmt (by decide)
  have t_CaseClause := nob 283 b 74 un_CaseClause zp_CaseClause (by decide)
  have t_CommClause := nob 283 b 74 un_CommClause zp_CommClause (by decide)
  have t_BinaryExpr := nob 283 b 74 un_BinaryExpr zp_BinaryExpr (by decide)
  go_enter Tryz.func138, Tryz.ntmps138
  go_wp2_with fail
  go_ret
  exact ⟨rfl, HV.out, Kept.refl _ _⟩

set_option maxRecDepth 100000 in
theorem cyc_assign (vb b : Nat) (c : Int) (w : World) (hv : w.heap[vb]? = some (.cells #[.int .i64 c] 160 (0, 0))) : Calls Tryz.prog 138 #[.pointer (some ⟨vb, 0, none⟩), .iface 286 (.pointer (some ⟨b, 0, none⟩))] w (CycP vb c w) := by
  have p0 := cell_of_cells (cs := [_]) hv 0 rfl
  have f0 := free_of_cells hv 0
  have zv : vb < w.heap.size := lt_of_heap hv
  have HV := Lib.hid hv
  clear hv
  have t_FuncDecl := nob 286 b 74 un_FuncDecl zp_FuncDecl (by decide)
  have t_IfStmt := nob 286 b 74 un_IfStmt zp_IfStmt (by decide)
  have t_ForStmt := nob 286 b 74 un_ForStmt zp_ForStmt (by decide)
  have t_RangeStmt := nob 286 b 74 un_RangeStmt zp_RangeStmt (by decide)
  have t_CaseClause := nob 286 b 74 un_CaseClause zp_CaseClause (by decide)
  have t_CommClause := nob 286 b 74 un_CommClause zp_CommClause (by decide)
  have t_BinaryExpr := nob 286 b 74 un_BinaryExpr zp_BinaryExpr (by decide)
  go_enter Tryz.func138, Tryz.ntmps138
  go_wp2_with fail
  go_ret
  exact ⟨rfl, HV.out, Kept.refl _ _⟩

set_option maxRecDepth 100000 in
theorem cyc_ret (vb b : Nat) (c : Int) (w : World) (hv : w.heap[vb]? = some (.cells #[.int .i64 c] 160 (0, 0))) : Calls Tryz.prog 138 #[.pointer (some ⟨vb, 0, none⟩), .iface 295 (.pointer (some ⟨b, 0, none⟩))] w (CycP vb c w) := by
  have p0 := cell_of_cells (cs := [_]) hv 0 rfl
  have f0 := free_of_cells hv 0
  have zv : vb < w.heap.size := lt_of_heap hv
  have HV := Lib.hid hv
  clear hv
  have t_FuncDecl := nob 295 b 74 un_FuncDecl zp_FuncDecl (by decide)
  have t_IfStmt := nob 295 b 74 un_IfStmt zp_IfStmt (by decide)
  have t_ForStmt := nob 295 b 74 un_ForStmt zp_ForStmt (by decide)
  have t_RangeStmt := nob 295 b 74 un_RangeStmt zp_RangeStmt (by decide)
  have t_CaseClause := nob 295 b 74 un_CaseClause zp_CaseClause (by decide)
  have t_CommClause := nob 295 b 74 un_CommClause zp_CommClause (by decide)
  have t_BinaryExpr := nob 295 b 74 un_BinaryExpr zp_BinaryExpr (by decide)
  go_enter Tryz.func138, Tryz.ntmps138
  go_wp2_with fail
  go_ret
  exact ⟨rfl, HV.out, Kept.refl _ _⟩

set_option maxRecDepth 100000 in
theorem cyc_branch (vb b : Nat) (c : Int) (w : World) (hv : w.heap[vb]? = some (.cells #[.int .i64 c] 160 (0, 0))) : Calls Tryz.prog 138 #[.pointer (some ⟨vb, 0, none⟩), .iface 298 (.pointer (some ⟨b, 0, none⟩))] w (CycP vb c w) := by
  have p0 := cell_of_cells (cs := [_]) hv 0 rfl
  have f0 := free_of_cells hv 0
  have zv : vb < w.heap.size := lt_of_heap hv
  have HV := Lib.hid hv
  clear hv
  have t_FuncDecl := nob 298 b 74 un_FuncDecl zp_FuncDecl (by decide)
  have t_IfStmt := nob 298 b 74 un_IfStmt zp_IfStmt (by decide)
  have t_ForStmt := nob 298 b 74 un_ForStmt zp_ForStmt (by decide)
  have t_RangeStmt := nob 298 b 74 un_RangeStmt zp_RangeStmt (by decide)
  have t_CaseClause := nob 298 b 74 un_CaseClause zp_CaseClause (by decide)
  have t_CommClause := nob 298 b 74 un_CommClause zp_CommClause (by decide)
  have t_BinaryExpr := nob 298 b 74 un_BinaryExpr zp_BinaryExpr (by decide)
  go_enter Tryz.func138, Tryz.ntmps138
  go_wp2_with fail
  go_ret
  exact ⟨rfl, HV.out, Kept.refl _ _⟩

set_option maxRecDepth 100000 in
theorem cyc_block (vb b : Nat) (c : Int) (w : World) (hv : w.heap[vb]? = some (.cells #[.int .i64 c] 160 (0, 0))) : Calls Tryz.prog 138 #[.pointer (some ⟨vb, 0, none⟩), .iface 123 (.pointer (some ⟨b, 0, none⟩))] w (CycP vb c w) := by
  have p0 := cell_of_cells (cs := [_]) hv 0 rfl
  have f0 := free_of_cells hv 0
  have zv : vb < w.heap.size := lt_of_heap hv
  have HV := Lib.hid hv
  clear hv
  have t_FuncDecl := nob 123 b 74 un_FuncDecl zp_FuncDecl (by decide)
  have t_IfStmt := nob 123 b 74 un_IfStmt zp_IfStmt (by decide)
  have t_ForStmt := nob 123 b 74 un_ForStmt zp_ForStmt (by decide)
  have t_RangeStmt := nob 123 b 74 un_RangeStmt zp_RangeStmt (by decide)
  have t_CaseClause := nob 123 b 74 un_CaseClause zp_CaseClause (by decide)
  have t_CommClause := nob 123 b 74 un_CommClause zp_CommClause (by decide)
  have t_BinaryExpr := nob 123 b 74 un_BinaryExpr zp_BinaryExpr (by decide)
  go_enter Tryz.func138, Tryz.ntmps138
  go_wp2_with fail
  go_ret
  exact ⟨rfl, HV.out, Kept.refl _ _⟩

set_option maxRecDepth 100000 in
theorem cyc_if_ (vb b : Nat) (c : Int) (w : World) (hv : w.heap[vb]? = some (.cells #[.int .i64 c] 160 (0, 0))) : Calls Tryz.prog 138 #[.pointer (some ⟨vb, 0, none⟩), .iface 305 (.pointer (some ⟨b, 0, none⟩))] w (CycP vb (RowKit.wrap64 (c + 1)) w) := by
  have p0 := cell_of_cells (cs := [_]) hv 0 rfl
  have f0 := free_of_cells hv 0
  have zv : vb < w.heap.size := lt_of_heap hv
  have HV := Lib.hid hv
  clear hv
  have t_FuncDecl := nob 305 b 74 un_FuncDecl zp_FuncDecl (by decide)
  have t_IfStmt : ∀ w, (Instr.typeAssert (.iface 305 (.pointer (some ⟨b, 0, none⟩))) 74 305 true).run Tryz.prog w = .ok (.tuple #[.pointer (some ⟨b, 0, none⟩), .bool true]) w := fun w => as_if_ _ _ w
  have t_ForStmt := nob 305 b 74 un_ForStmt zp_ForStmt (by decide)
  have t_RangeStmt := nob 305 b 74 un_RangeStmt zp_RangeStmt (by decide)
  have t_CaseClause := nob 305 b 74 un_CaseClause zp_CaseClause (by decide)
  have t_CommClause := nob 305 b 74 un_CommClause zp_CommClause (by decide)
  have t_BinaryExpr := nob 305 b 74 un_BinaryExpr zp_BinaryExpr (by decide)
  go_enter Tryz.func138, Tryz.ntmps138
  go_wp2_with fail
  go_ret
  exact ⟨rfl, set_of_cells (cs := [_]) HV.out 0 _, Kept.set1e (b := vb)⟩

set_option maxRecDepth 100000 in
theorem cyc_case_ (vb b : Nat) (c : Int) (w : World) (hv : w.heap[vb]? = some (.cells #[.int .i64 c] 160 (0, 0))) : Calls Tryz.prog 138 #[.pointer (some ⟨vb, 0, none⟩), .iface 308 (.pointer (some ⟨b, 0, none⟩))] w (CycP vb (RowKit.wrap64 (c + 1)) w) := by
  have p0 := cell_of_cells (cs := [_]) hv 0 rfl
  have f0 := free_of_cells hv 0
  have zv : vb < w.heap.size := lt_of_heap hv
  have HV := Lib.hid hv
  clear hv
  have t_FuncDecl := nob 308 b 74 un_FuncDecl zp_FuncDecl (by decide)
  have t_IfStmt := nob 308 b 74 un_IfStmt zp_IfStmt (by decide)
  have t_ForStmt := nob 308 b 74 un_ForStmt zp_ForStmt (by decide)
  have t_RangeStmt := nob 308 b 74 un_RangeStmt zp_RangeStmt (by decide)
  have t_CaseClause : ∀ w, (Instr.typeAssert (.iface 308 (.pointer (some ⟨b, 0, none⟩))) 74 308 true).run Tryz.prog w = .ok (.tuple #[.pointer (some ⟨b, 0, none⟩), .bool true]) w := fun w => as_case_ _ _ w
  have t_CommClause := nob 308 b 74 un_CommClause zp_CommClause (by decide)
  have t_BinaryExpr := nob 308 b 74 un_BinaryExpr zp_BinaryExpr (by decide)
  go_enter Tryz.func138, Tryz.ntmps138
  go_wp2_with fail
  go_ret
  exact ⟨rfl, set_of_cells (cs := [_]) HV.out 0 _, Kept.set1e (b := vb)⟩

set_option maxRecDepth 100000 in
theorem cyc_switch (vb b : Nat) (c : Int) (w : World) (hv : w.heap[vb]? = some (.cells #[.int .i64 c] 160 (0, 0))) : Calls Tryz.prog 138 #[.pointer (some ⟨vb, 0, none⟩), .iface 311 (.pointer (some ⟨b, 0, none⟩))] w (CycP vb c w) := by
  have p0 := cell_of_cells (cs := [_]) hv 0 rfl
  have f0 := free_of_cells hv 0
  have zv : vb < w.heap.size := lt_of_heap hv
  have HV := Lib.hid hv
  clear hv
  have t_FuncDecl := nob 311 b 74 un_FuncDecl zp_FuncDecl (by decide)
  have t_IfStmt := nob 311 b 74 un_IfStmt zp_IfStmt (by decide)
  have t_ForStmt := nob 311 b 74 un_ForStmt zp_ForStmt (by decide)
  have t_RangeStmt := nob 311 b 74 un_RangeStmt zp_RangeStmt (by decide)
  have t_CaseClause := nob 311 b 74 un_CaseClause zp_CaseClause (by decide)
  have t_CommClause := nob 311 b 74 un_CommClause zp_CommClause (by decide)
  have t_BinaryExpr := nob 311 b 74 un_BinaryExpr zp_BinaryExpr (by decide)
  go_enter Tryz.func138, Tryz.ntmps138
  go_wp2_with fail
  go_ret
  exact ⟨rfl, HV.out, Kept.refl _ _⟩

set_option maxRecDepth 100000 in
theorem cyc_comm (vb b : Nat) (c : Int) (w : World) (hv : w.heap[vb]? = some (.cells #[.int .i64 c] 160 (0, 0))) : Calls Tryz.prog 138 #[.pointer (some ⟨vb, 0, none⟩), .iface 317 (.pointer (some ⟨b, 0, none⟩))] w (CycP vb (RowKit.wrap64 (c + 1)) w) := by
  have p0 := cell_of_cells (cs := [_]) hv 0 rfl
  have f0 := free_of_cells hv 0
  have zv : vb < w.heap.size := lt_of_heap hv
  have HV := Lib.hid hv
  clear hv
  have t_FuncDecl := nob 317 b 74 un_FuncDecl zp_FuncDecl (by decide)
  have t_IfStmt := nob 317 b 74 un_IfStmt zp_IfStmt (by decide)
  have t_ForStmt := nob 317 b 74 un_ForStmt zp_ForStmt (by decide)
  have t_RangeStmt := nob 317 b 74 un_RangeStmt zp_RangeStmt (by decide)
  have t_CaseClause := nob 317 b 74 un_CaseClause zp_CaseClause (by decide)
  have t_CommClause : ∀ w, (Instr.typeAssert (.iface 317 (.pointer (some ⟨b, 0, none⟩))) 74 317 true).run Tryz.prog w = .ok (.tuple #[.pointer (some ⟨b, 0, none⟩), .bool true]) w := fun w => as_comm _ _ w
  have t_BinaryExpr := nob 317 b 74 un_BinaryExpr zp_BinaryExpr (by decide)
  go_enter Tryz.func138, Tryz.ntmps138
  go_wp2_with fail
  go_ret
  exact ⟨rfl, set_of_cells (cs := [_]) HV.out 0 _, Kept.set1e (b := vb)⟩

set_option maxRecDepth 100000 in
theorem cyc_select (vb b : Nat) (c : Int) (w : World) (hv : w.heap[vb]? = some (.cells #[.int .i64 c] 160 (0, 0))) : Calls Tryz.prog 138 #[.pointer (some ⟨vb, 0, none⟩), .iface 320 (.pointer (some ⟨b, 0, none⟩))] w (CycP vb c w) := by
  have p0 := cell_of_cells (cs := [_]) hv 0 rfl
  have f0 := free_of_cells hv 0
  have zv : vb < w.heap.size := lt_of_heap hv
  have HV := Lib.hid hv
  clear hv
  have t_FuncDecl := nob 320 b 74 un_FuncDecl zp_FuncDecl (by decide)
  have t_IfStmt := nob 320 b 74 un_IfStmt zp_IfStmt (by decide)
  have t_ForStmt := nob 320 b 74 un_ForStmt zp_ForStmt (by decide)
  have t_RangeStmt := nob 320 b 74 un_RangeStmt zp_RangeStmt (by decide)
  have t_CaseClause := nob 320 b 74 un_CaseClause zp_CaseClause (by decide)
  have t_CommClause := nob 320 b 74 un_CommClause zp_CommClause (by decide)
  have t_BinaryExpr := nob 320 b 74 un_BinaryExpr zp_BinaryExpr (by decide)
  go_enter Tryz.func138, Tryz.ntmps138
  go_wp2_with fail
  go_ret
  exact ⟨rfl, HV.out, Kept.refl _ _⟩

set_option maxRecDepth 100000 in
theorem cyc_for_ (vb b : Nat) (c : Int) (w : World) (hv : w.heap[vb]? = some (.cells #[.int .i64 c] 160 (0, 0))) : Calls Tryz.prog 138 #[.pointer (some ⟨vb, 0, none⟩), .iface 323 (.pointer (some ⟨b, 0, none⟩))] w (CycP vb (RowKit.wrap64 (c + 1)) w) := by
  have p0 := cell_of_cells (cs := [_]) hv 0 rfl
  have f0 := free_of_cells hv 0
  have zv : vb < w.heap.size := lt_of_heap hv
  have HV := Lib.hid hv
  clear hv
  have t_FuncDecl := nob 323 b 74 un_FuncDecl zp_FuncDecl (by decide)
  have t_IfStmt := nob 323 b 74 un_IfStmt zp_IfStmt (by decide)
  have t_ForStmt : ∀ w, (Instr.typeAssert (.iface 323 (.pointer (some ⟨b, 0, none⟩))) 74 323 true).run Tryz.prog w = .ok (.tuple #[.pointer (some ⟨b, 0, none⟩), .bool true]) w := fun w => as_for_ _ _ w
  have t_RangeStmt := nob 323 b 74 un_RangeStmt zp_RangeStmt (by decide)
  have t_CaseClause := nob 323 b 74 un_CaseClause zp_CaseClause (by decide)
  have t_CommClause := nob 323 b 74 un_CommClause zp_CommClause (by decide)
  have t_BinaryExpr := nob 323 b 74 un_BinaryExpr zp_BinaryExpr (by decide)
  go_enter Tryz.func138, Tryz.ntmps138
  go_wp2_with fail
  go_ret
  exact ⟨rfl, set_of_cells (cs := [_]) HV.out 0 _, Kept.set1e (b := vb)⟩

set_option maxRecDepth 100000 in
theorem cyc_range (vb b : Nat) (c : Int) (w : World) (hv : w.heap[vb]? = some (.cells #[.int .i64 c] 160 (0, 0))) : Calls Tryz.prog 138 #[.pointer (some ⟨vb, 0, none⟩), .iface 326 (.pointer (some ⟨b, 0, none⟩))] w (CycP vb (RowKit.wrap64 (c + 1)) w) := by
  have p0 := cell_of_cells (cs := [_]) hv 0 rfl
  have f0 := free_of_cells hv 0
  have zv : vb < w.heap.size := lt_of_heap hv
  have HV := Lib.hid hv
  clear hv
  have t_FuncDecl := nob 326 b 74 un_FuncDecl zp_FuncDecl (by decide)
  have t_IfStmt := nob 326 b 74 un_IfStmt zp_IfStmt (by decide)
  have t_ForStmt := nob 326 b 74 un_ForStmt zp_ForStmt (by decide)
  have t_RangeStmt : ∀ w, (Instr.typeAssert (.iface 326 (.pointer (some ⟨b, 0, none⟩))) 74 326 true).run Tryz.prog w = .ok (.tuple #[.pointer (some ⟨b, 0, none⟩), .bool true]) w := fun w => as_range _ _ w
  have t_CaseClause := nob 326 b 74 un_CaseClause zp_CaseClause (by decide)
  have t_CommClause := nob 326 b 74 un_CommClause zp_CommClause (by decide)
  have t_BinaryExpr := nob 326 b 74 un_BinaryExpr zp_BinaryExpr (by decide)
  go_enter Tryz.func138, Tryz.ntmps138
  go_wp2_with fail
  go_ret
  exact ⟨rfl, set_of_cells (cs := [_]) HV.out 0 _, Kept.set1e (b := vb)⟩

set_option maxRecDepth 100000 in
theorem cyc_labeled (vb b : Nat) (c : Int) (w : World) (hv : w.heap[vb]? = some (.cells #[.int .i64 c] 160 (0, 0))) : Calls Tryz.prog 138 #[.pointer (some ⟨vb, 0, none⟩), .iface 272 (.pointer (some ⟨b, 0, none⟩))] w (CycP vb c w) := by
  have p0 := cell_of_cells (cs := [_]) hv 0 rfl
  have f0 := free_of_cells hv 0
  have zv : vb < w.heap.size := lt_of_heap hv
  have HV := Lib.hid hv
  clear hv
  have t_FuncDecl := nob 272 b 74 un_FuncDecl zp_FuncDecl (by decide)
  have t_IfStmt := nob 272 b 74 un_IfStmt zp_IfStmt (by decide)
  have t_ForStmt := nob 272 b 74 un_ForStmt zp_ForStmt (by decide)
  have t_RangeStmt := nob 272 b 74 un_RangeStmt zp_RangeStmt (by decide)
  have t_CaseClause := nob 272 b 74 un_CaseClause zp_CaseClause (by decide)
  have t_CommClause := nob 272 b 74 un_CommClause zp_CommClause (by decide)
  have t_BinaryExpr := nob 272 b 74 un_BinaryExpr zp_BinaryExpr (by decide)
  go_enter Tryz.func138, Tryz.ntmps138
  go_wp2_with fail
  go_ret
  exact ⟨rfl, HV.out, Kept.refl _ _⟩

set_option maxRecDepth 100000 in
theorem cyc_func (vb b : Nat) (c : Int) (w : World) (hv : w.heap[vb]? = some (.cells #[.int .i64 c] 160 (0, 0))) : Calls Tryz.prog 138 #[.pointer (some ⟨vb, 0, none⟩), .iface 54 (.pointer (some ⟨b, 0, none⟩))] w (CycP vb (RowKit.wrap64 (c + 1)) w) := by
  have p0 := cell_of_cells (cs := [_]) hv 0 rfl
  have f0 := free_of_cells hv 0
  have zv : vb < w.heap.size := lt_of_heap hv
  have HV := Lib.hid hv
  clear hv
  have t_FuncDecl : ∀ w, (Instr.typeAssert (.iface 54 (.pointer (some ⟨b, 0, none⟩))) 74 54 true).run Tryz.prog w = .ok (.tuple #[.pointer (some ⟨b, 0, none⟩), .bool true]) w := fun w => as_func _ _ w
  have t_IfStmt := nob 54 b 74 un_IfStmt zp_IfStmt (by decide)
  have t_ForStmt := nob 54 b 74 un_ForStmt zp_ForStmt (by decide)
  have t_RangeStmt := nob 54 b 74 un_RangeStmt zp_RangeStmt (by decide)
  have t_CaseClause := nob 54 b 74 un_CaseClause zp_CaseClause (by decide)
  have t_CommClause := nob 54 b 74 un_CommClause zp_CommClause (by decide)
  have t_BinaryExpr := nob 54 b 74 un_BinaryExpr zp_BinaryExpr (by decide)
  go_enter Tryz.func138, Tryz.ntmps138
  go_wp2_with fail
  go_ret
  exact ⟨rfl, set_of_cells (cs := [_]) HV.out 0 _, Kept.set1e (b := vb)⟩

set_option maxRecDepth 100000 in
theorem cyc_bin_and (vb b : Nat) (c : Int) (t : Int) (v0 v1 : Value) (w : World) (hb : w.heap[b]? = some (.cells #[v0, .int .i64 t, v1] 244 (0, 0))) (ht : t = 28)  (hv : w.heap[vb]? = some (.cells #[.int .i64 c] 160 (0, 0))) : Calls Tryz.prog 138 #[.pointer (some ⟨vb, 0, none⟩), .iface 242 (.pointer (some ⟨b, 0, none⟩))] w (CycP vb (RowKit.wrap64 (c + 1)) w) := by
  have p0 := cell_of_cells (cs := [_]) hv 0 rfl
  have f0 := free_of_cells hv 0
  have zv : vb < w.heap.size := lt_of_heap hv
  have HV := Lib.hid hv
  clear hv
  have p1 := cell_of_cells (cs := [_, _, _]) hb 1 rfl
  have zb : b < w.heap.size := lt_of_heap hb
  clear hb
  subst ht
  have t_FuncDecl := nob 242 b 74 un_FuncDecl zp_FuncDecl (by decide)
  have t_IfStmt := nob 242 b 74 un_IfStmt zp_IfStmt (by decide)
  have t_ForStmt := nob 242 b 74 un_ForStmt zp_ForStmt (by decide)
  have t_RangeStmt := nob 242 b 74 un_RangeStmt zp_RangeStmt (by decide)
  have t_CaseClause := nob 242 b 74 un_CaseClause zp_CaseClause (by decide)
  have t_CommClause := nob 242 b 74 un_CommClause zp_CommClause (by decide)
  have t_BinaryExpr : ∀ w, (Instr.typeAssert (.iface 242 (.pointer (some ⟨b, 0, none⟩))) 74 242 true).run Tryz.prog w = .ok (.tuple #[.pointer (some ⟨b, 0, none⟩), .bool true]) w := fun w => as_bin _ _ w
  go_enter Tryz.func138, Tryz.ntmps138
  go_wp2_with fail
  go_ret
  exact ⟨rfl, set_of_cells (cs := [_]) HV.out 0 _, Kept.set1e (b := vb)⟩

set_option maxRecDepth 100000 in
theorem cyc_bin_or (vb b : Nat) (c : Int) (t : Int) (v0 v1 : Value) (w : World) (hb : w.heap[b]? = some (.cells #[v0, .int .i64 t, v1] 244 (0, 0))) (ht : t = 29)  (hv : w.heap[vb]? = some (.cells #[.int .i64 c] 160 (0, 0))) : Calls Tryz.prog 138 #[.pointer (some ⟨vb, 0, none⟩), .iface 242 (.pointer (some ⟨b, 0, none⟩))] w (CycP vb (RowKit.wrap64 (c + 1)) w) := by
  have p0 := cell_of_cells (cs := [_]) hv 0 rfl
  have f0 := free_of_cells hv 0
  have zv : vb < w.heap.size := lt_of_heap hv
  have HV := Lib.hid hv
  clear hv
  have p1 := cell_of_cells (cs := [_, _, _]) hb 1 rfl
  have zb : b < w.heap.size := lt_of_heap hb
  clear hb
  subst ht
  have t_FuncDecl := nob 242 b 74 un_FuncDecl zp_FuncDecl (by decide)
  have t_IfStmt := nob 242 b 74 un_IfStmt zp_IfStmt (by decide)
  have t_ForStmt := nob 242 b 74 un_ForStmt zp_ForStmt (by decide)
  have t_RangeStmt := nob 242 b 74 un_RangeStmt zp_RangeStmt (by decide)
  have t_CaseClause := nob 242 b 74 un_CaseClause zp_CaseClause (by decide)
  have t_CommClause := nob 242 b 74 un_CommClause zp_CommClause (by decide)
  have t_BinaryExpr : ∀ w, (Instr.typeAssert (.iface 242 (.pointer (some ⟨b, 0, none⟩))) 74 242 true).run Tryz.prog w = .ok (.tuple #[.pointer (some ⟨b, 0, none⟩), .bool true]) w := fun w => as_bin _ _ w
  go_enter Tryz.func138, Tryz.ntmps138
  go_wp2_with fail
  go_ret
  exact ⟨rfl, set_of_cells (cs := [_]) HV.out 0 _, Kept.set1e (b := vb)⟩

set_option maxRecDepth 100000 in
theorem cyc_bin_no (vb b : Nat) (c : Int) (t : Int) (v0 v1 : Value) (w : World) (hb : w.heap[b]? = some (.cells #[v0, .int .i64 t, v1] 244 (0, 0))) (h1 : t = 6 ∨ t = 34)  (hv : w.heap[vb]? = some (.cells #[.int .i64 c] 160 (0, 0))) : Calls Tryz.prog 138 #[.pointer (some ⟨vb, 0, none⟩), .iface 242 (.pointer (some ⟨b, 0, none⟩))] w (CycP vb c w) := by
  have p0 := cell_of_cells (cs := [_]) hv 0 rfl
  have f0 := free_of_cells hv 0
  have zv : vb < w.heap.size := lt_of_heap hv
  have HV := Lib.hid hv
  clear hv
  have p1 := cell_of_cells (cs := [_, _, _]) hb 1 rfl
  have zb : b < w.heap.size := lt_of_heap hb
  clear hb
  have t_FuncDecl := nob 242 b 74 un_FuncDecl zp_FuncDecl (by decide)
  have t_IfStmt := nob 242 b 74 un_IfStmt zp_IfStmt (by decide)
  have t_ForStmt := nob 242 b 74 un_ForStmt zp_ForStmt (by decide)
  have t_RangeStmt := nob 242 b 74 un_RangeStmt zp_RangeStmt (by decide)
  have t_CaseClause := nob 242 b 74 un_CaseClause zp_CaseClause (by decide)
  have t_CommClause := nob 242 b 74 un_CommClause zp_CommClause (by decide)
  have t_BinaryExpr : ∀ w, (Instr.typeAssert (.iface 242 (.pointer (some ⟨b, 0, none⟩))) 74 242 true).run Tryz.prog w = .ok (.tuple #[.pointer (some ⟨b, 0, none⟩), .bool true]) w := fun w => as_bin _ _ w
  rcases h1 with rfl | rfl
  · go_enter Tryz.func138, Tryz.ntmps138
    go_wp2_with fail
    go_ret
    exact ⟨rfl, HV.out, Kept.refl _ _⟩
  · go_enter Tryz.func138, Tryz.ntmps138
    go_wp2_with fail
    go_ret
    exact ⟨rfl, HV.out, Kept.refl _ _⟩

set_option maxRecDepth 100000 in
theorem cyc_nil (vb : Nat) (c : Int) (w : World) (hv : w.heap[vb]? = some (.cells #[.int .i64 c] 160 (0, 0))) : Calls Tryz.prog 138 #[.pointer (some ⟨vb, 0, none⟩), .nilIface] w (CycP vb c w) := by
  have HV := Lib.hid hv
  clear hv
  have t_FuncDecl : ∀ w, (Instr.typeAssert .nilIface 74 54 true).run Tryz.prog w = .ok (.tuple #[.pointer none, .bool false]) w := fun w => assert_nil un_FuncDecl zp_FuncDecl _ w
  have t_IfStmt : ∀ w, (Instr.typeAssert .nilIface 74 305 true).run Tryz.prog w = .ok (.tuple #[.pointer none, .bool false]) w := fun w => assert_nil un_IfStmt zp_IfStmt _ w
  have t_ForStmt : ∀ w, (Instr.typeAssert .nilIface 74 323 true).run Tryz.prog w = .ok (.tuple #[.pointer none, .bool false]) w := fun w => assert_nil un_ForStmt zp_ForStmt _ w
  have t_RangeStmt : ∀ w, (Instr.typeAssert .nilIface 74 326 true).run Tryz.prog w = .ok (.tuple #[.pointer none, .bool false]) w := fun w => assert_nil un_RangeStmt zp_RangeStmt _ w
  have t_CaseClause : ∀ w, (Instr.typeAssert .nilIface 74 308 true).run Tryz.prog w = .ok (.tuple #[.pointer none, .bool false]) w := fun w => assert_nil un_CaseClause zp_CaseClause _ w
  have t_CommClause : ∀ w, (Instr.typeAssert .nilIface 74 317 true).run Tryz.prog w = .ok (.tuple #[.pointer none, .bool false]) w := fun w => assert_nil un_CommClause zp_CommClause _ w
  have t_BinaryExpr : ∀ w, (Instr.typeAssert .nilIface 74 242 true).run Tryz.prog w = .ok (.tuple #[.pointer none, .bool false]) w := fun w => assert_nil un_BinaryExpr zp_BinaryExpr _ w
  go_enter Tryz.func138, Tryz.ntmps138
  go_wp2_with fail
  go_ret
  exact ⟨rfl, HV.out, Kept.refl _ _⟩
end Go.Proofs.YtleolbpibjnedaaGreat
/- revive's counting visitor is a visitor. -/
namespace Go.Proofs.YtleolbpibjnedaaGreat
open Go Go.RowKit Gc

def CInv (vb : Nat) (s : Nat) (w : World) : Prop := w.heap[vb]? = some (.cells #[.int .i64 (RowKit.wrap64 s)] 160 (0, 0))
def cstep (a : A) (s : Nat) : Nat := match a with | .n k text _ _ _ _ _ _ _ => s + wK k text | _ => s

theorem wrap_succ (s : Nat) : RowKit.wrap64 (RowKit.wrap64 s + 1) = RowKit.wrap64 ((s + 1 : Nat) : Int) := by
  unfold RowKit.wrap64
  omega

theorem cyc_visit (vb : Nat) (a : A) (w : World) (D : Nat → Prop) (v : Value) (s : Nat) (hv : VV a.N) (hR : Rep w D (a.g 1 .fin) [v]) (hI : CInv vb s w) :
    Calls Tryz.prog 138 #[.pointer (some ⟨vb, 0, none⟩), v] w (fun e w' => e = .returned (.iface 162 (.pointer (some ⟨vb, 0, none⟩))) ∧ CInv vb (cstep a s) w' ∧ Kept (fun b => b = vb) w w') := by
  obtain ⟨k, t, i, ks, hk, hN, hb⟩ := VV_form hv
  obtain ⟨o, b, f0, f1, f2, f3, rfl, hN'⟩ := A_of_N hN
  obtain ⟨b', rfl, -⟩ := iface_of (k := k) rfl hk hR
  have fin0 : ∀ {w' : World} {e : Ending}, wK k t = 0 → CycP vb (RowKit.wrap64 s) w e w' → e = .returned (.iface 162 (.pointer (some ⟨vb, 0, none⟩))) ∧ CInv vb (cstep (.n k t i o b f0 f1 f2 f3) s) w' ∧ Kept (fun b => b = vb) w w' := fun h ⟨h1, h2, h3⟩ => ⟨h1, by simp only [cstep, h, Nat.add_zero]; exact h2, h3⟩
  have fin1 : ∀ {w' : World} {e : Ending}, wK k t = 1 → CycP vb (RowKit.wrap64 (RowKit.wrap64 s + 1)) w e w' → e = .returned (.iface 162 (.pointer (some ⟨vb, 0, none⟩))) ∧ CInv vb (cstep (.n k t i o b f0 f1 f2 f3) s) w' ∧ Kept (fun b => b = vb) w w' := fun h ⟨h1, h2, h3⟩ => ⟨h1, by simp only [cstep, h, CInv]; rw [← wrap_succ]; exact h2, h3⟩
  cases k
  case none => exact hk.elim
  case list => exact hk.elim
  case bin =>
    obtain ⟨hop, p, q, hks, hp, hq⟩ := hb rfl
    subst hks
    have e0 : f0.N = p := congrArg (fun x => match x with | Gc.N.n _ _ _ (.cons y _) => y | _ => .nil) hN'
    have e1 : f1.N = q := congrArg (fun x => match x with | Gc.N.n _ _ _ (.cons _ (.cons y _)) => y | _ => .nil) hN'
    obtain ⟨ev, -, v0, v1, ho, -, -⟩ := open_bin (m := 1) (.inr rfl) (isn_of_N (by rw [e0]; exact hp)) (isn_of_N (by rw [e1]; exact hq)) hR
    have eb : b' = b := by simp only [if_true, ptrVal] at ev; cases ev; rfl
    subst eb
    rcases hop with rfl | rfl | rfl | rfl
    · exact (cyc_bin_and vb _ _ 28 v0 v1 w ho rfl hI).mono fun e w' h => fin1 rfl h
    · exact (cyc_bin_or vb _ _ 29 v0 v1 w ho rfl hI).mono fun e w' h => fin1 rfl h
    · exact (cyc_bin_no vb _ _ 6 v0 v1 w ho (.inl rfl) hI).mono fun e w' h => fin0 rfl h
    · exact (cyc_bin_no vb _ _ 34 v0 v1 w ho (.inr rfl) hI).mono fun e w' h => fin0 rfl h
  case ident => exact (cyc_ident vb _ _ w hI).mono fun e w' h => fin0 rfl h
  case lit => exact (cyc_lit vb _ _ w hI).mono fun e w' h => fin0 rfl h
  case flit => exact (cyc_flit vb _ _ w hI).mono fun e w' h => fin0 rfl h
  case paren => exact (cyc_paren vb _ _ w hI).mono fun e w' h => fin0 rfl h
  case call => exact (cyc_call vb _ _ w hI).mono fun e w' h => fin0 rfl h
  case un => exact (cyc_un vb _ _ w hI).mono fun e w' h => fin0 rfl h
  case ftype => exact (cyc_ftype vb _ _ w hI).mono fun e w' h => fin0 rfl h
  case flist => exact (cyc_flist vb _ _ w hI).mono fun e w' h => fin0 rfl h
  case exprS => exact (cyc_exprS vb _ _ w hI).mono fun e w' h => fin0 rfl h
  case inc => exact (cyc_inc vb _ _ w hI).mono fun e w' h => fin0 rfl h
  case assign => exact (cyc_assign vb _ _ w hI).mono fun e w' h => fin0 rfl h
  case ret => exact (cyc_ret vb _ _ w hI).mono fun e w' h => fin0 rfl h
  case branch => exact (cyc_branch vb _ _ w hI).mono fun e w' h => fin0 rfl h
  case block => exact (cyc_block vb _ _ w hI).mono fun e w' h => fin0 rfl h
  case switch => exact (cyc_switch vb _ _ w hI).mono fun e w' h => fin0 rfl h
  case select => exact (cyc_select vb _ _ w hI).mono fun e w' h => fin0 rfl h
  case labeled => exact (cyc_labeled vb _ _ w hI).mono fun e w' h => fin0 rfl h
  case func => exact (cyc_func vb _ _ w hI).mono fun e w' h => fin1 rfl h
  case if_ => exact (cyc_if_ vb _ _ w hI).mono fun e w' h => fin1 rfl h
  case for_ => exact (cyc_for_ vb _ _ w hI).mono fun e w' h => fin1 rfl h
  case range => exact (cyc_range vb _ _ w hI).mono fun e w' h => fin1 rfl h
  case case_ => exact (cyc_case_ vb _ _ w hI).mono fun e w' h => fin1 rfl h
  case comm => exact (cyc_comm vb _ _ w hI).mono fun e w' h => fin1 rfl h

theorem cyc_vis (vb : Nat) : Vis Nat 162 (.pointer (some ⟨vb, 0, none⟩)) 138 (.pointer (some ⟨vb, 0, none⟩)) (fun b => b = vb) (CInv vb) cstep where
  meth := meth_cyc ⟨vb, 0, none⟩
  ent := ent_cyc
  visit := fun a w D v s hv hR _ hI => cyc_visit vb a w D v s hv hR hI
  leave := fun w s hI => (cyc_nil vb _ w hI).mono fun e w' ⟨h1, h2, h3⟩ => ⟨h1, h2, h3⟩
end Go.Proofs.YtleolbpibjnedaaGreat
