/-
  For every list of numbers and every choice laws.FnRecursive answers true, and its arguments read as they did: gocognit's word on whether a function calls itself is the reference's. No condition.
-/
import Derived.Test.YtleolbpibjnedaaGreatQRc
import Derived.Test.YtleolbpibjnedaaGreatQSr
import Derived.Test.YtleolbpibjnedaaGreatQMkP
import Derived.Test.YtleolbpibjnedaaGreatRows
import Derived.WalkKit
import Derived.ProofKit
import Derived.OpenShut
import Derived.ShutString
import Derived.ChangeOld
import Derived.Below
set_option linter.unusedSimpArgs false
set_option linter.unusedVariables false
namespace Gc
open Go

/-- Names are few. -/
theorem names_cost : ∀ (n : N), n.names.length ≤ n.cost
  | .nil => Nat.le_refl _
  | .cons h t => by
    have := names_cost h
    have := names_cost t
    simp only [N.names, N.cost, List.length_append]
    omega
  | .n kind text num kids => by
    have := names_cost kids
    simp only [N.names, N.cost]
    split
    · rename_i h
      have h1 : ¬ kind.data.toList = [] := by rw [h]; decide
      have h2 : ¬ kind.data.toList = kList.data.toList := by rw [h]; decide
      simp only [h1, h2, or_self, if_false, List.length_cons]
      omega
    · omega
end Gc

namespace Go.Proofs.YtleolbpibjnedaaGreat
open Go Go.RowKit Gc

set_option maxRecDepth 100000 in
theorem law_rec_long (a : Option Addr) (len cap : Nat) (k : Int) (hl : 100 < len) (w : World) : Calls Tryz.prog 3 #[.slice a len cap, .int .u8 k] w (fun e w' => e = .returned (.bool true) ∧ Kept (fun _ => False) w w') := by
  by_cases h : (2147483647 : Int) < len
  · go_enter Tryz.func3, Tryz.ntmps3
    go_wp2_with fail
    go_ret
    exact ⟨rfl, Kept.refl _ _⟩
  · have hl' : (100 : Int) < len := by omega
    go_enter Tryz.func3, Tryz.ntmps3
    go_wp2_with fail
    go_ret
    exact ⟨rfl, Kept.refl _ _⟩

set_option maxRecDepth 100000 in
theorem law_rec (a : Option Addr) (len cap : Nat) (k : Int) (hk0 : 0 ≤ k) (hk1 : k < 256) (hl : len ≤ 100) (w : World) (hN : Nums0 w (.slice a len cap)) : Calls Tryz.prog 3 #[.slice a len cap, .int .u8 k] w (fun e w' => e = .returned (.bool true) ∧ Kept (fun _ => False) w w') := by
  have HB := Lib.hid (bodyOf_any w (.slice a len cap) false hN)
  have h1 : ¬ (2147483647 : Int) < len := by omega
  have h2 : ¬ (100 : Int) < len := by omega
  have t0 : 0 ≤ k % 4 := by omega
  have t1 : k % 4 < 4 := by omega
  obtain ⟨nm, hop, hopl, hnm⟩ := pick4n _ t0 t1
  have Hnm := Lib.hid hnm
  clear hN hnm
  go_enter Tryz.func3, Tryz.ntmps3
  go_wp2_with fail
  refine HB.out.mono ?_
  rintro e w1 ⟨t, a1, n1, c1, rfl, G⟩
  have hV := good_V G.wf
  have hcost := G.cost
  have hdeep := G.deep
  have hm := hV.2
  simp only [] at hm
  have HF := Lib.hid (fun w2 k2 => func_any nm t G.wf (by omega) w2 _ a1 n1 c1 (G.rep.kept (w' := w2) (M := fun _ => False) k2 (fun _ _ f => f)))
  have HS := Lib.hid (good_K nm G.wf (by omega)).2
  have HNm := Lib.hid (names_calls Hnm.out G.wf)
  have HG := Lib.hid G
  have HV : RowKit.Hid (Gc.V .Ss (t.N 0)) := Lib.hid hV.1
  have hcc := names_cost (t.N 0)
  have HM := Lib.hid hm
  clear hV hm G
  go_wp2_with fail
  refine (HF.out _ keptA).mono ?_
  rintro e w2 ⟨kd, tx, i, a2, n2, c2, rfl, R2, K2⟩
  have HI := Lib.hid (impl_rec nm (isName_size Hnm.out) (t.N 0) HV.out (by have := HM.out.1; omega) (by have := HM.out.2.1; omega) (by have := HM.out.1; omega) w2 _ kd tx i a2 n2 c2 R2)
  have K12 : Kept (fun _ => False) w1 w2 := keptA.trans K2
  clear R2 K2
  go_wp2_with fail
  refine HI.out.mono ?_
  rintro e w3 ⟨r, rfl, hr, K3⟩
  have er : t.calls nm = r := Bool.eq_iff_iff.2 (HNm.out.symm.trans hr.symm)
  have Her := Lib.hid er
  clear er hr
  go_wp2_with fail
  refine (HS.out w3 _ a1 n1 c1 ((HG.out.rep.kept K12 (fun _ _ f => f)).kept K3 (fun _ _ f => f))).mono ?_
  rintro e w4 ⟨rfl, K4⟩
  rw [Her.out]
  go_wp2_with fail
  go_ret
  exact ⟨by first | rfl | simp, ((HG.out.kept.trans K12).trans K3).trans K4⟩
end Go.Proofs.YtleolbpibjnedaaGreat
namespace Go.Proofs.YtleolbpibjnedaaGreat.fnRecursive
open Gc
open Go.ChangeShapes Go.WideShapes Go.ChangeAt Go.RowKit
open Go.ChangeMaps (open_string shut_string)
set_option linter.unusedVariables false

theorem own : ownKnob Tryz.prog.godebug = none := by kernel_rfl
theorem laidOut : laidOutB Tryz.prog = true := by kernel_rfl

/-- WHAT THE WALK IS TOLD OF A SLICE OF INTEGERS THAT CAME IN: it is nil; or it leads to a row of 'cap' cells, the numbers 'zs' (the first 'len' are its elements, the rest its spare room), each fitting its kind. -/
def IsRow (k : IntKind) (w : World) (a : Option Addr) (len cap : Nat) (zs : List Int) : Prop :=
  (a = none ∧ len = 0 ∧ cap = 0 ∧ zs = []) ∨
  ∃ x, a = some x ∧ len ≤ cap ∧ cap ≤ maxLen ∧ zs.length = cap ∧ (∀ i, i < zs.length → w.cell? (x.add i) = some (.int k (zs.getD i 0))) ∧ ∀ n ∈ zs, (Lit.int k n).wf = true

/-- What the walk over the numbers asks. -/
theorem nums_of {w : World} {a : Option Addr} {len cap : Nat} {zs : List Int} (h : IsRow .u32 w a len cap zs) (hl : len ≤ 100) : Nums0 w (.slice a len cap) := by
  rcases h with ⟨rfl, rfl, rfl, rfl⟩ | ⟨x, rfl, hle, hcap, hz, hc, hw⟩
  · exact .inl ⟨none, 0, rfl⟩
  · by_cases h0 : len = 0
    · subst h0
      exact .inl ⟨some x, cap, rfl⟩
    · obtain ⟨b, off, rfl, hc'⟩ := ints_at hc (by omega)
      refine .inr ⟨b, off, len, cap, rfl, by omega, hl, fun k hk => ?_⟩
      have hk' : k < zs.length := by omega
      have hv := hc' k hk'
      have hwf := hw (zs.getD k 0) (by rw [List.getD_eq_getElem?_getD, List.getElem?_eq_getElem hk', Option.getD_some]; exact List.getElem_mem _)
      have hb := bounds_u32 hwf
      refine ⟨(zs.getD k 0).toNat, by omega, ?_⟩
      rw [hv]
      have : ((zs.getD k 0).toNat : Int) = zs.getD k 0 := by omega
      rw [this]

theorem walk (a0 : Option Addr) (len0 cap0 : Nat) (z0 : List Int) (a1 : Int) (w : World) (w0 : IsRow .u32 w a0 len0 cap0 z0) (w1 : (Lit.int .u8 a1).wf = true) :
    Calls Tryz.prog 3 #[.slice a0 len0 cap0, .int .u8 a1] w fun e w' => e = .returned (.bool true) ∧ Below w.heap.size w w' := by
  by_cases hl : len0 ≤ 100
  · have hb : 0 ≤ a1 ∧ a1 < 256 := by
      have := bounds_u8 w1
      omega
    exact (law_rec a0 len0 cap0 a1 hb.1 hb.2 hl w (nums_of w0 hl)).mono fun e w' ⟨h1, h2⟩ => ⟨h1, h2.toBelow⟩
  · exact (law_rec_long a0 len0 cap0 a1 (by omega) w).mono fun e w' ⟨h1, h2⟩ => ⟨h1, h2.toBelow⟩

/-! ### THE ROW's STEP: WRITTEN OUT: LEAVE IT -/
set_option maxRecDepth 100000 in
theorem lifted (os : Os) (started : os.Started) (H : Type) (enc : TypeId × Value → H) :
    ReturnsInHanded {} Tryz.checked os 3 .any (Rows.fnRecursiveSpec.pre6 enc Tryz.prog Tryz.f3 Rows.fnRecursiveRow.domain false) (Rows.fnRecursiveSpec.post enc Tryz.prog Tryz.f3 false true false false) := by
  refine returnsInHanded_of_change (C := Tryz.checked) own started (by kernel_rfl) Tryz.func3
    (ChangeSpec.witness6 (enc := enc) (C := Tryz.checked) false ⟨#[], #[.slice none 0 0, .int .u8 0], []⟩ 8 (by kernel_rfl) (by kernel_rfl) (by kernel_rfl) (by kernel_rfl)) ?_
  intro W base args ds gs before hval0 hW hcnd _
  have hval : ∀ (j : Nat) t v, Tryz.f3.params[j]? = some t → args[j]? = some v → Value.okWide Tryz.prog W .any base t v := hval0
  have hW' := hW
  obtain ⟨p, q, hA0, hV, rfl, hfz, hnd⟩ := hW
  have hA : DataW.TrodAll enc Tryz.prog W 0 (fun _ => true) true Tryz.f3.params.toList args.toList ds p := hA0
  rw [Tryz.params3] at hA hval
  obtain ⟨v0, vs0, d0, ds0, p0, q0, hargs, rfl, rfl, h0, r0⟩ := trodAll_cons hA
  obtain ⟨v1, vs1, d1, ds1, p1, q1, rfl, rfl, rfl, h1, r1⟩ := trodAll_cons r0
  obtain ⟨rfl, rfl, rfl⟩ := trodAll_nil r1
  obtain rfl : args = #[v0, v1] := by cases args; simp_all
  obtain ⟨rfl, rfl⟩ := trodVars_none hV
  obtain ⟨a0, len0, cap0, rfl⟩ := okWide_slice Tryz.underlying22 (hval 0 22 v0 rfl rfl)
  have k0 := h0
  have lt0 : ∀ x ∈ p0, x.block < W.heap.size := by obtain ⟨m, hm⟩ := k0; exact DataW.trod_lt m _ _ _ hm
  obtain ⟨z0, w0⟩ : ∃ zs, IsRow .u32 W a0 len0 cap0 zs := by
    obtain ⟨fuel, hf⟩ := h0
    rcases open_ints Tryz.underlying22 Tryz.underlying109 (by kernel_rfl) hf with ⟨hcs, _⟩ | ⟨x, l, c, zs, hcs, _, hl, hm, hz, _, hcell, hwz⟩
    · simp [Value.cells] at hcs
      obtain ⟨rfl, rfl, rfl⟩ := hcs
      exact ⟨[], .inl ⟨rfl, rfl, rfl, rfl⟩⟩
    · simp [Value.cells] at hcs
      obtain ⟨rfl, rfl, rfl⟩ := hcs
      exact ⟨zs, .inr ⟨_, rfl, hl, hm, by simpa using hz, hcell, hwz⟩⟩
  obtain ⟨a1, rfl, rfl, rfl, w1⟩ := open_int Tryz.underlying5 (hval 1 5 v1 rfl rfl) h1
  clear hA0 hval0
  refine (walk a0 len0 cap0 z0 a1 W w0 w1).mono fun e W' ⟨he, bel⟩ => ?_
  subst he
  exact ⟨_, rfl, _, _, _, [], _, [], hW', trodAll_mk1 (shut_bool Tryz.underlying4 _), (trodAll_cons_mk (Below.trod laidOut (by kernel_rfl) (of_decide_eq_true (by kernel_rfl)) k0 bel lt0) (trodAll_cons_mk (shut_int Tryz.underlying5 w1) trodAll_mk0)), rfl, bel.frame _, fun h => by cases h⟩

theorem over : Rows.fnRecursiveRow.holds Tryz.pinned (OpenSpec.ofChange Rows.fnRecursiveSpec) :=
  OpenClaim.holds_of_wide 3 Tryz.f3 rfl rfl rfl rfl rfl rfl rfl ⟨rfl, rfl, rfl, rfl, rfl⟩ rfl rfl rfl rfl rfl (by kernel_rfl) Tryz.func3 (by kernel_rfl)
    (of_decide_eq_true (by kernel_rfl)) (by unfold Func.isWrapper; first | (rw [if_pos (by decide +kernel)]; kernel_rfl) | (rw [if_neg (by decide +kernel)]; exact ⟨rfl, rfl⟩))
    (fun os started H enc _ => lifted os started H enc)

/-- ████ THE STATEMENT ████ -/
theorem proved : Rows.FnRecursiveSaid := over
#print axioms proved
end Go.Proofs.YtleolbpibjnedaaGreat.fnRecursive
