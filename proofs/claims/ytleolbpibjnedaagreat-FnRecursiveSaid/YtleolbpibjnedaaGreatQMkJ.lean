/- The laws' maker: statements: assignments, counts, calls. -/
import Derived.Test.YtleolbpibjnedaaGreatQMkH
import Derived.Test.YtleolbpibjnedaaGreatQMkG
import Derived.Deep.RegionWith
import Derived.Deep.DeepCutAuto
import Derived.Deep.CutBlock
set_option linter.unusedSimpArgs false
set_option linter.unusedVariables false
namespace Go.Proofs.YtleolbpibjnedaaGreat
open Go Go.RowKit Gc

set_option maxRecDepth 100000 in
set_option maxHeartbeats 1000000 in
theorem stmt_call (dd j : Nat) (hd : dd ≤ 3) (hj2 : j ≤ 2) (hC : ContrCall 2 j) (w : World) (mb : Nat) (ns : Value) (fl : Bool) (c : MC) (inn : Bool) (a : Option Addr) (len cap : Nat) (h : MSt w mb ns fl c) (hj : c.inner + j = 2) (hl : 0 ≤ c.left) (D : Int) (hD : D = dd)
    (n np : Nat) (hn : n < 536870912) (hnp : dd = 0 ∧ np = n / 16 * 16 ∨ dd ≠ 0 ∧ np = n) (hnext : Calls Tryz.prog 42 #[.pointer (some ⟨mb, 0, none⟩)] (w.alloc zeroS) (NextN (w.alloc zeroS) mb ns fl c n))
    (hr : np % 16 ≤ 4 ∨ np % 16 = 11 ∧ len = 0 ∨ np % 16 = 12 ∧ inn = false ∨ np % 16 = 13 ∧ ¬ np / 32 % 3 = 0) (hr2 : 4 ≤ (np : Int) / 16 % 6) :
    Calls Tryz.prog 29 #[.pointer (some ⟨mb, 0, none⟩), .int .i64 D, .bool inn, .slice a len cap] w (StmtP w mb ns fl c 1 (3 + 11 * (dd + j)) 1 0 (4 + 5 * dd + 8 * j) (fun _ => True)) := by
  have hM := h
  have hmb := lt_of_heap h.obj
  have hn' := Lib.hid hnext
  have hr' := Lib.hid hr
  have hC' := Lib.hid hC
  have hDd := Lib.hid hD
  have hD0 : 0 ≤ D := by omega
  have hD1 : D ≤ 3 := by omega
  have hpp := Lib.hid hnp
  have hpb : np < 536870912 := by omega
  clear hnext hC hD hnp hr
  go_enter Tryz.func29, Tryz.ntmps29
  go_wp2_with fail
  refine hn'.out.mono ?_
  rintro e w1 ⟨rfl, hst, hk⟩
  obtain ⟨rc, rf⟩ := keptRules hk hmb
  have z1 : w.heap.size < w1.heap.size := by have := hk.size; simp at this; omega
  have hk1 := keptA.trans hk
  have o1 : w1.heap[w.heap.size]? = some zeroS := hk.new (by omega)
  clear hk hn'
  go_upto_if 17 with fail
  go_cut [9] (fun s9 wx => s9 = .int .u32 np ∧ w1 = wx)
  case first => as_aux_lemma =>
    rcases hpp.out with ⟨hd0, hp⟩ | ⟨hd0, hp⟩
    · have hD0 : (D == 0) = true := by have := hDd.out; simp; omega
      have hp' : (np : Int) = (n : Int) / 16 * 16 := by omega
      go_wp2_with fail
      go_meet
      exact ⟨by rw [hp'], rfl⟩
    · have hD0 : (D == 0) = false := by have := hDd.out; simp; omega
      go_wp2_with fail
      go_meet
      exact ⟨by rw [hp], rfl⟩
  case rest =>
  obtain ⟨rfl, rfl⟩ := hcut
  go_upto_block 0 with fail
  go_cut [22] (fun s22 wx => w1 = wx)
  case first => as_aux_lemma =>
    rcases hr'.out with hr | ⟨hr, hr0⟩ | ⟨hr, hr0⟩ | ⟨hr, hr0⟩
    · have b5 : ((np : Int) % 16 == 5) = false := by simp; omega
      have b6 : ((np : Int) % 16 == 6) = false := by simp; omega
      have b7 : ((np : Int) % 16 == 7) = false := by simp; omega
      have b8 : ((np : Int) % 16 == 8) = false := by simp; omega
      have b9 : ((np : Int) % 16 == 9) = false := by simp; omega
      have b10 : ((np : Int) % 16 == 10) = false := by simp; omega
      have b11 : ((np : Int) % 16 == 11) = false := by simp; omega
      have b12 : ((np : Int) % 16 == 12) = false := by simp; omega
      have b13 : ((np : Int) % 16 == 13) = false := by simp; omega
      have b14 : ((np : Int) % 16 == 14) = false := by simp; omega
      have b15 : ((np : Int) % 16 == 15) = false := by simp; omega
      go_wp2_with fail
      go_meet
      exact rfl
    · have hr1 : (np : Int) % 16 = 11 := by omega
      subst hr0
      go_wp2_with fail
      go_meet
      exact rfl
    · have hr1 : (np : Int) % 16 = 12 := by omega
      subst hr0
      go_wp2_with fail
      go_meet
      exact rfl
    · have hr1 : (np : Int) % 16 = 13 := by omega
      have hr2 : ((np : Int) / 32 % 3 == 0) = false := by simp; omega
      go_wp2_with fail
      go_meet
      exact rfl
  case rest =>
  obtain rfl := hcut
  have b0 : ((np : Int) / 16 % 6 == 0) = false := by simp; omega
  have b1 : ((np : Int) / 16 % 6 == 1) = false := by simp; omega
  have b2 : ((np : Int) / 16 % 6 == 2) = false := by simp; omega
  have b3 : ((np : Int) / 16 % 6 == 3) = false := by simp; omega
  go_wp2_with fail
  refine (hC'.out w1 mb ns fl _ _ hst hj (by simp only []; omega) (by omega) (by omega) _ rfl).mono ?_
  rintro e w2 ⟨k1, n1, op1, kids1, body1, ak1, nk1, ck1, ab1, nb1, cb1, c2, rfl, hk5, Y1⟩
  have z2 := Y1.kept.size
  have z4 : w.heap.size < w2.heap.size := by omega
  have b0 : w2.heap[w.heap.size]? = some zeroS := Y1.kept.obj o1 (by omega)
  obtain ⟨r0, r1, r2, r3, r4, r5, r6, r7, r8, r9, r10, r11, r12, r13, q0, q1, q2, q3, q4, q5, q6, q7, q8, q9, q10, q11, q12, q13⟩ := slot14 b0
  go_wp2_with fail
  refine bodyPost_ret (v := .agg #[.int .i64 0, .int .i64 0, .string ⟨#[]⟩, .string ⟨#[]⟩, .int .i64 5, .int .i64 n1, .string op1, .slice ak1 nk1 ck1, .slice ab1 nb1 cb1, .slice none 0 0, .slice none 0 0, .bool false, .bool false, .slice none 0 0]) (by simp [results, Tryz.results29, go_sem, r0, r1, r2, r3, r4, r5, r6, r7, r8, r9, r10, r11, r12, r13, z4]; done) rfl ?_
  have hW := Y1.wf
  subst hk5
  exact stmt_one_end (kind := 0) (n0 := 0) (op0 := sE) hM hl hk1 z1 Y1 (Kept.set14 (M := fun b => b = w.heap.size) rfl) (by cases hW; exact .expr _ _ ‹_› ‹_›) (by decide) (by decide) (by omega)

set_option maxRecDepth 100000 in
set_option maxHeartbeats 1000000 in
theorem stmt_count (dd j : Nat) (hd : dd ≤ 3) (hj2 : j ≤ 2)  (w : World) (mb : Nat) (ns : Value) (fl : Bool) (c : MC) (inn : Bool) (a : Option Addr) (len cap : Nat) (h : MSt w mb ns fl c) (hj : c.inner + j = 2) (hl : 0 ≤ c.left) (D : Int) (hD : D = dd)
    (n np : Nat) (hn : n < 536870912) (hnp : dd = 0 ∧ np = n / 16 * 16 ∨ dd ≠ 0 ∧ np = n) (hnext : Calls Tryz.prog 42 #[.pointer (some ⟨mb, 0, none⟩)] (w.alloc zeroS) (NextN (w.alloc zeroS) mb ns fl c n))
    (hr : np % 16 ≤ 4 ∨ np % 16 = 11 ∧ len = 0 ∨ np % 16 = 12 ∧ inn = false ∨ np % 16 = 13 ∧ ¬ np / 32 % 3 = 0) (hr2 : (np : Int) / 16 % 6 = 3) :
    Calls Tryz.prog 29 #[.pointer (some ⟨mb, 0, none⟩), .int .i64 D, .bool inn, .slice a len cap] w (StmtP w mb ns fl c 1 (3 + 11 * (dd + j)) 1 0 (4 + 5 * dd + 8 * j) (fun _ => True)) := by
  have hM := h
  have hmb := lt_of_heap h.obj
  have hn' := Lib.hid hnext
  have hr' := Lib.hid hr
  have hDd := Lib.hid hD
  have hD0 : 0 ≤ D := by omega
  have hD1 : D ≤ 3 := by omega
  have hpp := Lib.hid hnp
  have hpb : np < 536870912 := by omega
  clear hnext hD hnp hr
  go_enter Tryz.func29, Tryz.ntmps29
  go_wp2_with fail
  refine hn'.out.mono ?_
  rintro e w1 ⟨rfl, hst, hk⟩
  obtain ⟨rc, rf⟩ := keptRules hk hmb
  have z1 : w.heap.size < w1.heap.size := by have := hk.size; simp at this; omega
  have hk1 := keptA.trans hk
  have o1 : w1.heap[w.heap.size]? = some zeroS := hk.new (by omega)
  clear hk hn'
  go_upto_if 17 with fail
  go_cut [9] (fun s9 wx => s9 = .int .u32 np ∧ w1 = wx)
  case first => as_aux_lemma =>
    rcases hpp.out with ⟨hd0, hp⟩ | ⟨hd0, hp⟩
    · have hD0 : (D == 0) = true := by have := hDd.out; simp; omega
      have hp' : (np : Int) = (n : Int) / 16 * 16 := by omega
      go_wp2_with fail
      go_meet
      exact ⟨by rw [hp'], rfl⟩
    · have hD0 : (D == 0) = false := by have := hDd.out; simp; omega
      go_wp2_with fail
      go_meet
      exact ⟨by rw [hp], rfl⟩
  case rest =>
  obtain ⟨rfl, rfl⟩ := hcut
  go_upto_block 0 with fail
  go_cut [22] (fun s22 wx => w1 = wx)
  case first => as_aux_lemma =>
    rcases hr'.out with hr | ⟨hr, hr0⟩ | ⟨hr, hr0⟩ | ⟨hr, hr0⟩
    · have b5 : ((np : Int) % 16 == 5) = false := by simp; omega
      have b6 : ((np : Int) % 16 == 6) = false := by simp; omega
      have b7 : ((np : Int) % 16 == 7) = false := by simp; omega
      have b8 : ((np : Int) % 16 == 8) = false := by simp; omega
      have b9 : ((np : Int) % 16 == 9) = false := by simp; omega
      have b10 : ((np : Int) % 16 == 10) = false := by simp; omega
      have b11 : ((np : Int) % 16 == 11) = false := by simp; omega
      have b12 : ((np : Int) % 16 == 12) = false := by simp; omega
      have b13 : ((np : Int) % 16 == 13) = false := by simp; omega
      have b14 : ((np : Int) % 16 == 14) = false := by simp; omega
      have b15 : ((np : Int) % 16 == 15) = false := by simp; omega
      go_wp2_with fail
      go_meet
      exact rfl
    · have hr1 : (np : Int) % 16 = 11 := by omega
      subst hr0
      go_wp2_with fail
      go_meet
      exact rfl
    · have hr1 : (np : Int) % 16 = 12 := by omega
      subst hr0
      go_wp2_with fail
      go_meet
      exact rfl
    · have hr1 : (np : Int) % 16 = 13 := by omega
      have hr2 : ((np : Int) / 32 % 3 == 0) = false := by simp; omega
      go_wp2_with fail
      go_meet
      exact rfl
  case rest =>
  obtain rfl := hcut
  have hb : bits BinOp.and IntKind.u32 ((np : Int) / 512) 1 = 0 ∨ bits BinOp.and IntKind.u32 ((np : Int) / 512) 1 = 1 := by rw [and1 _ (by omega) (by omega)]; omega
  obtain ⟨r0, r1, r2, r3, r4, r5, r6, r7, r8, r9, r10, r11, r12, r13, q0, q1, q2, q3, q4, q5, q6, q7, q8, q9, q10, q11, q12, q13⟩ := slot14 o1
  rcases hb with hb | hb
  · go_wp2_with fail
    refine bodyPost_ret (v := .agg #[.int .i64 2, .int .i64 ((np : Int) / 128 % 4), .string sInc, .string ⟨#[]⟩, .int .i64 0, .int .i64 0, .string ⟨#[]⟩, .slice none 0 0, .slice none 0 0, .slice none 0 0, .slice none 0 0, .bool false, .bool false, .slice none 0 0]) (by simp [results, Tryz.results29, go_sem, r0, r1, r2, r3, r4, r5, r6, r7, r8, r9, r10, r11, r12, r13, z1, sInc]; done) rfl ?_
    exact stmt_leaf_end (kind := 2) (n0 := np / 128 % 4) (op0 := sInc) (lab0 := sE) hM hl hst hk1 ((Kept.setF14 (Nat.le_refl _)).trans keptA) (.count _ _ (Nat.mod_lt _ (by decide)) (.inl rfl)) (by decide)
  · go_wp2_with fail
    refine bodyPost_ret (v := .agg #[.int .i64 2, .int .i64 ((np : Int) / 128 % 4), .string sDec, .string ⟨#[]⟩, .int .i64 0, .int .i64 0, .string ⟨#[]⟩, .slice none 0 0, .slice none 0 0, .slice none 0 0, .slice none 0 0, .bool false, .bool false, .slice none 0 0]) (by simp [results, Tryz.results29, go_sem, r0, r1, r2, r3, r4, r5, r6, r7, r8, r9, r10, r11, r12, r13, z1, sDec]; done) rfl ?_
    exact stmt_leaf_end (kind := 2) (n0 := np / 128 % 4) (op0 := sDec) (lab0 := sE) hM hl hst hk1 ((Kept.setF14 (Nat.le_refl _)).trans keptA) (.count _ _ (Nat.mod_lt _ (by decide)) (.inr rfl)) (by decide)
end Go.Proofs.YtleolbpibjnedaaGreat
