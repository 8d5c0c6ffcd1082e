/- The laws' maker: statements with a label. -/
import Derived.Test.YtleolbpibjnedaaGreatQMkN
import Derived.Deep.RegionHeld3
import Derived.Deep.DeepMust
import Derived.Deep.DeepCutAuto
import Derived.Deep.CutRange
set_option linter.unusedSimpArgs false
set_option linter.unusedVariables false
namespace Go.Proofs.YtleolbpibjnedaaGreat
open Go Go.RowKit Gc

theorem lab_str (k : Nat) : (⟨#[108]⟩ : ByteArray) ++ strOf (dec k) = lab k := by
  show strOf [108] ++ strOf (dec k) = _
  rw [strOf_append]
  rfl

set_option maxRecDepth 100000 in
set_option maxHeartbeats 20000000 in
theorem stmt_lab (d dd j : Nat) (hd : d ≤ 2) (hdd : dd = d + 1) (hj2 : j ≤ 2) (hE : ContrE 1 j) (hL : ContrL d j) (w : World) (mb : Nat) (ns : Value) (fl : Bool) (c : MC) (inn : Bool) (a : Option Addr) (len cap : Nat) (h : MSt w mb ns fl c) (hj : c.inner + j = 2) (hl : 0 ≤ c.left) (hls : Labs w mb (3 - dd) (.slice a len cap)) (D : Int) (hD : D = dd)
    (n : Nat) (hn : n < 536870912) (hnext : Calls Tryz.prog 42 #[.pointer (some ⟨mb, 0, none⟩)] (w.alloc zeroS) (NextN (w.alloc zeroS) mb ns fl c n)) (hr : (n : Int) % 16 = 15) :
    Calls Tryz.prog 29 #[.pointer (some ⟨mb, 0, none⟩), .int .i64 D, .bool inn, .slice a len cap] w (StmtP w mb ns fl c 1 (3 + 11 * (dd + j)) 1 0 (4 + 5 * dd + 8 * j) (fun _ => True)) := by
  have hM := h
  have hmb := lt_of_heap h.obj
  have hn' := Lib.hid hnext
  have hE' := Lib.hid hE
  have hL' := Lib.hid hL
  have hDd := Lib.hid hD
  have Hdd := Lib.hid hdd
  have hD0 : 1 ≤ D := by omega
  have hD1 : D ≤ 3 := by omega
  have hd0 : (D == 0) = false := by simp; omega
  clear hnext hE hL hD hdd
  go_enter Tryz.func29, Tryz.ntmps29
  go_wp2_with fail
  refine hn'.out.mono ?_
  rintro e w1 ⟨rfl, hst, hk⟩
  obtain ⟨rc, rf⟩ := keptRules hk hmb
  have z1 : w.heap.size < w1.heap.size := by have := hk.size; simp at this; omega
  have hk1 := keptA.trans hk
  have o1 : w1.heap[w.heap.size]? = some zeroS := hk.new (by omega)
  clear hk hn'
  have hlab := h.lab
  have htot := h.tot
  obtain ⟨m, left, labels, inner⟩ := c
  simp only [] at hlab htot hl hj
  have cl3 := cell_of_cells hst.obj 3 rfl
  have fl3 := free_of_cells hst.obj 3
  have hmb1 := lt_of_heap hst.obj
  have hdecl : (strOf (dec (labels + 1))).size ≤ 6 := by rw [strOf_size]; exact dec_len 5 _ (by omega)
  have hkx := and1 ((n : Int) / 32) (by omega) (by omega)
  have hb : bits BinOp.and IntKind.u32 ((n : Int) / 32) 1 = 0 ∨ bits BinOp.and IntKind.u32 ((n : Int) / 32) 1 = 1 := by rw [hkx]; omega
  clear hkx
  have hst0 : MSt (w1.setCell ⟨mb, 3, none⟩ (.int .i64 ((labels : Int) + 1))) mb ns fl ⟨m + 1, left - 1, labels + 1, inner⟩ :=
    ⟨set_of_cells hst.obj 3 _, h.nums.kept (hk1.trans Kept.set1e), hst.tot, hst.lo, (by have := hst.lab; simp only [] at this ⊢; omega), hst.inn⟩
  have hlen : len ≤ 3 := by
    obtain ⟨_, _, _, l, e, h0, _⟩ := hls
    cases e
    omega
  go_upto_region 36 with (go_at_call 46; refine (decimal_any (labels + 1) (labels + 1) (Nat.le_refl _) (by omega) _ _ (by omega)).mono ?_; rintro e w2 ⟨rfl, rfl⟩)
  go_cut [11, 12] (fun s11 s12 wx => s11 = .string (lab (labels + 1)) ∧ (∃ kind : Nat, s12 = .int .i64 kind ∧ (kind = 4 ∨ kind = 5)) ∧ MSt wx mb ns fl ⟨m + 1, left - 1, labels + 1, inner⟩ ∧ Kept (fun b => b = mb) w wx ∧ w.heap.size < wx.heap.size ∧ wx.heap[w.heap.size]? = some zeroS)
  case first =>
    rcases hb with hb | hb
    · go_wp2_with fail
      go_meet
      exact ⟨by rw [← lab_str], ⟨4, rfl, .inl rfl⟩, hst0.keptBut (M := fun _ => False) keptA (fun _ f => f.elim), (hk1.trans Kept.set1e).trans keptA, by simp; omega, keptA.obj (M := fun _ => False) (Kept.set1e.obj o1 (by omega)) (fun f => f)⟩
    · go_wp2_with fail
      go_meet
      exact ⟨by rw [← lab_str], ⟨5, rfl, .inr rfl⟩, hst0.keptBut (M := fun _ => False) keptA (fun _ f => f.elim), (hk1.trans Kept.set1e).trans keptA, by simp; omega, keptA.obj (M := fun _ => False) (Kept.set1e.obj o1 (by omega)) (fun f => f)⟩
  case rest =>
  obtain ⟨rfl, ⟨kind, rfl, hkind⟩, hstx, hkx, zx, ox⟩ := hcut
  clear hst0 cl3 fl3 rc rf hst hk1 o1 z1 hmb1 hb
  have hlx := hls.kept hkx
  have hmx := lt_of_heap hstx.obj
  have cf5 := cell_of_cells hstx.obj 5 rfl
  go_upto_region 37 with fail
  have hcap : len ≤ cap := by
    obtain ⟨_, _, _, l, e, _, hG, _, hrep⟩ := hls
    cases e
    exact hG.cap hrep
  have hw : IntKind.i64.wrap (D - 1) = D - 1 := by rw [IntKind.wrap_i64]; omega
  go_cut [13] from 165 to 181 (fun s13 wy => ∃ (ib : Nat) (k1 n1 : Nat) (op1 : Str) (kids1 body1 : T) (ak1 : Option Addr) (nk1 ck1 : Nat) (ab1 : Option Addr) (nb1 cb1 : Nat) (t : T) (a2 : Option Addr) (n2 cap2 : Nat) (c3 : MC), s13 = .pointer (some ⟨ib, 0, none⟩) ∧ LabI w mb ns fl ⟨m + 1, left - 1, labels + 1, inner⟩ d j kind ib k1 n1 op1 kids1 body1 ak1 nk1 ck1 ab1 nb1 cb1 t a2 n2 cap2 c3 wy)
  case first =>
    go_region_held3 (fun _ => True) (trivial) (first
      | (go_at_call 44; refine (hE'.out _ mb ns fl _ (hstx.keptBut (M := fun _ => False) ?k1 (fun _ f => f.elim)) ?k2 ?k3 _ rfl).mono ?_; (case k1 => (with_reducible (first | exact keptD | exact keptAD | exact keptA.trans keptAD))); (case k2 => exact hj); (case k3 => (simp only []; omega)); rintro e w2 ⟨k1, n1, op1, kids1, body1, ak1, nk1, ck1, ab1, nb1, cb1, c2, rfl, _, Y1⟩; have zE := Y1.kept.size; (try simp at zE); (try (have hz : w2.heap[wc.heap.size]? = some zeroS := Y1.kept.obj (by first | exact heap_alloc_new wc _ | exact heap2_0 wc _ _) (by omega))); (try (have hz : w2.heap[wc.heap.size + 1]? = some zeroS := Y1.kept.obj (heap2_1 wc _ _) (by omega))); (try (have hb : w2.heap[wc.heap.size]? = some (.cells #[.string (lab (labels + 1))] 9) := Y1.kept.obj (by first | exact heap_alloc_new wc _ | exact heap2_0 wc _ _) (by omega))); (try (have hb : w2.heap[wc.heap.size + 1]? = some (.cells #[.string (lab (labels + 1))] 9) := Y1.kept.obj (heap2_1 wc _ _) (by omega))))
      | (go_at_call 45; go_must (refine (hL'.out _ mb ns fl c2 true lv (Y1.st.keptBut (M := fun _ => False) (kWA.trans ?k1) (fun _ f => f.elim)) ?k2 ?k3 ((LA.kept ?k4).up ?k5) _ (by have := hDd.out; have := Hdd.out; omega)).mono ?_); (case k1 => (with_reducible (first | exact Kept.refl _ _ | exact keptA))); (case k2 => (have := Y1.went.inner; simp only [] at this; omega)); (case k3 => (have := Y1.went.low; have := Y1.went.low'; simp only [] at *; omega)); (case k4 => (with_reducible (first | exact Kept.refl _ _ | exact keptA))); (case k5 => (have := Hdd.out; omega)); rintro e w3 ⟨t, a2, n2, cap2, c3, rfl, Y2⟩; have zL := Y2.kept.size; (try simp at zL); (try (have hzL := (Kept.trans (b := _) (by (with_reducible (first | exact Kept.refl _ _ | exact keptA))) Y2.kept).obj hzA (by omega))); (try (have hzL : w3.heap[wA.heap.size]? = some zeroS := Y2.kept.obj (heap_alloc_new wA _) (by omega))); (try (have hsl := slot14 hzL; obtain ⟨z0, z1, z2, z3, z4, z5, z6, z7, z8, z9, z10, z11, z12, z13, y0, y1, y2, y3, y4, y5, y6, y7, y8, y9, y10, y11, y12, y13⟩ := hsl)))
      | (refine step_append_lab rfl (.tmp 176) (.tmp 178) rfl mb (3 - dd) ?hm a len cap rfl ?hL (by omega) _ 1 (labels + 1) rfl (by omega) ?hnew ?_; (case hm => (first | omega | (simp; omega))); (case hL => exact ((hlx.kept (by (with_reducible (first | exact keptD | exact keptAD | exact keptA.trans keptAD)))).kept Y1.kept).kept (by (with_reducible (first | exact Kept.refl _ _ | exact keptA | exact keptA.trans keptA)))); (case hnew => (rw [addr_add]; exact cell_of_cells (by first | exact heap_alloc_new w2 _ | exact heap2_0 w2 _ _ | exact heap2_1 w2 _ _ | exact hb | exact (keptA (M := fun _ => False)).obj hb (fun f => f)) 0 rfl)); intro lv wA LA KA; have kWA : Kept (fun _ => False) w2 wA := Kept.trans (by (with_reducible (first | exact Kept.refl _ _ | exact keptA | exact keptA.trans keptA))) KA; have zA := KA.size; (try simp at zA); (try (have hzA := kWA.obj hz (fun f => f))); (try (have hzA : wA.heap[w2.heap.size]? = some zeroS := KA.obj (by first | exact heap_alloc_new w2 _ | exact heap2_0 w2 _ _) (fun f => f))); (try (have hzA : wA.heap[w2.heap.size + 1]? = some zeroS := KA.obj (heap2_1 w2 _ _) (fun f => f)))))
    all_goals go_wp2_with fail
    all_goals go_meet
    all_goals refine ⟨_, k1, n1, op1, kids1, body1, ak1, nk1, ck1, ab1, nb1, cb1, t, a2, n2, cap2, c3, rfl, LabI.of hM hkx zx ox ?_ Y1 (Kept.trans kWA ?_) Y2 ?_ ?_ ?_ ?_⟩
    all_goals first
      | (with_reducible exact kept14L)
      | (with_reducible exact keptD)
      | (with_reducible exact keptAD)
      | (with_reducible exact keptA.trans keptAD)
      | (with_reducible exact Kept.refl _ _)
      | (with_reducible exact keptA)
      | (with_reducible exact set14_of hzL)
      | (with_reducible exact heap_alloc_new _ _)
      | omega
      | (simp; omega)
      | exact .inl (by simp; omega)
      | exact .inl (by simp)
  case rest =>
  obtain ⟨ib, k1, n1, op1, kids1, body1, ak1, nk1, ck1, ab1, nb1, cb1, t, a2, n2, cap2, c3, rfl, I⟩ := hcut
  have zib := I.hib
  have zr := lt_of_heap I.res
  have zi := lt_of_heap I.obj
  obtain ⟨r0, r1, r2, r3, r4, r5, r6, r7, r8, r9, r10, r11, r12, r13, q0, q1, q2, q3, q4, q5, q6, q7, q8, q9, q10, q11, q12, q13⟩ := slot14 I.res
  obtain ⟨x0, x1, x2, x3, x4, x5, x6, x7, x8, x9, x10, x11, x12, x13, y0, y1, y2, y3, y4, y5, y6, y7, y8, y9, y10, y11, y12, y13⟩ := slot14 I.obj
  go_wp2_with fail
  refine bodyPost_ret (v := .agg #[.int .i64 11, .int .i64 0, .string ⟨#[]⟩, .string (lab (labels + 1)), .int .i64 0, .int .i64 0, .string ⟨#[]⟩, .slice none 0 0, .slice none 0 0, .slice (some ⟨wc.heap.size, 0, none⟩) 1 1, .slice none 0 0, .bool false, .bool false, .slice none 0 0]) (by simp [results, Tryz.results29, go_sem, r0, r1, r2, r3, r4, r5, r6, r7, r8, r9, r10, r11, r12, r13, zr]; done) rfl ?_
  exact LabI.done (r := wc.heap.size) Hdd.out hM hl hkind (by omega) I ((Kept.set14 (M := fun b => b = w.heap.size) rfl).trans keptA) (heap_new_at (by simp) _) (by omega)
end Go.Proofs.YtleolbpibjnedaaGreat
