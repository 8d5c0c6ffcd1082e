/- The laws' maker: leaves, calls and function literals among the expressions. -/
import Derived.Test.YtleolbpibjnedaaGreatQMkA
import Derived.Test.YtleolbpibjnedaaGreatQMkB
set_option linter.unusedSimpArgs false
set_option linter.unusedVariables false
namespace Go.Proofs.YtleolbpibjnedaaGreat
open Go Go.RowKit Gc

set_option maxRecDepth 100000 in
set_option maxHeartbeats 1000000 in
theorem expr_low (d j : Nat) (hd2 : d ≤ 1) (w : World) (mb : Nat) (ns : Value) (fl : Bool) (c : MC) (h : MSt w mb ns fl c) (hj : c.inner + j = 2) (D : Int) (hD : D = (d + 1 : Nat)) (hl : c.left - 1 < 0)
    (n : Nat) (hn : n < 536870912) (hnext : Calls Tryz.prog 42 #[.pointer (some ⟨mb, 0, none⟩)] (w.alloc (zeroX)) (NextN (w.alloc zeroX) mb ns fl c n)) :
    Calls Tryz.prog 44 #[.pointer (some ⟨mb, 0, none⟩), .int .i64 D] w (ExprP w mb ns fl c 1 (1 + (d + 1 : Nat) + 11 * j) 1 0 (1 + (d + 1) + 8 * j) (fun _ => True)) := by
  have hmb := lt_of_heap h.obj
  have hn' := Lib.hid hnext
  have hd : (D == 0) = false := by simp; omega
  clear hnext hD
  go_enter Tryz.func44, Tryz.ntmps44
  go_wp2_with fail
  refine hn'.out.mono ?_
  rintro e w1 ⟨rfl, hst, hk⟩
  have cl := cell_of_cells hst.obj 2 rfl
  obtain ⟨c0, c1, c2', c3, c4, f0, f1, f2, f3, f4⟩ := slot5 (hk.new (by omega))
  have hk1 := keptA.trans hk
  clear hk hn'
  go_wp2_with fail
  refine bodyPost_ret (v := .agg #[.int .i64 1, .int .i64 (↑n % 4), .string ⟨#[]⟩, .slice none 0 0, .slice none 0 0]) (by simp [results, Tryz.results44, go_sem, c0, c1, c2', c3, c4]; done) rfl ?_
  exact expr_leaf (kind := 1) (n := n % 4) (by omega) (by omega) (by omega) h hst hk1 (Kept.setF5 (Nat.le_refl _)) (.inr ⟨rfl, by omega⟩) rfl

set_option maxRecDepth 100000 in
set_option maxHeartbeats 2000000 in
theorem expr_plain (d j : Nat) (hd2 : d ≤ 1) (w : World) (mb : Nat) (ns : Value) (fl : Bool) (c : MC) (h : MSt w mb ns fl c) (hj : c.inner + j = 2) (D : Int) (hD : D = (d + 1 : Nat)) (hl : 0 ≤ c.left - 1)
    (n : Nat) (hn : n < 536870912) (hnext : Calls Tryz.prog 42 #[.pointer (some ⟨mb, 0, none⟩)] (w.alloc (zeroX)) (NextN (w.alloc zeroX) mb ns fl c n))
    (hr : n % 12 = 8 ∨ n % 12 = 9 ∨ n % 12 = 10 ∨ n % 12 = 11 ∨ n % 12 = 7 ∧ (fl = true ∨ j = 0)) :
    Calls Tryz.prog 44 #[.pointer (some ⟨mb, 0, none⟩), .int .i64 D] w (ExprP w mb ns fl c 1 (1 + (d + 1 : Nat) + 11 * j) 1 0 (1 + (d + 1) + 8 * j) (fun _ => True)) := by
  have hmb := lt_of_heap h.obj
  have hn' := Lib.hid hnext
  have hd : (D == 0) = false := by simp; omega
  clear hnext hD
  rcases hr with hr | hr | hr | hr | ⟨hr, rfl | rfl⟩
  all_goals
    have hr1 := Lib.hid hr
    clear hr
    go_enter Tryz.func44, Tryz.ntmps44
    go_wp2_with fail
    refine hn'.out.mono ?_
    rintro e w1 ⟨rfl, hst, hk⟩
    have cl := cell_of_cells hst.obj 2 rfl
    have ci := cell_of_cells hst.obj 4 rfl
    have cf := cell_of_cells hst.obj 5 rfl
    obtain ⟨c0, c1, c2', c3, c4, f0, f1, f2, f3, f4⟩ := slot5 (hk.new (by omega))
    have hk1 := keptA.trans hk
    clear hk hn'
    have hr2 := congrArg (fun n : Nat => (n : Int)) hr1.out
    simp only [Int.natCast_emod] at hr2
  · go_wp2_with fail
    refine bodyPost_ret (v := .agg #[.int .i64 0, .int .i64 0, .string ⟨#[]⟩, .slice none 0 0, .slice none 0 0]) (by simp [results, Tryz.results44, go_sem, c0, c1, c2', c3, c4]; done) rfl ?_
    exact expr_leaf (kind := 0) (n := 0) (by omega) (by omega) (by omega) h hst hk1 (Kept.setF5 (Nat.le_refl _)) (.inl ⟨rfl, rfl⟩) rfl
  · go_wp2_with fail
    refine bodyPost_ret (v := .agg #[.int .i64 1, .int .i64 (↑n % 4), .string ⟨#[]⟩, .slice none 0 0, .slice none 0 0]) (by simp [results, Tryz.results44, go_sem, c0, c1, c2', c3, c4]; done) rfl ?_
    exact expr_leaf (kind := 1) (n := n % 4) (by omega) (by omega) (by omega) h hst hk1 (Kept.setF5 (Nat.le_refl _)) (.inr ⟨rfl, by omega⟩) rfl
  · go_wp2_with fail
    refine bodyPost_ret (v := .agg #[.int .i64 1, .int .i64 (↑n % 4), .string ⟨#[]⟩, .slice none 0 0, .slice none 0 0]) (by simp [results, Tryz.results44, go_sem, c0, c1, c2', c3, c4]; done) rfl ?_
    exact expr_leaf (kind := 1) (n := n % 4) (by omega) (by omega) (by omega) h hst hk1 (Kept.setF5 (Nat.le_refl _)) (.inr ⟨rfl, by omega⟩) rfl
  · go_wp2_with fail
    refine bodyPost_ret (v := .agg #[.int .i64 1, .int .i64 (↑n % 4), .string ⟨#[]⟩, .slice none 0 0, .slice none 0 0]) (by simp [results, Tryz.results44, go_sem, c0, c1, c2', c3, c4]; done) rfl ?_
    exact expr_leaf (kind := 1) (n := n % 4) (by omega) (by omega) (by omega) h hst hk1 (Kept.setF5 (Nat.le_refl _)) (.inr ⟨rfl, by omega⟩) rfl
  · go_wp2_with fail
    refine bodyPost_ret (v := .agg #[.int .i64 1, .int .i64 (↑n % 4), .string ⟨#[]⟩, .slice none 0 0, .slice none 0 0]) (by simp [results, Tryz.results44, go_sem, c0, c1, c2', c3, c4]; done) rfl ?_
    exact expr_leaf (kind := 1) (n := n % 4) (by omega) (by omega) (by omega) h hst hk1 (Kept.setF5 (Nat.le_refl _)) (.inr ⟨rfl, by omega⟩) rfl
  · have hin : ¬ ((c.inner : Int) < 2) := by omega
    cases fl
    · go_wp2_with fail
      refine bodyPost_ret (v := .agg #[.int .i64 1, .int .i64 (↑n % 4), .string ⟨#[]⟩, .slice none 0 0, .slice none 0 0]) (by simp [results, Tryz.results44, go_sem, c0, c1, c2', c3, c4]; done) rfl ?_
      exact expr_leaf (kind := 1) (n := n % 4) (by omega) (by omega) (by omega) h hst hk1 (Kept.setF5 (Nat.le_refl _)) (.inr ⟨rfl, by omega⟩) rfl
    · go_wp2_with fail
      refine bodyPost_ret (v := .agg #[.int .i64 1, .int .i64 (↑n % 4), .string ⟨#[]⟩, .slice none 0 0, .slice none 0 0]) (by simp [results, Tryz.results44, go_sem, c0, c1, c2', c3, c4]; done) rfl ?_
      exact expr_leaf (kind := 1) (n := n % 4) (by omega) (by omega) (by omega) h hst hk1 (Kept.setF5 (Nat.le_refl _)) (.inr ⟨rfl, by omega⟩) rfl
end Go.Proofs.YtleolbpibjnedaaGreat
/- The laws' maker: calls and function literals among the expressions. -/
namespace Go.Proofs.YtleolbpibjnedaaGreat
open Go Go.RowKit Gc

/-- The end of an expression that is a call. -/
theorem expr_call_end {w w1 w2 wf : World} {mb : Nat} {ns : Value} {fl : Bool} {c c2 : MC} {d j : Nat}
    {k1 n1 : Nat} {op1 : Str} {kids1 body1 : T} {ak1 ab1 : Option Addr} {nk1 ck1 nb1 cb1 : Nat}
    (h : MSt w mb ns fl c) (hl : 0 ≤ c.left - 1) (hk1 : Kept (fun b => b = mb) w w1) (z1 : w.heap.size < w1.heap.size)
    (Y1 : GotE w1 mb ns fl { c with m := c.m + 1, left := c.left - 1 } 0 (1 + (d + 1 : Nat) + 11 * j) 2 2 (1 + (d + 1) + 8 * j) k1 n1 op1 kids1 body1 ak1 nk1 ck1 ab1 nb1 cb1 c2 w2)
    (hC : Kept (fun b => b = w.heap.size) w2 wf) : ExprP w mb ns fl c 1 (1 + (d + 1 : Nat) + 11 * j) 1 0 (1 + (d + 1) + 8 * j) (fun _ => True) (.returned (.agg #[.int .i64 k1, .int .i64 n1, .string op1, .slice ak1 nk1 ck1, .slice ab1 nb1 cb1])) wf := by
  have hmb := lt_of_heap h.obj
  have a2 := Y1.kept.size
  have m1 : Kept (fun b => b = mb ∨ b = w.heap.size) w2 wf := hC.mono fun _ _ h => .inr h
  have m0 : Kept (fun b => b = mb) w wf := (((hk1.trans Y1.kept).mono (M' := fun b => b = mb ∨ w.heap.size ≤ b) fun _ _ h => .inl h).trans (m1.mono fun b _ h => h.imp id (fun e => by omega))).fresh (Nat.le_refl _)
  have hD1 : ∀ b, w1.heap.size ≤ b → ¬ (b = mb ∨ b = w.heap.size) := fun b hb => by omega
  have gg := Y1.went.afterNext (O' := 1 + (d + 1 : Nat) + 11 * j) (X' := 1) hl (by omega)
  refine ⟨k1, n1, op1, kids1, body1, _, _, _, _, _, _, c2, rfl, trivial, Y1.wf, (Y1.rk.kept m1 hD1).imp (fun b _ hb => by omega), (Y1.rb.kept m1 hD1).imp (fun b _ hb => by omega), ?_, m0, gg.weaken (by omega) (by omega) (by omega), ?_, Y1.deep, Y1.xd⟩
  · exact ⟨hC.obj Y1.st.obj (by omega), h.nums.kept m0, Y1.st.tot, Y1.st.lo, Y1.st.lab, Y1.st.inn⟩
  · have q1 := Y1.cost
    simp only [] at q1 ⊢
    omega

set_option maxRecDepth 100000 in
set_option maxHeartbeats 1000000 in
theorem expr_call (d j : Nat) (hd2 : d ≤ 1) (hC : ContrCall (d + 1) j) (w : World) (mb : Nat) (ns : Value) (fl : Bool) (c : MC) (h : MSt w mb ns fl c) (hj : c.inner + j = 2) (D : Int) (hD : D = (d + 1 : Nat)) (hl : 0 ≤ c.left - 1)
    (n : Nat) (hn : n < 536870912) (hnext : Calls Tryz.prog 42 #[.pointer (some ⟨mb, 0, none⟩)] (w.alloc (zeroX)) (NextN (w.alloc zeroX) mb ns fl c n)) (hr : n % 12 = 5 ∨ n % 12 = 6) :
    Calls Tryz.prog 44 #[.pointer (some ⟨mb, 0, none⟩), .int .i64 D] w (ExprP w mb ns fl c 1 (1 + (d + 1 : Nat) + 11 * j) 1 0 (1 + (d + 1) + 8 * j) (fun _ => True)) := by
  have hmb := lt_of_heap h.obj
  have hC' := Lib.hid hC
  have hn' := Lib.hid hnext
  have hd : (D == 0) = false := by simp; omega
  have hDd := Lib.hid hD
  clear hC hnext hD
  rcases hr with hr | hr
  all_goals
    have hr1 := Lib.hid hr
    clear hr
    go_enter Tryz.func44, Tryz.ntmps44
    go_wp2_with fail
    refine hn'.out.mono ?_
    rintro e w1 ⟨rfl, hst, hk⟩
    have z1 : w.heap.size < w1.heap.size := by have := hk.size; simp [zeroX] at this; omega
    have cl := cell_of_cells hst.obj 2 rfl
    have hk1 := keptA.trans hk
    have o1 : w1.heap[w.heap.size]? = some zeroX := hk.new (by omega)
    clear hk hn'
    have hr2 := congrArg (fun n : Nat => (n : Int)) hr1.out
    simp only [Int.natCast_emod] at hr2
    go_wp2_with fail
    refine (hC'.out w1 mb ns fl _ n hst hj (by simp only []; omega) (by omega) (by omega) _ hDd.out).mono ?_
    rintro e w2 ⟨k1, n1, op1, kids1, body1, ak1, nk1, ck1, ab1, nb1, cb1, c2, rfl, rfl, Y1⟩
    have z2 : w.heap.size < w2.heap.size := by have := Y1.kept.size; omega
    obtain ⟨c0, c1, c2', c3, c4, f0, f1, f2, f3, f4⟩ := slot5 (Y1.kept.obj o1 (by omega))
    go_wp2_with fail
    refine bodyPost_ret (v := .agg #[.int .i64 5, .int .i64 n1, .string op1, .slice ak1 nk1 ck1, .slice ab1 nb1 cb1]) (by simp [results, Tryz.results44, go_sem, c0, c1, c2', c3, c4]; done) rfl ?_
    exact expr_call_end h hl hk1 z1 Y1 (Kept.set5 (M := fun b => b = w.heap.size) rfl)

theorem Labs.nil (w : World) (mb q : Nat) : Labs w mb q (.slice none 0 0) := ⟨none, 0, 0, .nil, rfl, Nat.zero_le _, trivial, trivial, ⟨_, _, rfl⟩⟩

/-- The end of a function literal. -/
theorem expr_lit_end {w w1 w2 w3 wf : World} {mb : Nat} {ns : Value} {fl : Bool} {c c2 : MC} {d j : Nat} {t : T} {a : Option Addr} {n cap : Nat} (hfl : fl = false) (hd : d ≤ 1)
    (h : MSt w mb ns fl c) (hl : 0 ≤ c.left - 1) (hin : c.inner + (j + 1) = 2) (hk1 : Kept (fun b => b = mb) w w1) (z1 : w.heap.size < w1.heap.size) (hk2 : Kept (fun b => b = mb) w1 w2)
    (Y1 : GotL w2 mb ns fl { c with m := c.m + 1, left := c.left - 1, inner := c.inner + 1 } (3 + 11 * (d + j)) (4 + 5 * d + 8 * j) t a n cap c2 w3)
    (hC : Kept (fun b => b = mb ∨ b = w.heap.size) w3 wf) (hobj : wf.heap[mb]? = some (.cells [ns, .int .i64 (c2.m : Int), .int .i64 c2.left, .int .i64 (c2.labels : Int), .int .i64 (c.inner : Int), .bool fl].toArray 80 (0, 0))) :
    ExprP w mb ns fl c 1 (1 + (d + 1 : Nat) + 11 * (j + 1 : Nat)) 1 0 (1 + (d + 1) + 8 * (j + 1)) (fun _ => True) (.returned (.agg #[.int .i64 6, .int .i64 0, .string ⟨#[]⟩, .slice none 0 0, .slice a n cap])) wf := by
  have hmb := lt_of_heap h.obj
  have a2 := hk2.size
  have g := Y1.went
  have q := Y1.cost
  have t0 := g.tot
  have t1 := g.le
  have t2 := g.lab0
  have t3 := g.lab1
  simp only [] at q t0 t1 t2 t3
  have m0 : Kept (fun b => b = mb) w wf := ((((hk1.trans hk2).trans Y1.kept).mono (M' := fun b => b = mb ∨ w.heap.size ≤ b) fun _ _ h => .inl h).trans (hC.mono fun b _ h => h.imp id (fun e => by omega))).fresh (Nat.le_refl _)
  have hD1 : ∀ b, w2.heap.size ≤ b → ¬ (b = mb ∨ b = w.heap.size) := fun b hb => by omega
  subst hfl
  refine ⟨6, 0, sE, .nil, t, _, _, _, _, _, _, { c2 with inner := c.inner }, rfl, trivial, .lit t rfl Y1.wf, ⟨_, _, rfl⟩, (Y1.rep.kept hC hD1).imp (fun b _ hb => by omega), ?_, m0, ?_, ?_, ?_, by simp only [T.xd]; omega⟩
  · exact ⟨hobj, h.nums.kept m0, Y1.st.tot, Y1.st.lo, Y1.st.lab, by simp only []; omega⟩
  · have l0 := g.low hl
    exact { tot := by simp only []; omega, le := by simp only []; omega, lab0 := t2, lab1 := by simp only []; omega, inner := rfl, low := fun _ => by simp only []; omega, low' := fun h0 => by omega }
  · simp only [T.cost, Nat.reduceEqDiff, if_true, if_false]
    omega
  · have := Y1.deep
    simp only [T.deep, if_true]
    omega

set_option maxRecDepth 100000 in
set_option maxHeartbeats 1000000 in
theorem expr_lit (d j : Nat) (hd2 : d ≤ 1) (hL : ContrL d j) (w : World) (mb : Nat) (ns : Value) (c : MC) (h : MSt w mb ns false c) (hj : c.inner + (j + 1) = 2) (D : Int) (hD : D = (d + 1 : Nat)) (hl : 0 ≤ c.left - 1)
    (n : Nat) (hn : n < 536870912) (hnext : Calls Tryz.prog 42 #[.pointer (some ⟨mb, 0, none⟩)] (w.alloc (zeroX)) (NextN (w.alloc zeroX) mb ns false c n)) (hr : n % 12 = 7) :
    Calls Tryz.prog 44 #[.pointer (some ⟨mb, 0, none⟩), .int .i64 D] w (ExprP w mb ns false c 1 (1 + (d + 1 : Nat) + 11 * (j + 1 : Nat)) 1 0 (1 + (d + 1) + 8 * (j + 1)) (fun _ => True)) := by
  have hmb := lt_of_heap h.obj
  have hL' := Lib.hid hL
  have hn' := Lib.hid hnext
  have hd : (D == 0) = false := by simp; omega
  have hD0 : 1 ≤ D := by omega
  have hD1 : D ≤ 2 := by omega
  have hDd := Lib.hid hD
  have hr1 := Lib.hid hr
  clear hL hnext hD hr
  go_enter Tryz.func44, Tryz.ntmps44
  go_wp2_with fail
  refine hn'.out.mono ?_
  rintro e w1 ⟨rfl, hst, hk⟩
  have z1 : w.heap.size < w1.heap.size := by have := hk.size; simp [zeroX] at this; omega
  have cl := cell_of_cells hst.obj 2 rfl
  have ci := cell_of_cells hst.obj 4 rfl
  have cf := cell_of_cells hst.obj 5 rfl
  have ff := free_of_cells hst.obj 4
  have hin : (c.inner : Int) < 2 := by omega
  have hk1 := keptA.trans hk
  have o1 : w1.heap[w.heap.size]? = some zeroX := hk.new (by omega)
  clear hk hn'
  have hr2 := congrArg (fun n : Nat => (n : Int)) hr1.out
  simp only [Int.natCast_emod] at hr2
  go_wp2_with fail
  have hst2 : MSt (w1.setCell ⟨mb, 4, none⟩ (.int .i64 ((c.inner : Int) + 1))) mb ns false { c with m := c.m + 1, left := c.left - 1, inner := c.inner + 1 } :=
    ⟨set_of_cells hst.obj 4 _, hst.nums.kept Kept.set1e, hst.tot, hst.lo, hst.lab, by simp only []; omega⟩
  refine (hL'.out _ mb ns false _ false (.slice none 0 0) hst2 (by simp only []; omega) (by simp only []; omega) (Labs.nil _ _ _) _ (by have := hDd.out; omega)).mono ?_
  rintro e w3 ⟨t, a, k, cap, c2, rfl, Y1⟩
  have hk2 : Kept (fun b => b = mb) w1 (w1.setCell ⟨mb, 4, none⟩ (.int .i64 ((c.inner : Int) + 1))) := Kept.set1e
  have z2 : w.heap.size < w3.heap.size := by have := Y1.kept.size; have := hk2.size; omega
  have z3 : w.heap.size ≤ w3.heap.size := by omega
  obtain ⟨c0, c1, c2', c3, c4, f0, f1, f2, f3, f4⟩ := slot5 ((hk2.trans Y1.kept).obj o1 (by omega))
  have ci3 := cell_of_cells Y1.st.obj 4 rfl
  have ff3 := free_of_cells Y1.st.obj 4
  have hci : c2.inner = c.inner + 1 := Y1.went.inner
  have zmb : mb < w3.heap.size := by omega
  rw [hci] at ci3
  clear hci
  go_wp2_with fail
  refine bodyPost_ret (v := .agg #[.int .i64 6, .int .i64 0, .string ⟨#[]⟩, .slice none 0 0, .slice a k cap]) (by simp [results, Tryz.results44, go_sem, c0, c1, c2', c3, c4, z2]; done) rfl ?_
  refine expr_lit_end rfl hd2 h hl hj hk1 z1 hk2 Y1 ?_ ?_
  · exact (((Kept.set1e (w := w3) (b := mb)).mono fun _ _ h => .inl h).trans ((Kept.set5 (M := fun b => b = w.heap.size) rfl).mono fun _ _ h => .inr h)).trans keptA
  · exact ((Kept.set5 (M := fun b => b = w.heap.size) rfl).trans keptA).obj (set_of_cells Y1.st.obj 4 _) (by omega)
end Go.Proofs.YtleolbpibjnedaaGreat
/- The laws' maker: an expression, all ways together; the condition. -/
namespace Go.Proofs.YtleolbpibjnedaaGreat
open Go Go.RowKit Gc

theorem expr_succ (d j : Nat) (hd : d ≤ 1) (hE : ContrE d j) (hL : ∀ j', j = j' + 1 → ContrL d j') : ContrE (d + 1) j := by
  intro w mb ns fl c h hj hlo D hD
  obtain ⟨n, hn, hnext⟩ := next_ex (w.alloc zeroX) mb ns fl c (h.keptBut (Kept.alloc _ _ _) (M := fun _ => False) (fun _ f => f.elim)) (by omega)
  by_cases hl : c.left - 1 < 0
  · exact expr_low d j hd w mb ns fl c h hj D hD hl n hn hnext
  · replace hl : 0 ≤ c.left - 1 := by omega
    have hC : ContrCall (d + 1) j := call_any d j hd hE
    have hr : n % 12 < 12 := Nat.mod_lt _ (by decide)
    by_cases h1 : n % 12 = 0 ∨ n % 12 = 1 ∨ n % 12 = 2
    · exact expr_bin d j hd hE w mb ns fl c h hj D hD hl n hn hnext h1
    by_cases h2 : n % 12 = 3 ∨ n % 12 = 4
    · exact expr_not d j hd hE w mb ns fl c h hj D hD hl n hn hnext h2
    by_cases h3 : n % 12 = 5 ∨ n % 12 = 6
    · exact expr_call d j hd hC w mb ns fl c h hj D hD hl n hn hnext h3
    by_cases h4 : n % 12 = 7
    · by_cases h5 : fl = true ∨ j = 0
      · exact expr_plain d j hd w mb ns fl c h hj D hD hl n hn hnext (.inr (.inr (.inr (.inr ⟨h4, h5⟩))))
      · cases j with
        | zero => exact absurd (.inr rfl) h5
        | succ j =>
          cases fl with
          | true => exact absurd (.inl rfl) h5
          | false => exact expr_lit d j hd (hL j rfl) w mb ns c h hj D hD hl n hn hnext h4
    · exact expr_plain d j hd w mb ns fl c h hj D hD hl n hn hnext (by omega)

/-- Expressions at every depth, from lists one literal further in. -/
theorem expr_any (j : Nat) (hL : ∀ j', j = j' + 1 → ∀ d, d ≤ 1 → ContrL d j') : ∀ d, d ≤ 2 → ContrE d j
  | 0, _ => expr_zero j
  | d + 1, h => expr_succ d j (by omega) (expr_any j hL d (by omega)) fun j' e => hL j' e d (by omega)
end Go.Proofs.YtleolbpibjnedaaGreat
