/- Every tree that the maker makes becomes syntax. -/
import Derived.Test.YtleolbpibjnedaaGreatQLsF
import Derived.Test.YtleolbpibjnedaaGreatQLsG
import Derived.Test.YtleolbpibjnedaaGreatQLsE
import Derived.Test.YtleolbpibjnedaaGreatQLsH
import Derived.Deep.DeepMust
import Derived.Test.YtleolbpibjnedaaGreatQWkG
import Derived.Test.YtleolbpibjnedaaGreatQCv
import Derived.Deep.Cut
import Derived.Deep.RegionHeld3
set_option linter.unusedSimpArgs false
set_option linter.unusedVariables false
namespace Go.Proofs.YtleolbpibjnedaaGreat
open Go Go.RowKit Gc

def GoodT (o : So) (t : T) : Prop :=
  match o with
  | .E => ExprX t ∧ 1 ≤ t.cost
  | .S => StmtX t ∧ 1 ≤ t.cost
  | .Es => t.isList ∧ t.len ≤ t.cost ∧ t.All ExprX
  | .Ss => t.isList ∧ t.len ≤ t.cost ∧ t.All StmtX
  | .Cs => t.isList ∧ t.All CaseX

theorem good_S {fl : Bool} {o : So} {t : T} (h : W fl o t) : t.cost ≤ 100000 → GoodT o t := by
  induction h with
  | num => intro _; exact ⟨⟨expr_litN 0 0 rfl sE .nil .nil trivial trivial, _, _, _, _, _, rfl, trivial, trivial⟩, by simp [T.cost]⟩
  | var n h => intro _; exact ⟨⟨expr_var n h sE .nil .nil trivial trivial, _, _, _, _, _, rfl, trivial, trivial⟩, by simp [T.cost]⟩
  | bin op a b h ha hb ih1 ih2 =>
    intro hc
    simp only [T.cost] at hc
    obtain ⟨⟨h1, k1, n1, o1, kd1, b1, rfl, _, _⟩, _⟩ := ih1 (by (try simp only [T.cost]); (try simp only [T.cost] at hc); omega)
    obtain ⟨⟨h2, k2, n2, o2, kd2, b2, rfl, _, _⟩, _⟩ := ih2 (by (try simp only [T.cost]); (try simp only [T.cost] at hc); omega)
    exact ⟨⟨expr_two _ _ _ _ _ _ _ _ _ _ h1 h2 0 op, _, _, _, _, _, rfl, trivial, trivial⟩, by simp [T.cost, T.len] <;> omega⟩
  | not a ha ih =>
    intro hc
    simp only [T.cost] at hc
    obtain ⟨⟨h1, k1, n1, o1, kd1, b1, rfl, _, _⟩, _⟩ := ih (by (try simp only [T.cost]); (try simp only [T.cost] at hc); omega)
    exact ⟨⟨expr_notN _ _ _ _ _ h1 0 sE, _, _, _, _, _, rfl, trivial, trivial⟩, by simp [T.cost, T.len] <;> omega⟩
  | par a ha ih =>
    intro hc
    simp only [T.cost] at hc
    obtain ⟨⟨h1, k1, n1, o1, kd1, b1, rfl, _, _⟩, _⟩ := ih (by (try simp only [T.cost]); (try simp only [T.cost] at hc); omega)
    exact ⟨⟨expr_parN _ _ _ _ _ h1 0 sE, _, _, _, _, _, rfl, trivial, trivial⟩, by simp [T.cost, T.len] <;> omega⟩
  | call f args h ha ih =>
    intro hc
    simp only [T.cost] at hc
    obtain ⟨h1, h2, h3⟩ := ih (by omega)
    exact ⟨⟨expr_callN 0 f args h1 (by omega) h3, _, _, _, _, _, rfl, h1, trivial⟩, by simp [T.cost, T.len] <;> omega⟩
  | lit body h hb ih =>
    intro hc
    simp only [T.cost] at hc
    obtain ⟨h1, h2, h3⟩ := ih (by omega)
    exact ⟨⟨expr_funN 0 sE body h1 (by omega) h3, _, _, _, _, _, rfl, trivial, h1⟩, by simp [T.cost, T.len] <;> omega⟩
  | enil | snil => intro _; exact ⟨trivial, by simp [T.len], trivial⟩
  | cnil => intro _; exact ⟨trivial, trivial⟩
  | econs a t ha ht ih1 ih2 =>
    intro hc
    simp only [T.cost] at hc
    obtain ⟨h1, h1'⟩ := ih1 (by omega)
    obtain ⟨h2, h3, h4⟩ := ih2 (by omega)
    exact ⟨h2, by simp only [T.len, T.cost]; omega, h1, h4⟩
  | scons a t ha ht ih1 ih2 =>
    intro hc
    simp only [T.cost] at hc
    obtain ⟨h1, h1'⟩ := ih1 (by omega)
    obtain ⟨h2, h3, h4⟩ := ih2 (by omega)
    exact ⟨h2, by simp only [T.len, T.cost]; omega, h1, h4⟩
  | ccons a t ha ht ih1 ih2 =>
    intro hc
    simp only [T.cost] at hc
    obtain ⟨h1, h1', h1''⟩ := ih1 (by omega)
    obtain ⟨h2, h4⟩ := ih2 (by omega)
    exact ⟨h2, ⟨h1, by omega, h1''⟩, h4⟩
  | expr f args h ha ih =>
    intro hc
    simp only [T.cost] at hc
    obtain ⟨h1, h2, h3⟩ := ih (by omega)
    exact ⟨⟨stmt_exprN _ _ _ _ _ _ _ _ _ _ _ _ _ (expr_callN 0 f args h1 (by omega) h3), _, _, _, _, _, _, _, _, _, _, _, _, _, _, rfl, h1, trivial, trivial, trivial, trivial⟩, by simp [T.cost, T.len] <;> omega⟩
  | assign n op a hn h ha ih =>
    intro hc
    simp only [T.cost] at hc
    obtain ⟨⟨h1, k1, n1, o1, kd1, b1, rfl, l1, l2⟩, _⟩ := ih (by (try simp only [T.cost]); (try simp only [T.cost] at hc); omega)
    exact ⟨⟨stmt_assignN _ _ _ _ _ _ _ _ _ _ _ _ _ hn (by rcases h with rfl | rfl <;> decide) h1, _, _, _, _, _, _, _, _, _, _, _, _, _, _, rfl, l1, l2, trivial, trivial, trivial⟩, by simp [T.cost, T.len] <;> omega⟩
  | count n op hn h => intro _; exact ⟨⟨stmt_countN _ _ _ _ _ _ _ _ _ _ _ _ _ hn, _, _, _, _, _, _, _, _, _, _, _, _, _, _, rfl, trivial, trivial, trivial, trivial, trivial⟩, by simp only [T.cost]; omega⟩
  | ifNo a body ha hb ih1 ih2 =>
    intro hc
    simp only [T.cost] at hc
    obtain ⟨⟨h1, k1, n1, o1, kd1, b1, rfl, l1, l2⟩, _⟩ := ih1 (by (try simp only [T.cost]); (try simp only [T.cost] at hc); omega)
    obtain ⟨h2, h3, h4⟩ := ih2 (by omega)
    exact ⟨⟨stmt_ifN _ _ _ _ _ _ _ _ _ _ _ h1 h2 (by omega) h4, _, _, _, _, _, _, _, _, _, _, _, _, _, _, rfl, l1, l2, h2, trivial, trivial⟩, by simp [T.cost, T.len] <;> omega⟩
  | ifElse a body els ha hb he ih1 ih2 ih3 =>
    intro hc
    simp only [T.cost] at hc
    obtain ⟨⟨h1, k1, n1, o1, kd1, b1, rfl, l1, l2⟩, _⟩ := ih1 (by (try simp only [T.cost]); (try simp only [T.cost] at hc); omega)
    obtain ⟨h2, h3, h4⟩ := ih2 (by omega)
    obtain ⟨h5, h6, h7⟩ := ih3 (by omega)
    exact ⟨⟨stmt_elseN _ _ _ _ _ _ _ _ _ _ _ h1 h2 (by omega) h4 h5 (by omega) h7, _, _, _, _, _, _, _, _, _, _, _, _, _, _, rfl, l1, l2, h2, h5, trivial⟩, by simp [T.cost, T.len] <;> omega⟩
  | ifChain a body a' body' els' has' chain' ha hb he ih1 ih2 ih3 =>
    intro hc
    simp only [T.cost] at hc
    obtain ⟨⟨h1, k1, n1, o1, kd1, b1, rfl, l1, l2⟩, _⟩ := ih1 (by (try simp only [T.cost]); (try simp only [T.cost] at hc); omega)
    obtain ⟨h2, h3, h4⟩ := ih2 (by omega)
    obtain ⟨h5, _⟩ := ih3 (by (try simp only [T.cost]); (try simp only [T.cost] at hc); omega)
    exact ⟨⟨stmt_chainN _ _ _ _ _ _ _ _ _ _ _ _ h1 h2 (by omega) h4 h5, _, _, _, _, _, _, _, _, _, _, _, _, _, _, rfl, l1, l2, h2, trivial, trivial⟩, by simp [T.cost, T.len] <;> omega⟩
  | for_ a body ha hb ih1 ih2 =>
    intro hc
    simp only [T.cost] at hc
    obtain ⟨⟨h1, k1, n1, o1, kd1, b1, rfl, l1, l2⟩, _⟩ := ih1 (by (try simp only [T.cost]); (try simp only [T.cost] at hc); omega)
    obtain ⟨h2, h3, h4⟩ := ih2 (by omega)
    exact ⟨⟨stmt_forN _ _ _ _ _ _ _ _ _ _ _ _ _ h1 h2 (by omega) h4, _, _, _, _, _, _, _, _, _, _, _, _, _, _, rfl, l1, l2, h2, trivial, trivial⟩, by simp [T.cost, T.len] <;> omega⟩
  | range a body ha hb ih1 ih2 =>
    intro hc
    simp only [T.cost] at hc
    obtain ⟨⟨h1, k1, n1, o1, kd1, b1, rfl, l1, l2⟩, _⟩ := ih1 (by (try simp only [T.cost]); (try simp only [T.cost] at hc); omega)
    obtain ⟨h2, h3, h4⟩ := ih2 (by omega)
    exact ⟨⟨stmt_rangeN _ _ _ _ _ _ _ _ _ _ _ _ _ h1 h2 (by omega) h4, _, _, _, _, _, _, _, _, _, _, _, _, _, _, rfl, l1, l2, h2, trivial, trivial⟩, by simp [T.cost, T.len] <;> omega⟩
  | switch a cases ha hcs h ih1 ih2 =>
    intro hc
    simp only [T.cost] at hc
    obtain ⟨⟨h1, k1, n1, o1, kd1, b1, rfl, l1, l2⟩, _⟩ := ih1 (by (try simp only [T.cost]); (try simp only [T.cost] at hc); omega)
    obtain ⟨h2, h4⟩ := ih2 (by omega)
    exact ⟨⟨stmt_switchN _ _ _ _ _ _ _ _ _ _ _ _ _ h2 h.2 h.1 h4 h1, _, _, _, _, _, _, _, _, _, _, _, _, _, _, rfl, l1, l2, trivial, trivial, h2⟩, by simp [T.cost, T.len] <;> omega⟩
  | select cases hf hcs h ih =>
    intro hc
    simp only [T.cost] at hc
    obtain ⟨h2, h4⟩ := ih (by omega)
    exact ⟨⟨stmt_selectN _ _ _ _ _ _ _ _ _ _ _ _ _ h2 h.2 h.1 h4, _, _, _, _, _, _, _, _, _, _, _, _, _, _, rfl, trivial, trivial, trivial, trivial, h2⟩, by simp [T.cost, T.len] <;> omega⟩
  | branch op h => intro _; exact ⟨⟨stmt_branchN _ _ _ _ _ _ _ _ _ _ _ _ _ rfl, _, _, _, _, _, _, _, _, _, _, _, _, _, _, rfl, trivial, trivial, trivial, trivial, trivial⟩, by simp only [T.cost]; omega⟩
  | branchTo op k h hk => intro _; exact ⟨⟨stmt_gotoN _ _ _ _ _ _ _ _ _ _ _ _ _ k hk rfl, _, _, _, _, _, _, _, _, _, _, _, _, _, _, rfl, trivial, trivial, trivial, trivial, trivial⟩, by simp only [T.cost]; omega⟩
  | ret a ha ih =>
    intro hc
    simp only [T.cost] at hc
    obtain ⟨⟨h1, k1, n1, o1, kd1, b1, rfl, l1, l2⟩, _⟩ := ih (by (try simp only [T.cost]); (try simp only [T.cost] at hc); omega)
    exact ⟨⟨stmt_retN _ _ _ _ _ _ _ _ _ _ _ _ _ h1, _, _, _, _, _, _, _, _, _, _, _, _, _, _, rfl, l1, l2, trivial, trivial, trivial⟩, by simp [T.cost, T.len] <;> omega⟩
  | block body hb ih =>
    intro hc
    simp only [T.cost] at hc
    obtain ⟨h2, h3, h4⟩ := ih (by omega)
    exact ⟨⟨stmt_blockN _ _ _ _ _ _ _ _ _ _ _ _ _ h2 (by omega) h4, _, _, _, _, _, _, _, _, _, _, _, _, _, _, rfl, trivial, trivial, h2, trivial, trivial⟩, by simp [T.cost, T.len] <;> omega⟩
  | labelled k kind a body hk h ha hb ih1 ih2 =>
    intro hc
    simp only [T.cost] at hc
    obtain ⟨⟨h1, k1, n1, o1, kd1, b1, rfl, l1, l2⟩, _⟩ := ih1 (by (try simp only [T.cost]); (try simp only [T.cost] at hc); omega)
    obtain ⟨h2, h3, h4⟩ := ih2 (by omega)
    refine ⟨⟨stmt_labelN _ _ _ _ _ _ _ _ _ _ _ _ _ k hk rfl ⟨?_, _, _, _, _, _, _, _, _, _, _, _, _, _, _, rfl, l1, l2, h2, trivial, trivial⟩, _, _, _, _, _, _, _, _, _, _, _, _, _, _, rfl, trivial, trivial, trivial, trivial, trivial⟩, by simp [T.cost, T.len] <;> omega⟩
    rcases h with rfl | rfl
    · exact stmt_forN _ _ _ _ _ _ _ _ _ _ _ _ _ h1 h2 (by omega) h4
    · exact stmt_rangeN _ _ _ _ _ _ _ _ _ _ _ _ _ h1 h2 (by omega) h4

/-- A function with a body that the maker made, as syntax. -/
theorem func_any {fl : Bool} (f : Str) (body : T) (hW : W fl .Ss body) (hc : body.cost ≤ 100000) (w : World) (D : Nat → Prop) (a4 : Option Addr) (n4 c4 : Nat) (h4 : Rep w D body.g [.slice a4 n4 c4]) :
    Calls Tryz.prog 9 #[.string f, .slice a4 n4 c4] w (NodeP w (N.func f (body.N 0))) := by
  obtain ⟨h1, h2, h3⟩ := good_S hW hc
  exact func_N f body h1 (by omega) h3 w D a4 n4 c4 h4
end Go.Proofs.YtleolbpibjnedaaGreat
/- spec.Cyclomatic. -/
namespace Gc
open Go

def T.cyk : T → Nat → Nat
  | .cons h t, k + 1 => h.cyc + t.cyk k
  | _, _ => 0
theorem T.cyk_zero (t : T) : t.cyk 0 = 0 := by cases t <;> rfl
theorem T.cyk_succ : ∀ (t : T) (k : Nat), k < t.len → t.cyk (k + 1) = t.cyk k + (t.get k).cyc
  | .cons h t, 0, _ => by simp only [T.cyk, T.cyk_zero, T.get]; omega
  | .cons h t, k + 1, hk => by
    have := T.cyk_succ t k (by simp only [T.len] at hk; omega)
    simp only [T.cyk, T.get] at this ⊢
    omega
  | .nil, _, h | .x .., _, h | .s .., _, h => by simp [T.len] at h
theorem T.cyk_all : ∀ (t : T), t.isList → t.cyk t.len = t.cyc
  | .cons h t, hl => by
    simp only [T.len, T.cyk, T.cyc]
    rw [T.cyk_all t hl]
  | .nil, _ => rfl
  | .x .., h => h.elim
  | .s .., h => h.elim
theorem T.cyk_le : ∀ (t : T) (k : Nat), k ≤ t.len → t.cyk k ≤ t.cyc
  | .cons h t, 0, _ => Nat.zero_le _
  | .cons h t, k + 1, hk => by
    have := T.cyk_le t k (by simp only [T.len] at hk; omega)
    simp only [T.cyk, T.cyc]
    omega
  | .nil, k, _ => by simp [T.cyk]
  | .x .., k, h | .s .., k, h => by
    simp only [T.len] at h
    obtain rfl : k = 0 := by omega
    exact Nat.zero_le _
theorem T.cyc_cost : ∀ (t : T), t.cyc ≤ t.cost
  | .nil => Nat.le_refl _
  | .cons h t => by
    have := T.cyc_cost h
    have := T.cyc_cost t
    simp only [T.cyc, T.cost]
    omega
  | .x kind n op kids body => by
    have := T.cyc_cost kids
    have := T.cyc_cost body
    simp only [T.cyc, T.cost]
    split <;> split <;> (try split) <;> omega
  | .s kind n op lab ex body els has chain cases => by
    have := T.cyc_cost ex
    have := T.cyc_cost body
    have := T.cyc_cost els
    have := T.cyc_cost cases
    simp only [T.cyc, T.cost]
    split <;> omega
end Gc

namespace Go.Proofs.YtleolbpibjnedaaGreat
open Go Go.RowKit Gc

/-- A function of spec's that answers a number and leaves what was there. -/
def NumP (w : World) (n : Nat) (e : Ending) (w' : World) : Prop := e = .returned (.int .i64 n) ∧ Kept (fun _ => False) w w'

def WaysOk (t : T) : Prop := ∀ (w : World) (D : Nat → Prop) (a : Option Addr) (n c : Nat), Rep w D t.g [.slice a n c] → Calls Tryz.prog 26 #[.slice a n c] w (NumP w t.cyc)
def BranchOk (t : T) : Prop := ∀ (w : World) (D : Nat → Prop) (v0 v1 v2 v3 v4 : Value), Rep w D t.g [v0, v1, v2, v3, v4] → Calls Tryz.prog 39 #[.agg #[v0, v1, v2, v3, v4]] w (NumP w t.cyc)

theorem logic_any (s : Str) (w : World) : Calls Tryz.prog 60 #[.string s] w (fun e w' => e = .returned (.bool (logic s)) ∧ w = w') := by
  go_enter Tryz.func60, Tryz.ntmps60
  go_wp2_with fail
  · have h : ByteArray.toList s = [38, 38] := by assumption
    go_ret
    refine ⟨?_, rfl⟩
    have e : logic s = true := by unfold logic; rw [h]; rfl
    rw [e]
    rfl
  · go_ret
    exact ⟨rfl, rfl⟩
end Go.Proofs.YtleolbpibjnedaaGreat
/- impl.Cyclomatic. -/
namespace Gc
open Go

theorem walk_cyc : ∀ (a : A) (s : Nat), a.walk Go.Proofs.YtleolbpibjnedaaGreat.cstep s = s + a.N.cyc
  | .nil, s => rfl
  | .cons h t, s => by
    simp only [A.walk, A.N, N.cyc]
    rw [walk_cyc h, walk_cyc t]
    omega
  | .n k text num o b f0 f1 f2 f3, s => by
    have h0 := walk_cyc f0
    have h1 := walk_cyc f1
    have h2 := walk_cyc f2
    have h3 := walk_cyc f3
    rw [show (A.n k text num o b f0 f1 f2 f3).N.cyc = wK k text + _ from cyc_str k text num _]
    cases k <;> simp only [A.walk, K.arity, Go.Proofs.YtleolbpibjnedaaGreat.cstep, wK, h0, h1, h2, h3, N.one, N.two, N.three, N.four, N.cyc] <;> omega
end Gc

namespace Go.Proofs.YtleolbpibjnedaaGreat
open Go Go.RowKit Gc

set_option maxRecDepth 100000 in
theorem complexity_any {x : A} {called : Str} {l : N} (hV : Gc.V .Ss l) (hc : l.cost ≤ 100000) (hx : x.N = Gc.N.func called l) (hb : (Gc.N.func called l).cyc ≤ 100000) (w : World) (D : Nat → Prop) (b : Nat) (hR : Rep w D (x.g 1 .fin) [.iface 54 (.pointer (some ⟨b, 0, none⟩))]) :
    Calls Tryz.prog 38 #[.pointer (some ⟨b, 0, none⟩)] w (NumP w (Gc.N.func called l).cyc) := by
  have HW := Lib.hid (W_func (cyc_vis w.heap.size) hV hc hx).2.2
  have HR := Lib.hid hR
  have Hx := Lib.hid hx
  have kA : Kept (fun _ => False) w (w.alloc (.cells #[.int .i64 0] 160)) := keptA
  have HI : RowKit.Hid (CInv w.heap.size 0 (w.alloc (.cells #[.int .i64 0] 160))) := Lib.hid (by
    have e : RowKit.wrap64 ((0 : Nat) : Int) = 0 := by unfold RowKit.wrap64; omega
    unfold CInv
    rw [e]
    exact heap_alloc_new w _)
  clear hR hx hV
  go_enter Tryz.func38, Tryz.ntmps38
  go_wp2_with fail
  refine (HW.out _ (fun b => b < w.heap.size) _ 0 ((HR.out.imp fun b hb _ => hb).kept kA (fun _ _ f => f)) (fun b hb => by omega) HI.out).mono ?_
  rintro e w1 ⟨rfl, I, K⟩
  have hI : w1.heap[w.heap.size]? = some (.cells #[.int .i64 ((Gc.N.func called l).cyc : Int)] 160 (0, 0)) := by
    have e : x.walk cstep 0 = (Gc.N.func called l).cyc := by rw [walk_cyc, Hx.out]; omega
    have h2 : RowKit.wrap64 ((x.walk cstep 0 : Nat) : Int) = ((Gc.N.func called l).cyc : Int) := by rw [e]; unfold RowKit.wrap64; omega
    rw [← h2]
    exact I
  have p0 := cell_of_cells (cs := [_]) hI 0 rfl
  have z0 : w.heap.size < w1.heap.size := lt_of_heap hI
  clear I hI
  go_wp2_with fail
  go_ret
  exact ⟨rfl, ((kA.mono (M' := fun b => False ∨ w.heap.size ≤ b) fun _ _ f => f.elim).trans (K.mono fun b _ h => .inr (by omega))).fresh (Nat.le_refl _)⟩

theorem zz_cyc {x : A} {called : Str} {l : N} (hV : Gc.V .Ss l) (hc : l.cost ≤ 100000) (hx : x.N = Gc.N.func called l) (hb : (Gc.N.func called l).cyc ≤ 100000) (w : World) (D : Nat → Prop) (b : Nat) (hR : Rep w D (x.g 1 .fin) [.iface 54 (.pointer (some ⟨b, 0, none⟩))]) :
    Calls Tryz.prog 25 #[.pointer (some ⟨b, 0, none⟩)] w (NumP w (Gc.N.func called l).cyc) := by
  have H := Lib.hid (complexity_any hV hc hx hb w D b hR)
  clear hR hx hV
  go_enter Tryz.func25, Tryz.ntmps25
  go_wp2_with fail
  refine H.out.mono ?_
  rintro e w1 ⟨rfl, K⟩
  go_wp2_with fail
  go_ret
  exact ⟨rfl, K⟩

set_option maxRecDepth 100000 in
theorem impl_cyc (called : Str) (l : N) (hV : Gc.V .Ss l) (hc : l.cost ≤ 1900) (hd : l.deep ≤ 50) (hb : (Gc.N.func called l).cyc ≤ 100000) (w : World) (D : Nat → Prop) (kd tx : Str) (i : Int) (a : Option Addr) (c c' : Nat) (hR : Rep w D (Gc.N.func called l).g [.string kd, .string tx, .int .i64 i, .slice a c c']) :
    Calls Tryz.prog 11 #[.agg #[.string kd, .string tx, .int .i64 i, .slice a c c']] w (fun e w' => e = .returned (.tuple #[.int .i64 ((Gc.N.func called l).cyc : Int), .bool true]) ∧ Kept (fun _ => False) w w') := by
  have kA : Kept (fun _ => False) w (w.alloc (.cells #[.string kd, .string tx, .int .i64 i, .slice a c c'] 30)) := keptA
  have HF := Lib.hid (function_any called l hV hc hd _ D kd tx i a c c' (hR.kept kA (fun _ _ f => f)))
  have HV := Lib.hid hV
  clear hR hV
  go_enter Tryz.func11, Tryz.ntmps11
  go_wp2_with fail
  refine HF.out.mono ?_
  rintro e w1 ⟨x, b, mp, f, rfl, hx, R, L, O, K⟩
  have HZ := Lib.hid (zz_cyc HV.out (by omega) hx hb w1 _ b R)
  clear hx R O
  go_wp2_with fail
  refine HZ.out.mono ?_
  rintro e w2 ⟨rfl, K2⟩
  go_wp2_with fail
  go_ret2
  exact ⟨rfl, (kA.trans K).trans K2⟩
end Go.Proofs.YtleolbpibjnedaaGreat
/- spec.branches. -/
namespace Go.Proofs.YtleolbpibjnedaaGreat
open Go Go.RowKit Gc

set_option maxRecDepth 100000 in
set_option maxHeartbeats 1000000 in
theorem branch_no (kind n : Nat) (op : Str) (kids body : T) (hk : kind ≠ 2) (hl : kids.isList) (hall : kids.All ExprX) (hBr : kids.All BranchOk) (bl : body.isList) (hw : WaysOk body) (hmax : kids.len ≤ 100000) (hb : (T.x kind n op kids body).cyc ≤ 100000) : BranchOk (.x kind n op kids body) := by
  intro w D v0 v1 v2 v3 v4 hr
  have hcyc : (T.x kind n op kids body).cyc = body.cyc + kids.cyc := by simp only [T.cyc]; simp [hk]
  rw [hcyc] at hb ⊢
  obtain ⟨rfl, rfl, rfl, h3, h4⟩ := x_inv hr
  obtain ⟨a3, n3, c3, rfl, hlen⟩ := list_val (T.g_isList _ hl) h3
  obtain ⟨a4, n4, c4, rfl, -⟩ := list_val (T.g_isList _ bl) h4
  rw [T.g_len] at hlen
  have hn3 : n3 ≤ 100000 := by omega
  have Hlen := Lib.hid hlen
  have H3 := Lib.hid h3
  have H4 := Lib.hid h4
  have Hall := Lib.hid hall
  have HBr := Lib.hid hBr
  have HW := Lib.hid hw
  have Hcyc := Lib.hid hcyc
  have hkb : ((kind : Int) == 2) = false := by simp; omega
  clear hr h3 h4 hall hBr hw hlen hcyc
  have kA : Kept (fun _ => False) w (w.alloc (.cells #[.int .i64 kind, .int .i64 n, .string op, .slice a3 n3 c3, .slice a4 n4 c4] 64)) := keptA
  go_enter Tryz.func39, Tryz.ntmps39
  go_wp2_with fail
  refine (HW.out _ D a4 n4 c4 (H4.out.kept kA (fun _ _ f => f))).mono ?_
  rintro e w1 ⟨rfl, k1⟩
  have ox := k1.obj (heap_alloc_new w (.cells #[.int .i64 kind, .int .i64 n, .string op, .slice a3 n3 c3, .slice a4 n4 c4] 64)) (fun f => f)
  obtain ⟨x0, x1, x2, x3, x4, -⟩ := slot5 ox
  have z1 : w.heap.size < w1.heap.size := lt_of_heap ox
  have K1 := kA.trans k1
  have cb : body.cyc ≤ 100000 := by omega
  go_wp2_with fail
  obtain ⟨s0, hs0⟩ : ∃ s0 : Nat, s0 = body.cyc := ⟨_, rfl⟩
  rw [← hs0] at hb ⊢
  have Hs0 := Lib.hid hs0
  clear hs0
  have ck := T.cyk_le kids
  have Hck := Lib.hid ck
  clear ck
  go_loopw [3, 22] (fun v t wr => ∃ k : Nat, v = .int .i64 ((s0 + kids.cyk k : Nat) : Int) ∧ t = .int .i64 k ∧ k ≤ n3 ∧ Kept (fun _ => False) w1 wr) (fun _ t _ => (n3 - intOf t).toNat)
  case atStart => exact ⟨0, by rw [T.cyk_zero, Hs0.out]; first | rfl | go_num, rfl, by omega, Kept.refl _ _⟩
  case round =>
    obtain ⟨k, rfl, rfl, hk3, K⟩ := hrel
    have ox' := K.obj ox (fun f => f)
    have zr : w.heap.size < wr.heap.size := lt_of_heap ox'
    by_cases hlt : (k : Int) < n3
    · have hkl : k < kids.len := by have := Hlen.out; omega
      obtain ⟨g, o, rfl⟩ := slice_some (T.g_isList _ hl) H3.out (by omega)
      obtain ⟨kd5, nn5, op5, a5, n5, c5, a6, n6, c6, hx, hE, hg, p0, p1, p2, p3, p4⟩ := x_at (k := k) H3.out hl Hall.out hkl
      have KK := K1.trans K
      have P0 := KK.cell p0 (fun f => f)
      have P1 := KK.cell p1 (fun f => f)
      have P2 := KK.cell p2 (fun f => f)
      have P3 := KK.cell p3 (fun f => f)
      have P4 := KK.cell p4 (fun f => f)
      have zg : g < wr.heap.size := Nat.lt_of_lt_of_le hg KK.size
      have hX := Lib.hid hx
      have HB := Lib.hid (HBr.out.get hkl)
      have hle := Hck.out (k + 1) (by omega)
      have hsu := T.cyk_succ kids k hkl
      have Hsu := Lib.hid hsu
      have hbb : s0 + kids.cyk k + (kids.get k).cyc ≤ 100000 := by omega
      clear hx hE hsu hle
      go_wp2_with fail
      refine (HB.out _ D _ _ _ _ _ ((hX.out.kept KK (fun _ _ f => f)).kept (keptA (M := fun _ => False)) (fun _ _ f => f))).mono ?_
      rintro e w2 ⟨rfl, k2⟩
      have K2 : Kept (fun _ => False) w1 w2 := K.trans (keptA.trans k2)
      go_wp2_with fail
      go_roundw
      · exact ⟨k + 1, by rw [Hsu.out]; go_num, by go_num, by omega, K2⟩
      · simp [intOf]; omega
    · go_wp2_with fail
      go_ret
      refine ⟨?_, K1.trans K⟩
      obtain rfl : k = kids.len := by have := Hlen.out; omega
      rw [T.cyk_all _ hl]
      first | rfl | (rw [← Hs0.out]; rfl)

set_option maxRecDepth 100000 in
set_option maxHeartbeats 1000000 in
theorem branch_and (kind n : Nat) (op : Str) (kids body : T) (hk : kind = 2) (hlg : logic op = true) (hl : kids.isList) (hall : kids.All ExprX) (hBr : kids.All BranchOk) (bl : body.isList) (hw : WaysOk body) (hmax : kids.len ≤ 100000) (hb : (T.x kind n op kids body).cyc ≤ 100000) : BranchOk (.x kind n op kids body) := by
  intro w D v0 v1 v2 v3 v4 hr
  have hcyc : (T.x kind n op kids body).cyc = (body.cyc + 1) + kids.cyc := by simp only [T.cyc]; simp [hk, hlg]
  rw [hcyc] at hb ⊢
  obtain ⟨rfl, rfl, rfl, h3, h4⟩ := x_inv hr
  obtain ⟨a3, n3, c3, rfl, hlen⟩ := list_val (T.g_isList _ hl) h3
  obtain ⟨a4, n4, c4, rfl, -⟩ := list_val (T.g_isList _ bl) h4
  rw [T.g_len] at hlen
  have hn3 : n3 ≤ 100000 := by omega
  have Hlen := Lib.hid hlen
  have H3 := Lib.hid h3
  have H4 := Lib.hid h4
  have Hall := Lib.hid hall
  have HBr := Lib.hid hBr
  have HW := Lib.hid hw
  have Hcyc := Lib.hid hcyc
  subst hk
  have hlg' := hlg
  clear hr h3 h4 hall hBr hw hlen hcyc
  have kA : Kept (fun _ => False) w (w.alloc (.cells #[.int .i64 2, .int .i64 n, .string op, .slice a3 n3 c3, .slice a4 n4 c4] 64)) := keptA
  show Calls Tryz.prog 39 #[.agg #[.int .i64 2, .int .i64 n, .string op, .slice a3 n3 c3, .slice a4 n4 c4]] w _
  go_enter Tryz.func39, Tryz.ntmps39
  go_wp2_with fail
  refine (HW.out _ D a4 n4 c4 (H4.out.kept kA (fun _ _ f => f))).mono ?_
  rintro e w1 ⟨rfl, k1⟩
  have ox := k1.obj (heap_alloc_new w (.cells #[.int .i64 2, .int .i64 n, .string op, .slice a3 n3 c3, .slice a4 n4 c4] 64)) (fun f => f)
  obtain ⟨x0, x1, x2, x3, x4, -⟩ := slot5 ox
  have z1 : w.heap.size < w1.heap.size := lt_of_heap ox
  have K1 := kA.trans k1
  have cb : body.cyc ≤ 100000 := by omega
  go_wp2_with fail
  refine (logic_any op _).mono ?_
  rintro e w1' ⟨rfl, rfl⟩
  go_wp2_with fail
  obtain ⟨s0, hs0⟩ : ∃ s0 : Nat, s0 = (body.cyc + 1) := ⟨_, rfl⟩
  rw [← hs0] at hb ⊢
  have Hs0 := Lib.hid hs0
  clear hs0
  have ck := T.cyk_le kids
  have Hck := Lib.hid ck
  clear ck
  go_loopw [3, 22] (fun v t wr => ∃ k : Nat, v = .int .i64 ((s0 + kids.cyk k : Nat) : Int) ∧ t = .int .i64 k ∧ k ≤ n3 ∧ Kept (fun _ => False) w1 wr) (fun _ t _ => (n3 - intOf t).toNat)
  case atStart => exact ⟨0, by rw [T.cyk_zero, Hs0.out]; first | rfl | go_num, rfl, by omega, Kept.refl _ _⟩
  case round =>
    obtain ⟨k, rfl, rfl, hk3, K⟩ := hrel
    have ox' := K.obj ox (fun f => f)
    have zr : w.heap.size < wr.heap.size := lt_of_heap ox'
    by_cases hlt : (k : Int) < n3
    · have hkl : k < kids.len := by have := Hlen.out; omega
      obtain ⟨g, o, rfl⟩ := slice_some (T.g_isList _ hl) H3.out (by omega)
      obtain ⟨kd5, nn5, op5, a5, n5, c5, a6, n6, c6, hx, hE, hg, p0, p1, p2, p3, p4⟩ := x_at (k := k) H3.out hl Hall.out hkl
      have KK := K1.trans K
      have P0 := KK.cell p0 (fun f => f)
      have P1 := KK.cell p1 (fun f => f)
      have P2 := KK.cell p2 (fun f => f)
      have P3 := KK.cell p3 (fun f => f)
      have P4 := KK.cell p4 (fun f => f)
      have zg : g < wr.heap.size := Nat.lt_of_lt_of_le hg KK.size
      have hX := Lib.hid hx
      have HB := Lib.hid (HBr.out.get hkl)
      have hle := Hck.out (k + 1) (by omega)
      have hsu := T.cyk_succ kids k hkl
      have Hsu := Lib.hid hsu
      have hbb : s0 + kids.cyk k + (kids.get k).cyc ≤ 100000 := by omega
      clear hx hE hsu hle
      go_wp2_with fail
      refine (HB.out _ D _ _ _ _ _ ((hX.out.kept KK (fun _ _ f => f)).kept (keptA (M := fun _ => False)) (fun _ _ f => f))).mono ?_
      rintro e w2 ⟨rfl, k2⟩
      have K2 : Kept (fun _ => False) w1 w2 := K.trans (keptA.trans k2)
      go_wp2_with fail
      go_roundw
      · exact ⟨k + 1, by rw [Hsu.out]; go_num, by go_num, by omega, K2⟩
      · simp [intOf]; omega
    · go_wp2_with fail
      go_ret
      refine ⟨?_, K1.trans K⟩
      obtain rfl : k = kids.len := by have := Hlen.out; omega
      rw [T.cyk_all _ hl]
      first | rfl | (rw [← Hs0.out]; rfl)

set_option maxRecDepth 100000 in
set_option maxHeartbeats 1000000 in
theorem branch_oth (kind n : Nat) (op : Str) (kids body : T) (hk : kind = 2) (hlg : logic op = false) (hl : kids.isList) (hall : kids.All ExprX) (hBr : kids.All BranchOk) (bl : body.isList) (hw : WaysOk body) (hmax : kids.len ≤ 100000) (hb : (T.x kind n op kids body).cyc ≤ 100000) : BranchOk (.x kind n op kids body) := by
  intro w D v0 v1 v2 v3 v4 hr
  have hcyc : (T.x kind n op kids body).cyc = body.cyc + kids.cyc := by simp only [T.cyc]; simp [hk, hlg]
  rw [hcyc] at hb ⊢
  obtain ⟨rfl, rfl, rfl, h3, h4⟩ := x_inv hr
  obtain ⟨a3, n3, c3, rfl, hlen⟩ := list_val (T.g_isList _ hl) h3
  obtain ⟨a4, n4, c4, rfl, -⟩ := list_val (T.g_isList _ bl) h4
  rw [T.g_len] at hlen
  have hn3 : n3 ≤ 100000 := by omega
  have Hlen := Lib.hid hlen
  have H3 := Lib.hid h3
  have H4 := Lib.hid h4
  have Hall := Lib.hid hall
  have HBr := Lib.hid hBr
  have HW := Lib.hid hw
  have Hcyc := Lib.hid hcyc
  subst hk
  have hlg' := hlg
  clear hr h3 h4 hall hBr hw hlen hcyc
  have kA : Kept (fun _ => False) w (w.alloc (.cells #[.int .i64 2, .int .i64 n, .string op, .slice a3 n3 c3, .slice a4 n4 c4] 64)) := keptA
  show Calls Tryz.prog 39 #[.agg #[.int .i64 2, .int .i64 n, .string op, .slice a3 n3 c3, .slice a4 n4 c4]] w _
  go_enter Tryz.func39, Tryz.ntmps39
  go_wp2_with fail
  refine (HW.out _ D a4 n4 c4 (H4.out.kept kA (fun _ _ f => f))).mono ?_
  rintro e w1 ⟨rfl, k1⟩
  have ox := k1.obj (heap_alloc_new w (.cells #[.int .i64 2, .int .i64 n, .string op, .slice a3 n3 c3, .slice a4 n4 c4] 64)) (fun f => f)
  obtain ⟨x0, x1, x2, x3, x4, -⟩ := slot5 ox
  have z1 : w.heap.size < w1.heap.size := lt_of_heap ox
  have K1 := kA.trans k1
  have cb : body.cyc ≤ 100000 := by omega
  go_wp2_with fail
  refine (logic_any op _).mono ?_
  rintro e w1' ⟨rfl, rfl⟩
  go_wp2_with fail
  obtain ⟨s0, hs0⟩ : ∃ s0 : Nat, s0 = body.cyc := ⟨_, rfl⟩
  rw [← hs0] at hb ⊢
  have Hs0 := Lib.hid hs0
  clear hs0
  have ck := T.cyk_le kids
  have Hck := Lib.hid ck
  clear ck
  go_loopw [3, 22] (fun v t wr => ∃ k : Nat, v = .int .i64 ((s0 + kids.cyk k : Nat) : Int) ∧ t = .int .i64 k ∧ k ≤ n3 ∧ Kept (fun _ => False) w1 wr) (fun _ t _ => (n3 - intOf t).toNat)
  case atStart => exact ⟨0, by rw [T.cyk_zero, Hs0.out]; first | rfl | go_num, rfl, by omega, Kept.refl _ _⟩
  case round =>
    obtain ⟨k, rfl, rfl, hk3, K⟩ := hrel
    have ox' := K.obj ox (fun f => f)
    have zr : w.heap.size < wr.heap.size := lt_of_heap ox'
    by_cases hlt : (k : Int) < n3
    · have hkl : k < kids.len := by have := Hlen.out; omega
      obtain ⟨g, o, rfl⟩ := slice_some (T.g_isList _ hl) H3.out (by omega)
      obtain ⟨kd5, nn5, op5, a5, n5, c5, a6, n6, c6, hx, hE, hg, p0, p1, p2, p3, p4⟩ := x_at (k := k) H3.out hl Hall.out hkl
      have KK := K1.trans K
      have P0 := KK.cell p0 (fun f => f)
      have P1 := KK.cell p1 (fun f => f)
      have P2 := KK.cell p2 (fun f => f)
      have P3 := KK.cell p3 (fun f => f)
      have P4 := KK.cell p4 (fun f => f)
      have zg : g < wr.heap.size := Nat.lt_of_lt_of_le hg KK.size
      have hX := Lib.hid hx
      have HB := Lib.hid (HBr.out.get hkl)
      have hle := Hck.out (k + 1) (by omega)
      have hsu := T.cyk_succ kids k hkl
      have Hsu := Lib.hid hsu
      have hbb : s0 + kids.cyk k + (kids.get k).cyc ≤ 100000 := by omega
      clear hx hE hsu hle
      go_wp2_with fail
      refine (HB.out _ D _ _ _ _ _ ((hX.out.kept KK (fun _ _ f => f)).kept (keptA (M := fun _ => False)) (fun _ _ f => f))).mono ?_
      rintro e w2 ⟨rfl, k2⟩
      have K2 : Kept (fun _ => False) w1 w2 := K.trans (keptA.trans k2)
      go_wp2_with fail
      go_roundw
      · exact ⟨k + 1, by rw [Hsu.out]; go_num, by go_num, by omega, K2⟩
      · simp [intOf]; omega
    · go_wp2_with fail
      go_ret
      refine ⟨?_, K1.trans K⟩
      obtain rfl : k = kids.len := by have := Hlen.out; omega
      rw [T.cyk_all _ hl]
      first | rfl | (rw [← Hs0.out]; rfl)

theorem branch_any (kind n : Nat) (op : Str) (kids body : T) (hl : kids.isList) (hall : kids.All ExprX) (hBr : kids.All BranchOk) (bl : body.isList) (hw : WaysOk body) (hmax : kids.len ≤ 100000) (hb : (T.x kind n op kids body).cyc ≤ 100000) : BranchOk (.x kind n op kids body) := by
  by_cases hk : kind = 2
  · cases hlg : logic op
    · exact branch_oth kind n op kids body hk hlg hl hall hBr bl hw hmax hb
    · exact branch_and kind n op kids body hk hlg hl hall hBr bl hw hmax hb
  · exact branch_no kind n op kids body hk hl hall hBr bl hw hmax hb
end Go.Proofs.YtleolbpibjnedaaGreat
/- spec.ways. -/
namespace Go.Proofs.YtleolbpibjnedaaGreat
open Go Go.RowKit Gc

def CaseOk (c : T) : Prop := c.isList ∧ WaysOk c
def StOk : T → Prop
  | .s _ _ _ _ ex body els _ _ cases => BranchOk ex ∧ WaysOk body ∧ WaysOk els ∧ cases.isList ∧ cases.All CaseX ∧ cases.All CaseOk
  | _ => False

def wt (kd : Nat) : Nat := if kd = 3 ∨ kd = 4 ∨ kd = 5 then 1 else 0

set_option maxRecDepth 100000 in
set_option maxHeartbeats 2000000 in
theorem ways_N (l : T) (hl : l.isList) (hX : l.All StmtX) (hS : l.All StOk) (hmax : l.len ≤ 100000) (hb : l.cyc ≤ 100000) : WaysOk l := by
  intro w D a n c hr
  have hlen := Rep.len_eq (T.g_isList _ hl) hr
  rw [T.g_len] at hlen
  have hn : n ≤ 100000 := by omega
  have Hlen := Lib.hid hlen
  have HR := Lib.hid hr
  have HX := Lib.hid hX
  have HS := Lib.hid hS
  have Hck := Lib.hid (T.cyk_le l)
  clear hr hX hS hlen
  go_enter Tryz.func26, Tryz.ntmps26
  go_wp2_with fail
  go_loopw [3, 10] (fun v t wr => ∃ k : Nat, v = .int .i64 ((l.cyk k : Nat) : Int) ∧ t = .int .i64 k ∧ k ≤ n ∧ Kept (fun _ => False) w wr) (fun _ t _ => (n - intOf t).toNat)
  case atStart => exact ⟨0, by rw [T.cyk_zero]; rfl, rfl, by omega, Kept.refl _ _⟩
  case round =>
    obtain ⟨k, rfl, rfl, hk, K⟩ := hrel
    by_cases hlt : (k : Int) < n
    · have hkl : k < l.len := by have := Hlen.out; omega
      obtain ⟨g, o, rfl⟩ := slice_some (T.g_isList _ hl) HR.out (by omega)
      obtain ⟨⟨kd, nn, op, lb, xk, xn, xop, a1, n1, c1, a2, n2, c2, a3, n3, c3, a4, n4, c4, has, chain, a5, n5, c5⟩, kids, xb, body, els, cases, he, -, hg, h1, h2, h3, h4, h5, p0, p1, p2, p3, p4, p5, p6, p7, p8, p9, p10, p11, p12, p13⟩ := s_at (k := k) HR.out hl HX.out hkl
      simp only [] at he h1 h2 h3 h4 h5 p0 p1 p2 p3 p4 p5 p6 p7 p8 p9 p10 p11 p12 p13
      have hst := HS.out.get hkl
      have hsu := T.cyk_succ l k hkl
      have hle := Hck.out (k + 1) (by omega)
      rw [he] at hst hsu
      obtain ⟨hB, hW3, hW4, hcl, hcX, hcO⟩ := hst
      have hcy : (T.s kd nn op lb (.x xk xn xop kids xb) body els has chain cases).cyc = (T.x xk xn xop kids xb).cyc + body.cyc + els.cyc + cases.len + wt kd + cases.cyc := rfl
      rw [hcy] at hsu
      have hn5 := Rep.len_eq (T.g_isList _ hcl) h5
      rw [T.g_len] at hn5
      have hXr : Rep w D (T.x xk xn xop kids xb).g [.int .i64 xk, .int .i64 xn, .string xop, .slice a1 n1 c1, .slice a2 n2 c2] := ⟨_, rfl, _, rfl, _, rfl, _, _, rfl, h1, _, _, rfl, h2, rfl⟩
      obtain ⟨E, hE⟩ : ∃ E, E = (T.x xk xn xop kids xb).cyc := ⟨_, rfl⟩
      obtain ⟨B, hBe⟩ : ∃ B, B = body.cyc := ⟨_, rfl⟩
      obtain ⟨L, hLe⟩ : ∃ L, L = els.cyc := ⟨_, rfl⟩
      obtain ⟨S, hSe⟩ : ∃ S, S = l.cyk k := ⟨_, rfl⟩
      have hwt : wt kd ≤ 1 := by unfold wt; split <;> omega
      rw [← hE, ← hBe, ← hLe, ← hn5, ← hSe] at hsu
      have hsum : S + (E + B + L + n5) + wt kd + cases.cyc ≤ 100000 := by omega
      rw [← hSe]
      have HB : RowKit.Hid (∀ (w : World) (D : Nat → Prop) (v0 v1 v2 v3 v4 : Value), Rep w D (T.x xk xn xop kids xb).g [v0, v1, v2, v3, v4] → Calls Tryz.prog 39 #[.agg #[v0, v1, v2, v3, v4]] w (NumP w E)) := Lib.hid (by rw [hE]; exact hB)
      have HW3 : RowKit.Hid (∀ (w : World) (D : Nat → Prop) (a : Option Addr) (n c : Nat), Rep w D body.g [.slice a n c] → Calls Tryz.prog 26 #[.slice a n c] w (NumP w B)) := Lib.hid (by rw [hBe]; exact hW3)
      have HW4 : RowKit.Hid (∀ (w : World) (D : Nat → Prop) (a : Option Addr) (n c : Nat), Rep w D els.g [.slice a n c] → Calls Tryz.prog 26 #[.slice a n c] w (NumP w L)) := Lib.hid (by rw [hLe]; exact hW4)
      have HcX := Lib.hid hcX
      have HcO := Lib.hid hcO
      have Hsu := Lib.hid hsu
      have Hn5 := Lib.hid hn5
      have HXr := Lib.hid (hXr.kept K (fun _ _ f => f))
      have H3 := Lib.hid (h3.kept K (fun _ _ f => f))
      have H4 := Lib.hid (h4.kept K (fun _ _ f => f))
      have H5 := Lib.hid (h5.kept K (fun _ _ f => f))
      have Hcck := Lib.hid (T.cyk_le cases)
      have P0 := K.cell p0 (fun f => f)
      have P1 := K.cell p1 (fun f => f)
      have P2 := K.cell p2 (fun f => f)
      have P3 := K.cell p3 (fun f => f)
      have P4 := K.cell p4 (fun f => f)
      have P5 := K.cell p5 (fun f => f)
      have P6 := K.cell p6 (fun f => f)
      have P7 := K.cell p7 (fun f => f)
      have P8 := K.cell p8 (fun f => f)
      have P9 := K.cell p9 (fun f => f)
      have P10 := K.cell p10 (fun f => f)
      have P11 := K.cell p11 (fun f => f)
      have P12 := K.cell p12 (fun f => f)
      have P13 := K.cell p13 (fun f => f)
      have zg : g < wr.heap.size := Nat.lt_of_lt_of_le hg K.size
      have l5 : n5 ≤ 100000 := by omega
      clear he hle hB hW3 hW4 hcX hcO hcy hXr hE hBe hLe hSe hsu hn5 h1 h2 h3 h4 h5 p0 p1 p2 p3 p4 p5 p6 p7 p8 p9 p10 p11 p12 p13
      obtain ⟨wo, rfl⟩ : ∃ wo : World, wo = wr := ⟨_, rfl⟩
      go_upto_region 5 with fail
      obtain ⟨W1, hW1⟩ : ∃ W1, W1 = wo.alloc (.cells #[.int .i64 kd, .int .i64 nn, .string op, .string lb, .int .i64 xk, .int .i64 xn, .string xop, .slice a1 n1 c1, .slice a2 n2 c2, .slice a3 n3 c3, .slice a4 n4 c4, .bool has, .bool chain, .slice a5 n5 c5] 66) := ⟨_, rfl⟩
      rw [← hW1]
      have KW : Kept (fun _ => False) wo W1 := by rw [hW1]; exact keptA
      have ob : W1.heap[wo.heap.size]? = some (.cells #[.int .i64 kd, .int .i64 nn, .string op, .string lb, .int .i64 xk, .int .i64 xn, .string xop, .slice a1 n1 c1, .slice a2 n2 c2, .slice a3 n3 c3, .slice a4 n4 c4, .bool has, .bool chain, .slice a5 n5 c5] 66 (0, 0)) := hW1 ▸ heap_alloc_new wo _
      obtain ⟨x0, x1, x2, x3, x4, x5, x6, x7, x8, x9, x10, x11, x12, x13, -⟩ := slot14 ob
      have zb : wo.heap.size < W1.heap.size := lt_of_heap ob
      clear hW1
      have rule : ∀ wx : World, Kept (fun _ => False) W1 wx → wx.cell? ⟨wo.heap.size, 4, none⟩ = some (.int .i64 xk) ∧ wx.cell? ⟨wo.heap.size, 5, none⟩ = some (.int .i64 xn) ∧ wx.cell? ⟨wo.heap.size, 6, none⟩ = some (.string xop) ∧ wx.cell? ⟨wo.heap.size, 7, none⟩ = some (.slice a1 n1 c1) ∧ wx.cell? ⟨wo.heap.size, 8, none⟩ = some (.slice a2 n2 c2) ∧ wx.cell? ⟨wo.heap.size, 9, none⟩ = some (.slice a3 n3 c3) ∧ wx.cell? ⟨wo.heap.size, 10, none⟩ = some (.slice a4 n4 c4) ∧ wx.cell? ⟨wo.heap.size, 13, none⟩ = some (.slice a5 n5 c5) := fun wx hk =>
        ⟨hk.cell x4 (fun f => f), hk.cell x5 (fun f => f), hk.cell x6 (fun f => f), hk.cell x7 (fun f => f), hk.cell x8 (fun f => f), hk.cell x9 (fun f => f), hk.cell x10 (fun f => f), hk.cell x13 (fun f => f)⟩
      have s1 : IntKind.i64.wrap ((E : Int) + (B : Int)) = (E : Int) + B := by rw [IntKind.wrap_i64]; omega
      have s2 : IntKind.i64.wrap ((E : Int) + (B : Int) + (L : Int)) = (E : Int) + B + L := by rw [IntKind.wrap_i64]; omega
      have s3 : IntKind.i64.wrap ((E : Int) + (B : Int) + (L : Int) + (n5 : Int)) = (E : Int) + B + L + n5 := by rw [IntKind.wrap_i64]; omega
      have s4 : IntKind.i64.wrap ((S : Int) + ((E : Int) + (B : Int) + (L : Int) + (n5 : Int))) = (S : Int) + ((E : Int) + B + L + n5) := by rw [IntKind.wrap_i64]; omega
      have kk : Kept (fun _ => False) W1 W1.drew := keptD
      go_region_held3 (fun wx => Kept (fun _ => False) W1 wx) (first | assumption | exact keptD | exact Kept.trans (by assumption) keptA | exact Kept.trans (by assumption) keptD) (first
        | (have _h := t2; go_at_call 26; go_must (refine (HW4.out _ D _ _ _ ((H4.out.kept KW (fun _ _ f => f)).kept kk (fun _ _ f => f))).mono ?_); rintro e w4 ⟨rfl, hk4⟩; have kk := kk.trans hk4; have hS : Kept (fun _ => False) W1 w4 := kk)
        | (have _h := t1; go_at_call 26; go_must (refine (HW3.out _ D _ _ _ ((H3.out.kept KW (fun _ _ f => f)).kept kk (fun _ _ f => f))).mono ?_); rintro e w3 ⟨rfl, hk3⟩; have kk := kk.trans hk3; have hS : Kept (fun _ => False) W1 w3 := kk; have t2 : True := trivial)
        | (go_at_call 39; go_must (refine (HB.out _ D _ _ _ _ _ ((HXr.out.kept KW (fun _ _ f => f)).kept kk (fun _ _ f => f))).mono ?_); rintro e w2 ⟨rfl, hk2⟩; have kk := kk.trans hk2; have hS : Kept (fun _ => False) W1 w2 := kk; have t1 : True := trivial))
      clear s1 s2 s3 s4 rule
      have kk4 : Kept (fun _ => False) W1 w4 := kk
      have X0 := kk4.cell x0 (fun f => f)
      have X13 := kk4.cell x13 (fun f => f)
      have zb4 : wo.heap.size < w4.heap.size := Nat.lt_of_lt_of_le zb kk4.size
      have K4 : Kept (fun _ => False) wo w4 := KW.trans kk4
      obtain ⟨wt0, hwt0⟩ : ∃ wt0, wt0 = wt kd := ⟨_, rfl⟩
      have hcase : (((kd : Int) == 3) = true ∧ wt kd = 1) ∨ (((kd : Int) == 3) = false ∧ ((kd : Int) == 4) = true ∧ wt kd = 1) ∨ (((kd : Int) == 3) = false ∧ ((kd : Int) == 4) = false ∧ ((kd : Int) == 5) = true ∧ wt kd = 1) ∨ (((kd : Int) == 3) = false ∧ ((kd : Int) == 4) = false ∧ ((kd : Int) == 5) = false ∧ wt kd = 0) := by
        unfold wt
        by_cases e3 : kd = 3
        · left; simp [e3]
        · by_cases e4 : kd = 4
          · right; left; simp [e4]
          · by_cases e5 : kd = 5
            · right; right; left; simp [e5]
            · right; right; right
              simp [e3, e4, e5]
              omega
      obtain ⟨P, hP⟩ : ∃ P, P = S + (E + B + L + n5) + wt kd := ⟨_, rfl⟩
      have HP := Lib.hid hP
      have hPb : P + cases.cyc ≤ 100000 := by omega
      clear hP
      rcases hcase with ⟨q3, q0⟩ | ⟨q3, q4, q0⟩ | ⟨q3, q4, q5, q0⟩ | ⟨q3, q4, q5, q0⟩
      · have Hq := Lib.hid q0
        clear q0
        go_wp2_with fail
        go_loopw [3, 49] (fun v t wr => ∃ j : Nat, v = .int .i64 ((P + cases.cyk j : Nat) : Int) ∧ t = .int .i64 j ∧ j ≤ n5 ∧ Kept (fun _ => False) w4 wr) (fun _ t _ => (n5 - intOf t).toNat)
        case atStart => exact ⟨0, by rw [T.cyk_zero, HP.out, Hq.out]; go_num, rfl, by omega, Kept.refl _ _⟩
        case round =>
          obtain ⟨j, rfl, rfl, hj, KJ⟩ := hrel
          by_cases hlt2 : (j : Int) < n5
          · have hjl : j < cases.len := by have := Hn5.out; omega
            have K4J := K4.trans KJ
            obtain ⟨g2, o2, rfl⟩ := slice_some (T.g_isList _ hcl) H5.out (by omega)
            obtain ⟨ca, cn, cc, pc, hcr, hcx, hgc⟩ := c_at (k := j) (H5.out.kept K4J (fun _ _ f => f)) hcl HcX.out hjl
            have HC := Lib.hid (HcO.out.get hjl).2
            have Hcr := Lib.hid hcr
            have hle2 := Hcck.out (j + 1) (by omega)
            have hsu2 := T.cyk_succ cases j hjl
            have hb2 : P + cases.cyk j + (cases.get j).cyc ≤ 100000 := by omega
            have Hsu2 := Lib.hid hsu2
            clear hcr hcx hle2 hsu2
            go_wp2_with fail
            refine (HC.out _ D _ _ _ Hcr.out).mono ?_
            rintro e w6 ⟨rfl, hk6⟩
            have K6 := KJ.trans hk6
            go_wp2_with fail
            go_roundw
            · exact ⟨j + 1, by rw [Hsu2.out]; go_num, by go_num, by omega, K6⟩
            · simp [intOf]; omega
          · go_wp2_with fail
            have KE := (K.trans K4).trans KJ
            have ej : j = cases.len := by have := Hn5.out; omega
            have Hj := Lib.hid ej
            clear ej
            go_roundw
            · refine ⟨k + 1, ?_, by go_num, by omega, KE⟩
              rw [Hsu.out, Hj.out, T.cyk_all _ hcl, HP.out]
              first | rfl | go_num
            · simp [intOf]; omega
      · have Hq := Lib.hid q0
        clear q0
        go_wp2_with fail
        go_loopw [3, 49] (fun v t wr => ∃ j : Nat, v = .int .i64 ((P + cases.cyk j : Nat) : Int) ∧ t = .int .i64 j ∧ j ≤ n5 ∧ Kept (fun _ => False) w4 wr) (fun _ t _ => (n5 - intOf t).toNat)
        case atStart => exact ⟨0, by rw [T.cyk_zero, HP.out, Hq.out]; go_num, rfl, by omega, Kept.refl _ _⟩
        case round =>
          obtain ⟨j, rfl, rfl, hj, KJ⟩ := hrel
          by_cases hlt2 : (j : Int) < n5
          · have hjl : j < cases.len := by have := Hn5.out; omega
            have K4J := K4.trans KJ
            obtain ⟨g2, o2, rfl⟩ := slice_some (T.g_isList _ hcl) H5.out (by omega)
            obtain ⟨ca, cn, cc, pc, hcr, hcx, hgc⟩ := c_at (k := j) (H5.out.kept K4J (fun _ _ f => f)) hcl HcX.out hjl
            have HC := Lib.hid (HcO.out.get hjl).2
            have Hcr := Lib.hid hcr
            have hle2 := Hcck.out (j + 1) (by omega)
            have hsu2 := T.cyk_succ cases j hjl
            have hb2 : P + cases.cyk j + (cases.get j).cyc ≤ 100000 := by omega
            have Hsu2 := Lib.hid hsu2
            clear hcr hcx hle2 hsu2
            go_wp2_with fail
            refine (HC.out _ D _ _ _ Hcr.out).mono ?_
            rintro e w6 ⟨rfl, hk6⟩
            have K6 := KJ.trans hk6
            go_wp2_with fail
            go_roundw
            · exact ⟨j + 1, by rw [Hsu2.out]; go_num, by go_num, by omega, K6⟩
            · simp [intOf]; omega
          · go_wp2_with fail
            have KE := (K.trans K4).trans KJ
            have ej : j = cases.len := by have := Hn5.out; omega
            have Hj := Lib.hid ej
            clear ej
            go_roundw
            · refine ⟨k + 1, ?_, by go_num, by omega, KE⟩
              rw [Hsu.out, Hj.out, T.cyk_all _ hcl, HP.out]
              first | rfl | go_num
            · simp [intOf]; omega
      · have Hq := Lib.hid q0
        clear q0
        go_wp2_with fail
        go_loopw [3, 49] (fun v t wr => ∃ j : Nat, v = .int .i64 ((P + cases.cyk j : Nat) : Int) ∧ t = .int .i64 j ∧ j ≤ n5 ∧ Kept (fun _ => False) w4 wr) (fun _ t _ => (n5 - intOf t).toNat)
        case atStart => exact ⟨0, by rw [T.cyk_zero, HP.out, Hq.out]; go_num, rfl, by omega, Kept.refl _ _⟩
        case round =>
          obtain ⟨j, rfl, rfl, hj, KJ⟩ := hrel
          by_cases hlt2 : (j : Int) < n5
          · have hjl : j < cases.len := by have := Hn5.out; omega
            have K4J := K4.trans KJ
            obtain ⟨g2, o2, rfl⟩ := slice_some (T.g_isList _ hcl) H5.out (by omega)
            obtain ⟨ca, cn, cc, pc, hcr, hcx, hgc⟩ := c_at (k := j) (H5.out.kept K4J (fun _ _ f => f)) hcl HcX.out hjl
            have HC := Lib.hid (HcO.out.get hjl).2
            have Hcr := Lib.hid hcr
            have hle2 := Hcck.out (j + 1) (by omega)
            have hsu2 := T.cyk_succ cases j hjl
            have hb2 : P + cases.cyk j + (cases.get j).cyc ≤ 100000 := by omega
            have Hsu2 := Lib.hid hsu2
            clear hcr hcx hle2 hsu2
            go_wp2_with fail
            refine (HC.out _ D _ _ _ Hcr.out).mono ?_
            rintro e w6 ⟨rfl, hk6⟩
            have K6 := KJ.trans hk6
            go_wp2_with fail
            go_roundw
            · exact ⟨j + 1, by rw [Hsu2.out]; go_num, by go_num, by omega, K6⟩
            · simp [intOf]; omega
          · go_wp2_with fail
            have KE := (K.trans K4).trans KJ
            have ej : j = cases.len := by have := Hn5.out; omega
            have Hj := Lib.hid ej
            clear ej
            go_roundw
            · refine ⟨k + 1, ?_, by go_num, by omega, KE⟩
              rw [Hsu.out, Hj.out, T.cyk_all _ hcl, HP.out]
              first | rfl | go_num
            · simp [intOf]; omega
      · have Hq := Lib.hid q0
        clear q0
        go_wp2_with fail
        go_loopw [3, 49] (fun v t wr => ∃ j : Nat, v = .int .i64 ((P + cases.cyk j : Nat) : Int) ∧ t = .int .i64 j ∧ j ≤ n5 ∧ Kept (fun _ => False) w4 wr) (fun _ t _ => (n5 - intOf t).toNat)
        case atStart => exact ⟨0, by rw [T.cyk_zero, HP.out, Hq.out]; go_num, rfl, by omega, Kept.refl _ _⟩
        case round =>
          obtain ⟨j, rfl, rfl, hj, KJ⟩ := hrel
          by_cases hlt2 : (j : Int) < n5
          · have hjl : j < cases.len := by have := Hn5.out; omega
            have K4J := K4.trans KJ
            obtain ⟨g2, o2, rfl⟩ := slice_some (T.g_isList _ hcl) H5.out (by omega)
            obtain ⟨ca, cn, cc, pc, hcr, hcx, hgc⟩ := c_at (k := j) (H5.out.kept K4J (fun _ _ f => f)) hcl HcX.out hjl
            have HC := Lib.hid (HcO.out.get hjl).2
            have Hcr := Lib.hid hcr
            have hle2 := Hcck.out (j + 1) (by omega)
            have hsu2 := T.cyk_succ cases j hjl
            have hb2 : P + cases.cyk j + (cases.get j).cyc ≤ 100000 := by omega
            have Hsu2 := Lib.hid hsu2
            clear hcr hcx hle2 hsu2
            go_wp2_with fail
            refine (HC.out _ D _ _ _ Hcr.out).mono ?_
            rintro e w6 ⟨rfl, hk6⟩
            have K6 := KJ.trans hk6
            go_wp2_with fail
            go_roundw
            · exact ⟨j + 1, by rw [Hsu2.out]; go_num, by go_num, by omega, K6⟩
            · simp [intOf]; omega
          · go_wp2_with fail
            have KE := (K.trans K4).trans KJ
            have ej : j = cases.len := by have := Hn5.out; omega
            have Hj := Lib.hid ej
            clear ej
            go_roundw
            · refine ⟨k + 1, ?_, by go_num, by omega, KE⟩
              rw [Hsu.out, Hj.out, T.cyk_all _ hcl, HP.out]
              first | rfl | go_num
            · simp [intOf]; omega
    · go_wp2_with fail
      go_ret
      refine ⟨?_, K⟩
      obtain rfl : k = l.len := by have := Hlen.out; omega
      rw [T.cyk_all _ hl]
      rfl
end Go.Proofs.YtleolbpibjnedaaGreat
/- spec.Cyclomatic of every tree that the maker makes. -/
namespace Go.Proofs.YtleolbpibjnedaaGreat
open Go Go.RowKit Gc

theorem ways_nil : WaysOk .nil := ways_N .nil trivial trivial trivial (by simp [T.len]) (by simp [T.cyc])

def GoodC (o : So) (t : T) : Prop :=
  match o with
  | .E => BranchOk t
  | .S => StOk t
  | .Es => t.All BranchOk
  | .Ss => t.All StOk ∧ WaysOk t
  | .Cs => t.All CaseOk

theorem good_C {fl : Bool} {o : So} {t : T} (h : W fl o t) : t.cost ≤ 100000 → GoodC o t := by
  induction h with
  | num => intro _; exact branch_any 0 0 sE .nil .nil trivial trivial trivial trivial ways_nil (by simp [T.len]) (by simp [T.cyc])
  | var n h => intro _; exact branch_any 1 n sE .nil .nil trivial trivial trivial trivial ways_nil (by simp [T.len]) (by simp [T.cyc])
  | bin op a b h ha hb ih1 ih2 =>
    intro hc
    have hcy := T.cyc_cost (.x 2 0 op (.cons a (.cons b .nil)) .nil)
    simp only [T.cost] at hc
    exact branch_any 2 0 op _ _ trivial ⟨(good_S ha (by omega)).1, (good_S hb (by omega)).1, trivial⟩ ⟨ih1 (by omega), ih2 (by omega), trivial⟩ trivial ways_nil (by simp [T.len]) (by simp only [T.cost] at hcy; omega)
  | not a ha ih =>
    intro hc
    have hcy := T.cyc_cost (.x 3 0 sE (.cons a .nil) .nil)
    simp only [T.cost] at hc
    exact branch_any 3 0 sE _ _ trivial ⟨(good_S ha (by omega)).1, trivial⟩ ⟨ih (by omega), trivial⟩ trivial ways_nil (by simp [T.len]) (by simp only [T.cost] at hcy; omega)
  | par a ha ih =>
    intro hc
    have hcy := T.cyc_cost (.x 4 0 sE (.cons a .nil) .nil)
    simp only [T.cost] at hc
    exact branch_any 4 0 sE _ _ trivial ⟨(good_S ha (by omega)).1, trivial⟩ ⟨ih (by omega), trivial⟩ trivial ways_nil (by simp [T.len]) (by simp only [T.cost] at hcy; omega)
  | call f args h ha ih =>
    intro hc
    have hcy := T.cyc_cost (.x 5 0 f args .nil)
    have hG := good_S ha (by simp only [T.cost] at hc; omega)
    exact branch_any 5 0 f _ _ hG.1 hG.2.2 (ih (by simp only [T.cost] at hc; omega)) trivial ways_nil (by have := hG.2.1; simp only [T.cost] at hc; omega) (by omega)
  | lit body h hb ih =>
    intro hc
    have hcy := T.cyc_cost (.x 6 0 sE .nil body)
    have hG := good_S hb (by simp only [T.cost] at hc; omega)
    exact branch_any 6 0 sE _ _ trivial trivial trivial hG.1 (ih (by simp only [T.cost] at hc; omega)).2 (by simp [T.len]) (by omega)
  | enil => intro _; exact trivial
  | snil => intro _; exact ⟨trivial, ways_nil⟩
  | cnil => intro _; exact trivial
  | econs a t ha ht ih1 ih2 => intro hc; simp only [T.cost] at hc; exact ⟨ih1 (by omega), ih2 (by omega)⟩
  | scons a t ha ht ih1 ih2 =>
    intro hc
    have hcy := T.cyc_cost (.cons a t)
    have hG := good_S (W.scons a t ha ht) hc
    have hA : T.All StOk (.cons a t) := by simp only [T.cost] at hc; exact ⟨ih1 (by omega), (ih2 (by omega)).1⟩
    exact ⟨hA, ways_N _ hG.1 hG.2.2 hA (by have := hG.2.1; omega) (by omega)⟩
  | ccons a t ha ht ih1 ih2 =>
    intro hc
    simp only [T.cost] at hc
    exact ⟨⟨(good_S ha (by omega)).1, (ih1 (by omega)).2⟩, ih2 (by omega)⟩
  | expr f args h ha ih =>
    intro hc
    simp only [T.cost] at hc
    have hcy := T.cyc_cost (.x 5 0 f args .nil)
    simp only [T.cost] at hcy
    have hG := good_S ha (by omega)
    exact ⟨branch_any 5 0 f _ _ hG.1 hG.2.2 (ih (by omega)) trivial ways_nil (by have := hG.2.1; omega) (by omega), ways_nil, ways_nil, trivial, trivial, trivial⟩
  | assign n op a hn h ha ih => intro hc; simp only [T.cost] at hc; exact ⟨ih (by omega), ways_nil, ways_nil, trivial, trivial, trivial⟩
  | count n op hn h => intro _; exact ⟨branch_any 0 0 sE .nil .nil trivial trivial trivial trivial ways_nil (by simp [T.len]) (by simp [T.cyc]), ways_nil, ways_nil, trivial, trivial, trivial⟩
  | ifNo a body ha hb ih1 ih2 => intro hc; simp only [T.cost] at hc; exact ⟨ih1 (by omega), (ih2 (by omega)).2, ways_nil, trivial, trivial, trivial⟩
  | ifElse a body els ha hb he ih1 ih2 ih3 => intro hc; simp only [T.cost] at hc; exact ⟨ih1 (by omega), (ih2 (by omega)).2, (ih3 (by omega)).2, trivial, trivial, trivial⟩
  | ifChain a body a' body' els' has' chain' ha hb he ih1 ih2 ih3 =>
    intro hc
    have hcy := T.cyc_cost (.s 3 0 sE sE a' body' els' has' chain' .nil)
    generalize T.s 3 0 sE sE a' body' els' has' chain' .nil = inner at *
    simp only [T.cost] at hc
    have h3 := ih3 (by omega)
    exact ⟨ih1 (by omega), (ih2 (by omega)).2, ways_N (.cons inner .nil) trivial ⟨(good_S he (by omega)).1, trivial⟩ ⟨h3, trivial⟩ (by simp [T.len]) (by simp only [T.cyc]; omega), trivial, trivial, trivial⟩
  | for_ a body ha hb ih1 ih2 => intro hc; simp only [T.cost] at hc; exact ⟨ih1 (by omega), (ih2 (by omega)).2, ways_nil, trivial, trivial, trivial⟩
  | range a body ha hb ih1 ih2 => intro hc; simp only [T.cost] at hc; exact ⟨ih1 (by omega), (ih2 (by omega)).2, ways_nil, trivial, trivial, trivial⟩
  | switch a cases ha hcs h ih1 ih2 =>
    intro hc
    simp only [T.cost] at hc
    have hG := good_S hcs (by omega)
    exact ⟨ih1 (by omega), ways_nil, ways_nil, hG.1, hG.2, ih2 (by omega)⟩
  | select cases hf hcs h ih =>
    intro hc
    simp only [T.cost] at hc
    have hG := good_S hcs (by omega)
    exact ⟨branch_any 0 0 sE .nil .nil trivial trivial trivial trivial ways_nil (by simp [T.len]) (by simp [T.cyc]), ways_nil, ways_nil, hG.1, hG.2, ih (by omega)⟩
  | branch op h => intro _; exact ⟨branch_any 0 0 sE .nil .nil trivial trivial trivial trivial ways_nil (by simp [T.len]) (by simp [T.cyc]), ways_nil, ways_nil, trivial, trivial, trivial⟩
  | branchTo op k h hk => intro _; exact ⟨branch_any 0 0 sE .nil .nil trivial trivial trivial trivial ways_nil (by simp [T.len]) (by simp [T.cyc]), ways_nil, ways_nil, trivial, trivial, trivial⟩
  | ret a ha ih => intro hc; simp only [T.cost] at hc; exact ⟨ih (by omega), ways_nil, ways_nil, trivial, trivial, trivial⟩
  | block body hb ih => intro hc; simp only [T.cost] at hc; exact ⟨branch_any 0 0 sE .nil .nil trivial trivial trivial trivial ways_nil (by simp [T.len]) (by simp [T.cyc]), (ih (by omega)).2, ways_nil, trivial, trivial, trivial⟩
  | labelled k kind a body hk h ha hb ih1 ih2 =>
    intro hc
    have hcy := T.cyc_cost (.s kind 0 sE sE a body .nil false false .nil)
    have hin : StOk (.s kind 0 sE sE a body .nil false false .nil) := by
      simp only [T.cost] at hc
      exact ⟨ih1 (by omega), (ih2 (by omega)).2, ways_nil, trivial, trivial, trivial⟩
    have hWi : W fl .S (.s kind 0 sE sE a body .nil false false .nil) := by
      rcases h with rfl | rfl
      · exact .for_ a body ha hb
      · exact .range a body ha hb
    generalize T.s kind 0 sE sE a body .nil false false .nil = inner at *
    simp only [T.cost] at hc
    exact ⟨branch_any 0 0 sE .nil .nil trivial trivial trivial trivial ways_nil (by simp [T.len]) (by simp [T.cyc]), ways_N (.cons inner .nil) trivial ⟨(good_S hWi (by omega)).1, trivial⟩ ⟨hin, trivial⟩ (by simp [T.len]) (by simp only [T.cyc]; omega), ways_nil, trivial, trivial, trivial⟩

set_option maxRecDepth 100000 in
/-- spec.Cyclomatic. -/
theorem spec_cyc {fl : Bool} {t : T} (h : W fl .Ss t) (hc : t.cost ≤ 100000) (w : World) (D : Nat → Prop) (a : Option Addr) (n c : Nat) (hr : Rep w D t.g [.slice a n c]) :
    Calls Tryz.prog 12 #[.slice a n c] w (NumP w (1 + t.cyc)) := by
  have HW := Lib.hid (good_C h hc).2
  have HR := Lib.hid hr
  have hcy := T.cyc_cost t
  have hb : t.cyc ≤ 100000 := by omega
  clear hr hcy h hc
  go_enter Tryz.func12, Tryz.ntmps12
  go_wp2_with fail
  refine (HW.out w D a n c HR.out).mono ?_
  rintro e w1 ⟨rfl, K⟩
  go_wp2_with fail
  go_ret
  refine ⟨?_, K⟩
  have e : ((1 + t.cyc : Nat) : Int) = 1 + (t.cyc : Int) := by omega
  rw [e]
  rfl
end Go.Proofs.YtleolbpibjnedaaGreat
