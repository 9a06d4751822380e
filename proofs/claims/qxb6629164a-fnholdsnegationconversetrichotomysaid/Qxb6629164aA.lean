import Derived.Test.Qxb6629164aRows
import Derived.WalkKit
import Derived.WalkSpells
import Derived.WalkLawsBesides
import Derived.Laws.Cover2
namespace Go.Proofs.Qxb6629164a
open Go.RowKit

/-! ## The order of floats -/
theorem cmp_int (a b : Int) : compare b a = (compare a b).swap := by
  rw [Std.OrientedCmp.eq_swap (cmp := compare) (a := b) (b := a)]
theorem cmp_nat (a b : Nat) : compare b a = (compare a b).swap := by
  rw [Std.OrientedCmp.eq_swap (cmp := compare) (a := b) (b := a)]
theorem datum_swap (a b : Ieee.Datum) : b.order a = (a.order b).map Ordering.swap := by
  cases a <;> cases b <;> simp only [Ieee.Datum.order, Option.map_none, Option.map_some]
  · rw [cmp_int, Int.min_comm]
  · split <;> rfl
  · split <;> rfl
  · rw [cmp_nat]
theorem datum_self (a : Ieee.Datum) : a.order a = none ∨ a.order a = some .eq := by
  cases a <;> simp [Ieee.Datum.order]
theorem datum_none (a b : Ieee.Datum) : a.order b = none ↔ (a.order a = none ∨ b.order b = none) := by
  cases a <;> cases b <;> simp [Ieee.Datum.order]

/-- The order of two floats; none where one is a NaN. -/
def Od (a b : Nat) : Option Ordering := FloatKind.f64.format.order a b
theorem od_swap (a b : Nat) : Od b a = (Od a b).map Ordering.swap := datum_swap _ _
theorem od_self (a : Nat) : Od a a = none ∨ Od a a = some .eq := datum_self _
theorem od_none (a b : Nat) : Od a b = none ↔ (Od a a = none ∨ Od b b = none) := datum_none _ _
def GT (a b : Nat) : Bool := Od a b == some .gt
def LT (a b : Nat) : Bool := Od a b == some .lt
def EQ (a b : Nat) : Bool := Od a b == some .eq
def NE (a b : Nat) : Bool := Od a b != some .eq
def GE (a b : Nat) : Bool := Od a b == some .gt || Od a b == some .eq
def LE (a b : Nat) : Bool := Od a b == some .lt || Od a b == some .eq
/-- Does v lie between a and u? -/
def BT (a u v : Nat) : Bool := LE a v && LE v u

theorem le_swap (a b : Nat) : LE a b = GE b a := by
  unfold LE GE; rw [od_swap a b]; cases Od a b with | none => rfl | some o => cases o <;> rfl
theorem lt_swap (a b : Nat) : LT a b = GT b a := by
  unfold LT GT; rw [od_swap a b]; cases Od a b with | none => rfl | some o => cases o <;> rfl
theorem eq_swap (a b : Nat) : EQ a b = EQ b a := by
  unfold EQ; rw [od_swap a b]; cases Od a b with | none => rfl | some o => cases o <;> rfl
theorem ne_swap (a b : Nat) : NE a b = NE b a := by
  unfold NE; rw [od_swap a b]; cases Od a b with | none => rfl | some o => cases o <;> rfl
theorem nan_iff (a : Nat) : NE a a = true ↔ Od a a = none := by
  unfold NE; rcases od_self a with h | h <;> rw [h] <;> decide
theorem bt_split (a u v : Nat) : BT a u v = (GE v a && LE v u) := by unfold BT; rw [le_swap]
theorem bt_low (a u : Nat) : BT a u a = LE a u := by
  unfold BT
  rcases od_self a with h | h
  · have h1 : Od a u = none := (od_none a u).2 (.inl h)
    unfold LE; rw [h, h1]; rfl
  · have h1 : LE a a = true := by unfold LE; rw [h]; rfl
    rw [h1]; rfl
theorem bt_high (a u : Nat) : BT a u u = LE a u := by
  unfold BT
  rcases od_self u with h | h
  · have h1 : Od a u = none := (od_none a u).2 (.inr h)
    unfold LE; rw [h, h1]; rfl
  · have h1 : LE u u = true := by unfold LE; rw [h]; rfl
    rw [h1]; exact Bool.and_true _
theorem bt_nan (a u v : Nat) (h : NE v v = true) : BT a u v = false := by
  have h1 : Od v u = none := (od_none v u).2 (.inl ((nan_iff v).1 h))
  unfold BT
  have h2 : LE v u = false := by unfold LE; rw [h1]; rfl
  rw [h2]; exact Bool.and_false _

/-! ## What Condition.Holds answers, an operator each -/
theorem h_gt (a u v : Nat) (w : World) : Calls Try.prog 6 #[.agg #[.string ⟨#[62]⟩, .float .f64 a, .float .f64 u], .float .f64 v] w fun e w' => e = .returned (.bool (GT v a)) ∧ Below w.heap.size w w' := by
  go_enter Try.func6, Try.ntmps6
  go_wp2
  go_ret
  exact ⟨rfl, (Below.refl _ _).alloc (Nat.le_refl _) _⟩
theorem h_ge (a u v : Nat) (w : World) : Calls Try.prog 6 #[.agg #[.string ⟨#[62, 61]⟩, .float .f64 a, .float .f64 u], .float .f64 v] w fun e w' => e = .returned (.bool (GE v a)) ∧ Below w.heap.size w w' := by
  go_enter Try.func6, Try.ntmps6
  go_wp2
  go_ret
  exact ⟨rfl, (Below.refl _ _).alloc (Nat.le_refl _) _⟩
theorem h_lt (a u v : Nat) (w : World) : Calls Try.prog 6 #[.agg #[.string ⟨#[60]⟩, .float .f64 a, .float .f64 u], .float .f64 v] w fun e w' => e = .returned (.bool (LT v a)) ∧ Below w.heap.size w w' := by
  go_enter Try.func6, Try.ntmps6
  go_wp2
  go_ret
  exact ⟨rfl, (Below.refl _ _).alloc (Nat.le_refl _) _⟩
theorem h_le (a u v : Nat) (w : World) : Calls Try.prog 6 #[.agg #[.string ⟨#[60, 61]⟩, .float .f64 a, .float .f64 u], .float .f64 v] w fun e w' => e = .returned (.bool (LE v a)) ∧ Below w.heap.size w w' := by
  go_enter Try.func6, Try.ntmps6
  go_wp2
  go_ret
  exact ⟨rfl, (Below.refl _ _).alloc (Nat.le_refl _) _⟩
theorem h_eq (a u v : Nat) (w : World) : Calls Try.prog 6 #[.agg #[.string ⟨#[61]⟩, .float .f64 a, .float .f64 u], .float .f64 v] w fun e w' => e = .returned (.bool (EQ v a)) ∧ Below w.heap.size w w' := by
  go_enter Try.func6, Try.ntmps6
  go_wp2
  go_ret
  exact ⟨rfl, (Below.refl _ _).alloc (Nat.le_refl _) _⟩
theorem h_ne (a u v : Nat) (w : World) : Calls Try.prog 6 #[.agg #[.string ⟨#[33, 61]⟩, .float .f64 a, .float .f64 u], .float .f64 v] w fun e w' => e = .returned (.bool (NE v a)) ∧ Below w.heap.size w w' := by
  go_enter Try.func6, Try.ntmps6
  go_wp2
  go_ret
  exact ⟨rfl, (Below.refl _ _).alloc (Nat.le_refl _) _⟩
theorem h_bt (a u v : Nat) (w : World) : Calls Try.prog 6 #[.agg #[.string ⟨#[98, 101, 116, 119, 101, 101, 110]⟩, .float .f64 a, .float .f64 u], .float .f64 v] w fun e w' => e = .returned (.bool (BT a u v)) ∧ Below w.heap.size w w' := by
  have hor : (FloatKind.f64.format.order a v = some .lt ∨ FloatKind.f64.format.order a v = some .eq) ∨ ¬ (FloatKind.f64.format.order a v = some .lt ∨ FloatKind.f64.format.order a v = some .eq) := Classical.em _
  rcases hor with h | h
  · go_enter Try.func6, Try.ntmps6
    go_wp2
    go_ret
    exact ⟨rfl, (Below.refl _ _).alloc (Nat.le_refl _) _⟩
  · have hl : LE a v = false := by
      unfold LE Od
      cases h1 : FloatKind.f64.format.order a v == some .lt with
      | true => exact absurd (.inl (eq_of_beq h1)) h
      | false => cases h2 : FloatKind.f64.format.order a v == some .eq with
        | true => exact absurd (.inr (eq_of_beq h2)) h
        | false => rfl
    unfold BT
    rw [hl]
    go_enter Try.func6, Try.ntmps6
    go_wp2
    go_ret
    exact ⟨rfl, (Below.refl _ _).alloc (Nat.le_refl _) _⟩
theorem nan_any (x : Nat) (w : World) : Calls Try.prog 10 #[.float .f64 x] w fun e w' => e = .returned (.bool (NE x x)) ∧ w' = w := by
  go_enter Try.func10, Try.ntmps10
  go_wp2
  go_ret
  exact ⟨rfl, rfl⟩
end Go.Proofs.Qxb6629164a
