import Derived.Test.Qxb6629164aA
namespace Go.Proofs.Qxb6629164a
open Go.RowKit

@[go_sem] theorem run_store_float (P : Program) (w : World) (a : Addr) (m : Mode) (k : FloatKind) (b : Nat) : (store a (.float k b) m).run P w = stored P w a (.float k b) m := run_store P w a _ m rfl

theorem hid {p : Prop} (h : p) : Hid p := h
/-- The variable b of the law. -/
structure Var (w : World) (g a u : Nat) : Prop where
  lt : g < w.heap.size
  c0 : w.cell? ⟨g, 0, none⟩ = some (.string ⟨#[98, 101, 116, 119, 101, 101, 110]⟩)
  c1 : w.cell? ⟨g, 1, none⟩ = some (.float .f64 a)
  c2 : w.cell? ⟨g, 2, none⟩ = some (.float .f64 u)
theorem Var.later {w w' : World} {g a u : Nat} (h : Var w g a u) (hb : Below w.heap.size w w') : Var w' g a u :=
  have hg := h.lt
  ⟨Nat.lt_of_lt_of_le hg hb.size, (hb.cell (p := ⟨g, 0, none⟩) hg).trans h.c0, (hb.cell (p := ⟨g, 1, none⟩) hg).trans h.c1, (hb.cell (p := ⟨g, 2, none⟩) hg).trans h.c2⟩
theorem Var.born (w : World) (a u : Nat) : Var (w.alloc (Obj.cells #[.string ⟨#[98, 101, 116, 119, 101, 101, 110]⟩, .float .f64 a, .float .f64 u] 26)) w.heap.size a u := by
  have h : (w.alloc (Obj.cells #[.string ⟨#[98, 101, 116, 119, 101, 101, 110]⟩, .float .f64 a, .float .f64 u] 26)).heap[w.heap.size]? = some (Obj.cells #[.string ⟨#[98, 101, 116, 119, 101, 101, 110]⟩, .float .f64 a, .float .f64 u] 26) := by
    show (w.heap.push _)[w.heap.size]? = _
    simp
  exact ⟨by simp, by unfold World.cell?; rw [h]; rfl, by unfold World.cell?; rw [h]; rfl, by unfold World.cell?; rw [h]; rfl⟩

set_option maxRecDepth 100000 in
set_option maxHeartbeats 2000000 in
theorem between_core (a u v : Nat) (w : World) (x y z n : Bool) (hx : GE v a = x) (hy : LE v u = y) (hz : LE a u = z) (hn : NE v v = n) (hr : n = true → (x && y) = false) :
    Calls Try.prog 4 #[.float .f64 a, .float .f64 u, .float .f64 v] w fun e w' => e = .returned (.bool true) ∧ Below w.heap.size w w' := by
  have H1 := h_bt a u v
  have H2 := h_ge a 0 v
  have H3 := h_le u 0 v
  have H4 := h_bt a u a
  have H5 := h_bt a u u
  have H6 := nan_any v
  rw [bt_split, hx, hy] at H1
  rw [hx] at H2
  rw [hy] at H3
  rw [bt_low, hz] at H4
  rw [bt_high, hz] at H5
  rw [hn] at H6
  have HZ : (FloatKind.f64.format.order a u == some .lt || FloatKind.f64.format.order a u == some .eq) = z := hz
  clear hx hy hz hn
  have K1 := hid H1
  have K2 := hid H2
  have K3 := hid H3
  have K4 := hid H4
  have K5 := hid H5
  have K6 := hid H6
  have KR := hid hr
  clear H1 H2 H3 H4 H5 H6 hr
  have hv0 := Var.born w a u
  have hb0 : Below w.heap.size w (w.alloc (Obj.cells #[.string ⟨#[98, 101, 116, 119, 101, 101, 110]⟩, .float .f64 a, .float .f64 u] 26)) := (Below.refl _ _).alloc (Nat.le_refl _) _
  have KV := hid hv0
  have KB := hid hb0
  clear hv0 hb0
  go_enter Try.func4, Try.ntmps4
  go_wp2_with fail
  refine (K1.out _).mono ?_
  rintro e w1 ⟨rfl, hb1⟩
  have hB1 := KB.out.trans (hb1.mono KB.out.size)
  have hV1 := hid (KV.out.later hb1)
  clear hb1 KB KV
  cases x <;> cases y <;> cases z
  all_goals
    go_wp2_with fail
    refine (K2.out _).mono ?_
    rintro e w2 ⟨rfl, hb2⟩
    have hB2 := hB1.trans (hb2.mono hB1.size)
    have hV2 := hid (hV1.out.later hb2)
    clear hb2 hB1 hV1
    go_wp2_with fail
    refine (K3.out _).mono ?_
    rintro e w3 ⟨rfl, hb3⟩
    have hB3 := hB2.trans (hb3.mono hB2.size)
    have hV3 := hid (hV2.out.later hb3)
    clear hb3 hB2 hV2
    have c0 := hV3.out.c0
    have c1 := hV3.out.c1
    have c2 := hV3.out.c2
    go_wp2_with fail
    refine (K4.out _).mono ?_
    rintro e w4 ⟨rfl, hb4⟩
    have hB4 := hB3.trans (hb4.mono hB3.size)
    have hV4 := hid (hV3.out.later hb4)
    clear hb4 hB3 hV3 c0 c1 c2
    have c0 := hV4.out.c0
    have c1 := hV4.out.c1
    have c2 := hV4.out.c2
    go_wp2_with fail
    refine (K5.out _).mono ?_
    rintro e w5 ⟨rfl, hb5⟩
    have hB5 := hB4.trans (hb5.mono hB4.size)
    clear hb5 hB4 hV4 c0 c1 c2 HZ
    go_wp2_with fail
    refine (K6.out _).mono ?_
    rintro e w6 ⟨rfl, rfl⟩
    cases n
    all_goals first
      | exact absurd (KR.out rfl) (by decide)
      | (go_wp2
         go_ret
         exact ⟨rfl, hB5⟩)

theorem between_walk (a u v : Nat) (w : World) : Calls Try.prog 4 #[.float .f64 a, .float .f64 u, .float .f64 v] w fun e w' => e = .returned (.bool true) ∧ Below w.heap.size w w' :=
  between_core a u v w _ _ _ _ rfl rfl rfl rfl (fun h => by rw [← bt_split]; exact bt_nan a u v h)
end Go.Proofs.Qxb6629164a
