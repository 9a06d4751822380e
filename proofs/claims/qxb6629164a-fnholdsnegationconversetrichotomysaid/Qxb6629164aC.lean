import Derived.Test.Qxb6629164aB
namespace Go.Proofs.Qxb6629164a
open Go.RowKit

theorem bytes_any (s : ByteArray) (a u v : Nat) (w : World) (hs : s.size ≤ maxLen) : Calls Try.prog 5 #[.string s, .float .f64 a, .float .f64 u, .float .f64 v] w fun e w' => e = .returned (.bool (decide (s.size ≤ 1048576))) ∧ w' = w := by
  unfold maxLen at hs
  by_cases h : s.size ≤ 1048576
  · rw [decide_eq_true h]
    go_enter Try.func5, Try.ntmps5
    go_wp2
    go_ret
    exact ⟨rfl, rfl⟩
  · rw [decide_eq_false h]
    go_enter Try.func5, Try.ntmps5
    go_wp2
    go_ret
    exact ⟨rfl, rfl⟩

theorem trich_long (s : ByteArray) (a u v : Nat) (w : World) (hs : s.size ≤ maxLen) (h : ¬ s.size ≤ 1048576) : Calls Try.prog 3 #[.string s, .float .f64 a, .float .f64 u, .float .f64 v] w fun e w' => e = .returned (.bool true) ∧ Below w.heap.size w w' := by
  have H := bytes_any s a u v w hs
  rw [decide_eq_false h] at H
  have K := hid H
  clear H
  go_enter Try.func3, Try.ntmps3
  go_wp2_with fail
  refine K.out.mono ?_
  rintro e w1 ⟨rfl, rfl⟩
  go_wp2
  go_ret
  exact ⟨rfl, Below.refl _ _⟩

theorem trich_between (a u v : Nat) (w : World) : Calls Try.prog 3 #[.string ⟨#[98, 101, 116, 119, 101, 101, 110]⟩, .float .f64 a, .float .f64 u, .float .f64 v] w fun e w' => e = .returned (.bool true) ∧ Below w.heap.size w w' := by
  have H := bytes_any ⟨#[98, 101, 116, 119, 101, 101, 110]⟩ a u v w (by decide)
  rw [decide_eq_true (show (ByteArray.size ⟨#[98, 101, 116, 119, 101, 101, 110]⟩ ≤ 1048576) by decide)] at H
  have H1 := h_bt a u v
  have H2 := h_le v 0 a
  have H3 := h_ge v 0 u
  rw [bt_split, ← le_swap a v, le_swap v u] at H1
  obtain ⟨x, hx⟩ : ∃ x, LE a v = x := ⟨_, rfl⟩
  obtain ⟨y, hy⟩ : ∃ y, GE u v = y := ⟨_, rfl⟩
  rw [hx, hy] at H1
  rw [hx] at H2
  rw [hy] at H3
  clear hx hy
  have K := hid H
  have K1 := hid H1
  have K2 := hid H2
  have K3 := hid H3
  clear H H1 H2 H3
  go_enter Try.func3, Try.ntmps3
  go_wp2_with fail
  refine K.out.mono ?_
  rintro e w1 ⟨rfl, rfl⟩
  go_wp2_with fail
  refine (K1.out _).mono ?_
  rintro e w2 ⟨rfl, hb2⟩
  go_wp2_with fail
  refine (K2.out _).mono ?_
  rintro e w3 ⟨rfl, hb3⟩
  have hB3 := hb2.trans (hb3.mono hb2.size)
  clear hb2 hb3
  go_wp2_with fail
  refine (K3.out _).mono ?_
  rintro e w4 ⟨rfl, hb4⟩
  have hB4 := hB3.trans (hb4.mono hB3.size)
  clear hb4 hB3 K K1 K2 K3
  cases x <;> cases y
  all_goals
    go_wp2
    go_ret
    exact ⟨rfl, hB4⟩

theorem of_list (s : ByteArray) (l : List UInt8) (h : (s.toList == l) = true) : s = ⟨l.toArray⟩ := by
  have h1 : s.toList = l := eq_of_beq h
  rw [ByteArray.toList_eq] at h1
  cases s
  subst h1
  rfl
/-- An unknown operator. -/
theorem known_not (s : ByteArray) (w : World) (h1 : (s.toList == [62]) = false) (h2 : (s.toList == [62, 61]) = false) (h3 : (s.toList == [60]) = false) (h4 : (s.toList == [60, 61]) = false) (h5 : (s.toList == [61]) = false) (h6 : (s.toList == [33, 61]) = false) :
    Calls Try.prog 7 #[.string s] w fun e w' => e = .returned (.bool false) ∧ w' = w := by
  go_enter Try.func7, Try.ntmps7
  go_wp2
  go_ret
  exact ⟨rfl, rfl⟩
theorem trich_other (s : ByteArray) (a u v : Nat) (w : World) (hs : s.size ≤ maxLen) (h : s.size ≤ 1048576) (hbt : (s.toList == [98, 101, 116, 119, 101, 101, 110]) = false) (h1 : (s.toList == [62]) = false) (h2 : (s.toList == [62, 61]) = false) (h3 : (s.toList == [60]) = false) (h4 : (s.toList == [60, 61]) = false) (h5 : (s.toList == [61]) = false) (h6 : (s.toList == [33, 61]) = false) :
    Calls Try.prog 3 #[.string s, .float .f64 a, .float .f64 u, .float .f64 v] w fun e w' => e = .returned (.bool true) ∧ Below w.heap.size w w' := by
  have H := bytes_any s a u v w hs
  rw [decide_eq_true h] at H
  have K := hid H
  have K2 := hid (fun w => known_not s w h1 h2 h3 h4 h5 h6)
  clear H h1 h2 h3 h4 h5 h6
  have hl2 : (s.size : Int) ≤ 1048576 := by omega
  go_enter Try.func3, Try.ntmps3
  go_wp2_with fail
  refine K.out.mono ?_
  rintro e w1 ⟨rfl, rfl⟩
  go_wp2_with fail
  refine (K2.out _).mono ?_
  rintro e w2 ⟨rfl, rfl⟩
  go_wp2
  go_ret
  exact ⟨rfl, Below.refl _ _⟩
/-- What the law asks of the answers. -/
def ok (r x y z m na nv e : Bool) : Bool := if !na && !nv then (x.toNat + y.toNat + z.toNat == 1) && r != m else !x && !y && !z && r == e

theorem ok_out {r x y z m na nv e : Bool} (h : ok r x y z m na nv e = true) : (x = false ∧ y = false ∧ z = false ∧ (na || nv) = true ∧ r = e) ∨ (na = false ∧ nv = false ∧ m = !r ∧ ((x = true ∧ y = false ∧ z = false) ∨ (x = false ∧ y = true ∧ z = false) ∨ (x = false ∧ y = false ∧ z = true))) := by
  revert h
  cases r <;> cases x <;> cases y <;> cases z <;> cases m <;> cases na <;> cases nv <;> cases e <;> decide

set_option maxRecDepth 100000 in
set_option maxHeartbeats 2000000 in
theorem trich_core (s c g : ByteArray) (a u v : Nat) (w : World) (r x y z m na nv e : Bool) (hs : s.size ≤ maxLen) (hl : s.size ≤ 1048576)
    (hbt : (s.toList == [98, 101, 116, 119, 101, 101, 110]) = false) (he : (s.toList == [33, 61]) = e)
    (H7 : ∀ w, Calls Try.prog 7 #[.string s] w fun e w' => e = .returned (.bool true) ∧ w' = w)
    (H8 : ∀ w, Calls Try.prog 8 #[.string s] w fun e w' => e = .returned (.string c) ∧ w' = w)
    (H9 : ∀ w, Calls Try.prog 9 #[.string s] w fun e w' => e = .returned (.string g) ∧ w' = w)
    (Hr : ∀ u w, Calls Try.prog 6 #[.agg #[.string s, .float .f64 a, .float .f64 u], .float .f64 v] w fun e w' => e = .returned (.bool r) ∧ Below w.heap.size w w')
    (Hc : ∀ w, Calls Try.prog 6 #[.agg #[.string c, .float .f64 v, .float .f64 u], .float .f64 a] w fun e w' => e = .returned (.bool r) ∧ Below w.heap.size w w')
    (Hx : ∀ w, Calls Try.prog 6 #[.agg #[.string ⟨#[60]⟩, .float .f64 a, .float .f64 0], .float .f64 v] w fun e w' => e = .returned (.bool x) ∧ Below w.heap.size w w')
    (Hy : ∀ w, Calls Try.prog 6 #[.agg #[.string ⟨#[61]⟩, .float .f64 a, .float .f64 0], .float .f64 v] w fun e w' => e = .returned (.bool y) ∧ Below w.heap.size w w')
    (Hz : ∀ w, Calls Try.prog 6 #[.agg #[.string ⟨#[62]⟩, .float .f64 a, .float .f64 0], .float .f64 v] w fun e w' => e = .returned (.bool z) ∧ Below w.heap.size w w')
    (Hm : ∀ w, Calls Try.prog 6 #[.agg #[.string g, .float .f64 a, .float .f64 u], .float .f64 v] w fun e w' => e = .returned (.bool m) ∧ Below w.heap.size w w')
    (Ha : ∀ w, Calls Try.prog 10 #[.float .f64 a] w fun e w' => e = .returned (.bool na) ∧ w' = w)
    (Hv : ∀ w, Calls Try.prog 10 #[.float .f64 v] w fun e w' => e = .returned (.bool nv) ∧ w' = w)
    (hP : ok r x y z m na nv e = true) :
    Calls Try.prog 3 #[.string s, .float .f64 a, .float .f64 u, .float .f64 v] w fun e w' => e = .returned (.bool true) ∧ Below w.heap.size w w' := by
  have H5 := bytes_any s a u v w hs
  rw [decide_eq_true hl] at H5
  have K5 := hid H5
  have K7 := hid H7
  have K8 := hid H8
  have K9 := hid H9
  have Kr := hid Hr
  have Kc := hid Hc
  have Kx := hid Hx
  have Ky := hid Hy
  have Kz := hid Hz
  have Km := hid Hm
  have Ka := hid Ha
  have Kv := hid Hv
  have KP := hid hP
  clear H5 H7 H8 H9 Hr Hc Hx Hy Hz Hm Ha Hv hP
  have hl2 : (s.size : Int) ≤ 1048576 := by omega
  go_enter Try.func3, Try.ntmps3
  go_wp2_with fail
  refine K5.out.mono ?_
  rintro e w1 ⟨rfl, rfl⟩
  go_wp2_with fail
  refine (K7.out _).mono ?_
  rintro e w2 ⟨rfl, rfl⟩
  go_wp2_with fail
  refine (Kr.out u _).mono ?_
  rintro e w3 ⟨rfl, hB3⟩
  go_wp2_with fail
  refine (Kr.out 0 _).mono ?_
  rintro e w4 ⟨rfl, hb⟩
  have hB4 := hB3.trans (hb.mono hB3.size)
  clear hB3 hb
  go_wp2_with fail
  refine (K8.out _).mono ?_
  rintro e w5 ⟨rfl, rfl⟩
  go_wp2_with fail
  refine (Kc.out _).mono ?_
  rintro e w6 ⟨rfl, hb⟩
  have hB6 := hB4.trans (hb.mono hB4.size)
  clear hB4 hb
  go_wp2_with fail
  refine (Kx.out _).mono ?_
  rintro e w7 ⟨rfl, hb⟩
  have hB7 := hB6.trans (hb.mono hB6.size)
  clear hB6 hb
  go_wp2_with fail
  refine (Ky.out _).mono ?_
  rintro e w8 ⟨rfl, hb⟩
  have hB8 := hB7.trans (hb.mono hB7.size)
  clear hB7 hb
  go_wp2_with fail
  refine (Kz.out _).mono ?_
  rintro e w9 ⟨rfl, hb⟩
  have hB9 := hB8.trans (hb.mono hB8.size)
  clear hB8 hb
  have hQ : Hid ((x = false ∧ y = false ∧ z = false ∧ (na || nv) = true ∧ r = e) ∨ (na = false ∧ nv = false ∧ m = !r ∧ ((x = true ∧ y = false ∧ z = false) ∨ (x = false ∧ y = true ∧ z = false) ∨ (x = false ∧ y = false ∧ z = true)))) := ok_out KP.out
  clear KP
  rcases hQ.out with ⟨rfl, rfl, rfl, hn, rfl⟩ | ⟨rfl, rfl, rfl, ⟨rfl, rfl, rfl⟩ | ⟨rfl, rfl, rfl⟩ | ⟨rfl, rfl, rfl⟩⟩
  · clear hQ
    have hN := hid hn
    clear hn
    go_wp2_with fail
    refine (K9.out _).mono ?_
    rintro e w10 ⟨rfl, rfl⟩
    go_wp2_with fail
    refine (Km.out _).mono ?_
    rintro e w11 ⟨rfl, hb⟩
    have hB11 := hB9.trans (hb.mono hB9.size)
    clear hB9 hb
    go_wp2_with fail
    refine (Ka.out _).mono ?_
    rintro e w12 ⟨rfl, rfl⟩
    cases na
    · go_wp2_with fail
      refine (Kv.out _).mono ?_
      rintro e w13 ⟨rfl, rfl⟩
      have hnv : nv = true := hN.out
      subst hnv
      cases r
      all_goals
        go_wp2
        go_ret
        exact ⟨rfl, hB11⟩
    · cases r
      all_goals
        go_wp2
        go_ret
        exact ⟨rfl, hB11⟩
  all_goals
    clear hQ
    go_wp2_with fail
    refine (K9.out _).mono ?_
    rintro e w10 ⟨rfl, rfl⟩
    go_wp2_with fail
    refine (Km.out _).mono ?_
    rintro e w11 ⟨rfl, hb⟩
    have hB11 := hB9.trans (hb.mono hB9.size)
    clear hB9 hb
    go_wp2_with fail
    refine (Ka.out _).mono ?_
    rintro e w12 ⟨rfl, rfl⟩
    go_wp2_with fail
    refine (Kv.out _).mono ?_
    rintro e w13 ⟨rfl, rfl⟩
    cases r
    all_goals
      go_wp2
      go_ret
      exact ⟨rfl, hB11⟩
set_option linter.unusedSimpArgs false
/-! ## The six operators -/
theorem kn_gt (w : World) : Calls Try.prog 7 #[.string ⟨#[62]⟩] w fun e w' => e = .returned (.bool true) ∧ w' = w := by
  go_enter Try.func7, Try.ntmps7
  go_wp2
  go_ret
  exact ⟨rfl, rfl⟩
theorem cv_gt (w : World) : Calls Try.prog 8 #[.string ⟨#[62]⟩] w fun e w' => e = .returned (.string ⟨#[60]⟩) ∧ w' = w := by
  go_enter Try.func8, Try.ntmps8
  go_wp2
  go_ret
  exact ⟨rfl, rfl⟩
theorem ng_gt (w : World) : Calls Try.prog 9 #[.string ⟨#[62]⟩] w fun e w' => e = .returned (.string ⟨#[60, 61]⟩) ∧ w' = w := by
  go_enter Try.func9, Try.ntmps9
  go_wp2
  go_ret
  exact ⟨rfl, rfl⟩
theorem kn_ge (w : World) : Calls Try.prog 7 #[.string ⟨#[62, 61]⟩] w fun e w' => e = .returned (.bool true) ∧ w' = w := by
  go_enter Try.func7, Try.ntmps7
  go_wp2
  go_ret
  exact ⟨rfl, rfl⟩
theorem cv_ge (w : World) : Calls Try.prog 8 #[.string ⟨#[62, 61]⟩] w fun e w' => e = .returned (.string ⟨#[60, 61]⟩) ∧ w' = w := by
  go_enter Try.func8, Try.ntmps8
  go_wp2
  go_ret
  exact ⟨rfl, rfl⟩
theorem ng_ge (w : World) : Calls Try.prog 9 #[.string ⟨#[62, 61]⟩] w fun e w' => e = .returned (.string ⟨#[60]⟩) ∧ w' = w := by
  go_enter Try.func9, Try.ntmps9
  go_wp2
  go_ret
  exact ⟨rfl, rfl⟩
theorem kn_lt (w : World) : Calls Try.prog 7 #[.string ⟨#[60]⟩] w fun e w' => e = .returned (.bool true) ∧ w' = w := by
  go_enter Try.func7, Try.ntmps7
  go_wp2
  go_ret
  exact ⟨rfl, rfl⟩
theorem cv_lt (w : World) : Calls Try.prog 8 #[.string ⟨#[60]⟩] w fun e w' => e = .returned (.string ⟨#[62]⟩) ∧ w' = w := by
  go_enter Try.func8, Try.ntmps8
  go_wp2
  go_ret
  exact ⟨rfl, rfl⟩
theorem ng_lt (w : World) : Calls Try.prog 9 #[.string ⟨#[60]⟩] w fun e w' => e = .returned (.string ⟨#[62, 61]⟩) ∧ w' = w := by
  go_enter Try.func9, Try.ntmps9
  go_wp2
  go_ret
  exact ⟨rfl, rfl⟩
theorem kn_le (w : World) : Calls Try.prog 7 #[.string ⟨#[60, 61]⟩] w fun e w' => e = .returned (.bool true) ∧ w' = w := by
  go_enter Try.func7, Try.ntmps7
  go_wp2
  go_ret
  exact ⟨rfl, rfl⟩
theorem cv_le (w : World) : Calls Try.prog 8 #[.string ⟨#[60, 61]⟩] w fun e w' => e = .returned (.string ⟨#[62, 61]⟩) ∧ w' = w := by
  go_enter Try.func8, Try.ntmps8
  go_wp2
  go_ret
  exact ⟨rfl, rfl⟩
theorem ng_le (w : World) : Calls Try.prog 9 #[.string ⟨#[60, 61]⟩] w fun e w' => e = .returned (.string ⟨#[62]⟩) ∧ w' = w := by
  go_enter Try.func9, Try.ntmps9
  go_wp2
  go_ret
  exact ⟨rfl, rfl⟩
theorem kn_eq (w : World) : Calls Try.prog 7 #[.string ⟨#[61]⟩] w fun e w' => e = .returned (.bool true) ∧ w' = w := by
  go_enter Try.func7, Try.ntmps7
  go_wp2
  go_ret
  exact ⟨rfl, rfl⟩
theorem cv_eq (w : World) : Calls Try.prog 8 #[.string ⟨#[61]⟩] w fun e w' => e = .returned (.string ⟨#[61]⟩) ∧ w' = w := by
  go_enter Try.func8, Try.ntmps8
  go_wp2
  go_ret
  exact ⟨rfl, rfl⟩
theorem ng_eq (w : World) : Calls Try.prog 9 #[.string ⟨#[61]⟩] w fun e w' => e = .returned (.string ⟨#[33, 61]⟩) ∧ w' = w := by
  go_enter Try.func9, Try.ntmps9
  go_wp2
  go_ret
  exact ⟨rfl, rfl⟩
theorem kn_ne (w : World) : Calls Try.prog 7 #[.string ⟨#[33, 61]⟩] w fun e w' => e = .returned (.bool true) ∧ w' = w := by
  go_enter Try.func7, Try.ntmps7
  go_wp2
  go_ret
  exact ⟨rfl, rfl⟩
theorem cv_ne (w : World) : Calls Try.prog 8 #[.string ⟨#[33, 61]⟩] w fun e w' => e = .returned (.string ⟨#[33, 61]⟩) ∧ w' = w := by
  go_enter Try.func8, Try.ntmps8
  go_wp2
  go_ret
  exact ⟨rfl, rfl⟩
theorem ng_ne (w : World) : Calls Try.prog 9 #[.string ⟨#[33, 61]⟩] w fun e w' => e = .returned (.string ⟨#[61]⟩) ∧ w' = w := by
  go_enter Try.func9, Try.ntmps9
  go_wp2
  go_ret
  exact ⟨rfl, rfl⟩

/-- Two floats are unordered, or they are ordered; a NaN is what differs from itself. -/
theorem od_cases (a v : Nat) : (Od v a = none ∧ (NE a a || NE v v) = true) ∨ (NE a a = false ∧ NE v v = false ∧ ∃ o, Od v a = some o) := by
  cases h : Od v a with
  | none =>
    refine .inl ⟨rfl, ?_⟩
    rcases (od_none v a).1 h with h1 | h1
    · rw [(nan_iff v).2 h1]; exact Bool.or_true _
    · rw [(nan_iff a).2 h1]; rfl
  | some o =>
    refine .inr ⟨?_, ?_, o, rfl⟩
    · cases h1 : NE a a with
      | false => rfl
      | true => rw [(od_none v a).2 (.inr ((nan_iff a).1 h1))] at h; cases h
    · cases h1 : NE v v with
      | false => rfl
      | true => rw [(od_none v a).2 (.inl ((nan_iff v).1 h1))] at h; cases h
theorem plain_gt (a v : Nat) : ok (GT v a) (LT v a) (EQ v a) (GT v a) (LE v a) (NE a a) (NE v v) false = true := by
  unfold ok
  rcases od_cases a v with ⟨h, hn⟩ | ⟨h1, h2, o, h⟩
  · cases ha : NE a a <;> cases hv : NE v v <;> rw [ha, hv] at hn <;> first | (cases hn; done) | (simp only [GT, LT, EQ, NE, GE, LE] at ha hv ⊢; rw [h]; rfl)
  · rw [h1, h2]; simp only [GT, LT, EQ, NE, GE, LE]; rw [h]; cases o <;> rfl
theorem tr_gt (a u v : Nat) (w : World) : Calls Try.prog 3 #[.string ⟨#[62]⟩, .float .f64 a, .float .f64 u, .float .f64 v] w fun e w' => e = .returned (.bool true) ∧ Below w.heap.size w w' :=
  trich_core ⟨#[62]⟩ ⟨#[60]⟩ ⟨#[60, 61]⟩ a u v w (GT v a) (LT v a) (EQ v a) (GT v a) (LE v a) (NE a a) (NE v v) false (by decide) (by decide) (by rw [ByteArray.toList_eq]; rfl) (by rw [ByteArray.toList_eq]; rfl)
    kn_gt cv_gt ng_gt (fun u w => h_gt a u v w) (fun w => by rw [← (lt_swap a v : LT a v = GT v a)]; exact h_lt v u a w) (h_lt a 0 v) (h_eq a 0 v) (h_gt a 0 v) (h_le a u v) (nan_any a) (nan_any v) (plain_gt a v)
theorem plain_ge (a v : Nat) : ok (GE v a) (LT v a) (EQ v a) (GT v a) (LT v a) (NE a a) (NE v v) false = true := by
  unfold ok
  rcases od_cases a v with ⟨h, hn⟩ | ⟨h1, h2, o, h⟩
  · cases ha : NE a a <;> cases hv : NE v v <;> rw [ha, hv] at hn <;> first | (cases hn; done) | (simp only [GT, LT, EQ, NE, GE, LE] at ha hv ⊢; rw [h]; rfl)
  · rw [h1, h2]; simp only [GT, LT, EQ, NE, GE, LE]; rw [h]; cases o <;> rfl
theorem tr_ge (a u v : Nat) (w : World) : Calls Try.prog 3 #[.string ⟨#[62, 61]⟩, .float .f64 a, .float .f64 u, .float .f64 v] w fun e w' => e = .returned (.bool true) ∧ Below w.heap.size w w' :=
  trich_core ⟨#[62, 61]⟩ ⟨#[60, 61]⟩ ⟨#[60]⟩ a u v w (GE v a) (LT v a) (EQ v a) (GT v a) (LT v a) (NE a a) (NE v v) false (by decide) (by decide) (by rw [ByteArray.toList_eq]; rfl) (by rw [ByteArray.toList_eq]; rfl)
    kn_ge cv_ge ng_ge (fun u w => h_ge a u v w) (fun w => by rw [← (le_swap a v : LE a v = GE v a)]; exact h_le v u a w) (h_lt a 0 v) (h_eq a 0 v) (h_gt a 0 v) (h_lt a u v) (nan_any a) (nan_any v) (plain_ge a v)
theorem plain_lt (a v : Nat) : ok (LT v a) (LT v a) (EQ v a) (GT v a) (GE v a) (NE a a) (NE v v) false = true := by
  unfold ok
  rcases od_cases a v with ⟨h, hn⟩ | ⟨h1, h2, o, h⟩
  · cases ha : NE a a <;> cases hv : NE v v <;> rw [ha, hv] at hn <;> first | (cases hn; done) | (simp only [GT, LT, EQ, NE, GE, LE] at ha hv ⊢; rw [h]; rfl)
  · rw [h1, h2]; simp only [GT, LT, EQ, NE, GE, LE]; rw [h]; cases o <;> rfl
theorem tr_lt (a u v : Nat) (w : World) : Calls Try.prog 3 #[.string ⟨#[60]⟩, .float .f64 a, .float .f64 u, .float .f64 v] w fun e w' => e = .returned (.bool true) ∧ Below w.heap.size w w' :=
  trich_core ⟨#[60]⟩ ⟨#[62]⟩ ⟨#[62, 61]⟩ a u v w (LT v a) (LT v a) (EQ v a) (GT v a) (GE v a) (NE a a) (NE v v) false (by decide) (by decide) (by rw [ByteArray.toList_eq]; rfl) (by rw [ByteArray.toList_eq]; rfl)
    kn_lt cv_lt ng_lt (fun u w => h_lt a u v w) (fun w => by rw [← ((lt_swap v a).symm : GT a v = LT v a)]; exact h_gt v u a w) (h_lt a 0 v) (h_eq a 0 v) (h_gt a 0 v) (h_ge a u v) (nan_any a) (nan_any v) (plain_lt a v)
theorem plain_le (a v : Nat) : ok (LE v a) (LT v a) (EQ v a) (GT v a) (GT v a) (NE a a) (NE v v) false = true := by
  unfold ok
  rcases od_cases a v with ⟨h, hn⟩ | ⟨h1, h2, o, h⟩
  · cases ha : NE a a <;> cases hv : NE v v <;> rw [ha, hv] at hn <;> first | (cases hn; done) | (simp only [GT, LT, EQ, NE, GE, LE] at ha hv ⊢; rw [h]; rfl)
  · rw [h1, h2]; simp only [GT, LT, EQ, NE, GE, LE]; rw [h]; cases o <;> rfl
theorem tr_le (a u v : Nat) (w : World) : Calls Try.prog 3 #[.string ⟨#[60, 61]⟩, .float .f64 a, .float .f64 u, .float .f64 v] w fun e w' => e = .returned (.bool true) ∧ Below w.heap.size w w' :=
  trich_core ⟨#[60, 61]⟩ ⟨#[62, 61]⟩ ⟨#[62]⟩ a u v w (LE v a) (LT v a) (EQ v a) (GT v a) (GT v a) (NE a a) (NE v v) false (by decide) (by decide) (by rw [ByteArray.toList_eq]; rfl) (by rw [ByteArray.toList_eq]; rfl)
    kn_le cv_le ng_le (fun u w => h_le a u v w) (fun w => by rw [← ((le_swap v a).symm : GE a v = LE v a)]; exact h_ge v u a w) (h_lt a 0 v) (h_eq a 0 v) (h_gt a 0 v) (h_gt a u v) (nan_any a) (nan_any v) (plain_le a v)
theorem plain_eq (a v : Nat) : ok (EQ v a) (LT v a) (EQ v a) (GT v a) (NE v a) (NE a a) (NE v v) false = true := by
  unfold ok
  rcases od_cases a v with ⟨h, hn⟩ | ⟨h1, h2, o, h⟩
  · cases ha : NE a a <;> cases hv : NE v v <;> rw [ha, hv] at hn <;> first | (cases hn; done) | (simp only [GT, LT, EQ, NE, GE, LE] at ha hv ⊢; rw [h]; rfl)
  · rw [h1, h2]; simp only [GT, LT, EQ, NE, GE, LE]; rw [h]; cases o <;> rfl
theorem tr_eq (a u v : Nat) (w : World) : Calls Try.prog 3 #[.string ⟨#[61]⟩, .float .f64 a, .float .f64 u, .float .f64 v] w fun e w' => e = .returned (.bool true) ∧ Below w.heap.size w w' :=
  trich_core ⟨#[61]⟩ ⟨#[61]⟩ ⟨#[33, 61]⟩ a u v w (EQ v a) (LT v a) (EQ v a) (GT v a) (NE v a) (NE a a) (NE v v) false (by decide) (by decide) (by rw [ByteArray.toList_eq]; rfl) (by rw [ByteArray.toList_eq]; rfl)
    kn_eq cv_eq ng_eq (fun u w => h_eq a u v w) (fun w => by rw [← (eq_swap a v : EQ a v = EQ v a)]; exact h_eq v u a w) (h_lt a 0 v) (h_eq a 0 v) (h_gt a 0 v) (h_ne a u v) (nan_any a) (nan_any v) (plain_eq a v)
theorem plain_ne (a v : Nat) : ok (NE v a) (LT v a) (EQ v a) (GT v a) (EQ v a) (NE a a) (NE v v) true = true := by
  unfold ok
  rcases od_cases a v with ⟨h, hn⟩ | ⟨h1, h2, o, h⟩
  · cases ha : NE a a <;> cases hv : NE v v <;> rw [ha, hv] at hn <;> first | (cases hn; done) | (simp only [GT, LT, EQ, NE, GE, LE] at ha hv ⊢; rw [h]; rfl)
  · rw [h1, h2]; simp only [GT, LT, EQ, NE, GE, LE]; rw [h]; cases o <;> rfl
theorem tr_ne (a u v : Nat) (w : World) : Calls Try.prog 3 #[.string ⟨#[33, 61]⟩, .float .f64 a, .float .f64 u, .float .f64 v] w fun e w' => e = .returned (.bool true) ∧ Below w.heap.size w w' :=
  trich_core ⟨#[33, 61]⟩ ⟨#[33, 61]⟩ ⟨#[61]⟩ a u v w (NE v a) (LT v a) (EQ v a) (GT v a) (EQ v a) (NE a a) (NE v v) true (by decide) (by decide) (by rw [ByteArray.toList_eq]; rfl) (by rw [ByteArray.toList_eq]; rfl)
    kn_ne cv_ne ng_ne (fun u w => h_ne a u v w) (fun w => by rw [← (ne_swap a v : NE a v = NE v a)]; exact h_ne v u a w) (h_lt a 0 v) (h_eq a 0 v) (h_gt a 0 v) (h_eq a u v) (nan_any a) (nan_any v) (plain_ne a v)

theorem trich_walk (s : ByteArray) (a u v : Nat) (w : World) (hs : s.size ≤ maxLen) : Calls Try.prog 3 #[.string s, .float .f64 a, .float .f64 u, .float .f64 v] w fun e w' => e = .returned (.bool true) ∧ Below w.heap.size w w' := by
  by_cases hl : s.size ≤ 1048576
  · cases h0 : s.toList == [98, 101, 116, 119, 101, 101, 110] with
    | true => have := of_list s _ h0; subst this; exact trich_between a u v w
    | false =>
      cases h1 : s.toList == [62] with
      | true => have := of_list s _ h1; subst this; exact tr_gt a u v w
      | false =>
        cases h2 : s.toList == [62, 61] with
        | true => have := of_list s _ h2; subst this; exact tr_ge a u v w
        | false =>
          cases h3 : s.toList == [60] with
          | true => have := of_list s _ h3; subst this; exact tr_lt a u v w
          | false =>
            cases h4 : s.toList == [60, 61] with
            | true => have := of_list s _ h4; subst this; exact tr_le a u v w
            | false =>
              cases h5 : s.toList == [61] with
              | true => have := of_list s _ h5; subst this; exact tr_eq a u v w
              | false =>
                cases h6 : s.toList == [33, 61] with
                | true => have := of_list s _ h6; subst this; exact tr_ne a u v w
                | false =>
                  exact trich_other s a u v w hs hl h0 h1 h2 h3 h4 h5 h6
  · exact trich_long s a u v w hs hl
end Go.Proofs.Qxb6629164a
