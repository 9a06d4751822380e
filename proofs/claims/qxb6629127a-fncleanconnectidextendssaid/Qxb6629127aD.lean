import Derived.Test.Qxb6629127aC
namespace Go.Proofs.Qxb6629127a
open Go.RowKit Go.Deep Go.Lib

theorem bytesA (s : ByteArray) (lv : Int) (w : World) (hs : s.size ≤ maxLen) : Calls Try.prog 5 #[.string s, .int .u8 lv] w fun e w' => e = .returned (.bool (decide (s.size ≤ 1048576))) ∧ w' = w := by
  unfold maxLen at hs
  by_cases h : s.size ≤ 1048576
  · rw [decide_eq_true h]
    go_enter Try.func5, Try.ntmps5
    go_wp2
    go_ret
    exact ⟨rfl, rfl⟩
  · rw [decide_eq_false h]
    go_enter Try.func5, Try.ntmps5
    go_wp2
    go_ret
    exact ⟨rfl, rfl⟩

/-- The cells of a body, one by one. -/
structure Body (w : World) (g o : Nat) (l : List Int) (lv : Int) (k : Nat) : Prop where
  c0 : w.cell? ⟨g, o, none⟩ = some (.int .u8 0)
  c1 : w.cell? ⟨g, o + 1, none⟩ = some (.int .u8 4)
  c2 : w.cell? ⟨g, o + 2, none⟩ = some (.int .u8 77)
  c3 : w.cell? ⟨g, o + 3, none⟩ = some (.int .u8 81)
  c4 : w.cell? ⟨g, o + 4, none⟩ = some (.int .u8 84)
  c5 : w.cell? ⟨g, o + 5, none⟩ = some (.int .u8 84)
  c6 : w.cell? ⟨g, o + 6, none⟩ = some (.int .u8 lv)
  c7 : w.cell? ⟨g, o + 7, none⟩ = some (.int .u8 2)
  c8 : w.cell? ⟨g, o + 8, none⟩ = some (.int .u8 0)
  c9 : w.cell? ⟨g, o + 9, none⟩ = some (.int .u8 60)
  hi : w.cell? ⟨g, o + k, none⟩ = some (.int .u8 ((l.length : Int) / 256))
  lo : w.cell? ⟨g, o + (k + 1), none⟩ = some (.int .u8 ((l.length : Int) % 256))
  id : ∀ j (h : j < l.length), w.cell? ⟨g, o + (k + 2 + j), none⟩ = some (.int .u8 l[j])

theorem body5 {w : World} {g o : Nat} {l : List Int} (h : Dat w g o (body l 5)) : Body w g o l 5 11 ∧ w.cell? ⟨g, o + 10, none⟩ = some (.int .u8 0) := by
  have hd : Dat w g o ([0, 4, 77, 81, 84, 84, 5, 2, 0, 60, 0, (l.length : Int) / 256, (l.length : Int) % 256] ++ l) := h
  refine ⟨⟨hd 0 (by simp), hd 1 (by simp), hd 2 (by simp), hd 3 (by simp), hd 4 (by simp), hd 5 (by simp), hd 6 (by simp), hd 7 (by simp), hd 8 (by simp), hd 9 (by simp), hd 11 (by simp), hd 12 (by simp), fun j hj => ?_⟩, hd 10 (by simp)⟩
  have := hd.tail j hj
  simpa [Nat.add_assoc] using this

theorem bodyN {w : World} {g o : Nat} {l : List Int} {lv : Int} (hlv : ¬ lv = 5) (h : Dat w g o (body l lv)) : Body w g o l lv 10 := by
  have e : body l lv = [0, 4, 77, 81, 84, 84, lv, 2, 0, 60, (l.length : Int) / 256, (l.length : Int) % 256] ++ l := by unfold body; rw [if_neg hlv]; rfl
  rw [e] at h
  refine ⟨h 0 (by simp), h 1 (by simp), h 2 (by simp), h 3 (by simp), h 4 (by simp), h 5 (by simp), h 6 (by simp), h 7 (by simp), h 8 (by simp), h 9 (by simp), h 10 (by simp), h 11 (by simp), fun j hj => ?_⟩
  have := h.tail j hj
  simpa [Nat.add_assoc] using this

theorem ids_get (s : ByteArray) (j : Nat) (h : j < s.size) (h' : j < (ids s).length) : (ids s)[j] = ((s[j]'h).toNat : Int) := by
  simp only [ids, List.getElem_map, Array.getElem_toList]; rfl

theorem own_later {w w' : World} {base : Nat} {v : Value} {n : Nat} {xs : List Value} (h : w.ownsRow base 5 1 v n xs) (hb : Below w.heap.size w w') : w'.ownsRow base 5 1 v n xs := by
  have hlt := h.lt
  obtain ⟨h1, h2⟩ := h
  refine ⟨h1, ?_⟩
  rcases h2 with h2 | ⟨g, cap, cur, hv, hg, hh, r⟩
  · exact Or.inl h2
  · exact Or.inr ⟨g, cap, cur, hv, hg, (hb.block g (hlt g (by rw [hv]; rfl)).2).trans hh, r⟩

set_option maxHeartbeats 4000000 in
set_option maxRecDepth 100000 in
theorem law5_walk (id : ByteArray) (lv : Int) (w : World) (hs : id.size ≤ maxLen) : Calls Try.prog 3 #[.string id, .int .u8 lv] w fun e w' => e = .returned (.bool true) ∧ Below w.heap.size w w' := by
  go_enter Try.func3, Try.ntmps3
  go_wp2_with fail
  refine (bytesA id lv w hs).mono ?_
  rintro e w1 ⟨rfl, rfl⟩
  unfold maxLen at hs
  by_cases hb : id.size ≤ 1048576
  case neg =>
    rw [decide_eq_false hb]
    go_wp2
    go_ret
    exact ⟨rfl, Below.refl _ _⟩
  rw [decide_eq_true hb]
  by_cases hid : id.size ≤ 65535
  case neg =>
    go_wp2
    go_ret
    exact ⟨rfl, Below.refl _ _⟩
  have hil : (ids id).length = id.size := ids_length id
  have HI : Hid ((ids id).length = id.size) := hil
  clear hil
  go_wp2_with fail
  refine (cc_any id lv w1 hid).mono ?_
  rintro e w2 ⟨v1, rfl, hown1, hb2⟩
  go_wp2_with fail
  refine (cc_any id 5 w2 hid).mono ?_
  rintro e w3 ⟨v2, rfl, hown2, hb3⟩
  have hB3 := hb2.trans (hb3.mono hb2.size)
  go_wp2_with fail
  refine (cb_any v1 (ids id) lv w1.heap.size w3 (by have := HI.out; omega) (own_later hown1 hb3)).mono ?_
  rintro e w4 ⟨g1, h1, c1, rfl, -, hg1, hgl1, hd1, hc1, rfl⟩
  go_wp2_with fail
  refine (cb_any v2 (ids id) 5 w2.heap.size w4 (by have := HI.out; omega) hown2).mono ?_
  rintro e w5 ⟨g2, h2, c2, rfl, -, hg2, hgl2, hd2, hc2, rfl⟩
  clear hown1 hown2 hb2 hb3
  have hl2 : (body (ids id) 5).length = 13 + id.size := by rw [body_length, HI.out]; rfl
  rw [hl2] at hc2 ⊢
  clear hl2
  obtain ⟨b2, q10⟩ := body5 hd2
  obtain ⟨x0, x1, x2, x3, x4, x5, x6, x7, x8, x9, xh, xl, xi⟩ := b2
  rw [HI.out] at xh xl
  have XI : Hid (∀ j (h : j < (ids id).length), w5.cell? ⟨g2, h2 + (11 + 2 + j), none⟩ = some (.int .u8 (ids id)[j])) := xi
  clear xi
  have t10 : (10 : Int) < ((13 + id.size : Nat) : Int) := by omega
  have t11 : (11 : Int) < ((13 + id.size : Nat) : Int) := by omega
  have t12 : (12 : Int) < ((13 + id.size : Nat) : Int) := by omega
  by_cases hlv : lv = 5
  · subst hlv
    have hl1 : (body (ids id) 5).length = 13 + id.size := by rw [body_length, HI.out]; rfl
    rw [hl1] at hc1 ⊢
    clear hl1
    have HD1 : Hid (Dat w5 g1 h1 (body (ids id) 5)) := hd1
    have HD2 : Hid (Dat w5 g2 h2 (body (ids id) 5)) := hd2
    clear hd1 hd2
    go_wp2_with fail
    refine (fixed_any g2 h2 (13 + id.size) c2 5 w5 (by omega) x0 x1 x2 x3 x4 x5 x6 x7 x8 x9).mono ?_
    rintro e w6 ⟨rfl, rfl⟩
    go_wp2_with fail
    clear x0 x1 x2 x3 x4 x5 x6 x7 x8 x9 xh xl q10
    go_loopw [14] (fun i wr => ∃ k : Nat, k ≤ id.size ∧ i = .int .i64 k ∧ Below w6.heap.size w6 wr) (fun i _ => id.size - (intOf i).toNat)
    case atStart => exact ⟨0, Nat.zero_le _, rfl, Below.refl _ _⟩
    case round =>
      obtain ⟨k, hk, rfl, hbr⟩ := hrel
      by_cases hlt : k < id.size
      · have hk2 : k < (ids id).length := by have := HI.out; omega
        have p1 := (hbr.cell (p := ⟨g2, h2 + (11 + 2 + k), none⟩) hgl2).trans (XI.out k hk2)
        rw [ids_get id k hlt hk2] at p1
        have r1 : (13 : Int) + (k : Int) < 13 + (id.size : Int) := by omega
        have r2 : (k : Int) < (id.size : Int) := by omega
        go_wp2
        go_quiet (fail)
        go_wp2
        go_roundw
        case rel => exact ⟨k + 1, by omega, by go_num, below_drewN hbr _⟩
        case measure => simp [intOf]; omega
      · go_wp2_with fail
        go_loopw [15] (fun i wr' => ∃ k : Nat, k ≤ 13 + id.size ∧ i = .int .i64 k ∧ Below w6.heap.size w6 wr') (fun i _ => 13 + id.size - (intOf i).toNat)
        case atStart => exact ⟨0, Nat.zero_le _, rfl, hbr⟩
        case round =>
          clear hbr
          obtain ⟨j, hj, rfl, hbr⟩ := hrel
          by_cases hlt2 : j < 13 + id.size
          · have hjl : j < (body (ids id) 5).length := by rw [body_length, HI.out]; exact hlt2
            have p1 := (hbr.cell (p := ⟨g1, h1 + j, none⟩) hgl1).trans (HD1.out j hjl)
            have p2 := (hbr.cell (p := ⟨g2, h2 + j, none⟩) hgl2).trans (HD2.out j hjl)
            obtain ⟨y, hy⟩ : ∃ y, y = (body (ids id) 5)[j] := ⟨_, rfl⟩
            rw [← hy] at p1 p2
            clear hy hjl
            have r1 : (j : Int) < 13 + (id.size : Int) := by omega
            go_wp2
            go_quiet (fail)
            go_wp2
            go_roundw
            case rel => exact ⟨j + 1, by omega, by go_num, below_drewN hbr _⟩
            case measure => simp [intOf]; omega
          · go_wp2
            go_ret
            exact ⟨rfl, hB3.trans (hbr.mono hB3.size)⟩
  · have hl1 : (body (ids id) lv).length = 12 + id.size := by rw [body_length, HI.out, if_neg hlv]
    have hlb : (lv == 5) = false := beq_eq_false_iff_ne.2 hlv
    rw [hl1] at hc1 ⊢
    clear hl1
    obtain ⟨y0, y1, y2, y3, y4, y5, y6, y7, y8, y9, yh, yl, yi⟩ := bodyN hlv hd1
    rw [HI.out] at yh yl
    have YI : Hid (∀ j (h : j < (ids id).length), w5.cell? ⟨g1, h1 + (10 + 2 + j), none⟩ = some (.int .u8 (ids id)[j])) := yi
    have YT : Hid (∀ k : Nat, 10 ≤ k → k < 12 + id.size → ∃ y, w5.cell? ⟨g1, h1 + k, none⟩ = some (.int .u8 y) ∧ w5.cell? ⟨g2, h2 + (k + 1), none⟩ = some (.int .u8 y)) := by
      intro k hk1 hk2
      by_cases e0 : k = 10
      · subst e0; exact ⟨_, yh, xh⟩
      · by_cases e1 : k = 11
        · subst e1; exact ⟨_, yl, xl⟩
        · have hk3 : k - 12 < (ids id).length := by have := HI.out; omega
          have q1 := YI.out (k - 12) hk3
          have q2 := XI.out (k - 12) hk3
          rw [show 10 + 2 + (k - 12) = k by omega] at q1
          rw [show 11 + 2 + (k - 12) = k + 1 by omega] at q2
          exact ⟨_, q1, q2⟩
    clear yi YI hd1 hd2 hlv yh yl
    go_wp2_with fail
    refine (fixed_any g2 h2 (13 + id.size) c2 5 w5 (by omega) x0 x1 x2 x3 x4 x5 x6 x7 x8 x9).mono ?_
    rintro e w6 ⟨rfl, rfl⟩
    go_wp2_with fail
    clear x0 x1 x2 x3 x4 x5 x6 x7 x8 x9 xh xl q10
    go_loopw [14] (fun i wr => ∃ k : Nat, k ≤ id.size ∧ i = .int .i64 k ∧ Below w6.heap.size w6 wr) (fun i _ => id.size - (intOf i).toNat)
    case atStart => exact ⟨0, Nat.zero_le _, rfl, Below.refl _ _⟩
    case round =>
      obtain ⟨k, hk, rfl, hbr⟩ := hrel
      by_cases hlt : k < id.size
      · clear y0 y1 y2 y3 y4 y5 y6 y7 y8 y9
        have hk2 : k < (ids id).length := by have := HI.out; omega
        have p1 := (hbr.cell (p := ⟨g2, h2 + (11 + 2 + k), none⟩) hgl2).trans (XI.out k hk2)
        rw [ids_get id k hlt hk2] at p1
        have r1 : (13 : Int) + (k : Int) < 13 + (id.size : Int) := by omega
        have r2 : (k : Int) < (id.size : Int) := by omega
        go_wp2
        go_quiet (fail)
        go_wp2
        go_roundw
        case rel => exact ⟨k + 1, by omega, by go_num, below_drewN hbr _⟩
        case measure => simp [intOf]; omega
      · have HB : Hid (Below w6.heap.size w6 wr) := hbr
        have z0 := (hbr.cell (p := ⟨g1, h1, none⟩) hgl1).trans y0
        have z1 := (hbr.cell (p := ⟨g1, h1 + 1, none⟩) hgl1).trans y1
        have z2 := (hbr.cell (p := ⟨g1, h1 + 2, none⟩) hgl1).trans y2
        have z3 := (hbr.cell (p := ⟨g1, h1 + 3, none⟩) hgl1).trans y3
        have z4 := (hbr.cell (p := ⟨g1, h1 + 4, none⟩) hgl1).trans y4
        have z5 := (hbr.cell (p := ⟨g1, h1 + 5, none⟩) hgl1).trans y5
        have z6 := (hbr.cell (p := ⟨g1, h1 + 6, none⟩) hgl1).trans y6
        have z7 := (hbr.cell (p := ⟨g1, h1 + 7, none⟩) hgl1).trans y7
        have z8 := (hbr.cell (p := ⟨g1, h1 + 8, none⟩) hgl1).trans y8
        have z9 := (hbr.cell (p := ⟨g1, h1 + 9, none⟩) hgl1).trans y9
        clear y0 y1 y2 y3 y4 y5 y6 y7 y8 y9
        go_wp2_with fail
        refine (fixed_any g1 h1 (12 + id.size) c1 lv wr (by omega) z0 z1 z2 z3 z4 z5 z6 z7 z8 z9).mono ?_
        rintro e w7 ⟨rfl, rfl⟩
        clear z0 z1 z2 z3 z4 z5 z6 z7 z8 z9
        go_wp2_with fail
        go_loopw [16] (fun i wr' => ∃ k : Nat, 10 ≤ k ∧ k ≤ 12 + id.size ∧ i = .int .i64 k ∧ Below w6.heap.size w6 wr') (fun i _ => 12 + id.size - (intOf i).toNat)
        case atStart => exact ⟨10, Nat.le_refl _, by omega, rfl, HB.out⟩
        case round =>
          clear HB hbr
          obtain ⟨j, hj0, hj, rfl, hbr⟩ := hrel
          by_cases hlt2 : j < 12 + id.size
          · obtain ⟨y, a1, a2⟩ := YT.out j hj0 hlt2
            have p1 := (hbr.cell (p := ⟨g1, h1 + j, none⟩) hgl1).trans a1
            have p2 := (hbr.cell (p := ⟨g2, h2 + (j + 1), none⟩) hgl2).trans a2
            clear a1 a2
            have r1 : (j : Int) < 12 + (id.size : Int) := by omega
            have r2 : (j : Int) + 1 < 13 + (id.size : Int) := by omega
            go_wp2
            go_quiet (fail)
            go_wp2
            go_roundw
            case rel => exact ⟨j + 1, by omega, by omega, by go_num, below_drewN hbr _⟩
            case measure => simp [intOf]; omega
          · go_wp2
            go_ret
            exact ⟨rfl, hB3.trans (hbr.mono hB3.size)⟩
end Go.Proofs.Qxb6629127a
