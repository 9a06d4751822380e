import Derived.Test.Qxb6629127aD
import Derived.Laws.Concat
namespace Go.Proofs.Qxb6629127a
open Go.RowKit Go.Deep Go.Lib

theorem bytesB (s t : ByteArray) (lv : Int) (w : World) (hs : s.size ≤ maxLen) (ht : t.size ≤ maxLen) : Calls Try.prog 9 #[.string s, .string t, .int .u8 lv] w fun e w' => e = .returned (.bool (decide (s.size ≤ 1048576 ∧ t.size ≤ 1048576 ∧ s.size + t.size ≤ 1048576))) ∧ w' = w := by
  unfold maxLen at hs ht
  by_cases h : s.size ≤ 1048576
  · by_cases h2 : t.size ≤ 1048576
    · by_cases h3 : s.size + t.size ≤ 1048576
      · rw [decide_eq_true ⟨h, h2, h3⟩]
        go_enter Try.func9, Try.ntmps9
        go_wp2
        go_ret
        exact ⟨rfl, rfl⟩
      · rw [decide_eq_false (fun hh => h3 hh.2.2)]
        go_enter Try.func9, Try.ntmps9
        go_wp2
        go_ret
        exact ⟨rfl, rfl⟩
    · rw [decide_eq_false (fun hh => h2 hh.2.1)]
      go_enter Try.func9, Try.ntmps9
      go_wp2
      go_ret
      exact ⟨rfl, rfl⟩
  · rw [decide_eq_false (fun hh => h hh.1)]
    go_enter Try.func9, Try.ntmps9
    go_wp2
    go_ret
    exact ⟨rfl, rfl⟩

theorem vi_len (x : Int) : (vi x).length = if x < 128 then 1 else if x < 16384 then 2 else 3 := by
  unfold vi
  split
  · rfl
  · split <;> rfl
theorem vi_mono (x y : Int) (h : x ≤ y) : (vi x).length ≤ (vi y).length := by
  rw [vi_len, vi_len]
  by_cases a1 : x < 128
  · rw [if_pos a1]; split
    · omega
    · split <;> omega
  · rw [if_neg a1, if_neg (show ¬ y < 128 by omega)]
    by_cases a2 : x < 16384
    · rw [if_pos a2]; split <;> omega
    · rw [if_neg a2, if_neg (show ¬ y < 16384 by omega)]; exact Nat.le_refl _

/-- The head of a body. -/
def pre (lv : Int) : List Int := [0, 4, 77, 81, 84, 84] ++ [lv, 2, 0, 60] ++ (if lv = 5 then [0] else [])
theorem body_pre (l : List Int) (lv : Int) : body l lv = pre lv ++ ([(l.length : Int) / 256, (l.length : Int) % 256] ++ l) := by
  simp [body, pre]
theorem pre_length (lv : Int) : (pre lv).length = if lv = 5 then 11 else 10 := by
  unfold pre
  split <;> rfl
theorem Dat.head {w : World} {g o : Nat} {l m : List Int} (h : Dat w g o (l ++ m)) : Dat w g o l := by
  intro j hj
  have h1 := h j (by simp; omega)
  rwa [List.getElem_append_left hj] at h1

theorem ids_append (a b : ByteArray) : ids (a ++ b) = ids a ++ ids b := by simp [ids]

theorem body_any {w : World} {g o : Nat} {l : List Int} {lv : Int} {k : Nat} (hk : k = if lv = 5 then 11 else 10) (h : Dat w g o (body l lv)) : Body w g o l lv k := by
  by_cases e : lv = 5
  · subst e; subst hk; exact (body5 h).1
  · rw [if_neg e] at hk; subst hk; exact bodyN e h

theorem cat_left (a b : ByteArray) (j : Nat) (h : j < a.size) (h' : j < (ids (a ++ b)).length) : (ids (a ++ b))[j] = ((a[j]'h).toNat : Int) := by
  have h1 : j < (ids a).length := by rw [ids_length]; exact h
  rw [← ids_get a j h h1]
  simp only [ids_append]
  exact List.getElem_append_left h1
theorem cat_right (a b : ByteArray) (j : Nat) (h : j < b.size) (h' : a.size + j < (ids (a ++ b)).length) : (ids (a ++ b))[a.size + j] = ((b[j]'h).toNat : Int) := by
  have h1 : j < (ids b).length := by rw [ids_length]; exact h
  rw [← ids_get b j h h1]
  simp only [ids_append]
  rw [List.getElem_append_right (by rw [ids_length]; omega)]
  simp [ids_length]

set_option maxHeartbeats 4000000 in
set_option maxRecDepth 100000 in
theorem law6_walk (id s : ByteArray) (lv : Int) (w : World) (hs : id.size ≤ maxLen) (ht : s.size ≤ maxLen) : Calls Try.prog 4 #[.string id, .string s, .int .u8 lv] w fun e w' => e = .returned (.bool true) ∧ Below w.heap.size w w' := by
  go_enter Try.func4, Try.ntmps4
  go_wp2_with fail
  refine (bytesB id s lv w hs ht).mono ?_
  rintro e w1 ⟨rfl, rfl⟩
  unfold maxLen at hs ht
  by_cases hb : id.size ≤ 1048576 ∧ s.size ≤ 1048576 ∧ id.size + s.size ≤ 1048576
  case neg =>
    rw [decide_eq_false hb]
    go_wp2
    go_ret
    exact ⟨rfl, Below.refl _ _⟩
  rw [decide_eq_true hb]
  clear hb
  by_cases hid : id.size ≤ 65535
  case neg =>
    go_wp2
    go_ret
    exact ⟨rfl, Below.refl _ _⟩
  by_cases hsd : s.size ≤ 65535
  case neg =>
    go_wp2
    go_ret
    exact ⟨rfl, Below.refl _ _⟩
  by_cases hsum : id.size + s.size ≤ 65535
  case neg =>
    go_wp2
    go_ret
    exact ⟨rfl, Below.refl _ _⟩
  go_wp2_with fail
  refine (cc_any id lv w1 hid).mono ?_
  rintro e w2 ⟨v1, rfl, hown1, hb2⟩
  have hid2 : (id ++ s).size ≤ 65535 := by rw [ByteArray.size_append]; exact hsum
  go_wp2_with fail
  refine (cc_any (id ++ s) lv w2 hid2).mono ?_
  rintro e w3 ⟨v2, rfl, hown2, hb3⟩
  have hB3 := hb2.trans (hb3.mono hb2.size)
  have HI : Hid ((ids id).length = id.size) := ids_length id
  have HJ : Hid ((ids (id ++ s)).length = id.size + s.size) := by show _ = _; rw [ids_length, ByteArray.size_append]
  clear hid2
  go_wp2_with fail
  refine (cb_any v1 (ids id) lv w1.heap.size w3 (by have := HI.out; omega) (own_later hown1 hb3)).mono ?_
  rintro e w4 ⟨g1, h1, c1, rfl, hh1, hg1, hgl1, hd1, hc1, rfl⟩
  have HH1 : Hid (h1 = 1 + (vi ((body (ids id) lv).length : Int)).length) := hh1
  clear hh1
  go_wp2_with fail
  refine (cb_any v2 (ids (id ++ s)) lv w2.heap.size w4 (by have := HJ.out; omega) hown2).mono ?_
  rintro e w5 ⟨g2, h2, c2, rfl, hh2, hg2, hgl2, hd2, hc2, rfl⟩
  have hle : h1 ≤ h2 := by
    have := HH1.out
    have := vi_mono ((body (ids id) lv).length : Int) ((body (ids (id ++ s)) lv).length : Int) (by rw [body_length, body_length, HI.out, HJ.out]; split <;> omega)
    omega
  clear hh2 HH1 hown1 hown2 hb2 hb3
  by_cases hlv : lv = 5
  · have HK : Hid (11 = if lv = 5 then 11 else 10) := by show _ = _; rw [if_pos hlv]
    have hlb : (lv == 5) = true := by simp [hlv]
    have hl1 : (body (ids id) lv).length = 13 + id.size := by rw [body_length, HI.out, if_pos hlv]
    have hl2 : (body (ids (id ++ s)) lv).length = 13 + (id.size + s.size) := by rw [body_length, HJ.out, if_pos hlv]
    rw [hl1] at hc1 ⊢
    rw [hl2] at hc2 ⊢
    clear hl1 hl2
    have HP : Hid (∀ k : Nat, k < 11 → ∃ y, w5.cell? ⟨g1, h1 + k, none⟩ = some (.int .u8 y) ∧ w5.cell? ⟨g2, h2 + k, none⟩ = some (.int .u8 y)) := by
      intro k hk
      have p1 : Dat w5 g1 h1 (pre lv) := by have h := hd1; rw [body_pre] at h; exact h.head
      have p2 : Dat w5 g2 h2 (pre lv) := by have h := hd2; rw [body_pre] at h; exact h.head
      have hkl : k < (pre lv).length := by rw [pre_length, ← HK.out]; exact hk
      exact ⟨_, p1 k hkl, p2 k hkl⟩
    obtain ⟨x0, x1, x2, x3, x4, x5, x6, x7, x8, x9, xh, xl, xi⟩ := body_any HK.out hd1
    obtain ⟨-, -, -, -, -, -, -, -, -, -, yh, yl, yi⟩ := body_any HK.out hd2
    rw [HI.out] at xh xl
    rw [HJ.out] at yh yl
    have XI : Hid (∀ j (h : j < (ids id).length), w5.cell? ⟨g1, h1 + (11 + 2 + j), none⟩ = some (.int .u8 (ids id)[j])) := xi
    have YI : Hid (∀ j (h : j < (ids (id ++ s)).length), w5.cell? ⟨g2, h2 + (11 + 2 + j), none⟩ = some (.int .u8 (ids (id ++ s))[j])) := yi
    clear xi yi hd1 hd2 hlv HK
    have eN : (((id.size + s.size : Nat) : Int)) = (id.size : Int) + (s.size : Int) := by omega
    rw [eN] at yh yl
    clear eN
    go_wp2_with fail
    refine (fixed_any g1 h1 (13 + id.size) c1 lv w5 (by omega) x0 x1 x2 x3 x4 x5 x6 x7 x8 x9).mono ?_
    rintro e w6 ⟨rfl, rfl⟩
    clear x0 x1 x2 x3 x4 x5 x6 x7 x8 x9
    go_wp2_with fail
    go_loopw [16] (fun i wr => ∃ k : Nat, k ≤ 11 ∧ i = .int .i64 k ∧ Below w6.heap.size w6 wr) (fun i _ => 11 - (intOf i).toNat)
    case atStart => exact ⟨0, Nat.zero_le _, rfl, Below.refl _ _⟩
    case round =>
      obtain ⟨k, hk, rfl, hbr⟩ := hrel
      by_cases hlt : k < 11
      · obtain ⟨y, a1, a2⟩ := HP.out k hlt
        have p1 := (hbr.cell (p := ⟨g1, h1 + k, none⟩) hgl1).trans a1
        have p2 := (hbr.cell (p := ⟨g2, h2 + k, none⟩) hgl2).trans a2
        clear a1 a2 xh xl yh yl
        have r1 : (k : Int) < 13 + (id.size : Int) := by omega
        have r2 : (k : Int) < 13 + ((id.size : Int) + (s.size : Int)) := by omega
        go_wp2
        go_quiet (fail)
        go_wp2
        go_roundw
        case rel => exact ⟨k + 1, by omega, by go_num, below_drewN hbr _⟩
        case measure => simp [intOf]; omega
      · have p1 := (hbr.cell (p := ⟨g1, h1 + 11, none⟩) hgl1).trans xh
        have p2 := (hbr.cell (p := ⟨g1, h1 + (11 + 1), none⟩) hgl1).trans xl
        have p3 := (hbr.cell (p := ⟨g2, h2 + 11, none⟩) hgl2).trans yh
        have p4 := (hbr.cell (p := ⟨g2, h2 + (11 + 1), none⟩) hgl2).trans yl
        clear xh xl yh yl
        go_wp2_with fail
        clear p1 p2 p3 p4 HP
        go_loopw [18] (fun i wr' => ∃ k : Nat, k ≤ id.size ∧ i = .int .i64 k ∧ Below w6.heap.size w6 wr') (fun i _ => id.size - (intOf i).toNat)
        case atStart => exact ⟨0, Nat.zero_le _, rfl, hbr⟩
        case round =>
          clear hbr
          obtain ⟨j, hj, rfl, hbr⟩ := hrel
          by_cases hlt : j < id.size
          · have p1 := (hbr.cell (p := ⟨g1, h1 + (11 + 2 + j), none⟩) hgl1).trans (XI.out j (by rw [HI.out]; exact hlt))
            have p2 := (hbr.cell (p := ⟨g2, h2 + (11 + 2 + j), none⟩) hgl2).trans (YI.out j (by rw [HJ.out]; omega))
            rw [ids_get id j hlt] at p1
            rw [cat_left id s j hlt] at p2
            have r1 : (13 : Int) + (j : Int) < 13 + (id.size : Int) := by omega
            have r2 : (13 : Int) + (j : Int) < 13 + ((id.size : Int) + (s.size : Int)) := by omega
            go_wp2
            go_quiet (fail)
            go_wp2
            go_roundw
            case rel => exact ⟨j + 1, by omega, by go_num, below_drewN hbr _⟩
            case measure => simp [intOf]; omega
          · go_wp2_with fail
            go_loopw [19] (fun i wr' => ∃ k : Nat, k ≤ s.size ∧ i = .int .i64 k ∧ Below w6.heap.size w6 wr') (fun i _ => s.size - (intOf i).toNat)
            case atStart => exact ⟨0, Nat.zero_le _, rfl, hbr⟩
            case round =>
              clear hbr
              obtain ⟨i, hi, rfl, hbr⟩ := hrel
              by_cases hlt2 : i < s.size
              · have p2 := (hbr.cell (p := ⟨g2, h2 + (11 + 2 + (id.size + i)), none⟩) hgl2).trans (YI.out (id.size + i) (by rw [HJ.out]; omega))
                rw [cat_right id s i hlt2] at p2
                have r2 : (13 : Int) + (id.size : Int) + (i : Int) < 13 + ((id.size : Int) + (s.size : Int)) := by omega
                have p3 := p2
                rw [show 11 + 2 + (id.size + i) = 13 + id.size + i from (Nat.add_assoc _ _ _).symm] at p3
                go_wp2
                go_quiet (fail)
                go_wp2
                go_roundw
                case rel => exact ⟨i + 1, by omega, by go_num, below_drewN hbr _⟩
                case measure => simp [intOf]; omega
              · go_wp2
                go_ret
                exact ⟨rfl, hB3.trans (hbr.mono hB3.size)⟩
  · have HK : Hid (10 = if lv = 5 then 11 else 10) := by show _ = _; rw [if_neg hlv]
    have hlb : (lv == 5) = false := by simp [hlv]
    have hl1 : (body (ids id) lv).length = 12 + id.size := by rw [body_length, HI.out, if_neg hlv]
    have hl2 : (body (ids (id ++ s)) lv).length = 12 + (id.size + s.size) := by rw [body_length, HJ.out, if_neg hlv]
    rw [hl1] at hc1 ⊢
    rw [hl2] at hc2 ⊢
    clear hl1 hl2
    have HP : Hid (∀ k : Nat, k < 10 → ∃ y, w5.cell? ⟨g1, h1 + k, none⟩ = some (.int .u8 y) ∧ w5.cell? ⟨g2, h2 + k, none⟩ = some (.int .u8 y)) := by
      intro k hk
      have p1 : Dat w5 g1 h1 (pre lv) := by have h := hd1; rw [body_pre] at h; exact h.head
      have p2 : Dat w5 g2 h2 (pre lv) := by have h := hd2; rw [body_pre] at h; exact h.head
      have hkl : k < (pre lv).length := by rw [pre_length, ← HK.out]; exact hk
      exact ⟨_, p1 k hkl, p2 k hkl⟩
    obtain ⟨x0, x1, x2, x3, x4, x5, x6, x7, x8, x9, xh, xl, xi⟩ := body_any HK.out hd1
    obtain ⟨-, -, -, -, -, -, -, -, -, -, yh, yl, yi⟩ := body_any HK.out hd2
    rw [HI.out] at xh xl
    rw [HJ.out] at yh yl
    have XI : Hid (∀ j (h : j < (ids id).length), w5.cell? ⟨g1, h1 + (10 + 2 + j), none⟩ = some (.int .u8 (ids id)[j])) := xi
    have YI : Hid (∀ j (h : j < (ids (id ++ s)).length), w5.cell? ⟨g2, h2 + (10 + 2 + j), none⟩ = some (.int .u8 (ids (id ++ s))[j])) := yi
    clear xi yi hd1 hd2 hlv HK
    have eN : (((id.size + s.size : Nat) : Int)) = (id.size : Int) + (s.size : Int) := by omega
    rw [eN] at yh yl
    clear eN
    go_wp2_with fail
    refine (fixed_any g1 h1 (12 + id.size) c1 lv w5 (by omega) x0 x1 x2 x3 x4 x5 x6 x7 x8 x9).mono ?_
    rintro e w6 ⟨rfl, rfl⟩
    clear x0 x1 x2 x3 x4 x5 x6 x7 x8 x9
    go_wp2_with fail
    go_loopw [16] (fun i wr => ∃ k : Nat, k ≤ 10 ∧ i = .int .i64 k ∧ Below w6.heap.size w6 wr) (fun i _ => 10 - (intOf i).toNat)
    case atStart => exact ⟨0, Nat.zero_le _, rfl, Below.refl _ _⟩
    case round =>
      obtain ⟨k, hk, rfl, hbr⟩ := hrel
      by_cases hlt : k < 10
      · obtain ⟨y, a1, a2⟩ := HP.out k hlt
        have p1 := (hbr.cell (p := ⟨g1, h1 + k, none⟩) hgl1).trans a1
        have p2 := (hbr.cell (p := ⟨g2, h2 + k, none⟩) hgl2).trans a2
        clear a1 a2 xh xl yh yl
        have r1 : (k : Int) < 12 + (id.size : Int) := by omega
        have r2 : (k : Int) < 12 + ((id.size : Int) + (s.size : Int)) := by omega
        go_wp2
        go_quiet (fail)
        go_wp2
        go_roundw
        case rel => exact ⟨k + 1, by omega, by go_num, below_drewN hbr _⟩
        case measure => simp [intOf]; omega
      · have p1 := (hbr.cell (p := ⟨g1, h1 + 10, none⟩) hgl1).trans xh
        have p2 := (hbr.cell (p := ⟨g1, h1 + (10 + 1), none⟩) hgl1).trans xl
        have p3 := (hbr.cell (p := ⟨g2, h2 + 10, none⟩) hgl2).trans yh
        have p4 := (hbr.cell (p := ⟨g2, h2 + (10 + 1), none⟩) hgl2).trans yl
        clear xh xl yh yl
        go_wp2_with fail
        clear p1 p2 p3 p4 HP
        go_loopw [18] (fun i wr' => ∃ k : Nat, k ≤ id.size ∧ i = .int .i64 k ∧ Below w6.heap.size w6 wr') (fun i _ => id.size - (intOf i).toNat)
        case atStart => exact ⟨0, Nat.zero_le _, rfl, hbr⟩
        case round =>
          clear hbr
          obtain ⟨j, hj, rfl, hbr⟩ := hrel
          by_cases hlt : j < id.size
          · have p1 := (hbr.cell (p := ⟨g1, h1 + (10 + 2 + j), none⟩) hgl1).trans (XI.out j (by rw [HI.out]; exact hlt))
            have p2 := (hbr.cell (p := ⟨g2, h2 + (10 + 2 + j), none⟩) hgl2).trans (YI.out j (by rw [HJ.out]; omega))
            rw [ids_get id j hlt] at p1
            rw [cat_left id s j hlt] at p2
            have r1 : (12 : Int) + (j : Int) < 12 + (id.size : Int) := by omega
            have r2 : (12 : Int) + (j : Int) < 12 + ((id.size : Int) + (s.size : Int)) := by omega
            go_wp2
            go_quiet (fail)
            go_wp2
            go_roundw
            case rel => exact ⟨j + 1, by omega, by go_num, below_drewN hbr _⟩
            case measure => simp [intOf]; omega
          · go_wp2_with fail
            go_loopw [19] (fun i wr' => ∃ k : Nat, k ≤ s.size ∧ i = .int .i64 k ∧ Below w6.heap.size w6 wr') (fun i _ => s.size - (intOf i).toNat)
            case atStart => exact ⟨0, Nat.zero_le _, rfl, hbr⟩
            case round =>
              clear hbr
              obtain ⟨i, hi, rfl, hbr⟩ := hrel
              by_cases hlt2 : i < s.size
              · have p2 := (hbr.cell (p := ⟨g2, h2 + (10 + 2 + (id.size + i)), none⟩) hgl2).trans (YI.out (id.size + i) (by rw [HJ.out]; omega))
                rw [cat_right id s i hlt2] at p2
                have r2 : (12 : Int) + (id.size : Int) + (i : Int) < 12 + ((id.size : Int) + (s.size : Int)) := by omega
                have p3 := p2
                rw [show 10 + 2 + (id.size + i) = 12 + id.size + i from (Nat.add_assoc _ _ _).symm] at p3
                go_wp2
                go_quiet (fail)
                go_wp2
                go_roundw
                case rel => exact ⟨i + 1, by omega, by go_num, below_drewN hbr _⟩
                case measure => simp [intOf]; omega
              · go_wp2
                go_ret
                exact ⟨rfl, hB3.trans (hbr.mono hB3.size)⟩
end Go.Proofs.Qxb6629127a
