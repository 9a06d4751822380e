import Derived.Test.Qxb6629086aD
namespace Go.Proofs.Qxb6629086a
open Go.RowKit Go.Deep Go.Lib

theorem ext_left (s : ByteArray) (n : Nat) (hn : n ≤ s.size) : (s.extract 0 n).size = n ∧ bs (s.extract 0 n) = (bs s).take n := by
  constructor
  · simp; omega
  · simp [bs]
theorem ext_right (s : ByteArray) (n : Nat) : (s.extract n s.size).size = s.size - n ∧ bs (s.extract n s.size) = (bs s).drop n := by
  constructor
  · simp
  · have h : s.data.toList.length = s.size := by simp
    simp only [bs, ByteArray.data_extract, Array.toList_extract, List.extract]
    rw [List.take_of_length_le (by simp)]

theorem valid_cut (l : List UInt8) (n : Nat) (hl : l.length = 24) (hn : n ≤ l.length) :
    valid l = (valid (l.take n ++ List.replicate (24 - n) 48) && valid (List.replicate (24 - (24 - n)) 48 ++ l.drop n)) := by
  have h48 : ∀ m, (List.replicate m (48 : UInt8)).all isHex = true := fun m => by rw [List.all_replicate]; simp; right; decide
  have e1 : (l.take n ++ List.replicate (24 - n) 48).length = 24 := by simp; omega
  have e2 : (List.replicate (24 - (24 - n)) 48 ++ l.drop n).length = 24 := by simp; omega
  have e3 : l.all isHex = ((l.take n).all isHex && (l.drop n).all isHex) := by
    conv => lhs; rw [← List.take_append_drop n l]
    rw [List.all_append]
  unfold valid
  rw [e1, e2, hl, List.all_append, List.all_append, h48, h48, e3]
  simp

set_option maxHeartbeats 800000 in
theorem law3 (s : ByteArray) (i : Int) (w : World) (hs : s.size ≤ maxLen) : Calls Try.prog 3 #[.string s, .int .i64 i] w fun e w' => e = .returned (.bool true) ∧ Below w.heap.size w w' := by
  have hs' := hs
  unfold maxLen at hs'
  go_enter Try.func3, Try.ntmps3
  go_wp2_with fail
  refine (bytesA s i w hs).mono ?_
  rintro e w1 ⟨rfl, rfl⟩
  by_cases hb : s.size ≤ 1048576
  case neg =>
    rw [decide_eq_false hb]
    go_wp2
    go_ret
    exact ⟨rfl, Below.refl _ _⟩
  rw [decide_eq_true hb]
  by_cases hi0 : i < 0
  case pos =>
    go_wp2
    go_ret
    exact ⟨rfl, Below.refl _ _⟩
  obtain ⟨n, rfl⟩ := Int.eq_ofNat_of_zero_le (show 0 ≤ i by omega)
  by_cases hn : n ≤ s.size
  case neg =>
    go_wp2
    go_ret
    exact ⟨rfl, Below.refl _ _⟩
  go_wp2_with fail
  refine (valid_any s _).mono ?_
  rintro e w2 ⟨rfl, hb2⟩
  by_cases h24 : s.size = 24
  · have hlb : ((s.size : Int) == 24) = true := by simp; omega
    have H24 : Hid (s.size = 24) := h24
    clear h24
    have HP : Hid ((s.extract 0 n).size = n ∧ bs (s.extract 0 n) = (bs s).take n) := ext_left s n hn
    have HQ : Hid ((s.extract n s.size).size = s.size - n ∧ bs (s.extract n s.size) = (bs s).drop n) := ext_right s n
    go_wp2_with fail
    refine (fillR (s.extract 0 n) _ (by have := HP.out.1; have := H24.out; omega)).mono ?_
    rintro e w3 ⟨t1, rfl, ht1, hb3⟩
    rw [HP.out.1, HP.out.2] at ht1
    have HT1 : Hid (bs t1 = (bs s).take n ++ List.replicate (24 - n) 48) := ht1
    clear ht1
    go_wp2_with fail
    refine (valid_any t1 _).mono ?_
    rintro e w4 ⟨rfl, hb4⟩
    go_wp2_with fail
    refine (fillL (s.extract n s.size) _ (by have := HQ.out.1; have := H24.out; omega)).mono ?_
    rintro e w5 ⟨t2, rfl, ht2, hb5⟩
    rw [HQ.out.1, HQ.out.2, H24.out] at ht2
    have HT2 : Hid (bs t2 = List.replicate (24 - (24 - n)) 48 ++ (bs s).drop n) := ht2
    clear ht2
    go_wp2_with fail
    refine (valid_any t2 _).mono ?_
    rintro e w6 ⟨rfl, hb6⟩
    have HV : Hid (valid (bs s) = (valid (bs t1) && valid (bs t2))) := by
      show _ = _
      rw [HT1.out, HT2.out]
      exact valid_cut (bs s) n (by rw [bs_length]; exact H24.out) (by rw [bs_length]; exact hn)
    have hB6 : Below w1.heap.size w1 w6 := hb2.trans ((hb3.trans ((hb4.trans ((hb5.trans (hb6.mono hb5.size)).mono hb4.size)).mono hb3.size)).mono hb2.size)
    clear hb2 hb3 hb4 hb5 hb6 HT1 HT2 HP HQ H24
    cases hv1 : valid (bs t1)
    all_goals
      cases hv2 : valid (bs t2)
      all_goals
        have hg := HV.out
        rw [hv1, hv2] at hg
        simp only [Bool.and_true, Bool.and_false] at hg
        rw [hg]
        clear hg HV hv1 hv2
        go_wp2_with fail
        refine (hex12 s _).mono ?_
        rintro e w7 ⟨t3, rfl, ht3, hb7⟩
        have h6 := valid_any t3 w7
        rw [ht3] at h6
        go_wp2_with fail
        refine h6.mono ?_
        clear h6
        rintro e w8 ⟨rfl, hb8⟩
        go_wp2
        go_ret
        exact ⟨rfl, hB6.trans ((hb7.trans (hb8.mono hb7.size)).mono hB6.size)⟩
  · have hlb : ((s.size : Int) == 24) = false := by simp; omega
    have hv : valid (bs s) = false := by simp [valid, bs_length, h24]
    rw [hv]
    clear hv
    go_wp2_with fail
    refine (hex12 s _).mono ?_
    rintro e w7 ⟨t3, rfl, ht3, hb7⟩
    have h6 := valid_any t3 w7
    rw [ht3] at h6
    go_wp2_with fail
    refine h6.mono ?_
    clear h6
    rintro e w8 ⟨rfl, hb8⟩
    go_wp2
    go_ret
    exact ⟨rfl, hb2.trans ((hb7.trans (hb8.mono hb7.size)).mono hb2.size)⟩
end Go.Proofs.Qxb6629086a
