import Derived.Test.Qxb6629086aB
import Derived.Test.Qxb6629086aC
namespace Go.Proofs.Qxb6629086a
open Go.RowKit Go.Deep Go.Lib

theorem hex12 (s : ByteArray) (w : World) : Calls Try.prog 9 #[.string s] w fun e w' => ∃ t, e = .returned (.string t) ∧ valid (bs t) = true ∧ Below w.heap.size w w' := by
  obtain ⟨i0, hi, hz0, hz1, hz2⟩ := info_parts info5
  go_enter Try.func9, Try.ntmps9
  go_wp2_with (first | (at_make; refine wpList_make_own _ rfl _ _ 26 rfl w.heap.size 5 i0 (.int .u8 0) 1 Try.underlying26 hi hz0 hz1 .i64 .i64 _ 24 rfl rfl (by rfl) (by rw [hz2]; omega) (by unfold maxLen; omega) (Nat.le_refl _) ?_; intro w1 hown1 hg1))
  have h0 : w1.ownsRow w.heap.size 5 1 (.slice (some ⟨w.heap.size, 0, none⟩) 0 24) (2 * 0) (bc []) := hown1
  have hB2 : Below w.heap.size w w1 := (Below.refl _ _).grown hg1 (Nat.le_refl _) (fun k hk => by cases hk)
  clear hown1 hg1
  go_loopw [3, 4] (fun v i wr => ∃ k : Nat, k ≤ 12 ∧ i = .int .i64 k ∧ ∃ L : List UInt8, L.length = 2 * k ∧ L.all isHex = true ∧ wr.ownsRow w.heap.size 5 1 v (2 * k) (bc L) ∧ Below w.heap.size w wr) (fun _ i _ => 12 - (intOf i).toNat)
  case atStart => exact ⟨0, Nat.zero_le _, rfl, [], rfl, rfl, h0, hB2⟩
  case round =>
    clear h0 hB2
    rename_i v i wr
    obtain ⟨k, hk, rfl, L, hLl, hLx, hown, hbel⟩ := hrel
    have HL : Hid (L.length = 2 * k ∧ L.all isHex = true) := ⟨hLl, hLx⟩
    clear hLl hLx
    have hsz := hbel.size
    by_cases hlt : k < 12
    · by_cases hks : k < s.size
      · have hb0 : s[k].toNat < 256 := UInt8.toNat_lt _
        have hq1 : s[k].toNat / 16 < 16 := by omega
        have hq2 : (s[k].toNat : Int) / 16 < 16 := by omega
        have hq3 : s[k].toNat % 16 < 16 := by omega
        go_wp2_with (first | (at_builtin; refine wpList_append_own _ rfl (.tmp 18) (.tmp 22) 26 rfl w.heap.size 5 i0 (.int .u8 0) 1 1 Try.underlying26 hi hz0 hz1 hz2 rfl (by decide) _ _ _ rfl (hown.alloc _) ⟨wr.heap.size, 0, none⟩ 1 1 _ rfl (by rfl) (cell_one_new _ _ _) (by intro u hu; simp at hu; subst hu; rfl) (by unfold maxLen; omega) (by omega) (by simp; omega) ?_; intro v3 w3 hown3 hg3 _; have hz3 := hg3.size; rw [World.size_alloc] at hz3) | (at_builtin; refine wpList_append_own _ rfl (.tmp 24) (.tmp 28) 26 rfl w.heap.size 5 i0 (.int .u8 0) 1 1 Try.underlying26 hi hz0 hz1 hz2 rfl (by decide) _ _ _ rfl (hown3.alloc _) ⟨w3.heap.size, 0, none⟩ 1 1 _ rfl (by rfl) (cell_one_new _ _ _) (by intro u hu; simp at hu; subst hu; rfl) (by unfold maxLen; omega) (by omega) (by simp; omega) ?_; intro v4 w4 hown4 hg4 _))
        go_roundw
        case rel =>
          have hB3 : Below w.heap.size w w3 := (hbel.alloc hsz _).grown hg3 (by simp; omega) (fun g hg => (hown.lt g hg).1)
          refine ⟨k + 1, by omega, by go_num, L ++ [hl[s[k].toNat / 16]'hq1] ++ [hl[s[k].toNat % 16]'hq3], ?_, ?_, ?_, ?_⟩
          · have := HL.out.1; simp; omega
          · rw [List.all_append, List.all_append, HL.out.2]; simp [hl_hex ⟨_, hq1⟩, hl_hex ⟨_, hq3⟩]
          · rw [bc_append, bc_append, show 2 * (k + 1) = 2 * k + 1 + 1 by omega]
            exact hown4
          · exact (hB3.alloc hB3.size _).grown hg4 (by simp; omega) (fun g hg => (hown3.lt g hg).1)
        case measure => simp [intOf]; omega
      · have h48 : isHex 48 = true := by decide
        go_wp2_with (first | (at_builtin; refine wpList_append_own _ rfl (.tmp 18) (.tmp 22) 26 rfl w.heap.size 5 i0 (.int .u8 0) 1 1 Try.underlying26 hi hz0 hz1 hz2 rfl (by decide) _ _ _ rfl (hown.alloc _) ⟨wr.heap.size, 0, none⟩ 1 1 _ rfl (by rfl) (cell_one_new _ _ _) (by intro u hu; simp at hu; subst hu; rfl) (by unfold maxLen; omega) (by omega) (by simp; omega) ?_; intro v3 w3 hown3 hg3 _; have hz3 := hg3.size; rw [World.size_alloc] at hz3) | (at_builtin; refine wpList_append_own _ rfl (.tmp 24) (.tmp 28) 26 rfl w.heap.size 5 i0 (.int .u8 0) 1 1 Try.underlying26 hi hz0 hz1 hz2 rfl (by decide) _ _ _ rfl (hown3.alloc _) ⟨w3.heap.size, 0, none⟩ 1 1 _ rfl (by rfl) (cell_one_new _ _ _) (by intro u hu; simp at hu; subst hu; rfl) (by unfold maxLen; omega) (by omega) (by simp; omega) ?_; intro v4 w4 hown4 hg4 _))
        go_roundw
        case rel =>
          have hB3 : Below w.heap.size w w3 := (hbel.alloc hsz _).grown hg3 (by simp; omega) (fun g hg => (hown.lt g hg).1)
          refine ⟨k + 1, by omega, by go_num, L ++ [48] ++ [48], ?_, ?_, ?_, ?_⟩
          · have := HL.out.1; simp; omega
          · rw [List.all_append, List.all_append, HL.out.2]; rfl
          · rw [bc_append, bc_append, show 2 * (k + 1) = 2 * k + 1 + 1 by omega]
            exact hown4
          · exact (hB3.alloc hB3.size _).grown hg4 (by simp; omega) (fun g hg => (hown3.lt g hg).1)
        case measure => simp [intOf]; omega
    · obtain ⟨g, cap, t, hv, ht, hcv⟩ := back_own hown (by omega)
      have HT : Hid (valid (bs t) = true) := by
        have h1 := HL.out
        rw [ht]
        simp only [Hid, valid, h1.2, Bool.and_true, decide_eq_true_eq]
        omega
      clear ht hown
      subst hv
      go_wp2
      go_ret
      exact ⟨t, rfl, HT.out, hbel⟩

theorem bytesA (s : ByteArray) (i : Int) (w : World) (hs : s.size ≤ maxLen) : Calls Try.prog 5 #[.string s, .int .i64 i] w fun e w' => e = .returned (.bool (decide (s.size ≤ 1048576))) ∧ w' = w := by
  unfold maxLen at hs
  by_cases h : s.size ≤ 1048576
  · rw [decide_eq_true h]
    go_enter Try.func5, Try.ntmps5
    go_wp2
    go_ret
    exact ⟨rfl, rfl⟩
  · rw [decide_eq_false h]
    go_enter Try.func5, Try.ntmps5
    go_wp2
    go_ret
    exact ⟨rfl, rfl⟩
theorem bytesB (s : ByteArray) (i c : Int) (w : World) (hs : s.size ≤ maxLen) : Calls Try.prog 10 #[.string s, .int .i64 i, .int .u8 c] w fun e w' => e = .returned (.bool (decide (s.size ≤ 1048576))) ∧ w' = w := by
  unfold maxLen at hs
  by_cases h : s.size ≤ 1048576
  · rw [decide_eq_true h]
    go_enter Try.func10, Try.ntmps10
    go_wp2
    go_ret
    exact ⟨rfl, rfl⟩
  · rw [decide_eq_false h]
    go_enter Try.func10, Try.ntmps10
    go_wp2
    go_ret
    exact ⟨rfl, rfl⟩
end Go.Proofs.Qxb6629086a
