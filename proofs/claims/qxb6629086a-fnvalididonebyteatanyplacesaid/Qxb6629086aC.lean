import Derived.Test.Qxb6629086aA
namespace Go.Proofs.Qxb6629086a
open Go.RowKit Go.Deep Go.Lib

theorem info5 : (Try.prog.info? 5).map (fun i => (i.zero, i.size, i.bytes)) = some (some (.int .u8 0), 1, 1) := by kernel_rfl
def bc (l : List UInt8) : List Value := l.map fun b => Value.int .u8 (b.toNat : Int)
theorem bc_append (l m : List UInt8) : bc (l ++ m) = bc l ++ bc m := by simp [bc]
theorem bc_length (l : List UInt8) : (bc l).length = l.length := by simp [bc]

/-- The shape of a slice that owns its bytes, and the string made of it. -/
theorem own_shape {w : World} {base : Nat} {v : Value} {n : Nat} {l : List UInt8} (h : w.ownsRow base 5 1 v n (bc l)) (hn : 0 < n) :
    ∃ g cap, v = .slice (some ⟨g, 0, none⟩) n cap ∧ l.length = n ∧ ∀ j (hj : j < l.length), w.cell? ((⟨g, 0, none⟩ : Addr).add j) = some (.int .u8 (l[j].toNat : Int)) := by
  have hl : l.length = n := by have := h.1; rw [bc_length] at this; omega
  have h' := h
  rcases h.2 with ⟨_, h2⟩ | ⟨g, cap, cur, hv, _⟩
  · omega
  · refine ⟨g, cap, hv, hl, fun j hj => ?_⟩
    refine h'.cells (g := g) (by rw [hv]; rfl) j _ ?_
    simp [bc, hj]

theorem back_own {w : World} {base : Nat} {v : Value} {n : Nat} {l : List UInt8} (h : w.ownsRow base 5 1 v n (bc l)) (hn : 0 < n) :
    ∃ g cap t, v = .slice (some ⟨g, 0, none⟩) n cap ∧ bs t = l ∧ (convert 26 9 (.slice (some ⟨g, 0, none⟩) n cap)).run Try.prog w = .ok (.string t) w := by
  obtain ⟨g, cap, hv, hl, hc⟩ := own_shape h hn
  refine ⟨g, cap, ⟨l.toArray⟩, hv, by simp [bs], ?_⟩
  have := run_convert_bytes_back (P := Try.prog) w 26 9 5 ⟨g, 0, none⟩ cap l Try.underlying26 Try.underlying5 Try.underlying9 hc
  rw [hl] at this
  exact this

theorem fillR (p : ByteArray) (w : World) (hp : p.size ≤ 24) : Calls Try.prog 7 #[.string p] w fun e w' => ∃ s, e = .returned (.string s) ∧ bs s = bs p ++ List.replicate (24 - p.size) 48 ∧ Below w.heap.size w w' := by
  obtain ⟨i0, hi, hz0, hz1, hz2⟩ := info_parts info5
  go_enter Try.func7, Try.ntmps7
  go_wp2_with (first | (at_make; refine wpList_make_own _ rfl _ _ 26 rfl w.heap.size 5 i0 (.int .u8 0) 1 Try.underlying26 hi hz0 hz1 .i64 .i64 _ 24 rfl rfl (by omega) (by rw [hz2]; omega) (by unfold maxLen; omega) (Nat.le_refl _) ?_; intro w1 hown1 hg1) | (at_builtin; refine wpList_append_own_string _ rfl (.tmp 16) (.tmp 17) 26 9 rfl w.heap.size 5 i0 Try.underlying26 Try.underlying9 hi hz0 hz1 hz2 _ 0 [] rfl hown1 p rfl (by unfold maxLen; omega) (by omega) (by have := hg1.size; omega) ?_; intro v2 w2 hown2 hg2 _))
  have h0 : w2.ownsRow w.heap.size 5 1 v2 (p.size + 0) (bc (bs p ++ List.replicate 0 48)) := by
    have h := hown2
    simp only [Nat.zero_add, List.nil_append] at h
    simpa [bc, bs, strCells] using h
  have hB2 : Below w.heap.size w w2 := ((Below.refl _ _).grown hg1 (Nat.le_refl _) (fun k hk => by cases hk)).grown hg2 hg1.size (fun k hk => by cases hk; exact Nat.le_refl _)
  clear hown2 hg2 hown1 hg1
  go_loopw [4, 5] (fun v i wr => ∃ k : Nat, k ≤ 24 - p.size ∧ i = .int .i64 k ∧ wr.ownsRow w.heap.size 5 1 v (p.size + k) (bc (bs p ++ List.replicate k 48)) ∧ Below w.heap.size w wr) (fun _ i _ => 24 - p.size - (intOf i).toNat)
  case atStart => exact ⟨0, Nat.zero_le _, rfl, h0, hB2⟩
  case round =>
    clear h0 hB2
    rename_i v i wr
    obtain ⟨k, hk, rfl, hown, hbel⟩ := hrel
    have hsz := hbel.size
    by_cases hlt : k < 24 - p.size
    · go_wp2_with (at_builtin; refine wpList_append_own _ rfl (.tmp 24) (.tmp 25) 26 rfl w.heap.size 5 i0 (.int .u8 0) 1 1 Try.underlying26 hi hz0 hz1 hz2 rfl (by decide) _ _ _ rfl (hown.alloc _) ⟨wr.heap.size, 0, none⟩ 1 1 [.int .u8 48] rfl rfl (cell_one_new _ _ _) (by intro u hu; simp at hu; subst hu; rfl) (by unfold maxLen; omega) (by omega) (by simp; omega) ?_; intro v3 w3 hown3 hg3 _)
      go_roundw
      case rel =>
        refine ⟨k + 1, by omega, by go_num, ?_, ?_⟩
        · rw [List.replicate_succ', ← List.append_assoc, bc_append]
          exact hown3
        · exact (hbel.alloc hsz _).grown hg3 (by simp; omega) (fun g hg => (hown.lt g hg).1)
      case measure => simp [intOf]; omega
    · have hkk : k = 24 - p.size := by omega
      have h24 : p.size + k = 24 := by omega
      obtain ⟨g, cap, t, hv, ht, hcv⟩ := back_own hown (by omega)
      have HT : Hid (bs t = bs p ++ List.replicate (24 - p.size) 48) := by rw [← hkk]; exact ht
      clear ht hkk h24 hown
      subst hv
      go_wp2
      go_ret
      exact ⟨t, rfl, HT.out, hbel⟩

theorem fillL (p : ByteArray) (w : World) (hp : p.size ≤ 24) : Calls Try.prog 8 #[.string p] w fun e w' => ∃ s, e = .returned (.string s) ∧ bs s = List.replicate (24 - p.size) 48 ++ bs p ∧ Below w.heap.size w w' := by
  obtain ⟨i0, hi, hz0, hz1, hz2⟩ := info_parts info5
  go_enter Try.func8, Try.ntmps8
  go_wp2_with (first | (at_make; refine wpList_make_own _ rfl _ _ 26 rfl w.heap.size 5 i0 (.int .u8 0) 1 Try.underlying26 hi hz0 hz1 .i64 .i64 _ 24 rfl rfl (by omega) (by rw [hz2]; omega) (by unfold maxLen; omega) (Nat.le_refl _) ?_; intro w1 hown1 hg1))
  have h0 : w1.ownsRow w.heap.size 5 1 (.slice (some ⟨w.heap.size, 0, none⟩) 0 24) 0 (bc (List.replicate 0 48)) := hown1
  have hB2 : Below w.heap.size w w1 := (Below.refl _ _).grown hg1 (Nat.le_refl _) (fun k hk => by cases hk)
  clear hown1 hg1
  go_loopw [4, 5] (fun v i wr => ∃ k : Nat, k ≤ 24 - p.size ∧ i = .int .i64 k ∧ wr.ownsRow w.heap.size 5 1 v k (bc (List.replicate k 48)) ∧ Below w.heap.size w wr) (fun _ i _ => 24 - p.size - (intOf i).toNat)
  case atStart => exact ⟨0, Nat.zero_le _, rfl, h0, hB2⟩
  case round =>
    clear h0 hB2
    rename_i v i wr
    obtain ⟨k, hk, rfl, hown, hbel⟩ := hrel
    have hsz := hbel.size
    by_cases hlt : k < 24 - p.size
    · go_wp2_with (at_builtin; refine wpList_append_own _ rfl (.tmp 21) (.tmp 22) 26 rfl w.heap.size 5 i0 (.int .u8 0) 1 1 Try.underlying26 hi hz0 hz1 hz2 rfl (by decide) _ _ _ rfl (hown.alloc _) ⟨wr.heap.size, 0, none⟩ 1 1 [.int .u8 48] rfl rfl (cell_one_new _ _ _) (by intro u hu; simp at hu; subst hu; rfl) (by unfold maxLen; omega) (by omega) (by simp; omega) ?_; intro v3 w3 hown3 hg3 _)
      go_roundw
      case rel =>
        refine ⟨k + 1, by omega, by go_num, ?_, ?_⟩
        · rw [List.replicate_succ', bc_append]
          exact hown3
        · exact (hbel.alloc hsz _).grown hg3 (by simp; omega) (fun g hg => (hown.lt g hg).1)
      case measure => simp [intOf]; omega
    · have hkk : k = 24 - p.size := by omega
      have HK : Hid (k = 24 - p.size) := hkk
      clear hkk
      go_wp2_with (first | (at_builtin; refine wpList_append_own_string _ rfl (.tmp 24) (.tmp 25) 26 9 rfl w.heap.size 5 i0 Try.underlying26 Try.underlying9 hi hz0 hz1 hz2 _ _ _ rfl hown p rfl (by unfold maxLen; omega) (by omega) hsz ?_; intro v2 w2 hown2 hg2 _; have h2 : w2.ownsRow w.heap.size 5 1 v2 (k + p.size) (bc (List.replicate k 48 ++ bs p)) := (by rw [bc_append]; exact hown2); obtain ⟨g, cap, t, hv, ht, hcv⟩ := back_own h2 (by have := HK.out; omega); have HT : Hid (bs t = List.replicate (24 - p.size) 48 ++ bs p) := (by rw [← HK.out]; exact ht); have hB3 : Below w.heap.size w w2 := hbel.grown hg2 hsz (fun g hg => (hown.lt g hg).1); clear ht hown2 h2 hg2; subst hv))
      go_ret
      exact ⟨t, rfl, HT.out, hB3⟩
end Go.Proofs.Qxb6629086a
