import Derived.Test.Qxb6629086aA
namespace Go.Proofs.Qxb6629086a
open Go.RowKit Go.Deep

/-- The sixteen digits. -/
def hl : List UInt8 := [48, 49, 50, 51, 52, 53, 54, 55, 56, 57, 97, 98, 99, 100, 101, 102]
theorem hl_get (k : Nat) (h : k < 16) (h' : k < ({ data := #[48, 49, 50, 51, 52, 53, 54, 55, 56, 57, 97, 98, 99, 100, 101, 102] } : ByteArray).size) : ({ data := #[48, 49, 50, 51, 52, 53, 54, 55, 56, 57, 97, 98, 99, 100, 101, 102] } : ByteArray)[k]'h' = hl[k]'h := rfl
theorem hl_hex : ∀ k : Fin 16, isHex (hl[k.1]'k.2) = true := by decide
theorem hl_lo : ∀ k : Fin 10, (hl[k.1]'(Nat.lt_trans k.2 (by decide))).toNat = 48 + k.1 := by decide
theorem hl_hi : ∀ k : Fin 6, (hl[10 + k.1]'(Nat.add_lt_add_left k.2 10)).toNat = 97 + k.1 := by decide
theorem hex_found {b : UInt8} {k : Nat} (h : k < 16) (h' : k < ({ data := #[48, 49, 50, 51, 52, 53, 54, 55, 56, 57, 97, 98, 99, 100, 101, 102] } : ByteArray).size) (e : (((({ data := #[48, 49, 50, 51, 52, 53, 54, 55, 56, 57, 97, 98, 99, 100, 101, 102] } : ByteArray)[k]'h').toNat : Int) == (b.toNat : Int)) = true) : isHex b = true := by
  rw [hl_get k h h', beq_iff_eq] at e
  have : hl[k]'h = b := UInt8.toNat_inj.1 (by omega)
  rw [← this]
  exact hl_hex ⟨k, h⟩
theorem hex_none {b : UInt8} (h : ∀ k (h : k < 16), hl[k]'h ≠ b) : isHex b = false := by
  rw [Bool.eq_false_iff]
  intro hx
  simp only [isHex, Bool.or_eq_true, Bool.and_eq_true, decide_eq_true_eq, UInt8.le_iff_toNat_le] at hx
  have e48 : (48 : UInt8).toNat = 48 := rfl
  have e57 : (57 : UInt8).toNat = 57 := rfl
  have e97 : (97 : UInt8).toNat = 97 := rfl
  have e102 : (102 : UInt8).toNat = 102 := rfl
  rw [e48, e57, e97, e102] at hx
  rcases hx with ⟨h1, h2⟩ | ⟨h1, h2⟩
  · have := hl_lo ⟨b.toNat - 48, by omega⟩
    exact h (b.toNat - 48) (by omega) (UInt8.toNat_inj.1 (by simp only at this; omega))
  · have := hl_hi ⟨b.toNat - 97, by omega⟩
    exact h (10 + (b.toNat - 97)) (by omega) (UInt8.toNat_inj.1 (by simp only at this; omega))
theorem hex_next {b : UInt8} {k : Nat} (h : k < 16) (h' : k < ({ data := #[48, 49, 50, 51, 52, 53, 54, 55, 56, 57, 97, 98, 99, 100, 101, 102] } : ByteArray).size) (e : (((({ data := #[48, 49, 50, 51, 52, 53, 54, 55, 56, 57, 97, 98, 99, 100, 101, 102] } : ByteArray)[k]'h').toNat : Int) == (b.toNat : Int)) = false)
    (hn : ∀ j (h : j < 16), j < k → hl[j]'h ≠ b) : ∀ j (h : j < 16), j < k + 1 → hl[j]'h ≠ b := by
  intro j hj hjk
  by_cases e1 : j = k
  · subst e1
    intro e2
    rw [hl_get j h h', e2] at e
    simp at e
  · exact hn j hj (by omega)

theorem hexd (b : UInt8) (w : World) : Calls Try.prog 12 #[.int .u8 (b.toNat : Int)] w fun e w' => e = .returned (.bool (isHex b)) ∧ w' = w := by
  go_enter Try.func12, Try.ntmps12
  go_wp2
  go_loop [3] (fun i => ∃ k : Nat, k ≤ 16 ∧ i = .int .i64 k ∧ ∀ j (h : j < 16), j < k → hl[j]'h ≠ b) (fun i => 16 - (intOf i).toNat)
  case atStart => exact ⟨0, Nat.zero_le _, rfl, fun j _ h => absurd h (by omega)⟩
  case round =>
    obtain ⟨k, hk, rfl, hno⟩ := hrel
    have HN : Hid (∀ j (h : j < 16), j < k → hl[j]'h ≠ b) := hno
    clear hno
    by_cases hlt : k < 16
    · have hlt2 : (k : Int) < 16 := by omega
      have hlt3 : k < ({ data := #[48, 49, 50, 51, 52, 53, 54, 55, 56, 57, 97, 98, 99, 100, 101, 102] } : ByteArray).size := hlt
      by_cases hq : (((({ data := #[48, 49, 50, 51, 52, 53, 54, 55, 56, 57, 97, 98, 99, 100, 101, 102] } : ByteArray)[k]'hlt3).toNat : Int) == (b.toNat : Int)) = true
      · go_wp2
        go_ret
        exact ⟨by rw [hex_found hlt hlt3 hq]; rfl, rfl⟩
      · rw [Bool.not_eq_true] at hq
        go_wp2
        go_round
        case rel => exact ⟨k + 1, by omega, by go_num, hex_next hlt hlt3 hq HN.out⟩
        case measure => simp [intOf]; omega
    · go_wp2
      go_ret
      exact ⟨by rw [hex_none (fun j h => HN.out j h (by omega))]; rfl, rfl⟩

theorem rep24 (b : UInt8) (w : World) : Calls Try.prog 11 #[.int .u8 (b.toNat : Int)] w fun e w' => ∃ s, e = .returned (.string s) ∧ bs s = List.replicate 24 b ∧ Below w.heap.size w w' := by
  have hmk : ∀ w : World, (Instr.makeSlice 26 (.int .i64 24) (.int .i64 24)).run Try.prog w = .ok (.slice (some ⟨w.heap.size, 0, none⟩) 24 24) (w.alloc (.cells (madeCells #[.int .u8 0] 24) 5)) := fun _ => by kernel_rfl
  go_enter Try.func11, Try.ntmps11
  go_wp2
  go_loopw [4] (fun i wr => ∃ k : Nat, k ≤ 24 ∧ i = .int .i64 k ∧ wr.rowIs w.heap.size 5 24 (fun j => .int .u8 (if j < k then (b.toNat : Int) else 0)) ∧ Below w.heap.size w wr) (fun i _ => 24 - (intOf i).toNat)
  case atStart => exact ⟨0, Nat.zero_le _, rfl, (World.rowIs_made w (.int .u8 0) 24 5).congr (fun i _ => by simp), (Below.refl _ _).alloc (Nat.le_refl _) _⟩
  case round =>
    obtain ⟨k, hk, rfl, hrow, hbel⟩ := hrel
    by_cases hlt : k < 24
    · have qr := hrow.cell hlt
      have qf := hrow.frozen k
      have hlt2 : (k : Int) < 24 := by omega
      go_wp2
      go_roundw
      case rel =>
        refine ⟨k + 1, by omega, by go_num, (hrow.set k _).congr fun j _ => ?_, hbel.setCell (by simp) _⟩
        by_cases e : j = k
        · subst e; simp
        · rw [if_neg e]
          by_cases e1 : j < k
          · rw [if_pos e1, if_pos (by omega)]
          · rw [if_neg e1, if_neg (by omega)]
      case measure => simp [intOf]; omega
    · have hback := run_convert_bytes_back (P := Try.prog) wr 26 9 5 ⟨w.heap.size, 0, none⟩ 24 (List.replicate 24 b) Try.underlying26 Try.underlying5 Try.underlying9 (fun j hj => by
        rw [WideShapes.add_plain, Nat.zero_add, hrow.cell (by simpa using hj)]
        simp only [List.length_replicate] at hj
        rw [if_pos (by omega), List.getElem_replicate])
      rw [List.length_replicate] at hback
      generalize ht : (⟨(List.replicate 24 b).toArray⟩ : ByteArray) = t at hback
      have HT : Hid (bs t = List.replicate 24 b) := by rw [← ht]; simp [Hid, bs]
      clear ht
      go_wp2
      go_ret
      exact ⟨t, rfl, HT.out, hbel⟩
end Go.Proofs.Qxb6629086a
