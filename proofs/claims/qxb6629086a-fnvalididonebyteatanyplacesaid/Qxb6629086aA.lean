import Derived.Test.Qxb6629086aRows
import Derived.WalkKit
import Derived.WalkSpells
import Derived.WalkLawsBesides
import Derived.Deep.OwnRows
import Derived.Lib.AppendStr
namespace Go.Proofs.Qxb6629086a
open Go.RowKit Go.Deep

def isHex (b : UInt8) : Bool := (48 ≤ b && b ≤ 57) || (97 ≤ b && b ≤ 102)
/-- The bytes of a string (a name that the walk does not open). -/
def bs (s : ByteArray) : List UInt8 := s.data.toList
theorem bs_length (s : ByteArray) : (bs s).length = s.size := by simp [bs]
def valid (l : List UInt8) : Bool := decide (l.length = 24) && l.all isHex

theorem valid_short (s : ByteArray) (w : World) (h : ((s.size : Int) != 24) = true) :
    Calls Try.prog 6 #[.string s] w fun e w' => e = .returned (.bool false) ∧ Below w.heap.size w w' := by
  go_enter Try.func6, Try.ntmps6
  go_wp2
  go_ret
  exact ⟨rfl, Below.refl _ _⟩

theorem cell_of_block {W : World} {g k : Nat} {c : Array Value} {t : TypeId} {fr : Nat × Nat} (h : W.heap[g]? = some (.cells c t fr)) : W.cell? ⟨g, k, none⟩ = c[k]? := by simp [World.cell?, h]

/-- What '[]byte(s)' lays. -/
theorem cell_bytes (w : World) (s : ByteArray) (cap : Nat) (fr : Nat × Nat) (k : Nat) (hk : k < (bs s).length) :
    (w.alloc (.cells (bytesRow s cap) 5 fr)).cell? ⟨w.heap.size, k, none⟩ = some (.int .u8 (((bs s)[k]).toNat : Int)) := by
  rw [cell_of_block (MapKept.heap_alloc w _).1]
  have hk' : k < s.size := by rw [← bs_length]; exact hk
  simp [bytesRow, Array.getElem?_append, hk', bs]

theorem all_step {l : List UInt8} {k : Nat} {b : UInt8} {hk : k < l.length} (hb : b = l[k]) (h : (l.take k).all isHex = true) (hx : isHex b = true) : (l.take (k + 1)).all isHex = true := by
  rw [List.take_succ_eq_append_getElem hk, List.all_append, h, ← hb]; simp [hx]
theorem all_stop {l : List UInt8} {k : Nat} {b : UInt8} {hk : k < l.length} (hb : b = l[k]) (hx : isHex b = false) : valid l = false := by
  have h : l.all isHex = false := by rw [List.all_eq_false]; exact ⟨l[k], List.getElem_mem hk, by rw [← hb, hx]; simp⟩
  simp only [valid, h, Bool.and_false]

theorem hex_yes1 {b : UInt8} (h1 : 48 ≤ (b.toNat : Int)) (h2 : (b.toNat : Int) ≤ 57) : isHex b = true := by
  simp [isHex, UInt8.le_iff_toNat_le]; omega
theorem hex_yes2 {b : UInt8} (h1 : 97 ≤ (b.toNat : Int)) (h2 : (b.toNat : Int) ≤ 102) : isHex b = true := by
  simp [isHex, UInt8.le_iff_toNat_le]; omega
theorem hex_no {b : UInt8} (h : ¬ ((48 ≤ (b.toNat : Int) ∧ (b.toNat : Int) ≤ 57) ∨ (97 ≤ (b.toNat : Int) ∧ (b.toNat : Int) ≤ 102))) : isHex b = false := by
  rw [Bool.eq_false_iff]; intro h'; apply h; simp [isHex, UInt8.le_iff_toNat_le] at h'; omega

set_option maxHeartbeats 400000 in
theorem valid_full (s : ByteArray) (w : World) (h : ((s.size : Int) != 24) = false) :
    Calls Try.prog 6 #[.string s] w fun e w' => e = .returned (.bool (valid (bs s))) ∧ Below w.heap.size w w' := by
  have hcv := fun w s => run_bytes_of_string (P := Try.prog) w 9 26 5 s Try.underlying9 Try.underlying26 Try.underlying5
  have hsz : s.size = 24 := by have h' : (s.size : Int) = 24 := by simpa using h
                               omega
  have hsl : (bs s).length = s.size := bs_length s
  have HS : Hid (s.size = 24 ∧ (bs s).length = s.size) := ⟨hsz, hsl⟩
  have hle : s.size ≤ 24 := by omega
  clear hsz hsl
  go_enter Try.func6, Try.ntmps6
  go_wp2
  have hcell := cell_bytes w s (grownCap w s.size 0 5) ((bytesRow s (grownCap w s.size 0 5)).size, (bytesRow s (grownCap w s.size 0 5)).size + 1)
  have hB : Below w.heap.size w (w.alloc (Obj.cells (bytesRow s (grownCap w s.size 0 5)) 5 ((bytesRow s (grownCap w s.size 0 5)).size, (bytesRow s (grownCap w s.size 0 5)).size + 1))).drew := ((Below.refl _ _).alloc (Nat.le_refl _) _).drew
  clear hcv
  generalize grownCap w s.size 0 5 = cap at *
  generalize bytesRow s cap = br at *
  go_loop [11] (fun i => ∃ k : Nat, k ≤ s.size ∧ i = .int .i64 k ∧ ((bs s).take k).all isHex = true) (fun i => s.size - (intOf i).toNat)
  case atStart => exact ⟨0, Nat.zero_le _, rfl, rfl⟩
  case round =>
    obtain ⟨k, hk, rfl, hall⟩ := hrel
    have HALL : Hid (((bs s).take k).all isHex = true) := hall
    clear hall
    by_cases hlt : k < s.size
    · have hkl : k < (bs s).length := by have := HS.out; omega
      have hck := hcell k hkl
      obtain ⟨b, hb⟩ : ∃ b, b = (bs s)[k] := ⟨_, rfl⟩
      rw [← hb] at hck
      have HB : Hid (b = (bs s)[k]) := hb
      clear hb hcell
      have hb0 : (0 : Int) ≤ (b.toNat : Int) := by omega
      by_cases h1 : (b.toNat : Int) < 48
      · go_wp2
        go_ret
        exact ⟨by rw [all_stop HB.out (hex_no (by omega))]; rfl, hB⟩
      by_cases h2 : (b.toNat : Int) ≤ 57
      · go_wp2
        go_round
        case rel => exact ⟨k + 1, by omega, by go_num, all_step HB.out HALL.out (hex_yes1 (by omega) h2)⟩
        case measure => simp [intOf]; omega
      by_cases h3 : (b.toNat : Int) < 97
      · go_wp2
        go_ret
        exact ⟨by rw [all_stop HB.out (hex_no (by omega))]; rfl, hB⟩
      by_cases h4 : (b.toNat : Int) ≤ 102
      · go_wp2
        go_round
        case rel => exact ⟨k + 1, by omega, by go_num, all_step HB.out HALL.out (hex_yes2 (by omega) h4)⟩
        case measure => simp [intOf]; omega
      · go_wp2
        go_ret
        exact ⟨by rw [all_stop HB.out (hex_no (by omega))]; rfl, hB⟩
    · go_wp2
      go_ret
      have hh := HALL.out
      rw [List.take_of_length_le (by have := HS.out; omega)] at hh
      exact ⟨by rw [show valid (bs s) = true by simp only [valid, hh, HS.out.2, HS.out.1]; rfl]; rfl, hB⟩

theorem valid_any (s : ByteArray) (w : World) :
    Calls Try.prog 6 #[.string s] w fun e w' => e = .returned (.bool (valid (bs s))) ∧ Below w.heap.size w w' := by
  by_cases h : s.size = 24
  · exact valid_full s w (by simp [h])
  · refine (valid_short s w (by simp; omega)).mono fun e w' hh => ⟨?_, hh.2⟩
    rw [hh.1]; simp [valid, bs_length, h]
end Go.Proofs.Qxb6629086a
