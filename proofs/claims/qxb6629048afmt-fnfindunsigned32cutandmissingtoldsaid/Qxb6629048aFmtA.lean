import Derived.Test.Qxb6629048aFmtRows
import Derived.WalkKit
import Derived.WalkSpells
import Derived.WalkLawsBesides
import Derived.Deep.OwnRows
import Derived.Deep.QuietTactic
import Derived.BigQuiet
namespace Go.Proofs.Qxb6629048aFmt
open Go.RowKit Go.Deep

/-- The slice at ao holds the bytes xs in the world w. -/
def Dat (w : World) (ao : Option Addr) (xs : List Int) : Prop :=
  xs = [] ∨ ∃ b o, ao = some ⟨b, o, none⟩ ∧ b < w.heap.size ∧ ∀ i, i < xs.length → w.cell? ⟨b, o + i, none⟩ = some (.int .u8 (xs.getD i 0))

theorem Dat.later {w w' : World} {ao : Option Addr} {xs : List Int} (h : Dat w ao xs) (hb : Below w.heap.size w w') : Dat w' ao xs := by
  rcases h with h | ⟨b, o, e, hlt, hc⟩
  · exact Or.inl h
  · exact Or.inr ⟨b, o, e, Nat.lt_of_lt_of_le hlt hb.size, fun i hi => (hb.cell (p := ⟨b, o + i, none⟩) hlt).trans (hc i hi)⟩

theorem info5 : (Tryf.prog.info? 5).map (fun i => (i.zero, i.size, i.bytes)) = some (some (.int .u8 0), 1, 1) := by kernel_rfl

theorem made5 (w : World) (n : Nat) (xs : List Int) : (w.alloc (.cells (madeCells #[.int .u8 0] n) 5)).rowIs w.heap.size 5 n (fun j => .int .u8 (if j < 0 then xs.getD j 0 else 0)) :=
  (World.rowIs_made w (.int .u8 0) n 5).congr (fun i _ => by simp)

theorem row_step {w : World} {b n k : Nat} {xs : List Int} {v : Int} (h : w.rowIs b 5 n (fun j => .int .u8 (if j < k then xs.getD j 0 else 0))) (hv : xs.getD k 0 = v) :
    (w.setCell ⟨b, k, none⟩ (.int .u8 v)).rowIs b 5 n (fun j => .int .u8 (if j < k + 1 then xs.getD j 0 else 0)) := by
  subst hv
  refine (h.set k _).congr fun j _ => ?_
  by_cases e : j = k
  · subst e; simp
  · rw [if_neg e]
    by_cases e1 : j < k
    · rw [if_pos e1, if_pos (by omega)]
    · rw [if_neg e1, if_neg (by omega)]

theorem dat_row {w : World} {b : Nat} {xs : List Int} (h : w.rowIs b 5 xs.length (fun j => .int .u8 (if j < xs.length then xs.getD j 0 else 0))) : Dat w (some ⟨b, 0, none⟩) xs :=
  Or.inr ⟨b, 0, rfl, h.lt, fun i hi => by rw [Nat.zero_add, h.cell hi, if_pos hi]⟩

set_option maxHeartbeats 400000 in
theorem toAVP_some (b o : Nat) (code fl ven : Int) (c : Nat) (xs : List Int) (w : World) (hb : b < w.heap.size) (hd : ∀ i, i < xs.length → w.cell? ⟨b, o + i, none⟩ = some (.int .u8 (xs.getD i 0))) (hx : xs.length ≤ 140737488351232) :
    Calls Tryf.prog 12 #[.agg #[.int .u32 code, .int .u8 fl, .int .u32 ven, .slice (some ⟨b, o, none⟩) xs.length c]] w fun e w' => ∃ ao' c', e = .returned (.agg #[.int .u32 code, .int .u8 fl, .int .u32 ven, .slice ao' xs.length c']) ∧ Dat w' ao' xs ∧ Below w.heap.size w w' ∧ ∀ a, ao' = some a → w.heap.size ≤ a.block := by
  have hmk := run_make_row' (P := Tryf.prog) 25 5 (.int .u8 0) 1 Tryf.underlying25 info5 rfl .i64 .i64 xs.length (by omega) (by omega)
  go_enter Tryf.func12, Tryf.ntmps12
  go_wp2
  go_loopw [4] (fun i wr => ∃ k : Nat, k ≤ xs.length ∧ i = .int .i64 k ∧ wr.rowIs (w.heap.size + 1 + 1) 5 xs.length (fun j => .int .u8 (if j < k then xs.getD j 0 else 0)) ∧
      Below (w.heap.size + 1 + 1) ((w.alloc (.cells #[.int .u32 code, .int .u8 fl, .int .u32 ven, .slice (some ⟨b, o, none⟩) xs.length c] 27)).alloc (.cells #[.int .u32 0, .int .u8 0, .int .u32 0, .slice none 0 0] 35)) wr)
    (fun i _ => xs.length - (intOf i).toNat)
  case atStart => exact ⟨0, Nat.zero_le _, rfl, by simpa using made5 ((w.alloc (.cells #[.int .u32 code, .int .u8 fl, .int .u32 ven, .slice (some ⟨b, o, none⟩) xs.length c] 27)).alloc (.cells #[.int .u32 0, .int .u8 0, .int .u32 0, .slice none 0 0] 35)) xs.length xs, (Below.refl _ _).alloc (by simp) _⟩
  case round =>
    obtain ⟨k, hk, rfl, hrow, hbel⟩ := hrel
    have q3 : wr.cell? ⟨w.heap.size, 3, none⟩ = some (.slice (some ⟨b, o, none⟩) xs.length c) := (hbel.cell (p := ⟨w.heap.size, 3, none⟩) (by simp; omega)).trans (by go_simp)
    by_cases hlt : k < xs.length
    · have qx : wr.cell? ⟨b, o + k, none⟩ = some (.int .u8 (xs.getD k 0)) := (hbel.cell (p := ⟨b, o + k, none⟩) (by simp; omega)).trans (by have := hd k hlt; go_simp)
      have qr := hrow.cell hlt
      have qf := hrow.frozen k
      go_wp2
      go_roundw
      case rel => exact ⟨k + 1, by omega, by go_num, row_step hrow (by simp [hlt]), hbel.setCell (by simp) _⟩
      case measure => simp [intOf]; omega
    · have q0 : wr.cell? ⟨w.heap.size, 0, none⟩ = some (.int .u32 code) := (hbel.cell (p := ⟨w.heap.size, 0, none⟩) (by simp; omega)).trans (by go_simp)
      have q1 : wr.cell? ⟨w.heap.size, 1, none⟩ = some (.int .u8 fl) := (hbel.cell (p := ⟨w.heap.size, 1, none⟩) (by simp; omega)).trans (by go_simp)
      have q2 : wr.cell? ⟨w.heap.size, 2, none⟩ = some (.int .u32 ven) := (hbel.cell (p := ⟨w.heap.size, 2, none⟩) (by simp; omega)).trans (by go_simp)
      have r0 : wr.cell? ⟨w.heap.size + 1, 0, none⟩ = some (.int .u32 0) := (hbel.cell (p := ⟨w.heap.size + 1, 0, none⟩) (by simp)).trans (by go_simp)
      have r1 : wr.cell? ⟨w.heap.size + 1, 1, none⟩ = some (.int .u8 0) := (hbel.cell (p := ⟨w.heap.size + 1, 1, none⟩) (by simp)).trans (by go_simp)
      have r2 : wr.cell? ⟨w.heap.size + 1, 2, none⟩ = some (.int .u32 0) := (hbel.cell (p := ⟨w.heap.size + 1, 2, none⟩) (by simp)).trans (by go_simp)
      have r3 : wr.cell? ⟨w.heap.size + 1, 3, none⟩ = some (.slice none 0 0) := (hbel.cell (p := ⟨w.heap.size + 1, 3, none⟩) (by simp)).trans (by go_simp)
      have f0 : wr.frozen? ⟨w.heap.size + 1, 0, none⟩ = false := (hbel.frozen (p := ⟨w.heap.size + 1, 0, none⟩) (by simp)).trans (by go_simp)
      have f1 : wr.frozen? ⟨w.heap.size + 1, 1, none⟩ = false := (hbel.frozen (p := ⟨w.heap.size + 1, 1, none⟩) (by simp)).trans (by go_simp)
      have f2 : wr.frozen? ⟨w.heap.size + 1, 2, none⟩ = false := (hbel.frozen (p := ⟨w.heap.size + 1, 2, none⟩) (by simp)).trans (by go_simp)
      have f3 : wr.frozen? ⟨w.heap.size + 1, 3, none⟩ = false := (hbel.frozen (p := ⟨w.heap.size + 1, 3, none⟩) (by simp)).trans (by go_simp)
      go_wp2
      have hkn : k = xs.length := by omega
      refine bodyPost_ret (v := .agg #[.int .u32 code, .int .u8 fl, .int .u32 ven, .slice (some ⟨w.heap.size + 1 + 1, 0, none⟩) xs.length xs.length]) (by simp [results, Tryf.results12, go_sem, r0, r1, r2, r3]) rfl ⟨_, _, rfl, ?_, ?_, fun a ha => by cases ha; simp; omega⟩
      · rw [hkn] at hrow
        exact dat_row ((((hrow.setOther (by simp) _).setOther (by simp) _).setOther (by simp) _).setOther (by simp) _)
      · exact ((((((Below.refl _ _).alloc (Nat.le_refl _) _).alloc (by simp) _).trans (hbel.mono (by omega))).setCell (by simp) _).setCell (by simp) _).setCell (by simp) _ |>.setCell (by simp) _

theorem toAVP_nil (code fl ven : Int) (c : Nat) (w : World) :
    Calls Tryf.prog 12 #[.agg #[.int .u32 code, .int .u8 fl, .int .u32 ven, .slice none 0 c]] w fun e w' => e = .returned (.agg #[.int .u32 code, .int .u8 fl, .int .u32 ven, .slice none 0 0]) ∧ Below w.heap.size w w' := by
  go_enter Tryf.func12, Tryf.ntmps12
  go_wp2
  exact bodyPost_ret (v := .agg #[.int .u32 code, .int .u8 fl, .int .u32 ven, .slice none 0 0]) (by simp [results, Tryf.results12, go_sem]) rfl ⟨rfl, ((Below.refl _ _).alloc (Nat.le_refl _) _).alloc (by simp) _⟩
theorem toAVP_empty (a : Addr) (code fl ven : Int) (c : Nat) (w : World) :
    Calls Tryf.prog 12 #[.agg #[.int .u32 code, .int .u8 fl, .int .u32 ven, .slice (some a) 0 c]] w fun e w' => ∃ ao' c', e = .returned (.agg #[.int .u32 code, .int .u8 fl, .int .u32 ven, .slice ao' 0 c']) ∧ Below w.heap.size w w' ∧ ∀ a, ao' = some a → w.heap.size ≤ a.block := by
  have hmk : ∀ w : World, (Instr.makeSlice 25 (.int .i64 0) (.int .i64 0)).run Tryf.prog w = .ok (.slice (some ⟨w.heap.size, 0, none⟩) 0 0) (w.alloc (.cells #[] 5)) := fun _ => by kernel_rfl
  go_enter Tryf.func12, Tryf.ntmps12
  go_wp2
  refine wp_loop_rounds 1 ?_
  rw [rounds_succ]
  go_wp2
  exact bodyPost_ret (v := .agg #[.int .u32 code, .int .u8 fl, .int .u32 ven, .slice (some ⟨w.heap.size + 1 + 1, 0, none⟩) 0 0]) (by simp [results, Tryf.results12, go_sem]) rfl ⟨_, _, rfl, (((Below.refl _ _).alloc (Nat.le_refl _) _).alloc (by simp) _).alloc (by simp; omega) _, fun a ha => by cases ha; simp; omega⟩

theorem toAVP_any (ao : Option Addr) (code fl ven : Int) (c : Nat) (xs : List Int) (w : World) (hd : Dat w ao xs) (hx : xs.length ≤ 140737488351232) :
    Calls Tryf.prog 12 #[.agg #[.int .u32 code, .int .u8 fl, .int .u32 ven, .slice ao xs.length c]] w fun e w' => ∃ ao' c', e = .returned (.agg #[.int .u32 code, .int .u8 fl, .int .u32 ven, .slice ao' xs.length c']) ∧ Dat w' ao' xs ∧ Below w.heap.size w w' ∧ ∀ a, ao' = some a → w.heap.size ≤ a.block := by
  rcases hd with rfl | ⟨b, o, rfl, hb, hc⟩
  · cases ao with
    | none => exact (toAVP_nil code fl ven c w).mono fun e w' h => ⟨none, 0, h.1, Or.inl rfl, h.2, fun a ha => by cases ha⟩
    | some a => exact (toAVP_empty a code fl ven c w).mono fun e w' ⟨ao', c', h1, h2⟩ => ⟨ao', c', h1, Or.inl rfl, h2⟩
  · exact toAVP_some b o code fl ven c xs w hb hc hx
end Go.Proofs.Qxb6629048aFmt
