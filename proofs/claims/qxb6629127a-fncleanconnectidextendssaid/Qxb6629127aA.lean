import Derived.Test.Qxb6629127aRows
import Derived.WalkKit
import Derived.WalkSpells
import Derived.WalkLawsBesides
import Derived.Deep.OwnRows
import Derived.Lib.AppendStr
import Derived.Lib.SlBytesConst
import Derived.Deep.QuietTactic
import Derived.BigQuiet
namespace Go.Proofs.Qxb6629127a
open Go.RowKit Go.Deep Go.Lib

theorem info5 : (Try.prog.info? 5).map (fun i => (i.zero, i.size, i.bytes)) = some (some (.int .u8 0), 1, 1) := by kernel_rfl

/-- The cells of bytes that are given as numbers. -/
def ic (l : List Int) : List Value := l.map (Value.int .u8)
theorem ic_append (l m : List Int) : ic (l ++ m) = ic l ++ ic m := by simp [ic]
theorem ic_length (l : List Int) : (ic l).length = l.length := by simp [ic]
theorem ic_one {u : Value} {l : List Int} (h : u ∈ ic l) : u.oneCell' = true := by
  obtain ⟨x, _, rfl⟩ := List.mem_map.1 h
  rfl

theorem ic2 (l : List Int) (a b : Int) : ic (l ++ [a, b]) = ic l ++ [.int .u8 a] ++ [.int .u8 b] := by simp [ic]
theorem ic3 (l : List Int) (a b c : Int) : ic (l ++ [a, b, c]) = ic l ++ [.int .u8 a] ++ [.int .u8 b] ++ [.int .u8 c] := by simp [ic]

/-- A variable byte integer. -/
def vi (n : Int) : List Int := if n < 128 then [n] else if n < 16384 then [n % 128 + 128, n / 128] else [n % 128 + 128, n / 128 % 128 + 128, n / 16384]

theorem or128n : ∀ y : Fin 256, (y.1 ||| 128) = y.1 % 128 + 128 := by decide +kernel
theorem or128 (x : Int) : bits .or .u8 (x % 256) 128 = x % 128 + 128 := by
  rw [u8_or (x % 256) 128 (by omega) (by omega) (by omega) (by omega)]
  have h := or128n ⟨(x % 256).toNat, by omega⟩
  simp only at h
  rw [show (128 : Int).toNat = 128 from rfl, h]
  omega

/-- One append of one byte to what the call owns. -/
theorem below_app {B : Nat} {w w3 : World} {o : Obj} {v : Value} {n : Nat} {xs : List Value} (hB : B ≤ w.heap.size) (hown : w.ownsRow B 5 1 v n xs) (hg : (w.alloc o).grownBy w3 v.ownBlock) : Below B w w3 :=
  ((Below.refl _ _).alloc hB _).grown hg (by simp; omega) (fun g hg => (hown.lt g hg).1)

set_option maxHeartbeats 800000 in
theorem varint1 (v : Value) (n : Nat) (l : List Int) (x : Int) (B : Nat) (w : World) (hx0 : 0 ≤ x) (hx : x < 128) (hn : n ≤ 1000) (hB : B ≤ w.heap.size) (hown : w.ownsRow B 5 1 v n (ic l)) :
    Calls Try.prog 10 #[v, .int .i64 x] w fun e w' => ∃ v', e = .returned v' ∧ w'.ownsRow B 5 1 v' (n + 1) (ic (l ++ [x])) ∧ Below B w w' := by
  obtain ⟨i0, hi, hz0, hz1, hz2⟩ := info_parts info5
  go_enter Try.func10, Try.ntmps10
  go_wp2
  refine wp_loop_rounds 1 ?_
  rw [rounds_succ]
  go_wp2_with (at_builtin; refine wpList_append_own _ rfl (.tmp 15) (.tmp 18) 23 rfl B 5 i0 (.int .u8 0) 1 1 Try.underlying23 hi hz0 hz1 hz2 rfl (by decide) _ _ _ rfl (hown.alloc _) ⟨w.heap.size, 0, none⟩ 1 1 _ rfl (by rfl) (cell_one_new _ _ _) (by intro u hu; simp at hu; subst hu; rfl) (by unfold maxLen; omega) (by omega) (by simp; omega) ?_; intro v3 w3 hown3 hg3 _)
  go_ret
  exact ⟨_, rfl, by rw [ic_append]; exact hown3, below_app hB hown hg3⟩

set_option maxHeartbeats 800000 in
theorem varint2 (v : Value) (n : Nat) (l : List Int) (x : Int) (B : Nat) (w : World) (hx0 : 128 ≤ x) (hx : x < 16384) (hn : n ≤ 1000) (hB : B ≤ w.heap.size) (hown : w.ownsRow B 5 1 v n (ic l)) :
    Calls Try.prog 10 #[v, .int .i64 x] w fun e w' => ∃ v', e = .returned v' ∧ w'.ownsRow B 5 1 v' (n + 2) (ic (l ++ [x % 128 + 128, x / 128])) ∧ Below B w w' := by
  obtain ⟨i0, hi, hz0, hz1, hz2⟩ := info_parts info5
  have h1 : x / 128 < 128 := by omega
  have h2 : 0 ≤ x / 128 := by omega
  go_enter Try.func10, Try.ntmps10
  go_wp2
  refine wp_loop_rounds 2 ?_
  rw [rounds_succ]
  go_wp2_with (at_builtin; refine wpList_append_own _ rfl (.tmp 9) (.tmp 13) 23 rfl B 5 i0 (.int .u8 0) 1 1 Try.underlying23 hi hz0 hz1 hz2 rfl (by decide) _ _ _ rfl (hown.alloc _) ⟨w.heap.size, 0, none⟩ 1 1 _ rfl (by rfl) (cell_one_new _ _ _) (by intro u hu; simp at hu; subst hu; rfl) (by unfold maxLen; omega) (by omega) (by simp; omega) ?_; intro v3 w3 hown3 hg3 _)
  have hB3 := below_app hB hown hg3
  have hz3 := hB3.size
  rw [rounds_succ]
  go_wp2_with (at_builtin; refine wpList_append_own _ rfl (.tmp 15) (.tmp 18) 23 rfl B 5 i0 (.int .u8 0) 1 1 Try.underlying23 hi hz0 hz1 hz2 rfl (by decide) _ _ _ rfl (hown3.alloc _) ⟨w3.heap.size, 0, none⟩ 1 1 _ rfl (by rfl) (cell_one_new _ _ _) (by intro u hu; simp at hu; subst hu; rfl) (by unfold maxLen; omega) (by omega) (by simp; omega) ?_; intro v4 w4 hown4 hg4 _)
  go_ret
  have h := hown4
  rw [or128] at h
  exact ⟨_, rfl, by rw [ic2]; exact h, hB3.trans (below_app (by omega) hown3 hg4)⟩

set_option maxHeartbeats 1600000 in
theorem varint3 (v : Value) (n : Nat) (l : List Int) (x : Int) (B : Nat) (w : World) (hx0 : 16384 ≤ x) (hx : x < 2097152) (hn : n ≤ 1000) (hB : B ≤ w.heap.size) (hown : w.ownsRow B 5 1 v n (ic l)) :
    Calls Try.prog 10 #[v, .int .i64 x] w fun e w' => ∃ v', e = .returned v' ∧ w'.ownsRow B 5 1 v' (n + 3) (ic (l ++ [x % 128 + 128, x / 128 % 128 + 128, x / 16384])) ∧ Below B w w' := by
  obtain ⟨i0, hi, hz0, hz1, hz2⟩ := info_parts info5
  have h1 : 128 ≤ x / 128 := by omega
  have h2 : x / 128 < 16384 := by omega
  have h3 : x / 128 / 128 < 128 := by omega
  have h4 : 0 ≤ x / 128 / 128 := by omega
  go_enter Try.func10, Try.ntmps10
  go_wp2
  refine wp_loop_rounds 3 ?_
  rw [rounds_succ]
  go_wp2_with (at_builtin; refine wpList_append_own _ rfl (.tmp 9) (.tmp 13) 23 rfl B 5 i0 (.int .u8 0) 1 1 Try.underlying23 hi hz0 hz1 hz2 rfl (by decide) _ _ _ rfl (hown.alloc _) ⟨w.heap.size, 0, none⟩ 1 1 _ rfl (by rfl) (cell_one_new _ _ _) (by intro u hu; simp at hu; subst hu; rfl) (by unfold maxLen; omega) (by omega) (by simp; omega) ?_; intro v3 w3 hown3 hg3 _)
  have hB3 := below_app hB hown hg3
  have hz3 := hB3.size
  rw [rounds_succ]
  go_wp2_with (at_builtin; refine wpList_append_own _ rfl (.tmp 9) (.tmp 13) 23 rfl B 5 i0 (.int .u8 0) 1 1 Try.underlying23 hi hz0 hz1 hz2 rfl (by decide) _ _ _ rfl (hown3.alloc _) ⟨w3.heap.size, 0, none⟩ 1 1 _ rfl (by rfl) (cell_one_new _ _ _) (by intro u hu; simp at hu; subst hu; rfl) (by unfold maxLen; omega) (by omega) (by simp; omega) ?_; intro v4 w4 hown4 hg4 _)
  have hB4 := hB3.trans (below_app (by omega) hown3 hg4)
  have hz4 := hB4.size
  rw [rounds_succ]
  go_wp2_with (at_builtin; refine wpList_append_own _ rfl (.tmp 15) (.tmp 18) 23 rfl B 5 i0 (.int .u8 0) 1 1 Try.underlying23 hi hz0 hz1 hz2 rfl (by decide) _ _ _ rfl (hown4.alloc _) ⟨w4.heap.size, 0, none⟩ 1 1 _ rfl (by rfl) (cell_one_new _ _ _) (by intro u hu; simp at hu; subst hu; rfl) (by unfold maxLen; omega) (by omega) (by simp; omega) ?_; intro v5 w5 hown5 hg5 _)
  go_ret
  have h := hown5
  rw [or128, or128, show x / 128 / 128 = x / 16384 by omega] at h
  exact ⟨_, rfl, by rw [ic3]; exact h, hB4.trans (below_app (by omega) hown4 hg5)⟩

theorem varint_any (v : Value) (n : Nat) (l : List Int) (x : Int) (B : Nat) (w : World) (hx0 : 0 ≤ x) (hx : x < 2097152) (hn : n ≤ 1000) (hB : B ≤ w.heap.size) (hown : w.ownsRow B 5 1 v n (ic l)) :
    Calls Try.prog 10 #[v, .int .i64 x] w fun e w' => ∃ v', e = .returned v' ∧ w'.ownsRow B 5 1 v' (n + (vi x).length) (ic (l ++ vi x)) ∧ Below B w w' := by
  unfold vi
  by_cases h1 : x < 128
  · rw [if_pos h1]; exact varint1 v n l x B w hx0 h1 hn hB hown
  · rw [if_neg h1]
    by_cases h2 : x < 16384
    · rw [if_pos h2]; exact varint2 v n l x B w (by omega) h2 hn hB hown
    · rw [if_neg h2]; exact varint3 v n l x B w (by omega) hx hn hB hown
end Go.Proofs.Qxb6629127a
