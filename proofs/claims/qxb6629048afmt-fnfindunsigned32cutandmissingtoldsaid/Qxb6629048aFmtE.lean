import Derived.Test.Qxb6629048aFmtD
namespace Go.Proofs.Qxb6629048aFmt
open Go.RowKit Go.Deep

theorem info35 : (Tryf.prog.info? 35).map (fun i => (i.zero, i.size, i.bytes)) = some (some (.agg #[.int .u32 0, .int .u8 0, .int .u32 0, .slice none 0 0]), 4, 40) := by kernel_rfl

theorem make35 (n : Nat) (hn : n ≤ 1048577) (w : World) : (Instr.makeSlice 28 (.int .i64 (n : Int)) (.int .i64 (n : Int))).run Tryf.prog w =
    .ok (.slice (some ⟨w.heap.size, 0, none⟩) n n) (w.alloc (.cells (madeCells #[.int .u32 0, .int .u8 0, .int .u32 0, .slice none 0 0] (n * 4)) 35)) := by
  obtain ⟨i, hi, hzz⟩ := Option.map_eq_some_iff.1 info35
  simp only [Prod.mk.injEq] at hzz
  obtain ⟨hz, hs, hb⟩ := hzz
  have h := run_make (P := Tryf.prog) w 28 35 i _ Tryf.underlying28 hi hz .i64 .i64 n n (by omega) (by omega) (by rw [hb]; omega) (by omega)
  rw [hs] at h
  simpa [Value.cells] using h

/-- Element i of a row that is being built. -/
def RowEl (w : World) (G : Nat) (f : Nat → Value) (i : Nat) (e : El) : Prop :=
  ∃ ao c, f (i * 4) = .int .u32 e.code ∧ f (i * 4 + 1) = .int .u8 e.fl ∧ f (i * 4 + 2) = .int .u32 e.ven ∧ f (i * 4 + 3) = .slice ao e.xs.length c ∧ Dat w ao e.xs ∧ ∀ a, ao = some a → G < a.block

/-- Block G is a row of n elements of which the first hold L. -/
def Built (w : World) (G n : Nat) (L : List El) : Prop :=
  ∃ f, w.rowIs G 35 (n * 4) f ∧ ∀ i (h : i < L.length), RowEl w G f i L[i]

theorem Built.lt {w : World} {G n : Nat} {L : List El} (h : Built w G n L) : G < w.heap.size := by
  obtain ⟨f, hr, _⟩ := h
  exact hr.lt

theorem Built.start (w : World) (z : Array Value) (n : Nat) : Built (w.alloc (.cells (madeCells z (n * 4)) 35)) w.heap.size n [] := by
  refine ⟨fun i => (madeCells z (n * 4)).getD i undef, ?_, fun i h => absurd h (by simp)⟩
  have h := World.rowIs_alloc w (madeCells z (n * 4)) 35 (fun i => (madeCells z (n * 4)).getD i undef) (fun i hi => by simp [Array.getD, hi])
  rwa [size_madeCells] at h

theorem Built.later {w w' : World} {G n : Nat} {L : List El} (h : Built w G n L) (hb : Below w.heap.size w w') : Built w' G n L := by
  have hlt := h.lt
  obtain ⟨f, hr, he⟩ := h
  refine ⟨f, hr.of_block (hb.block G hlt), fun i hi => ?_⟩
  obtain ⟨ao, c, h0, h1, h2, h3, hd, hg⟩ := he i hi
  exact ⟨ao, c, h0, h1, h2, h3, hd.later hb, hg⟩

theorem Dat.setCell {w : World} {ao : Option Addr} {xs : List Int} {G o : Nat} (h : Dat w ao xs) (hg : ∀ a, ao = some a → G < a.block) (v : Value) : Dat (w.setCell ⟨G, o, none⟩ v) ao xs := by
  rcases h with h | ⟨b, p, e, hlt, hc⟩
  · exact Or.inl h
  · have hgb := hg _ e
    refine Or.inr ⟨b, p, e, by simpa [World.setCell] using hlt, fun i hi => ?_⟩
    exact (World.cell?_of_block (w := w) (Below.heap_setCell w ⟨G, o, none⟩ v b (by simp at hgb ⊢; omega))).trans (hc i hi)

theorem Built.step {w w1 : World} {G n k : Nat} {L : List El} {el : El} {ao : Option Addr} {c : Nat} (h : Built w G n L) (hb : Below w.heap.size w w1) (hd : Dat w1 ao el.xs) (hf : ∀ a, ao = some a → w.heap.size ≤ a.block) (hk : k = L.length) :
    Built ((((w1.setCell ⟨G, k * 4, none⟩ (.int .u32 el.code)).setCell ⟨G, k * 4 + 1, none⟩ (.int .u8 el.fl)).setCell ⟨G, k * 4 + 2, none⟩ (.int .u32 el.ven)).setCell ⟨G, k * 4 + 3, none⟩ (.slice ao el.xs.length c)) G n (L ++ [el]) := by
  have hlt := h.lt
  have hg : ∀ a, ao = some a → G < a.block := fun a ha => Nat.lt_of_lt_of_le hlt (hf a ha)
  obtain ⟨f, hr, he⟩ := h.later hb
  refine ⟨_, (((hr.set (k * 4) _).set (k * 4 + 1) _).set (k * 4 + 2) _).set (k * 4 + 3) _, fun i hi => ?_⟩
  simp only [List.length_append, List.length_cons, List.length_nil] at hi
  by_cases e : i = k
  · subst e
    rw [List.getElem_append_right (by omega)]
    simp only [hk, Nat.sub_self, List.getElem_cons_zero]
    refine ⟨ao, c, by simp, by simp, by simp, by simp, (((hd.setCell hg _).setCell hg _).setCell hg _).setCell hg _, hg⟩
  · rw [List.getElem_append_left (by omega)]
    obtain ⟨ao', c', h0, h1, h2, h3, hd', hg'⟩ := he i (by omega)
    refine ⟨ao', c', ?_, ?_, ?_, ?_, (((hd'.setCell hg' _).setCell hg' _).setCell hg' _).setCell hg' _, hg'⟩
    · dsimp only; rw [if_neg (by omega), if_neg (by omega), if_neg (by omega), if_neg (by omega)]; exact h0
    · dsimp only; rw [if_neg (by omega), if_neg (by omega), if_neg (by omega), if_neg (by omega)]; exact h1
    · dsimp only; rw [if_neg (by omega), if_neg (by omega), if_neg (by omega), if_neg (by omega)]; exact h2
    · dsimp only; rw [if_neg (by omega), if_neg (by omega), if_neg (by omega), if_neg (by omega)]; exact h3

theorem Built.lst {w : World} {G : Nat} {L : List El} (h : Built w G L.length L) : Lst w (some ⟨G, 0, none⟩) L := by
  have hlt := h.lt
  obtain ⟨f, hr, he⟩ := h
  refine Or.inr ⟨G, 0, rfl, hlt, fun i hi => ?_⟩
  obtain ⟨ao, c, h0, h1, h2, h3, hd, _⟩ := he i hi
  refine ⟨ao, c, ?_, ?_, ?_, ?_, hd⟩
  · rw [← h0, Nat.zero_add]; exact hr.cell (by omega)
  · rw [← h1, Nat.zero_add]; exact hr.cell (by omega)
  · rw [← h2, Nat.zero_add]; exact hr.cell (by omega)
  · rw [← h3, Nat.zero_add]; exact hr.cell (by omega)

set_option maxHeartbeats 600000 in
theorem toAVPs_some (b o c : Nat) (L : List El) (w : World) (hb : b < w.heap.size) (hL : ∀ i (h : i < L.length), ElAt w b (o + i * 4) L[i]) (hl : L.length ≤ 1048576) (hx : ∀ e ∈ L, e.xs.length ≤ 140737488351232) :
    Calls Tryf.prog 6 #[.slice (some ⟨b, o, none⟩) L.length c] w fun e w' => ∃ ao' c', e = .returned (.slice ao' L.length c') ∧ Lst w' ao' L ∧ Below w.heap.size w w' := by
  have hmk := make35 L.length (by omega)
  go_enter Tryf.func6, Tryf.ntmps6
  go_wp2
  clear hmk
  go_loopw [4] (fun i wr => ∃ k : Nat, k ≤ L.length ∧ i = .int .i64 k ∧ Built wr w.heap.size L.length (L.take k) ∧ Below w.heap.size w wr)
    (fun i _ => L.length - (intOf i).toNat)
  case atStart => exact ⟨0, Nat.zero_le _, rfl, Built.start w _ L.length, (Below.refl _ _).alloc (Nat.le_refl _) _⟩
  case round =>
    obtain ⟨k, hk, rfl, hbu, hbel⟩ := hrel
    by_cases hlt : k < L.length
    · have hE := hL k hlt
      have hxk := hx L[k] (List.getElem_mem hlt)
      have HT : Hid (L.take (k + 1) = L.take k ++ [L[k]]) := List.take_succ_eq_append_getElem hlt
      obtain ⟨el, hel⟩ : ∃ el, el = L[k] := ⟨_, rfl⟩
      rw [← hel] at hE hxk HT
      clear hel
      obtain ⟨ao, ca, c0, c1, c2, c3, hd⟩ := hE
      have e0 := (hbel.cell (p := ⟨b, o + k * 4, none⟩) hb).trans c0
      have e1 := (hbel.cell (p := ⟨b, o + k * 4 + 1, none⟩) hb).trans c1
      have e2 := (hbel.cell (p := ⟨b, o + k * 4 + 2, none⟩) hb).trans c2
      have e3 := (hbel.cell (p := ⟨b, o + k * 4 + 3, none⟩) hb).trans c3
      clear c0 c1 c2 c3
      have hdr := hd.later hbel
      go_wp2_with fail
      refine (toAVP_any ao el.code el.fl el.ven ca el.xs _ hdr hxk).mono ?_
      rintro e w1 ⟨ao', c', rfl, hd1, hb1, hf1⟩
      obtain ⟨f, hr, _⟩ := hbu.later hb1
      have g0 := hr.cell (i := k * 4) (by omega)
      have g1 := hr.cell (i := k * 4 + 1) (by omega)
      have g2 := hr.cell (i := k * 4 + 2) (by omega)
      have g3 := hr.cell (i := k * 4 + 3) (by omega)
      have q0 := hr.frozen (k * 4)
      have q1 := hr.frozen (k * 4 + 1)
      have q2 := hr.frozen (k * 4 + 2)
      have q3 := hr.frozen (k * 4 + 3)
      clear hr e0 e1 e2 e3
      go_wp2_with fail
      go_roundw
      case rel =>
        refine ⟨k + 1, by omega, by go_num, ?_, ?_⟩
        · rw [HT.out]
          exact hbu.step hb1 hd1 hf1 (by simp; omega)
        · exact ((((hbel.trans (hb1.mono hbel.size)).setCell (by simp) _).setCell (by simp) _).setCell (by simp) _).setCell (by simp) _
      case measure => simp [intOf]; omega
    · go_wp2
      go_ret
      have e : k = L.length := by omega
      subst e
      rw [List.take_length] at hbu
      exact ⟨_, _, rfl, hbu.lst, hbel⟩

theorem toAVPs_empty (ao : Option Addr) (c : Nat) (w : World) :
    Calls Tryf.prog 6 #[.slice ao 0 c] w fun e w' => ∃ ao' c', e = .returned (.slice ao' 0 c') ∧ Below w.heap.size w w' := by
  have hmk : ∀ w : World, (Instr.makeSlice 28 (.int .i64 0) (.int .i64 0)).run Tryf.prog w = .ok (.slice (some ⟨w.heap.size, 0, none⟩) 0 0) (w.alloc (.cells #[] 35)) := fun _ => by kernel_rfl
  go_enter Tryf.func6, Tryf.ntmps6
  go_wp2
  refine wp_loop_rounds 1 ?_
  rw [rounds_succ]
  go_wp2
  go_ret
  exact ⟨_, _, rfl, (Below.refl _ _).alloc (Nat.le_refl _) _⟩

theorem toAVPs_any (ao : Option Addr) (c : Nat) (L : List El) (w : World) (hL : Lst w ao L) (hl : L.length ≤ 1048576) (hx : ∀ e ∈ L, e.xs.length ≤ 140737488351232) :
    Calls Tryf.prog 6 #[.slice ao L.length c] w fun e w' => ∃ ao' c', e = .returned (.slice ao' L.length c') ∧ Lst w' ao' L ∧ Below w.heap.size w w' := by
  rcases hL with rfl | ⟨b, o, rfl, hb, hc⟩
  · exact (toAVPs_empty ao c w).mono fun e w' ⟨ao', c', h1, h2⟩ => ⟨ao', c', h1, Or.inl rfl, h2⟩
  · exact toAVPs_some b o c L w hb hc hl hx
end Go.Proofs.Qxb6629048aFmt
