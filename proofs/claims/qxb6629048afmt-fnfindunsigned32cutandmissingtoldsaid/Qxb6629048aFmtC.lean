import Derived.Test.Qxb6629048aFmtB
namespace Go.Proofs.Qxb6629048aFmt
open Go.RowKit Go.Deep

/-- One AVP as plain data. -/
structure El where
  code : Int
  fl : Int
  ven : Int
  xs : List Int

/-- The element lies in the four cells from o on in block b. -/
def ElAt (w : World) (b o : Nat) (e : El) : Prop :=
  ∃ ao c, w.cell? ⟨b, o, none⟩ = some (.int .u32 e.code) ∧ w.cell? ⟨b, o + 1, none⟩ = some (.int .u8 e.fl) ∧ w.cell? ⟨b, o + 2, none⟩ = some (.int .u32 e.ven) ∧
    w.cell? ⟨b, o + 3, none⟩ = some (.slice ao e.xs.length c) ∧ Dat w ao e.xs

theorem ElAt.later {w w' : World} {b o : Nat} {e : El} (h : ElAt w b o e) (hlt : b < w.heap.size) (hb : Below w.heap.size w w') : ElAt w' b o e := by
  obtain ⟨ao, c, h0, h1, h2, h3, hd⟩ := h
  exact ⟨ao, c, (hb.cell (p := ⟨b, o, none⟩) hlt).trans h0, (hb.cell (p := ⟨b, o + 1, none⟩) hlt).trans h1, (hb.cell (p := ⟨b, o + 2, none⟩) hlt).trans h2, (hb.cell (p := ⟨b, o + 3, none⟩) hlt).trans h3, hd.later hb⟩

/-- The slice at ao holds the elements L in the world w. -/
def Lst (w : World) (ao : Option Addr) (L : List El) : Prop :=
  L = [] ∨ ∃ b o, ao = some ⟨b, o, none⟩ ∧ b < w.heap.size ∧ ∀ i (h : i < L.length), ElAt w b (o + i * 4) L[i]

theorem Lst.later {w w' : World} {ao : Option Addr} {L : List El} (h : Lst w ao L) (hb : Below w.heap.size w w') : Lst w' ao L := by
  rcases h with h | ⟨b, o, e, hlt, hc⟩
  · exact Or.inl h
  · exact Or.inr ⟨b, o, e, Nat.lt_of_lt_of_le hlt hb.size, fun i hi => (hc i hi).later hlt hb⟩

def key (code ven : Int) (e : El) : Bool := e.code == code && e.ven == ven

theorem find_at {L : List El} {code ven : Int} {k : Nat} (hk : k < L.length) (hno : ∀ j (h : j < L.length), j < k → key code ven L[j] = false) (hy : key code ven L[k] = true) : L.find? (key code ven) = some L[k] := by
  rw [List.find?_eq_some_iff_getElem]
  exact ⟨hy, k, hk, rfl, fun j hj => by simp [hno j (by omega) hj]⟩

theorem find_no {L : List El} {code ven : Int} (hno : ∀ j (h : j < L.length), key code ven L[j] = false) : L.find? (key code ven) = none := by
  rw [List.find?_eq_none]
  intro x hx
  obtain ⟨i, hi, rfl⟩ := List.getElem_of_mem hx
  simp [hno i hi]

theorem no_step {L : List El} {code ven : Int} {k : Nat} {el : El} {hk : k < L.length} (he : el = L[k]) (hno : ∀ j (h : j < L.length), j < k → key code ven L[j] = false) (hn : key code ven el = false) :
    ∀ j (h : j < L.length), j < k + 1 → key code ven L[j] = false := by
  intro j h hj
  by_cases e : j = k
  · subst e; rw [← he]; exact hn
  · exact hno j h (by omega)

set_option maxHeartbeats 600000 in
theorem find_some (b o c : Nat) (code ven : Int) (L : List El) (w : World) (hb : b < w.heap.size) (hL : ∀ i (h : i < L.length), ElAt w b (o + i * 4) L[i]) (hl : L.length ≤ 140737488351232) :
    Calls Tryf.prog 13 #[.slice (some ⟨b, o, none⟩) L.length c, .int .u32 code, .int .u32 ven] w fun e w' =>
      (∃ el ao' c', L.find? (key code ven) = some el ∧ e = .returned (.tuple #[.agg #[.int .u32 el.code, .int .u8 el.fl, .int .u32 el.ven, .slice ao' el.xs.length c'], .bool true]) ∧ Dat w' ao' el.xs ∧ Below w.heap.size w w') ∨
      (L.find? (key code ven) = none ∧ e = .returned (.tuple #[.agg #[.int .u32 0, .int .u8 0, .int .u32 0, .slice none 0 0], .bool false]) ∧ Below w.heap.size w w') := by
  go_enter Tryf.func13, Tryf.ntmps13
  go_wp2
  go_loopw [12] (fun i wr => ∃ k : Nat, k ≤ L.length ∧ i = .int .i64 k ∧ (∀ j (h : j < L.length), j < k → key code ven L[j] = false) ∧
      Below (w.heap.size + 1) (w.alloc (.cells #[.int .u32 0, .int .u8 0, .int .u32 0, .slice none 0 0] 35)) wr)
    (fun i _ => L.length - (intOf i).toNat)
  case atStart => exact ⟨0, Nat.zero_le _, rfl, fun j h h0 => absurd h0 (by omega), Below.refl _ _⟩
  case round =>
    obtain ⟨k, hk, rfl, hno, hbel⟩ := hrel
    have hsz := hbel.size
    have hne : w.heap.size < wr.heap.size := by simp at hsz; omega
    clear hsz
    have r0 : wr.cell? ⟨w.heap.size, 0, none⟩ = some (.int .u32 0) := (hbel.cell (p := ⟨w.heap.size, 0, none⟩) (by simp)).trans (by go_simp)
    have r1 : wr.cell? ⟨w.heap.size, 1, none⟩ = some (.int .u8 0) := (hbel.cell (p := ⟨w.heap.size, 1, none⟩) (by simp)).trans (by go_simp)
    have r2 : wr.cell? ⟨w.heap.size, 2, none⟩ = some (.int .u32 0) := (hbel.cell (p := ⟨w.heap.size, 2, none⟩) (by simp)).trans (by go_simp)
    have r3 : wr.cell? ⟨w.heap.size, 3, none⟩ = some (.slice none 0 0) := (hbel.cell (p := ⟨w.heap.size, 3, none⟩) (by simp)).trans (by go_simp)
    have f0 : wr.frozen? ⟨w.heap.size, 0, none⟩ = false := (hbel.frozen (p := ⟨w.heap.size, 0, none⟩) (by simp)).trans (by go_simp)
    have f1 : wr.frozen? ⟨w.heap.size, 1, none⟩ = false := (hbel.frozen (p := ⟨w.heap.size, 1, none⟩) (by simp)).trans (by go_simp)
    have f2 : wr.frozen? ⟨w.heap.size, 2, none⟩ = false := (hbel.frozen (p := ⟨w.heap.size, 2, none⟩) (by simp)).trans (by go_simp)
    have f3 : wr.frozen? ⟨w.heap.size, 3, none⟩ = false := (hbel.frozen (p := ⟨w.heap.size, 3, none⟩) (by simp)).trans (by go_simp)
    by_cases hlt : k < L.length
    · obtain ⟨el, hel⟩ : ∃ el, el = L[k] := ⟨_, rfl⟩
      have hE := hL k hlt
      rw [← hel] at hE
      have HE : Hid (el = L[k]) := hel
      clear hel
      have hbel0 : Below w.heap.size w wr := ((Below.refl _ _).alloc (Nat.le_refl _) _).trans (hbel.mono (by omega))
      obtain ⟨ao, ca, c0, c1, c2, c3, hd⟩ := hE
      have e0 := (hbel0.cell (p := ⟨b, o + k * 4, none⟩) hb).trans c0
      have e1 := (hbel0.cell (p := ⟨b, o + k * 4 + 1, none⟩) hb).trans c1
      have e2 := (hbel0.cell (p := ⟨b, o + k * 4 + 2, none⟩) hb).trans c2
      have e3 := (hbel0.cell (p := ⟨b, o + k * 4 + 3, none⟩) hb).trans c3
      clear c0 c1 c2 c3
      by_cases hc : el.code = code
      · have hcb : (el.code == code) = true := by simp [hc]
        clear hc
        by_cases hv : el.ven = ven
        · have hvb : (el.ven == ven) = true := by simp [hv]
          clear hv
          go_wp2
          refine bodyPost_ret (v := .tuple #[.agg #[.int .u32 el.code, .int .u8 el.fl, .int .u32 el.ven, .slice ao el.xs.length ca], .bool true]) (by simp [results, Tryf.results13, go_sem, r0, r1, r2, r3, hne]) rfl (Or.inl ⟨el, ao, ca, ?_, rfl, ?_, ?_⟩)
          · exact (find_at hlt hno (by rw [← HE.out]; simp [key, hcb, hvb])).trans (by rw [← HE.out])
          · exact hd.later (((((hbel0.setCell (by simp) _).setCell (by simp) _).setCell (by simp) _).setCell (by simp) _).alloc (by simp; omega) _)
          · exact (((((hbel0.setCell (by simp) _).setCell (by simp) _).setCell (by simp) _).setCell (by simp) _).alloc (by simp; omega) _)
        · have hvb : (el.ven == ven) = false := by simp [hv]
          clear hv
          go_wp2
          go_roundw
          case rel => exact ⟨k + 1, by omega, by go_num, no_step HE.out hno (by simp [key, hvb]), hbel.alloc (by omega) _⟩
          case measure => simp [intOf]; omega
      · have hcb : (el.code == code) = false := by simp [hc]
        clear hc
        go_wp2
        go_roundw
        case rel => exact ⟨k + 1, by omega, by go_num, no_step HE.out hno (by simp [key, hcb]), hbel.alloc (by omega) _⟩
        case measure => simp [intOf]; omega
    · go_wp2
      refine bodyPost_ret (v := .tuple #[.agg #[.int .u32 0, .int .u8 0, .int .u32 0, .slice none 0 0], .bool false]) (by simp [results, Tryf.results13, go_sem, r0, r1, r2, r3]) rfl (Or.inr ⟨find_no fun j h => hno j h (by omega), rfl, ?_⟩)
      exact ((((((Below.refl _ _).alloc (Nat.le_refl _) _).trans (hbel.mono (by omega))).setCell (by simp) _).setCell (by simp) _).setCell (by simp) _).setCell (by simp) _

theorem find_empty (ao : Option Addr) (c : Nat) (code ven : Int) (w : World) :
    Calls Tryf.prog 13 #[.slice ao 0 c, .int .u32 code, .int .u32 ven] w fun e w' =>
      e = .returned (.tuple #[.agg #[.int .u32 0, .int .u8 0, .int .u32 0, .slice none 0 0], .bool false]) ∧ Below w.heap.size w w' := by
  go_enter Tryf.func13, Tryf.ntmps13
  go_wp2
  refine wp_loop_rounds 1 ?_
  rw [rounds_succ]
  go_wp2
  exact bodyPost_ret (v := .tuple #[.agg #[.int .u32 0, .int .u8 0, .int .u32 0, .slice none 0 0], .bool false]) (by simp [results, Tryf.results13, go_sem]) rfl ⟨rfl, (Below.refl _ _).alloc (Nat.le_refl _) _⟩

theorem find_any (ao : Option Addr) (c : Nat) (code ven : Int) (L : List El) (w : World) (hL : Lst w ao L) (hl : L.length ≤ 140737488351232) :
    Calls Tryf.prog 13 #[.slice ao L.length c, .int .u32 code, .int .u32 ven] w fun e w' =>
      (∃ el ao' c', L.find? (key code ven) = some el ∧ e = .returned (.tuple #[.agg #[.int .u32 el.code, .int .u8 el.fl, .int .u32 el.ven, .slice ao' el.xs.length c'], .bool true]) ∧ Dat w' ao' el.xs ∧ Below w.heap.size w w') ∨
      (L.find? (key code ven) = none ∧ e = .returned (.tuple #[.agg #[.int .u32 0, .int .u8 0, .int .u32 0, .slice none 0 0], .bool false]) ∧ Below w.heap.size w w') := by
  rcases hL with rfl | ⟨b, o, rfl, hb, hc⟩
  · exact (find_empty ao c code ven w).mono fun e w' h => Or.inr ⟨rfl, h.1, h.2⟩
  · exact find_some b o c code ven L w hb hc hl
end Go.Proofs.Qxb6629048aFmt
