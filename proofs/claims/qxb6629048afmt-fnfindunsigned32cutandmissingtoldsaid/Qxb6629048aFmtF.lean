import Derived.Test.Qxb6629048aFmtE
import Derived.Deep.RegionHeld3
namespace Go.Proofs.Qxb6629048aFmt
open Go.RowKit Go.Deep

set_option maxHeartbeats 600000 in
theorem sameAVP_some (b1 o1 b2 o2 c1 c2 : Nat) (code fl ven : Int) (xs : List Int) (w : World) (hb1 : b1 < w.heap.size) (hb2 : b2 < w.heap.size) (hx : xs.length ≤ 140737488351232)
    (h1 : ∀ i, i < xs.length → w.cell? ⟨b1, o1 + i, none⟩ = some (.int .u8 (xs.getD i 0))) (h2 : ∀ i, i < xs.length → w.cell? ⟨b2, o2 + i, none⟩ = some (.int .u8 (xs.getD i 0))) :
    Calls Tryf.prog 10 #[.agg #[.int .u32 code, .int .u8 fl, .int .u32 ven, .slice (some ⟨b1, o1, none⟩) xs.length c1], .agg #[.int .u32 code, .int .u8 fl, .int .u32 ven, .slice (some ⟨b2, o2, none⟩) xs.length c2]] w fun e w' =>
      e = .returned (.bool true) ∧ Below w.heap.size w w' := by
  go_enter Tryf.func10, Tryf.ntmps10
  go_wp2
  go_loopw [5] (fun i wr => ∃ k : Nat, k ≤ xs.length ∧ i = .int .i64 k ∧
      Below (w.heap.size + 1 + 1) ((w.alloc (.cells #[.int .u32 code, .int .u8 fl, .int .u32 ven, .slice (some ⟨b1, o1, none⟩) xs.length c1] 35)).alloc (.cells #[.int .u32 code, .int .u8 fl, .int .u32 ven, .slice (some ⟨b2, o2, none⟩) xs.length c2] 35)) wr)
    (fun i _ => xs.length - (intOf i).toNat)
  case atStart => exact ⟨0, Nat.zero_le _, rfl, Below.refl _ _⟩
  case round =>
    obtain ⟨k, hk, rfl, hbel⟩ := hrel
    have r0 : wr.cell? ⟨w.heap.size, 3, none⟩ = some (.slice (some ⟨b1, o1, none⟩) xs.length c1) := (hbel.cell (p := ⟨w.heap.size, 3, none⟩) (by simp; omega)).trans (by go_simp)
    have r1 : wr.cell? ⟨w.heap.size + 1, 3, none⟩ = some (.slice (some ⟨b2, o2, none⟩) xs.length c2) := (hbel.cell (p := ⟨w.heap.size + 1, 3, none⟩) (by simp)).trans (by go_simp)
    by_cases hlt : k < xs.length
    · have p1 : wr.cell? ⟨b1, o1 + k, none⟩ = some (.int .u8 (xs.getD k 0)) := (hbel.cell (p := ⟨b1, o1 + k, none⟩) (by simp; omega)).trans (by have := h1 k hlt; go_simp)
      have p2 : wr.cell? ⟨b2, o2 + k, none⟩ = some (.int .u8 (xs.getD k 0)) := (hbel.cell (p := ⟨b2, o2 + k, none⟩) (by simp; omega)).trans (by have := h2 k hlt; go_simp)
      have hi : (k : Int) < (xs.length : Int) := by omega
      go_wp2
      go_quiet (fail)
      go_wp2
      go_roundw
      case rel => exact ⟨k + 1, by omega, by go_num, below_drewN hbel _⟩
      case measure => simp [intOf]; omega
    · go_wp2
      go_ret
      exact ⟨rfl, (((Below.refl _ _).alloc (Nat.le_refl _) _).alloc (by simp) _).trans (hbel.mono (by omega))⟩

theorem sameAVP_empty (a1 a2 : Option Addr) (c1 c2 : Nat) (code fl ven : Int) (w : World) :
    Calls Tryf.prog 10 #[.agg #[.int .u32 code, .int .u8 fl, .int .u32 ven, .slice a1 0 c1], .agg #[.int .u32 code, .int .u8 fl, .int .u32 ven, .slice a2 0 c2]] w fun e w' =>
      e = .returned (.bool true) ∧ Below w.heap.size w w' := by
  go_enter Tryf.func10, Tryf.ntmps10
  go_wp2
  refine wp_loop_rounds 1 ?_
  rw [rounds_succ]
  go_wp2
  go_ret
  exact ⟨rfl, ((Below.refl _ _).alloc (Nat.le_refl _) _).alloc (by simp) _⟩

theorem sameAVP_eq (a1 a2 : Option Addr) (c1 c2 : Nat) (code fl ven : Int) (xs : List Int) (w : World) (h1 : Dat w a1 xs) (h2 : Dat w a2 xs) (hx : xs.length ≤ 140737488351232) :
    Calls Tryf.prog 10 #[.agg #[.int .u32 code, .int .u8 fl, .int .u32 ven, .slice a1 xs.length c1], .agg #[.int .u32 code, .int .u8 fl, .int .u32 ven, .slice a2 xs.length c2]] w fun e w' =>
      e = .returned (.bool true) ∧ Below w.heap.size w w' := by
  rcases h1 with rfl | ⟨b1, o1, rfl, hb1, hc1⟩
  · exact sameAVP_empty a1 a2 c1 c2 code fl ven w
  · rcases h2 with rfl | ⟨b2, o2, rfl, hb2, hc2⟩
    · exact sameAVP_empty _ a2 c1 c2 code fl ven w
    · exact sameAVP_some b1 o1 b2 o2 c1 c2 code fl ven xs w hb1 hb2 hx hc1 hc2

theorem sameAns_nil (v : Int) (w : World) : Calls Tryf.prog 9 #[.int .u32 v, .pointer none, .int .u32 v, .pointer none] w fun e w' => e = .returned (.bool true) ∧ Below w.heap.size w w' := by
  go_enter Tryf.func9, Tryf.ntmps9
  go_wp2
  go_ret
  exact ⟨rfl, Below.refl _ _⟩

set_option maxHeartbeats 600000 in
theorem sameAns_some (v r : Int) (p q : Nat) (el : El) (w : World) (hp : p < w.heap.size) (hq : q < w.heap.size) (p0 : w.cell? ⟨p, 0, none⟩ = some (.int .u32 r)) (q0 : w.cell? ⟨q, 0, none⟩ = some (.int .u32 r)) (hE1 : ElAt w p 1 el) (hE2 : ElAt w q 1 el) (hx : el.xs.length ≤ 140737488351232) :
    Calls Tryf.prog 9 #[.int .u32 v, .pointer (some ⟨p, 0, none⟩), .int .u32 v, .pointer (some ⟨q, 0, none⟩)] w fun e w' => e = .returned (.bool true) ∧ Below w.heap.size w w' := by
  obtain ⟨a1, c1, x0, x1, x2, x3, hd1⟩ := hE1
  obtain ⟨a2, c2, y0, y1, y2, y3, hd2⟩ := hE2
  go_enter Tryf.func9, Tryf.ntmps9
  go_wp2
  go_region_held3 (fun w' => w'.cell? ⟨p, 0, none⟩ = some (.int .u32 r) ∧ w'.cell? ⟨q, 0, none⟩ = some (.int .u32 r) ∧
      w'.cell? ⟨p, 1, none⟩ = some (.int .u32 el.code) ∧ w'.cell? ⟨p, 1 + 1, none⟩ = some (.int .u8 el.fl) ∧ w'.cell? ⟨p, 1 + 2, none⟩ = some (.int .u32 el.ven) ∧ w'.cell? ⟨p, 1 + 3, none⟩ = some (.slice a1 el.xs.length c1) ∧
      w'.cell? ⟨q, 1, none⟩ = some (.int .u32 el.code) ∧ w'.cell? ⟨q, 1 + 1, none⟩ = some (.int .u8 el.fl) ∧ w'.cell? ⟨q, 1 + 2, none⟩ = some (.int .u32 el.ven) ∧ w'.cell? ⟨q, 1 + 3, none⟩ = some (.slice a2 el.xs.length c2))
    (first | assumption | (refine ⟨(hb1.cell (p := ⟨p, 0, none⟩) hp).trans p0, (hb1.cell (p := ⟨q, 0, none⟩) hq).trans q0, (hb1.cell (p := ⟨p, 1, none⟩) hp).trans x0, (hb1.cell (p := ⟨p, 1 + 1, none⟩) hp).trans x1, (hb1.cell (p := ⟨p, 1 + 2, none⟩) hp).trans x2, (hb1.cell (p := ⟨p, 1 + 3, none⟩) hp).trans x3, (hb1.cell (p := ⟨q, 1, none⟩) hq).trans y0, (hb1.cell (p := ⟨q, 1 + 1, none⟩) hq).trans y1, (hb1.cell (p := ⟨q, 1 + 2, none⟩) hq).trans y2, (hb1.cell (p := ⟨q, 1 + 3, none⟩) hq).trans y3⟩) | go_keep)
    (first | (go_at_call 10; refine (sameAVP_eq a1 a2 c1 c2 el.code el.fl el.ven el.xs _ (by exact hd1) (by exact hd2) hx).mono ?_; rintro e w1 ⟨rfl, hb1⟩))
  all_goals go_wp2
  all_goals go_ret
  all_goals exact ⟨rfl, by first | exact hb1 | exact hb1.drew | exact (Below.refl _ _).drew.trans hb1⟩

theorem sameAns_eq (v : Int) (p q : Value) (f : Option (Int × El)) (w : World) (hp : IsFail w p f) (hq : IsFail w q f) (hx : ∀ r el, f = some (r, el) → el.xs.length ≤ 140737488351232) :
    Calls Tryf.prog 9 #[.int .u32 v, p, .int .u32 v, q] w fun e w' => e = .returned (.bool true) ∧ Below w.heap.size w w' := by
  match f, hp, hq, hx with
  | .none, hp, hq, _ => rw [show p = .pointer none from hp, show q = .pointer none from hq]; exact sameAns_nil v w
  | some (r, el), ⟨p', e1, hp1, hp2, hp3⟩, ⟨q', e2, hq1, hq2, hq3⟩, hx => rw [e1, e2]; exact sameAns_some v r p' q' el w hp1 hq1 hp2 hq2 hp3 hq3 (hx r el rfl)

theorem hasKey_step {L : List El} {code ven : Int} {k : Nat} {el : El} {hk : k < L.length} (he : el = L[k]) (hno : (L.take k).any (key code ven) = false) (hn : key code ven el = false) : (L.take (k + 1)).any (key code ven) = false := by
  rw [List.take_succ_eq_append_getElem hk, List.any_append, hno, ← he]; simp [hn]
theorem hasKey_yes {L : List El} {code ven : Int} {k : Nat} {el : El} {hk : k < L.length} (he : el = L[k]) (hn : key code ven el = true) : L.any (key code ven) = true := by
  rw [List.any_eq_true]; exact ⟨L[k], List.getElem_mem hk, by rw [← he]; exact hn⟩

set_option maxHeartbeats 600000 in
theorem hasKey_some (b o c : Nat) (code ven : Int) (L : List El) (w : World) (hL : ∀ i (h : i < L.length), ElAt w b (o + i * 4) L[i]) (hl : L.length ≤ 140737488351232) :
    Calls Tryf.prog 8 #[.slice (some ⟨b, o, none⟩) L.length c, .int .u32 code, .int .u32 ven] w fun e w' => e = .returned (.bool (L.any (key code ven))) ∧ w' = w := by
  go_enter Tryf.func8, Tryf.ntmps8
  go_wp2
  go_loop [7] (fun i => ∃ k : Nat, k ≤ L.length ∧ i = .int .i64 k ∧ (L.take k).any (key code ven) = false) (fun i => L.length - (intOf i).toNat)
  case atStart => exact ⟨0, Nat.zero_le _, rfl, rfl⟩
  case round =>
    obtain ⟨k, hk, rfl, hno⟩ := hrel
    have HN : Hid ((L.take k).any (key code ven) = false) := hno
    clear hno
    by_cases hlt : k < L.length
    · have hE := hL k hlt
      obtain ⟨el, hel⟩ : ∃ el, el = L[k] := ⟨_, rfl⟩
      rw [← hel] at hE
      have HE : Hid (el = L[k]) := hel
      clear hel
      obtain ⟨ao, ca, e0, e1, e2, e3, hd⟩ := hE
      by_cases hc : el.code = code
      · have hcb : (el.code == code) = true := by simp [hc]
        clear hc
        by_cases hv : el.ven = ven
        · have hvb : (el.ven == ven) = true := by simp [hv]
          clear hv
          go_wp2
          go_ret
          exact ⟨by rw [hasKey_yes HE.out (by simp [key, hcb, hvb])]; rfl, rfl⟩
        · have hvb : (el.ven == ven) = false := by simp [hv]
          clear hv
          go_wp2
          go_round
          case rel => exact ⟨k + 1, by omega, by go_num, hasKey_step HE.out HN.out (by simp [key, hvb])⟩
          case measure => simp [intOf]; omega
      · have hcb : (el.code == code) = false := by simp [hc]
        clear hc
        go_wp2
        go_round
        case rel => exact ⟨k + 1, by omega, by go_num, hasKey_step HE.out HN.out (by simp [key, hcb])⟩
        case measure => simp [intOf]; omega
    · go_wp2
      go_ret
      have hn := HN.out
      rw [List.take_of_length_le (by omega)] at hn
      exact ⟨by rw [hn]; rfl, rfl⟩

theorem hasKey_empty (ao : Option Addr) (c : Nat) (code ven : Int) (w : World) :
    Calls Tryf.prog 8 #[.slice ao 0 c, .int .u32 code, .int .u32 ven] w fun e w' => e = .returned (.bool false) ∧ w' = w := by
  go_enter Tryf.func8, Tryf.ntmps8
  go_wp2
  refine wp_loop_rounds 1 ?_
  rw [rounds_succ]
  go_wp2
  go_ret
  exact ⟨rfl, rfl⟩

theorem hasKey_any (ao : Option Addr) (c : Nat) (code ven : Int) (L : List El) (w : World) (hL : Lst w ao L) (hl : L.length ≤ 140737488351232) :
    Calls Tryf.prog 8 #[.slice ao L.length c, .int .u32 code, .int .u32 ven] w fun e w' => e = .returned (.bool (L.any (key code ven))) ∧ w' = w := by
  rcases hL with rfl | ⟨b, o, rfl, hb, hc⟩
  · exact hasKey_empty ao c code ven w
  · exact hasKey_some b o c code ven L w hc hl
end Go.Proofs.Qxb6629048aFmt
