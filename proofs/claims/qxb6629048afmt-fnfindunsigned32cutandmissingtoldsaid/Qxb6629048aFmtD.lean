import Derived.Test.Qxb6629048aFmtC
namespace Go.Proofs.Qxb6629048aFmt
open Go.RowKit Go.Deep Go.Extern.Stop Go.Stop Go.Extern

theorem u32_good (ao : Option Addr) (code fl ven : Int) (c : Nat) (xs : List Int) (w : World) (hd : Dat w ao xs) (hn : xs.length = 4) :
    Calls Tryf.prog 16 #[.agg #[.int .u32 code, .int .u8 fl, .int .u32 ven, .slice ao xs.length c]] w fun e w' => e = .returned (.tuple #[.int .u32 (be xs), .nilIface]) ∧ Below w.heap.size w w' := by
  match xs, hn with
  | [x0, x1, x2, x3], _ =>
    rcases hd with h | ⟨b, o, rfl, hb, hc⟩
    · cases h
    · exact u32_ok b o code fl ven c x0 x1 x2 x3 w hb (hc 0 (by simp)) (hc 1 (by simp)) (hc 2 (by simp)) (hc 3 (by simp))

/-- What FindUnsigned32 answers, as plain data. -/
def ans (L : List El) (code ven : Int) : Int × Option (Int × El) :=
  match L.find? (key code ven) with
  | .none => (0, some (5005, ⟨code, if ven = 0 then 64 else 192, if ven = 0 then 0 else 10415, [0, 0, 0, 0]⟩))
  | some el => if el.xs.length = 4 then (be el.xs, .none) else (0, some (5014, el))

def IsFail (w : World) (pv : Value) (f : Option (Int × El)) : Prop :=
  match f with
  | .none => pv = .pointer none
  | some (r, el) => ∃ p, pv = .pointer (some ⟨p, 0, none⟩) ∧ p < w.heap.size ∧ w.cell? ⟨p, 0, none⟩ = some (.int .u32 r) ∧ ElAt w p 1 el

theorem IsFail.later {w w' : World} {pv : Value} {f : Option (Int × El)} (h : IsFail w pv f) (hb : Below w.heap.size w w') : IsFail w' pv f := by
  match f with
  | .none => exact h
  | some (r, el) =>
    obtain ⟨p, e, hp, h0, hE⟩ := h
    exact ⟨p, e, Nat.lt_of_lt_of_le hp hb.size, (hb.cell (p := ⟨p, 0, none⟩) hp).trans h0, hE.later hp hb⟩


theorem bcell {W w1 : World} (hb : Below W.heap.size W w1) : (∀ b o, b < W.heap.size → w1.cell? ⟨b, o, none⟩ = W.cell? ⟨b, o, none⟩) ∧ (∀ b o, b < W.heap.size → w1.frozen? ⟨b, o, none⟩ = W.frozen? ⟨b, o, none⟩) :=
  ⟨fun b o h => hb.cell (p := ⟨b, o, none⟩) h, fun b o h => hb.frozen (p := ⟨b, o, none⟩) h⟩

theorem ans_none {L : List El} {code ven : Int} (h : L.find? (key code ven) = .none) : ans L code ven = (0, some (5005, ⟨code, if ven = 0 then 64 else 192, if ven = 0 then 0 else 10415, [0, 0, 0, 0]⟩)) := by
  unfold ans; rw [h]
theorem ans_four {L : List El} {code ven : Int} {el : El} (h : L.find? (key code ven) = some el) (h4 : el.xs.length = 4) : ans L code ven = (be el.xs, .none) := by
  unfold ans; rw [h]; simp [h4]
theorem ans_other {L : List El} {code ven : Int} {el : El} (h : L.find? (key code ven) = some el) (h4 : ¬ el.xs.length = 4) : ans L code ven = (0, some (5014, el)) := by
  unfold ans; rw [h]; simp [h4]

theorem fail_new (w : World) (r code fl ven : Int) (ao : Option Addr) (c : Nat) (xs : List Int) (hd : Dat w ao xs) :
    IsFail (w.alloc (.cells #[.int .u32 r, .int .u32 code, .int .u8 fl, .int .u32 ven, .slice ao xs.length c] 37)).drew (.pointer (some ⟨w.heap.size, 0, none⟩)) (some (r, ⟨code, fl, ven, xs⟩)) :=
  ⟨w.heap.size, rfl, by simp, by go_simp, ao, c, by go_simp, by go_simp, by go_simp, by go_simp, hd.later ((Below.refl _ _).alloc (Nat.le_refl _) _).drew⟩

theorem fail_new' (w : World) (p : Nat) (r code fl ven : Int) (ao : Option Addr) (n c : Nat) (xs : List Int) (hd : Dat w ao xs) (hp : p = w.heap.size) (hn : n = xs.length) :
    IsFail (w.alloc (.cells #[.int .u32 r, .int .u32 code, .int .u8 fl, .int .u32 ven, .slice ao n c] 37)).drew (.pointer (some ⟨p, 0, none⟩)) (some (r, ⟨code, fl, ven, xs⟩)) := by
  subst hp; subst hn; exact fail_new w r code fl ven ao c xs hd

theorem dat4 (w : World) : Dat (w.alloc (.cells #[.int .u8 0, .int .u8 0, .int .u8 0, .int .u8 0] 5)) (some ⟨w.heap.size, 0, none⟩) [0, 0, 0, 0] :=
  Or.inr ⟨w.heap.size, 0, rfl, by simp, fun i hi => by
    match i, hi with
    | 0, _ => simp
    | 1, _ => simp
    | 2, _ => simp
    | 3, _ => simp⟩

set_option maxHeartbeats 600000 in
theorem fu_any (F : Interp) (ao : Option Addr) (c : Nat) (code ven : Int) (L : List El) (w : World) (hF : F.answers w.tape) (hL : Lst w ao L) (hl : L.length ≤ 140737488351232) :
    Calls Tryf.prog 7 #[.slice ao L.length c, .int .u32 code, .int .u32 ven] w fun e w' =>
      ∃ pv, e = .returned (.tuple #[.int .u32 (ans L code ven).1, pv]) ∧ IsFail w' pv (ans L code ven).2 ∧ Below w.heap.size w w' := by
  have hmk : ∀ w : World, (Instr.makeSlice 25 (.int .i64 4) (.int .i64 4)).run Tryf.prog w = .ok (.slice (some ⟨w.heap.size, 0, none⟩) 4 4) (w.alloc (.cells #[.int .u8 0, .int .u8 0, .int .u8 0, .int .u8 0] 5)) := fun _ => by kernel_rfl
  go_enter Tryf.func7, Tryf.ntmps7
  go_wp2_with fail
  refine (find_any ao c code ven L w hL hl).mono ?_
  rintro e w1 (⟨el, ao', c', hf, rfl, hd, hb1⟩ | ⟨hf, rfl, hb1⟩)
  · have hd1 := hd.later ((Below.refl _ _).alloc (Nat.le_refl _) (.cells #[.int .u32 el.code, .int .u8 el.fl, .int .u32 el.ven, .slice ao' el.xs.length c'] 35))
    by_cases h4 : el.xs.length = 4
    · have HA : Hid (ans L code ven = (be el.xs, .none)) := ans_four hf h4
      have H4 : Hid (el.xs.length = 4) := h4
      clear h4 hf
      go_wp2_with fail
      refine (u32_good ao' el.code el.fl el.ven c' el.xs _ hd1 H4.out).mono ?_
      rintro e w2 ⟨rfl, hb2⟩
      go_wp2_with fail
      go_ret2
      rw [HA.out]
      exact ⟨_, rfl, rfl, ((hb1.alloc hb1.size _).trans (hb2.mono (by simp; have := hb1.size; omega)))⟩
    · have HA : Hid (ans L code ven = (0, some (5014, el))) := ans_other hf h4
      have H4 : Hid (¬ el.xs.length = 4) := h4
      clear h4 hf
      go_wp2_with fail
      refine (u32_bad F el.code el.fl el.ven ao' el.xs.length c' _ (by show F.answers w1.tape; rw [hb1.tape]; exact hF) (by have := H4.out; simp; omega)).mono ?_
      rintro e w2 ⟨a, rfl, hb2⟩
      have hd2 := hd1.later hb2
      have r0 : w2.cell? ⟨w1.heap.size, 0, none⟩ = some (.int .u32 el.code) := (hb2.cell (p := ⟨w1.heap.size, 0, none⟩) (by simp)).trans (by go_simp)
      have r1 : w2.cell? ⟨w1.heap.size, 1, none⟩ = some (.int .u8 el.fl) := (hb2.cell (p := ⟨w1.heap.size, 1, none⟩) (by simp)).trans (by go_simp)
      have r2 : w2.cell? ⟨w1.heap.size, 2, none⟩ = some (.int .u32 el.ven) := (hb2.cell (p := ⟨w1.heap.size, 2, none⟩) (by simp)).trans (by go_simp)
      have r3 : w2.cell? ⟨w1.heap.size, 3, none⟩ = some (.slice ao' el.xs.length c') := (hb2.cell (p := ⟨w1.heap.size, 3, none⟩) (by simp)).trans (by go_simp)
      go_wp2_with fail
      go_region
      all_goals
        go_wp2
        go_ret2
        rw [HA.out]
        exact ⟨_, rfl, fail_new w2 5014 el.code el.fl el.ven ao' c' el.xs hd2, (((hb1.alloc hb1.size _).trans (hb2.mono (by simp; have := hb1.size; omega))).alloc (by have h1 := hb1.size; have h2 := hb2.size; simp at h2; omega) _).drew⟩
  · have HA : Hid (ans L code ven = (0, some (5005, ⟨code, if ven = 0 then 64 else 192, if ven = 0 then 0 else 10415, [0, 0, 0, 0]⟩))) := ans_none hf
    clear hf
    by_cases hv : ven = 0
    · have hvb : (ven != 0) = false := by simp [hv]
      have HV : Hid (ven = 0) := hv
      clear hv
      go_wp2_with fail
      refine (mand_any code _ 4 4 _).mono ?_
      rintro e w2 ⟨rfl, cs, rfl⟩
      go_wp2_with fail
      go_region
      all_goals
        go_wp2
        go_ret2
        rw [HA.out, if_pos HV.out, if_pos HV.out]
        have h1 := hb1.size
        refine ⟨.pointer (some ⟨w1.heap.size + 1 + 1 + 1 + 1, 0, none⟩), rfl, fail_new' _ _ 5005 code 64 0 (some ⟨w1.heap.size + 1, 0, none⟩) 4 4 [0, 0, 0, 0] ?_ (by simp) rfl, ?_⟩
        · have hd4 := dat4 (w1.alloc (.cells #[.int .u32 0, .int .u8 0, .int .u32 0, .slice none 0 0] 35))
          simp only [World.size_alloc] at hd4
          exact hd4.later (((Below.refl _ _).alloc (Nat.le_refl _) _).alloc (by simp) _)
        · exact (((((hb1.alloc h1 _).alloc (by simp; omega) _).alloc (by simp; omega) _).alloc (by simp; omega) _).alloc (by simp; omega) _).drew
    · have hvb : (ven != 0) = true := by simp [hv]
      have HV : Hid (¬ ven = 0) := hv
      clear hv
      go_wp2_with fail
      refine (mand_any code _ 4 4 _).mono ?_
      rintro e w2 ⟨rfl, cs, rfl⟩
      go_wp2_with fail
      refine (mand3_any code _ 4 4 _).mono ?_
      rintro e w2 ⟨rfl, cs2, rfl⟩
      go_wp2_with fail
      go_region
      all_goals
        go_wp2
        go_ret2
        rw [HA.out, if_neg HV.out, if_neg HV.out]
        have h1 := hb1.size
        refine ⟨.pointer (some ⟨w1.heap.size + 1 + 1 + 1 + 1 + 1, 0, none⟩), rfl, fail_new' _ _ 5005 code 192 10415 (some ⟨w1.heap.size + 1, 0, none⟩) 4 4 [0, 0, 0, 0] ?_ (by simp) rfl, ?_⟩
        · have hd4 := dat4 (w1.alloc (.cells #[.int .u32 0, .int .u8 0, .int .u32 0, .slice none 0 0] 35))
          simp only [World.size_alloc] at hd4
          exact hd4.later ((((Below.refl _ _).alloc (Nat.le_refl _) _).alloc (by simp) _).alloc (by simp) _)
        · exact ((((((hb1.alloc h1 _).alloc (by simp; omega) _).alloc (by simp; omega) _).alloc (by simp; omega) _).alloc (by simp; omega) _).alloc (by simp; omega) _).drew
end Go.Proofs.Qxb6629048aFmt
