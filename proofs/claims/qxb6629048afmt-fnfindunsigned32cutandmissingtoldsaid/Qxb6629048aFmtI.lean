import Derived.Test.Qxb6629048aFmtG
namespace Go.Proofs.Qxb6629048aFmt
open Go.RowKit Go.Deep Go.Extern.Stop Go.Stop Go.Extern

theorem lst_take {w : World} {ao : Option Addr} {L : List El} (h : Lst w ao L) (k : Nat) : Lst w ao (L.take k) := by
  rcases h with rfl | ⟨b, o, e, hlt, hc⟩
  · left; simp
  · right
    refine ⟨b, o, e, hlt, fun i hi => ?_⟩
    rw [List.getElem_take]
    exact hc i (by simp only [List.length_take] at hi; omega)

theorem lst_drop {w : World} {ao : Option Addr} {L : List El} (h : Lst w ao L) (k : Nat) : Lst w (Option.map (fun x => x.add (k * 4)) ao) (L.drop k) := by
  rcases h with rfl | ⟨b, o, rfl, hlt, hc⟩
  · left; simp
  · right
    refine ⟨b, o + k * 4, by simp [WideShapes.add_plain], hlt, fun i hi => ?_⟩
    rw [List.getElem_drop]
    have := hc (k + i) (by simp only [List.length_drop] at hi; omega)
    rw [show o + k * 4 + i * 4 = o + (k + i) * 4 by omega]
    exact this

theorem sameAVP_zero (a1 a2 : Option Addr) (c1 c2 : Nat) (code fl ven : Int) (w : World) (h1 : Dat w a1 [0, 0, 0, 0]) (h2 : Dat w a2 [0, 0, 0, 0]) :
    Calls Tryf.prog 10 #[.agg #[.int .u32 code, .int .u8 fl, .int .u32 ven, .slice a1 4 c1], .agg #[.int .u32 code, .int .u8 fl, .int .u32 ven, .slice a2 4 c2]] w fun e w' =>
      e = .returned (.bool true) ∧ Below w.heap.size w w' :=
  sameAVP_eq a1 a2 c1 c2 code fl ven [0, 0, 0, 0] w h1 h2 (by simp)

theorem ans_left {L : List El} {code ven : Int} {k : Nat} (h : (L.take k).any (key code ven) = true) : ans (L.take k) code ven = ans L code ven := by
  have e : L.find? (key code ven) = (L.take k).find? (key code ven) := by
    conv => lhs; rw [← List.take_append_drop k L]
    rw [List.find?_append]
    obtain ⟨x, hx, hy⟩ := List.any_eq_true.1 h
    cases hf : (L.take k).find? (key code ven) with
    | none => exact absurd hy (by simpa using List.find?_eq_none.1 hf x hx)
    | some y => rfl
  unfold ans
  rw [e]

theorem ans_right {L : List El} {code ven : Int} {k : Nat} (h : (L.take k).any (key code ven) = false) : ans (L.drop k) code ven = ans L code ven := by
  have e : L.find? (key code ven) = (L.drop k).find? (key code ven) := by
    conv => lhs; rw [← List.take_append_drop k L]
    rw [List.find?_append]
    have hf : (L.take k).find? (key code ven) = none := by
      rw [List.find?_eq_none]
      intro x hx hy
      have := List.any_eq_false.1 h x hx
      exact this hy
    rw [hf]; rfl
  unfold ans
  rw [e]

theorem any_left {L : List El} {code ven : Int} {k : Nat} (h : (L.take k).any (key code ven) = true) : L.any (key code ven) = true := by
  obtain ⟨x, hx, hy⟩ := List.any_eq_true.1 h
  exact List.any_eq_true.2 ⟨x, List.mem_of_mem_take hx, hy⟩

theorem ans_missing {L : List El} {code ven : Int} (h : L.any (key code ven) = false) : ans L code ven = (0, some (5005, ⟨code, if ven = 0 then 64 else 192, if ven = 0 then 0 else 10415, [0, 0, 0, 0]⟩)) := by
  apply ans_none
  rw [List.find?_eq_none]
  intro x hx hy
  exact List.any_eq_false.1 h x hx hy

theorem ans_len (L : List El) (code ven : Int) (hx : ∀ e ∈ L, e.xs.length ≤ 140737488351232) : ∀ r el, (ans L code ven).2 = some (r, el) → el.xs.length ≤ 140737488351232 := by
  intro r el h
  unfold ans at h
  split at h
  · cases h; simp
  · rename_i e he
    split at h
    · cases h
    · cases h; exact hx _ (List.mem_of_find?_eq_some he)

set_option maxHeartbeats 4000000 in
set_option maxRecDepth 100000 in
theorem law2_walk (F : Interp) (k0 code ven : Int) (ao : Option Addr) (c : Nat) (b o : Nat) (L : List El) (w : World) (hF : F.answers w.tape)
    (hao : 0 < L.length → ao = some ⟨b, o, none⟩) (hb : 0 < L.length → b < w.heap.size) (hL : ∀ i (h : i < L.length), ElAt w b (o + i * 4) L[i]) (hl : L.length ≤ c) (hc : c ≤ 140737488351232) (hx : ∀ e ∈ L, e.xs.length ≤ 140737488351232) (hLs : Lst w ao L) :
    Calls Tryf.prog 3 #[.slice ao L.length c, .int .i64 k0, .int .u32 code, .int .u32 ven] w fun e w' => e = .returned (.bool true) ∧ Below w.heap.size w w' := by
  go_enter Tryf.func3, Tryf.ntmps3
  go_wp2_with fail
  refine (bytesA_any ao c k0 code ven L _ hLs (by omega) hx).mono ?_
  rintro e w1 ⟨⟨r, rfl⟩, rfl⟩
  cases r
  · go_wp2
    go_ret
    exact ⟨rfl, Below.refl _ _⟩
  by_cases hl2 : L.length ≤ 65536
  case neg =>
    go_wp2
    go_ret
    exact ⟨rfl, Below.refl _ _⟩
  go_wp2
  go_loop [9, 10] (fun n i => ∃ k : Nat, k ≤ L.length ∧ i = .int .i64 k ∧ ∃ m : Nat, m ≤ 1048576 ∧ n = .int .i64 m) (fun _ i => L.length - (intOf i).toNat)
  case atStart => exact ⟨0, Nat.zero_le _, rfl, 0, by omega, by go_num⟩
  case round =>
    obtain ⟨k, hk, rfl, m, hm, rfl⟩ := hrel
    by_cases hlt : k < L.length
    · have hao' := hao (by omega)
      subst hao'
      have hE := hL k hlt
      have hxk := hx L[k] (List.getElem_mem hlt)
      obtain ⟨el, hel⟩ : ∃ el, el = L[k] := ⟨_, rfl⟩
      rw [← hel] at hE hxk
      clear hel
      obtain ⟨a, ca, _, _, _, e3, _⟩ := hE
      by_cases hx2 : m + (40 + el.xs.length) ≤ 1048576
      · go_wp2
        go_round
        case rel => exact ⟨k + 1, by omega, by go_num, m + (40 + el.xs.length), by omega, by go_num⟩
        case measure => simp [intOf]; omega
      · go_wp2
        go_ret
        exact ⟨rfl, Below.refl _ _⟩
    · by_cases hk1 : k0 < 0
      case pos =>
        go_wp2
        go_ret
        exact ⟨rfl, Below.refl _ _⟩
      obtain ⟨kn, rfl⟩ := Int.eq_ofNat_of_zero_le (show 0 ≤ k0 by omega)
      by_cases hk2 : kn ≤ L.length
      case neg =>
        go_wp2
        go_ret
        exact ⟨rfl, Below.refl _ _⟩
      have hkt : (L.take kn).length = kn := List.length_take_of_le hk2
      have HKT : Hid ((L.take kn).length = kn) := hkt
      clear hkt
      go_wp2_with fail
      refine (toAVPs_any ao c L _ hLs (by omega) hx).mono ?_
      rintro e w1 ⟨a1, c1, rfl, hL1, hb1⟩
      have h6 := toAVPs_any ao c (L.take kn) w1 ((lst_take hLs kn).later hb1) (by rw [HKT.out]; omega) (fun e he => hx e (List.mem_of_mem_take he))
      rw [HKT.out] at h6
      go_wp2_with fail
      refine h6.mono ?_
      clear h6
      rintro e w2 ⟨a2, c2, rfl, hL2, hb2⟩
      have hB2 := hb1.trans (hb2.mono hb1.size)
      by_cases hcap : kn = c
      · subst hcap
        have HKD : Hid ((L.drop kn).length = 0) := by show _ = _; rw [List.length_drop]; omega
        have h6 := toAVPs_any ao 0 (L.drop kn) w2 (Or.inl (by rw [List.drop_eq_nil_iff]; omega)) (by rw [HKD.out]; omega) (fun e he => hx e (List.mem_of_mem_drop he))
        rw [HKD.out] at h6
        go_wp2_with fail
        refine h6.mono ?_
        clear h6
        rintro e w3 ⟨a3, c3, rfl, hL3, hb3⟩
        have hB3 := hB2.trans (hb3.mono hB2.size)
        have h7 := fu_any F a1 c1 code ven L w3 (by rw [hB3.tape]; exact hF) ((hL1.later hb2).later hb3) (by omega)
        go_wp2_with fail
        refine h7.mono ?_
        clear h7
        rintro e w4 ⟨p1, rfl, hp1, hb4⟩
        have hB4 := hB3.trans (hb4.mono hB3.size)
        have h7 := fu_any F a2 c2 code ven (L.take kn) w4 (by rw [hB4.tape]; exact hF) ((hL2.later hb3).later hb4) (by rw [HKT.out]; omega)
        rw [HKT.out] at h7
        go_wp2_with fail
        refine h7.mono ?_
        clear h7
        rintro e w5 ⟨p2, rfl, hp2, hb5⟩
        have hB5 := hB4.trans (hb5.mono hB4.size)
        have h7 := fu_any F a3 c3 code ven (L.drop kn) w5 (by rw [hB5.tape]; exact hF) ((hL3.later hb4).later hb5) (by rw [HKD.out]; omega)
        rw [HKD.out] at h7
        go_wp2_with fail
        refine h7.mono ?_
        clear h7
        rintro e w6 ⟨p3, rfl, hp3, hb6⟩
        have hB6 := hB5.trans (hb6.mono hB5.size)
        have g1 := (hp1.later hb5).later hb6
        have g2 := hp2.later hb6
        have h8 := hasKey_any ao kn code ven (L.take kn) w6 ((lst_take hLs kn).later hB6) (by rw [HKT.out]; omega)
        rw [HKT.out] at h8
        clear hp1 hp2 hb3 hb4 hb5 hb6 hB2 hB3 hB4 hB5 hL1 hL2 hL3 hb1 hb2
        go_wp2_with fail
        refine h8.mono ?_
        clear h8
        rintro e w7 ⟨rfl, hw7⟩
        subst hw7
        cases hA : (L.take kn).any (key code ven)
        · have HA : Hid (ans (L.drop kn) code ven = ans L code ven) := ans_right hA
          clear hA
          rw [HA.out] at hp3 ⊢
          go_wp2_with fail
          refine (sameAns_eq (ans L code ven).1 p1 p3 (ans L code ven).2 _ g1 hp3 (ans_len L code ven hx)).mono ?_
          rintro e w8 ⟨rfl, hb8⟩
          have hB8 := hB6.trans (hb8.mono hB6.size)
          go_wp2_with fail
          refine (hasKey_any ao kn code ven L _ (hLs.later hB8) (by omega)).mono ?_
          rintro e w9 ⟨rfl, hw9⟩
          subst hw9
          cases hM : L.any (key code ven)
          · have HM := ans_missing hM
            have g8 := g1.later hb8
            clear hM
            rw [HM] at g8 ⊢
            clear HM HA
            obtain ⟨p, hpe, hpl, p0, ⟨q1, d1, u0, u1, u2, u3, hd1⟩⟩ := g8
            subst hpe
            clear hp3 g1 g2 hb8 hB6
            by_cases hv : ven = 0
            · have hvb : (ven != 0) = false := by simp [hv]
              simp only [if_pos hv] at u1 u2
              clear hv
              have p0' : w9.cell? ⟨p, 0, none⟩ = some (.int .u32 5005) := p0
              have u0' : w9.cell? ⟨p, 1, none⟩ = some (.int .u32 code) := u0
              have u1' : w9.cell? ⟨p, 1 + 1, none⟩ = some (.int .u8 64) := u1
              have u2' : w9.cell? ⟨p, 1 + 2, none⟩ = some (.int .u32 0) := u2
              have u3' : w9.cell? ⟨p, 1 + 3, none⟩ = some (.slice q1 4 d1) := u3
              clear p0 u0 u1 u2 u3
              have hd2 : Dat ((w9.alloc (.cells #[.int .u8 0, .int .u8 0, .int .u8 0, .int .u8 0] 5)).alloc (.cells #[.int .u32 code, .int .u8 64, .int .u32 0, .slice (some ⟨w9.heap.size, 0, none⟩) 4 4] 35)) (some ⟨w9.heap.size, 0, none⟩) [0, 0, 0, 0] := (dat4 w9).later ((Below.refl _ _).alloc (Nat.le_refl _) _)
              have hd1' : Dat ((w9.alloc (.cells #[.int .u8 0, .int .u8 0, .int .u8 0, .int .u8 0] 5)).alloc (.cells #[.int .u32 code, .int .u8 64, .int .u32 0, .slice (some ⟨w9.heap.size, 0, none⟩) 4 4] 35)) q1 [0, 0, 0, 0] := Dat.later hd1 (((Below.refl _ _).alloc (Nat.le_refl _) _).alloc (by simp) _)
              have hpl1 : p < w9.heap.size + 1 := by omega
              go_wp2_with fail
              have k0 : ∀ o1 o2, ((w9.alloc o1).alloc o2).cell? ⟨p, 0, none⟩ = some (.int .u32 5005) := fun o1 o2 => by go_simp
              have k1 : ∀ o1 o2, ((w9.alloc o1).alloc o2).cell? ⟨p, 1, none⟩ = some (.int .u32 code) := fun o1 o2 => by go_simp
              have k2 : ∀ o1 o2, ((w9.alloc o1).alloc o2).cell? ⟨p, 1 + 1, none⟩ = some (.int .u8 64) := fun o1 o2 => by go_simp
              have k3 : ∀ o1 o2, ((w9.alloc o1).alloc o2).cell? ⟨p, 1 + 2, none⟩ = some (.int .u32 0) := fun o1 o2 => by go_simp
              have k4 : ∀ o1 o2, ((w9.alloc o1).alloc o2).cell? ⟨p, 1 + 3, none⟩ = some (.slice q1 4 d1) := fun o1 o2 => by go_simp
              go_region_held3 (fun w' => w'.cell? ⟨p, 0, none⟩ = some (.int .u32 5005) ∧
                  w'.cell? ⟨p, 1, none⟩ = some (.int .u32 code) ∧ w'.cell? ⟨p, 1 + 1, none⟩ = some (.int .u8 64) ∧ w'.cell? ⟨p, 1 + 2, none⟩ = some (.int .u32 0) ∧ w'.cell? ⟨p, 1 + 3, none⟩ = some (.slice q1 4 d1) ∧
                  w'.cell? ⟨w9.heap.size + 1, 0, none⟩ = some (.int .u32 code) ∧ w'.cell? ⟨w9.heap.size + 1, 1, none⟩ = some (.int .u8 64) ∧ w'.cell? ⟨w9.heap.size + 1, 2, none⟩ = some (.int .u32 0) ∧ w'.cell? ⟨w9.heap.size + 1, 3, none⟩ = some (.slice (some ⟨w9.heap.size, 0, none⟩) 4 4))
                (first | assumption | (exact ⟨k0 _ _, k1 _ _, k2 _ _, k3 _ _, k4 _ _, by go_simp, by go_simp, by go_simp, by go_simp⟩) | (refine ⟨(hb9.cell (p := ⟨p, 0, none⟩) (by simp; omega)).trans (k0 _ _), (hb9.cell (p := ⟨p, 1, none⟩) (by simp; omega)).trans (k1 _ _), (hb9.cell (p := ⟨p, 1 + 1, none⟩) (by simp; omega)).trans (k2 _ _), (hb9.cell (p := ⟨p, 1 + 2, none⟩) (by simp; omega)).trans (k3 _ _), (hb9.cell (p := ⟨p, 1 + 3, none⟩) (by simp; omega)).trans (k4 _ _), (hb9.cell (p := ⟨w9.heap.size + 1, 0, none⟩) (by simp)).trans (by go_simp), (hb9.cell (p := ⟨w9.heap.size + 1, 1, none⟩) (by simp)).trans (by go_simp), (hb9.cell (p := ⟨w9.heap.size + 1, 2, none⟩) (by simp)).trans (by go_simp), (hb9.cell (p := ⟨w9.heap.size + 1, 3, none⟩) (by simp)).trans (by go_simp)⟩) | go_keep)
                (first | (go_at_call 10; refine (sameAVP_zero q1 (some ⟨w9.heap.size, 0, none⟩) d1 4 code 64 0 _ (by exact hd1') (by exact hd2)).mono ?_; rintro e w10 ⟨rfl, hb9⟩))
              all_goals go_wp2
              all_goals go_ret
              all_goals
                have h9 := hB8.size
                exact ⟨rfl, ((hB8.alloc h9 _).alloc (by simp; omega) _).drew.trans (hb9.mono (by show _ ≤ ((w9.alloc _).alloc _).heap.size; rw [World.size_alloc, World.size_alloc]; omega))⟩
            · have hvb : (ven != 0) = true := by simp [hv]
              simp only [if_neg hv] at u1 u2
              clear hv
              have p0' : w9.cell? ⟨p, 0, none⟩ = some (.int .u32 5005) := p0
              have u0' : w9.cell? ⟨p, 1, none⟩ = some (.int .u32 code) := u0
              have u1' : w9.cell? ⟨p, 1 + 1, none⟩ = some (.int .u8 192) := u1
              have u2' : w9.cell? ⟨p, 1 + 2, none⟩ = some (.int .u32 10415) := u2
              have u3' : w9.cell? ⟨p, 1 + 3, none⟩ = some (.slice q1 4 d1) := u3
              clear p0 u0 u1 u2 u3
              have hd2 : Dat ((w9.alloc (.cells #[.int .u8 0, .int .u8 0, .int .u8 0, .int .u8 0] 5)).alloc (.cells #[.int .u32 code, .int .u8 192, .int .u32 10415, .slice (some ⟨w9.heap.size, 0, none⟩) 4 4] 35)) (some ⟨w9.heap.size, 0, none⟩) [0, 0, 0, 0] := (dat4 w9).later ((Below.refl _ _).alloc (Nat.le_refl _) _)
              have hd1' : Dat ((w9.alloc (.cells #[.int .u8 0, .int .u8 0, .int .u8 0, .int .u8 0] 5)).alloc (.cells #[.int .u32 code, .int .u8 192, .int .u32 10415, .slice (some ⟨w9.heap.size, 0, none⟩) 4 4] 35)) q1 [0, 0, 0, 0] := Dat.later hd1 (((Below.refl _ _).alloc (Nat.le_refl _) _).alloc (by simp) _)
              have hpl1 : p < w9.heap.size + 1 := by omega
              go_wp2_with fail
              have k0 : ∀ o1 o2, ((w9.alloc o1).alloc o2).cell? ⟨p, 0, none⟩ = some (.int .u32 5005) := fun o1 o2 => by go_simp
              have k1 : ∀ o1 o2, ((w9.alloc o1).alloc o2).cell? ⟨p, 1, none⟩ = some (.int .u32 code) := fun o1 o2 => by go_simp
              have k2 : ∀ o1 o2, ((w9.alloc o1).alloc o2).cell? ⟨p, 1 + 1, none⟩ = some (.int .u8 192) := fun o1 o2 => by go_simp
              have k3 : ∀ o1 o2, ((w9.alloc o1).alloc o2).cell? ⟨p, 1 + 2, none⟩ = some (.int .u32 10415) := fun o1 o2 => by go_simp
              have k4 : ∀ o1 o2, ((w9.alloc o1).alloc o2).cell? ⟨p, 1 + 3, none⟩ = some (.slice q1 4 d1) := fun o1 o2 => by go_simp
              go_region_held3 (fun w' => w'.cell? ⟨p, 0, none⟩ = some (.int .u32 5005) ∧
                  w'.cell? ⟨p, 1, none⟩ = some (.int .u32 code) ∧ w'.cell? ⟨p, 1 + 1, none⟩ = some (.int .u8 192) ∧ w'.cell? ⟨p, 1 + 2, none⟩ = some (.int .u32 10415) ∧ w'.cell? ⟨p, 1 + 3, none⟩ = some (.slice q1 4 d1) ∧
                  w'.cell? ⟨w9.heap.size + 1, 0, none⟩ = some (.int .u32 code) ∧ w'.cell? ⟨w9.heap.size + 1, 1, none⟩ = some (.int .u8 192) ∧ w'.cell? ⟨w9.heap.size + 1, 2, none⟩ = some (.int .u32 10415) ∧ w'.cell? ⟨w9.heap.size + 1, 3, none⟩ = some (.slice (some ⟨w9.heap.size, 0, none⟩) 4 4))
                (first | assumption | (exact ⟨k0 _ _, k1 _ _, k2 _ _, k3 _ _, k4 _ _, by go_simp, by go_simp, by go_simp, by go_simp⟩) | (refine ⟨(hb9.cell (p := ⟨p, 0, none⟩) (by simp; omega)).trans (k0 _ _), (hb9.cell (p := ⟨p, 1, none⟩) (by simp; omega)).trans (k1 _ _), (hb9.cell (p := ⟨p, 1 + 1, none⟩) (by simp; omega)).trans (k2 _ _), (hb9.cell (p := ⟨p, 1 + 2, none⟩) (by simp; omega)).trans (k3 _ _), (hb9.cell (p := ⟨p, 1 + 3, none⟩) (by simp; omega)).trans (k4 _ _), (hb9.cell (p := ⟨w9.heap.size + 1, 0, none⟩) (by simp)).trans (by go_simp), (hb9.cell (p := ⟨w9.heap.size + 1, 1, none⟩) (by simp)).trans (by go_simp), (hb9.cell (p := ⟨w9.heap.size + 1, 2, none⟩) (by simp)).trans (by go_simp), (hb9.cell (p := ⟨w9.heap.size + 1, 3, none⟩) (by simp)).trans (by go_simp)⟩) | go_keep)
                (first | (go_at_call 10; refine (sameAVP_zero q1 (some ⟨w9.heap.size, 0, none⟩) d1 4 code 192 10415 _ (by exact hd1') (by exact hd2)).mono ?_; rintro e w10 ⟨rfl, hb9⟩))
              all_goals go_wp2
              all_goals go_ret
              all_goals
                have h9 := hB8.size
                exact ⟨rfl, ((hB8.alloc h9 _).alloc (by simp; omega) _).drew.trans (hb9.mono (by show _ ≤ ((w9.alloc _).alloc _).heap.size; rw [World.size_alloc, World.size_alloc]; omega))⟩
          · go_wp2_with fail
            go_ret
            exact ⟨rfl, hB8⟩
        · have HA : Hid (ans (L.take kn) code ven = ans L code ven) := ans_left hA
          have HL : L.any (key code ven) = true := any_left hA
          clear hA
          rw [HA.out] at g2 ⊢
          go_wp2_with fail
          refine (sameAns_eq (ans L code ven).1 p1 p2 (ans L code ven).2 _ g1 g2 (ans_len L code ven hx)).mono ?_
          rintro e w8 ⟨rfl, hb8⟩
          have hB8 := hB6.trans (hb8.mono hB6.size)
          have h8 := hasKey_any ao kn code ven L w8 (hLs.later hB8) (by omega)
          rw [HL] at h8
          clear HL
          go_wp2_with fail
          refine h8.mono ?_
          rintro e w9 ⟨rfl, hw9⟩
          subst hw9
          go_wp2_with fail
          go_ret
          exact ⟨rfl, hB8⟩
      · have HKD : Hid ((L.drop kn).length = L.length - kn) := List.length_drop
        have h6 := toAVPs_any (Option.map (fun x => x.add (kn * 4)) ao) (c - kn) (L.drop kn) w2 ((lst_drop hLs kn).later hB2) (by rw [HKD.out]; omega) (fun e he => hx e (List.mem_of_mem_drop he))
        rw [HKD.out] at h6
        go_wp2_with fail
        refine h6.mono ?_
        clear h6
        rintro e w3 ⟨a3, c3, rfl, hL3, hb3⟩
        have hB3 := hB2.trans (hb3.mono hB2.size)
        have h7 := fu_any F a1 c1 code ven L w3 (by rw [hB3.tape]; exact hF) ((hL1.later hb2).later hb3) (by omega)
        go_wp2_with fail
        refine h7.mono ?_
        clear h7
        rintro e w4 ⟨p1, rfl, hp1, hb4⟩
        have hB4 := hB3.trans (hb4.mono hB3.size)
        have h7 := fu_any F a2 c2 code ven (L.take kn) w4 (by rw [hB4.tape]; exact hF) ((hL2.later hb3).later hb4) (by rw [HKT.out]; omega)
        rw [HKT.out] at h7
        go_wp2_with fail
        refine h7.mono ?_
        clear h7
        rintro e w5 ⟨p2, rfl, hp2, hb5⟩
        have hB5 := hB4.trans (hb5.mono hB4.size)
        have h7 := fu_any F a3 c3 code ven (L.drop kn) w5 (by rw [hB5.tape]; exact hF) ((hL3.later hb4).later hb5) (by rw [HKD.out]; omega)
        rw [HKD.out] at h7
        go_wp2_with fail
        refine h7.mono ?_
        clear h7
        rintro e w6 ⟨p3, rfl, hp3, hb6⟩
        have hB6 := hB5.trans (hb6.mono hB5.size)
        have g1 := (hp1.later hb5).later hb6
        have g2 := hp2.later hb6
        have h8 := hasKey_any ao c code ven (L.take kn) w6 ((lst_take hLs kn).later hB6) (by rw [HKT.out]; omega)
        rw [HKT.out] at h8
        clear hp1 hp2 hb3 hb4 hb5 hb6 hB2 hB3 hB4 hB5 hL1 hL2 hL3 hb1 hb2
        go_wp2_with fail
        refine h8.mono ?_
        clear h8
        rintro e w7 ⟨rfl, hw7⟩
        subst hw7
        cases hA : (L.take kn).any (key code ven)
        · have HA : Hid (ans (L.drop kn) code ven = ans L code ven) := ans_right hA
          clear hA
          rw [HA.out] at hp3 ⊢
          go_wp2_with fail
          refine (sameAns_eq (ans L code ven).1 p1 p3 (ans L code ven).2 _ g1 hp3 (ans_len L code ven hx)).mono ?_
          rintro e w8 ⟨rfl, hb8⟩
          have hB8 := hB6.trans (hb8.mono hB6.size)
          go_wp2_with fail
          refine (hasKey_any ao c code ven L _ (hLs.later hB8) (by omega)).mono ?_
          rintro e w9 ⟨rfl, hw9⟩
          subst hw9
          cases hM : L.any (key code ven)
          · have HM := ans_missing hM
            have g8 := g1.later hb8
            clear hM
            rw [HM] at g8 ⊢
            clear HM HA
            obtain ⟨p, hpe, hpl, p0, ⟨q1, d1, u0, u1, u2, u3, hd1⟩⟩ := g8
            subst hpe
            clear hp3 g1 g2 hb8 hB6
            by_cases hv : ven = 0
            · have hvb : (ven != 0) = false := by simp [hv]
              simp only [if_pos hv] at u1 u2
              clear hv
              have p0' : w9.cell? ⟨p, 0, none⟩ = some (.int .u32 5005) := p0
              have u0' : w9.cell? ⟨p, 1, none⟩ = some (.int .u32 code) := u0
              have u1' : w9.cell? ⟨p, 1 + 1, none⟩ = some (.int .u8 64) := u1
              have u2' : w9.cell? ⟨p, 1 + 2, none⟩ = some (.int .u32 0) := u2
              have u3' : w9.cell? ⟨p, 1 + 3, none⟩ = some (.slice q1 4 d1) := u3
              clear p0 u0 u1 u2 u3
              have hd2 : Dat ((w9.alloc (.cells #[.int .u8 0, .int .u8 0, .int .u8 0, .int .u8 0] 5)).alloc (.cells #[.int .u32 code, .int .u8 64, .int .u32 0, .slice (some ⟨w9.heap.size, 0, none⟩) 4 4] 35)) (some ⟨w9.heap.size, 0, none⟩) [0, 0, 0, 0] := (dat4 w9).later ((Below.refl _ _).alloc (Nat.le_refl _) _)
              have hd1' : Dat ((w9.alloc (.cells #[.int .u8 0, .int .u8 0, .int .u8 0, .int .u8 0] 5)).alloc (.cells #[.int .u32 code, .int .u8 64, .int .u32 0, .slice (some ⟨w9.heap.size, 0, none⟩) 4 4] 35)) q1 [0, 0, 0, 0] := Dat.later hd1 (((Below.refl _ _).alloc (Nat.le_refl _) _).alloc (by simp) _)
              have hpl1 : p < w9.heap.size + 1 := by omega
              go_wp2_with fail
              have k0 : ∀ o1 o2, ((w9.alloc o1).alloc o2).cell? ⟨p, 0, none⟩ = some (.int .u32 5005) := fun o1 o2 => by go_simp
              have k1 : ∀ o1 o2, ((w9.alloc o1).alloc o2).cell? ⟨p, 1, none⟩ = some (.int .u32 code) := fun o1 o2 => by go_simp
              have k2 : ∀ o1 o2, ((w9.alloc o1).alloc o2).cell? ⟨p, 1 + 1, none⟩ = some (.int .u8 64) := fun o1 o2 => by go_simp
              have k3 : ∀ o1 o2, ((w9.alloc o1).alloc o2).cell? ⟨p, 1 + 2, none⟩ = some (.int .u32 0) := fun o1 o2 => by go_simp
              have k4 : ∀ o1 o2, ((w9.alloc o1).alloc o2).cell? ⟨p, 1 + 3, none⟩ = some (.slice q1 4 d1) := fun o1 o2 => by go_simp
              go_region_held3 (fun w' => w'.cell? ⟨p, 0, none⟩ = some (.int .u32 5005) ∧
                  w'.cell? ⟨p, 1, none⟩ = some (.int .u32 code) ∧ w'.cell? ⟨p, 1 + 1, none⟩ = some (.int .u8 64) ∧ w'.cell? ⟨p, 1 + 2, none⟩ = some (.int .u32 0) ∧ w'.cell? ⟨p, 1 + 3, none⟩ = some (.slice q1 4 d1) ∧
                  w'.cell? ⟨w9.heap.size + 1, 0, none⟩ = some (.int .u32 code) ∧ w'.cell? ⟨w9.heap.size + 1, 1, none⟩ = some (.int .u8 64) ∧ w'.cell? ⟨w9.heap.size + 1, 2, none⟩ = some (.int .u32 0) ∧ w'.cell? ⟨w9.heap.size + 1, 3, none⟩ = some (.slice (some ⟨w9.heap.size, 0, none⟩) 4 4))
                (first | assumption | (exact ⟨k0 _ _, k1 _ _, k2 _ _, k3 _ _, k4 _ _, by go_simp, by go_simp, by go_simp, by go_simp⟩) | (refine ⟨(hb9.cell (p := ⟨p, 0, none⟩) (by simp; omega)).trans (k0 _ _), (hb9.cell (p := ⟨p, 1, none⟩) (by simp; omega)).trans (k1 _ _), (hb9.cell (p := ⟨p, 1 + 1, none⟩) (by simp; omega)).trans (k2 _ _), (hb9.cell (p := ⟨p, 1 + 2, none⟩) (by simp; omega)).trans (k3 _ _), (hb9.cell (p := ⟨p, 1 + 3, none⟩) (by simp; omega)).trans (k4 _ _), (hb9.cell (p := ⟨w9.heap.size + 1, 0, none⟩) (by simp)).trans (by go_simp), (hb9.cell (p := ⟨w9.heap.size + 1, 1, none⟩) (by simp)).trans (by go_simp), (hb9.cell (p := ⟨w9.heap.size + 1, 2, none⟩) (by simp)).trans (by go_simp), (hb9.cell (p := ⟨w9.heap.size + 1, 3, none⟩) (by simp)).trans (by go_simp)⟩) | go_keep)
                (first | (go_at_call 10; refine (sameAVP_zero q1 (some ⟨w9.heap.size, 0, none⟩) d1 4 code 64 0 _ (by exact hd1') (by exact hd2)).mono ?_; rintro e w10 ⟨rfl, hb9⟩))
              all_goals go_wp2
              all_goals go_ret
              all_goals
                have h9 := hB8.size
                exact ⟨rfl, ((hB8.alloc h9 _).alloc (by simp; omega) _).drew.trans (hb9.mono (by show _ ≤ ((w9.alloc _).alloc _).heap.size; rw [World.size_alloc, World.size_alloc]; omega))⟩
            · have hvb : (ven != 0) = true := by simp [hv]
              simp only [if_neg hv] at u1 u2
              clear hv
              have p0' : w9.cell? ⟨p, 0, none⟩ = some (.int .u32 5005) := p0
              have u0' : w9.cell? ⟨p, 1, none⟩ = some (.int .u32 code) := u0
              have u1' : w9.cell? ⟨p, 1 + 1, none⟩ = some (.int .u8 192) := u1
              have u2' : w9.cell? ⟨p, 1 + 2, none⟩ = some (.int .u32 10415) := u2
              have u3' : w9.cell? ⟨p, 1 + 3, none⟩ = some (.slice q1 4 d1) := u3
              clear p0 u0 u1 u2 u3
              have hd2 : Dat ((w9.alloc (.cells #[.int .u8 0, .int .u8 0, .int .u8 0, .int .u8 0] 5)).alloc (.cells #[.int .u32 code, .int .u8 192, .int .u32 10415, .slice (some ⟨w9.heap.size, 0, none⟩) 4 4] 35)) (some ⟨w9.heap.size, 0, none⟩) [0, 0, 0, 0] := (dat4 w9).later ((Below.refl _ _).alloc (Nat.le_refl _) _)
              have hd1' : Dat ((w9.alloc (.cells #[.int .u8 0, .int .u8 0, .int .u8 0, .int .u8 0] 5)).alloc (.cells #[.int .u32 code, .int .u8 192, .int .u32 10415, .slice (some ⟨w9.heap.size, 0, none⟩) 4 4] 35)) q1 [0, 0, 0, 0] := Dat.later hd1 (((Below.refl _ _).alloc (Nat.le_refl _) _).alloc (by simp) _)
              have hpl1 : p < w9.heap.size + 1 := by omega
              go_wp2_with fail
              have k0 : ∀ o1 o2, ((w9.alloc o1).alloc o2).cell? ⟨p, 0, none⟩ = some (.int .u32 5005) := fun o1 o2 => by go_simp
              have k1 : ∀ o1 o2, ((w9.alloc o1).alloc o2).cell? ⟨p, 1, none⟩ = some (.int .u32 code) := fun o1 o2 => by go_simp
              have k2 : ∀ o1 o2, ((w9.alloc o1).alloc o2).cell? ⟨p, 1 + 1, none⟩ = some (.int .u8 192) := fun o1 o2 => by go_simp
              have k3 : ∀ o1 o2, ((w9.alloc o1).alloc o2).cell? ⟨p, 1 + 2, none⟩ = some (.int .u32 10415) := fun o1 o2 => by go_simp
              have k4 : ∀ o1 o2, ((w9.alloc o1).alloc o2).cell? ⟨p, 1 + 3, none⟩ = some (.slice q1 4 d1) := fun o1 o2 => by go_simp
              go_region_held3 (fun w' => w'.cell? ⟨p, 0, none⟩ = some (.int .u32 5005) ∧
                  w'.cell? ⟨p, 1, none⟩ = some (.int .u32 code) ∧ w'.cell? ⟨p, 1 + 1, none⟩ = some (.int .u8 192) ∧ w'.cell? ⟨p, 1 + 2, none⟩ = some (.int .u32 10415) ∧ w'.cell? ⟨p, 1 + 3, none⟩ = some (.slice q1 4 d1) ∧
                  w'.cell? ⟨w9.heap.size + 1, 0, none⟩ = some (.int .u32 code) ∧ w'.cell? ⟨w9.heap.size + 1, 1, none⟩ = some (.int .u8 192) ∧ w'.cell? ⟨w9.heap.size + 1, 2, none⟩ = some (.int .u32 10415) ∧ w'.cell? ⟨w9.heap.size + 1, 3, none⟩ = some (.slice (some ⟨w9.heap.size, 0, none⟩) 4 4))
                (first | assumption | (exact ⟨k0 _ _, k1 _ _, k2 _ _, k3 _ _, k4 _ _, by go_simp, by go_simp, by go_simp, by go_simp⟩) | (refine ⟨(hb9.cell (p := ⟨p, 0, none⟩) (by simp; omega)).trans (k0 _ _), (hb9.cell (p := ⟨p, 1, none⟩) (by simp; omega)).trans (k1 _ _), (hb9.cell (p := ⟨p, 1 + 1, none⟩) (by simp; omega)).trans (k2 _ _), (hb9.cell (p := ⟨p, 1 + 2, none⟩) (by simp; omega)).trans (k3 _ _), (hb9.cell (p := ⟨p, 1 + 3, none⟩) (by simp; omega)).trans (k4 _ _), (hb9.cell (p := ⟨w9.heap.size + 1, 0, none⟩) (by simp)).trans (by go_simp), (hb9.cell (p := ⟨w9.heap.size + 1, 1, none⟩) (by simp)).trans (by go_simp), (hb9.cell (p := ⟨w9.heap.size + 1, 2, none⟩) (by simp)).trans (by go_simp), (hb9.cell (p := ⟨w9.heap.size + 1, 3, none⟩) (by simp)).trans (by go_simp)⟩) | go_keep)
                (first | (go_at_call 10; refine (sameAVP_zero q1 (some ⟨w9.heap.size, 0, none⟩) d1 4 code 192 10415 _ (by exact hd1') (by exact hd2)).mono ?_; rintro e w10 ⟨rfl, hb9⟩))
              all_goals go_wp2
              all_goals go_ret
              all_goals
                have h9 := hB8.size
                exact ⟨rfl, ((hB8.alloc h9 _).alloc (by simp; omega) _).drew.trans (hb9.mono (by show _ ≤ ((w9.alloc _).alloc _).heap.size; rw [World.size_alloc, World.size_alloc]; omega))⟩
          · go_wp2_with fail
            go_ret
            exact ⟨rfl, hB8⟩
        · have HA : Hid (ans (L.take kn) code ven = ans L code ven) := ans_left hA
          have HL : L.any (key code ven) = true := any_left hA
          clear hA
          rw [HA.out] at g2 ⊢
          go_wp2_with fail
          refine (sameAns_eq (ans L code ven).1 p1 p2 (ans L code ven).2 _ g1 g2 (ans_len L code ven hx)).mono ?_
          rintro e w8 ⟨rfl, hb8⟩
          have hB8 := hB6.trans (hb8.mono hB6.size)
          have h8 := hasKey_any ao c code ven L w8 (hLs.later hB8) (by omega)
          rw [HL] at h8
          clear HL
          go_wp2_with fail
          refine h8.mono ?_
          rintro e w9 ⟨rfl, hw9⟩
          subst hw9
          go_wp2_with fail
          go_ret
          exact ⟨rfl, hB8⟩
end Go.Proofs.Qxb6629048aFmt
