import Derived.Test.Qxb6629048aFmtG
namespace Go.Proofs.Qxb6629048aFmt
open Go.RowKit Go.Deep Go.Extern.Stop Go.Stop Go.Extern

/-- The cells of x as the law has boxed it. -/
def Box (wr : World) (S : Nat) (x : El) (xo : Option Addr) (xc : Nat) : Prop :=
  wr.cell? ⟨S, 0, none⟩ = some (.int .u32 x.code) ∧ wr.cell? ⟨S, 1, none⟩ = some (.int .u8 x.fl) ∧ wr.cell? ⟨S, 2, none⟩ = some (.int .u32 x.ven) ∧ wr.cell? ⟨S, 3, none⟩ = some (.slice xo x.xs.length xc)

theorem box_of {w wr : World} {x : El} {xo : Option Addr} {xc : Nat} (h : Below (w.heap.size + 1) (w.alloc (.cells #[.int .u32 x.code, .int .u8 x.fl, .int .u32 x.ven, .slice xo x.xs.length xc] 27)) wr) : Box wr w.heap.size x xo xc :=
  ⟨(h.cell (p := ⟨w.heap.size, 0, none⟩) (by simp)).trans (by go_simp), (h.cell (p := ⟨w.heap.size, 1, none⟩) (by simp)).trans (by go_simp), (h.cell (p := ⟨w.heap.size, 2, none⟩) (by simp)).trans (by go_simp), (h.cell (p := ⟨w.heap.size, 3, none⟩) (by simp)).trans (by go_simp)⟩

theorem or4n (a b c d : Nat) (ha : a < 4294967296) (hb : b < 4294967296) (hc : c < 4294967296) (hd : d < 4294967296) :
    bits .or .u32 (bits .or .u32 (bits .or .u32 (d : Int) c) b) a = bits .or .u32 (bits .or .u32 (bits .or .u32 (a : Int) b) c) d := by
  have hl : ∀ x y : Nat, x < 4294967296 → y < 4294967296 → x ||| y < 4294967296 := fun x y hx hy => Nat.or_lt_two_pow (n := 32) hx hy
  rw [u32_or_nat d c hd hc, u32_or_nat _ b (hl d c hd hc) hb, u32_or_nat _ a (hl _ b (hl d c hd hc) hb) ha,
    u32_or_nat a b ha hb, u32_or_nat _ c (hl a b ha hb) hc, u32_or_nat _ d (hl _ c (hl a b ha hb) hc) hd]
  congr 1
  rw [Nat.or_comm (d ||| c ||| b) a, Nat.or_comm (d ||| c) b, Nat.or_comm d c, Nat.or_assoc a b c, Nat.or_assoc a (b ||| c) d, Nat.or_assoc b c d]

theorem or4 (a b c d : Int) : bits .or .u32 (bits .or .u32 (bits .or .u32 (d % 4294967296) (c % 4294967296)) (b % 4294967296)) (a % 4294967296) =
    bits .or .u32 (bits .or .u32 (bits .or .u32 (a % 4294967296) (b % 4294967296)) (c % 4294967296)) (d % 4294967296) := by
  have h : ∀ x : Int, ∃ n : Nat, n < 4294967296 ∧ x % 4294967296 = n := fun x => ⟨(x % 4294967296).toNat, by omega, by omega⟩
  obtain ⟨a', ha, ea⟩ := h a
  obtain ⟨b', hb, eb⟩ := h b
  obtain ⟨c', hc, ec⟩ := h c
  obtain ⟨d', hd, ed⟩ := h d
  rw [ea, eb, ec, ed]
  exact or4n a' b' c' d' ha hb hc hd

theorem be_eq (xs : List Int) : (be xs == bits BinOp.or IntKind.u32 (bits BinOp.or IntKind.u32 (bits BinOp.or IntKind.u32 (xs.getD 0 0 % 4294967296 * 16777216 % 4294967296) (xs.getD 1 0 % 4294967296 * 65536 % 4294967296)) (xs.getD 2 0 % 4294967296 * 256 % 4294967296)) (xs.getD 3 0 % 4294967296)) = true := by
  rw [beq_iff_eq]
  exact or4 _ _ _ _

theorem Built.start' (w : World) (cs : Array Value) (n : Nat) (hcs : cs.size = n * 4) : Built (w.alloc (.cells cs 35)) w.heap.size n [] := by
  refine ⟨fun i => cs.getD i undef, ?_, fun i h => absurd h (by simp)⟩
  have h := World.rowIs_alloc w cs 35 (fun i => cs.getD i undef) (fun i hi => by simp [Array.getD, hi])
  rwa [hcs] at h

/-- What FindUnsigned32 answers where the first element bears the key. -/
def ansX (x : El) : Int × Option (Int × El) := if x.xs.length = 4 then (be x.xs, .none) else (0, some (5014, x))

theorem ans_first (x : El) (L : List El) : ans (x :: L) x.code x.ven = ansX x := by
  have h : (x :: L).find? (key x.code x.ven) = some x := by simp [key]
  unfold ans ansX
  rw [h]

theorem ansX_len (x : El) (hx : x.xs.length ≤ 140737488351232) : ∀ r el, (ansX x).2 = some (r, el) → el.xs.length ≤ 140737488351232 := by
  intro r el h
  unfold ansX at h
  split at h
  · cases h
  · cases h; exact hx

set_option maxHeartbeats 1600000 in
set_option maxRecDepth 100000 in
theorem law1_walk (F : Interp) (x : El) (xo : Option Addr) (xc : Nat) (ao : Option Addr) (c : Nat) (b o : Nat) (L : List El) (w : World) (hF : F.answers w.tape) (hxd : Dat w xo x.xs) (hxx : x.xs.length ≤ 140737488351232)
    (hao : 0 < L.length → ao = some ⟨b, o, none⟩) (hb : 0 < L.length → b < w.heap.size) (hL : ∀ i (h : i < L.length), ElAt w b (o + i * 4) L[i]) (hl : L.length ≤ 140737488351232) (hx : ∀ e ∈ L, e.xs.length ≤ 140737488351232) (hLs : Lst w ao L) :
    Calls Tryf.prog 4 #[.agg #[.int .u32 x.code, .int .u8 x.fl, .int .u32 x.ven, .slice xo x.xs.length xc], .slice ao L.length c] w fun e w' => e = .returned (.bool true) ∧ Below w.heap.size w w' := by
  have hB0 : Below w.heap.size w (w.alloc (.cells #[.int .u32 x.code, .int .u8 x.fl, .int .u32 x.ven, .slice xo x.xs.length xc] 27)) := (Below.refl _ _).alloc (Nat.le_refl _) _
  go_enter Tryf.func4, Tryf.ntmps4
  go_wp2_with fail
  refine (bytesB_any ao c x xo xc L _ (hLs.later hB0) hl hx hxx).mono ?_
  rintro e w1 ⟨⟨r, rfl⟩, hb1⟩
  rw [World.size_alloc] at hb1
  have hB1 : Below w.heap.size w w1 := hB0.trans (hb1.mono (by omega))
  cases r
  · go_wp2
    go_ret
    exact ⟨rfl, hB1⟩
  by_cases hl2 : L.length ≤ 65536
  case neg =>
    go_wp2
    go_ret
    exact ⟨rfl, hB1⟩
  obtain ⟨x0, x1, x2, x3⟩ := box_of hb1
  by_cases hx2 : 40 + x.xs.length ≤ 1048576
  case neg =>
    go_wp2
    go_ret
    exact ⟨rfl, hB1⟩
  have hmk := make35 (L.length + 1) (by omega)
  rw [show ((L.length + 1 : Nat) : Int) = (L.length : Int) + 1 from by omega] at hmk
  go_wp2
  go_loop [5, 6] (fun n i => ∃ k : Nat, k ≤ L.length ∧ i = .int .i64 k ∧ ∃ m : Nat, m ≤ 1048576 ∧ n = .int .i64 m) (fun _ i => L.length - (intOf i).toNat)
  case atStart => exact ⟨0, Nat.zero_le _, rfl, 40 + x.xs.length, hx2, by go_num⟩
  case round =>
    obtain ⟨k, hk, rfl, m, hm, rfl⟩ := hrel
    by_cases hlt : k < L.length
    · have hao' := hao (by omega)
      subst hao'
      have hE := hL k hlt
      have hxk := hx L[k] (List.getElem_mem hlt)
      obtain ⟨el, hel⟩ : ∃ el, el = L[k] := ⟨_, rfl⟩
      rw [← hel] at hE hxk
      clear hel
      obtain ⟨a, ca, _, _, _, e3, _⟩ := hE
      have e3 := (hB1.cell (p := ⟨b, o + k * 4 + 3, none⟩) (hb (by omega))).trans e3
      by_cases hx2 : m + (40 + el.xs.length) ≤ 1048576
      · go_wp2
        go_round
        case rel => exact ⟨k + 1, by omega, by go_num, m + (40 + el.xs.length), by omega, by go_num⟩
        case measure => simp [intOf]; omega
      · go_wp2
        go_ret
        exact ⟨rfl, hB1⟩
    · have hS : w.heap.size < w1.heap.size := by have := hb1.size; simp at this; omega
      go_wp2_with fail
      refine (toAVP_any xo x.code x.fl x.ven xc x.xs _ ((hxd.later hB1).later ((Below.refl _ _).alloc (Nat.le_refl _) _)) hxx).mono ?_
      rintro e w2 ⟨yo, yc, rfl, hd2, hb2, hf2⟩
      have hbu0 := Built.start w1 #[.int .u32 0, .int .u8 0, .int .u32 0, .slice none 0 0] (L.length + 1)
      have hbS : Below (w.heap.size + 1) (w.alloc (.cells #[.int .u32 x.code, .int .u8 x.fl, .int .u32 x.ven, .slice xo x.xs.length xc] 27)) w2 := (hb1.alloc (by omega) _).trans (hb2.mono (by simp; omega))
      obtain ⟨f, hr, _⟩ := hbu0.later hb2
      have g0 := hr.cell (i := 0) (by omega)
      have g1 := hr.cell (i := 1) (by omega)
      have g2 := hr.cell (i := 2) (by omega)
      have g3 := hr.cell (i := 3) (by omega)
      have q0 := hr.frozen 0
      have q1 := hr.frozen 1
      have q2 := hr.frozen 2
      have q3 := hr.frozen 3
      have hbu1 := hbu0.step (k := 0) (el := x) (c := yc) hb2 hd2 hf2 rfl
      clear hr x0 x1 x2 x3
      go_wp2_with fail
      clear g0 g1 g2 g3 q0 q1 q2 q3 hbu0 hmk
      go_loopw [8] (fun i wr => ∃ k : Nat, k ≤ L.length ∧ i = .int .i64 k ∧ Built wr w1.heap.size (L.length + 1) (x :: L.take k) ∧
          Below (w.heap.size + 1) (w.alloc (.cells #[.int .u32 x.code, .int .u8 x.fl, .int .u32 x.ven, .slice xo x.xs.length xc] 27)) wr)
        (fun i _ => L.length - (intOf i).toNat)
      case atStart => exact ⟨0, Nat.zero_le _, rfl, hbu1, (((hbS.setCell (by simp; omega) _).setCell (by simp; omega) _).setCell (by simp; omega) _).setCell (by simp; omega) _⟩
      case round =>
        clear hbu1 hbS hd2 hb2 hf2
        obtain ⟨k, hk, rfl, hbu, hbS⟩ := hrel
        have hBr : Below w.heap.size w wr := hB0.trans (hbS.mono (by omega))
        have hG := hbu.lt
        by_cases hlt : k < L.length
        · have hao' := hao (by omega)
          subst hao'
          have hE := hL k hlt
          have hxk := hx L[k] (List.getElem_mem hlt)
          have HT : Hid (x :: L.take (k + 1) = (x :: L.take k) ++ [L[k]]) := by show _ = _; rw [List.take_succ_eq_append_getElem hlt]; rfl
          obtain ⟨el, hel⟩ : ∃ el, el = L[k] := ⟨_, rfl⟩
          rw [← hel] at hE hxk HT
          clear hel
          obtain ⟨zo, zc, c0, c1, c2, c3, hdz⟩ := hE
          have e0 := (hBr.cell (p := ⟨b, o + k * 4, none⟩) (hb (by omega))).trans c0
          have e1 := (hBr.cell (p := ⟨b, o + k * 4 + 1, none⟩) (hb (by omega))).trans c1
          have e2 := (hBr.cell (p := ⟨b, o + k * 4 + 2, none⟩) (hb (by omega))).trans c2
          have e3 := (hBr.cell (p := ⟨b, o + k * 4 + 3, none⟩) (hb (by omega))).trans c3
          clear c0 c1 c2 c3
          go_wp2_with fail
          refine (toAVP_any zo el.code el.fl el.ven zc el.xs _ (hdz.later hBr) hxk).mono ?_
          rintro e w3 ⟨ao', c', rfl, hd3, hb3, hf3⟩
          obtain ⟨f, hr, _⟩ := hbu.later hb3
          have g0 := hr.cell (i := (k + 1) * 4) (by omega)
          have g1 := hr.cell (i := (k + 1) * 4 + 1) (by omega)
          have g2 := hr.cell (i := (k + 1) * 4 + 2) (by omega)
          have g3 := hr.cell (i := (k + 1) * 4 + 3) (by omega)
          have q0 := hr.frozen ((k + 1) * 4)
          have q1 := hr.frozen ((k + 1) * 4 + 1)
          have q2 := hr.frozen ((k + 1) * 4 + 2)
          have q3 := hr.frozen ((k + 1) * 4 + 3)
          clear hr e0 e1 e2 e3
          go_wp2_with fail
          go_roundw
          case rel =>
            refine ⟨k + 1, by omega, by go_num, ?_, ?_⟩
            · rw [HT.out]
              exact hbu.step hb3 hd3 hf3 (by simp; omega)
            · exact ((((hbS.trans (hb3.mono (by omega))).setCell (by simp; omega) _).setCell (by simp; omega) _).setCell (by simp; omega) _).setCell (by simp; omega) _
          case measure => simp [intOf]; omega
        · obtain ⟨x0, x1, x2, x3⟩ := box_of hbS
          have hkL : k = L.length := by omega
          have HK : Hid (L.take k = L) := by rw [hkL]; exact List.take_length
          clear hkL
          have hS2 : w.heap.size < wr.heap.size := by omega
          have hmk1 : ∀ w : World, (Instr.makeSlice 28 (.int .i64 1) (.int .i64 1)).run Tryf.prog w = .ok (.slice (some ⟨w.heap.size, 0, none⟩) 1 1) (w.alloc (.cells #[.int .u32 0, .int .u8 0, .int .u32 0, .slice none 0 0] 35)) := fun _ => by kernel_rfl
          go_wp2_with fail
          refine (toAVP_any xo x.code x.fl x.ven xc x.xs _ ((hxd.later hBr).later ((Below.refl _ _).alloc (Nat.le_refl _) _)) hxx).mono ?_
          rintro e w4 ⟨yo, yc, rfl, hd4, hb4, hf4⟩
          have hbv := Built.start' wr #[.int .u32 0, .int .u8 0, .int .u32 0, .slice none 0 0] 1 rfl
          obtain ⟨f, hr, _⟩ := hbv.later hb4
          have g0 := hr.cell (i := 0) (by omega)
          have g1 := hr.cell (i := 1) (by omega)
          have g2 := hr.cell (i := 2) (by omega)
          have g3 := hr.cell (i := 3) (by omega)
          have q0 := hr.frozen 0
          have q1 := hr.frozen 1
          have q2 := hr.frozen 2
          have q3 := hr.frozen 3
          have hbv1 := hbv.step (k := 0) (el := x) (c := yc) hb4 hd4 hf4 rfl
          have hb5 := (((((((Below.refl wr.heap.size wr).alloc (Nat.le_refl _) (.cells #[.int .u32 0, .int .u8 0, .int .u32 0, .slice none 0 0] 35)).trans (hb4.mono (by simp))).setCell (p := ⟨wr.heap.size, 0, none⟩) (Nat.le_refl _) (.int .u32 x.code)).setCell (p := ⟨wr.heap.size, 1, none⟩) (Nat.le_refl _) (.int .u8 x.fl)).setCell (p := ⟨wr.heap.size, 2, none⟩) (Nat.le_refl _) (.int .u32 x.ven)).setCell (p := ⟨wr.heap.size, 3, none⟩) (Nat.le_refl _) (.slice yo x.xs.length yc))
          have x0 : w4.cell? ⟨w.heap.size, 0, none⟩ = some (.int .u32 x.code) := (hb4.cell (p := ⟨w.heap.size, 0, none⟩) (by simp; omega)).trans (by go_simp)
          have x2 : w4.cell? ⟨w.heap.size, 2, none⟩ = some (.int .u32 x.ven) := (hb4.cell (p := ⟨w.heap.size, 2, none⟩) (by simp; omega)).trans (by go_simp)
          clear hr hbv hmk1
          go_wp2_with fail
          obtain ⟨w5, hw5, hb5', hbv2⟩ : ∃ w5, w5 = (((w4.setCell ⟨wr.heap.size, 0, none⟩ (.int .u32 x.code)).setCell ⟨wr.heap.size, 1, none⟩ (.int .u8 x.fl)).setCell ⟨wr.heap.size, 2, none⟩ (.int .u32 x.ven)).setCell ⟨wr.heap.size, 3, none⟩ (.slice yo x.xs.length yc) ∧ Below wr.heap.size wr w5 ∧ Built w5 wr.heap.size 1 [x] := ⟨_, rfl, hb5, hbv1⟩
          rw [← hw5]
          clear hw5 hb5 hbv1 g0 g1 g2 g3 q0 q1 q2 q3 x0 x1 x2 x3 hd4 hb4 hf4
          rw [HK.out] at hbu
          have hbu5 := hbu.later hb5'
          have hbS5 := hbS.trans (hb5'.mono (by omega))
          have hB5 : Below w.heap.size w w5 := hB0.trans (hbS5.mono (by omega))
          have h7 := fu_any F (some ⟨w1.heap.size, 0, none⟩) (L.length + 1) x.code x.ven (x :: L) w5 (by rw [hB5.tape]; exact hF) hbu5.lst (by simp; omega)
          rw [ans_first] at h7
          refine h7.mono ?_
          rintro e w6 ⟨p1, rfl, hp1, hb6⟩
          have hbS6 := hbS5.trans (hb6.mono (by have := hb5'.size; omega))
          obtain ⟨x0, x1, x2, x3⟩ := box_of hbS6
          clear h7
          have h7 := fu_any F (some ⟨wr.heap.size, 0, none⟩) 1 x.code x.ven [x] w6 (by rw [hb6.tape, hB5.tape]; exact hF) (hbv2.later hb6).lst (by simp)
          rw [ans_first] at h7
          go_wp2_with fail
          refine h7.mono ?_
          clear h7
          rintro e w7 ⟨p2, rfl, hp2, hb7⟩
          have hbS7 := hbS6.trans (hb7.mono (by have := hb5'.size; have := hb6.size; omega))
          go_wp2_with fail
          refine (sameAns_eq (ansX x).1 p1 p2 (ansX x).2 w7 (hp1.later hb7) hp2 (ansX_len x hxx)).mono ?_
          rintro e w8 ⟨rfl, hb8⟩
          have hbS8 := hbS7.trans (hb8.mono (by have := hb5'.size; have := hb6.size; have := hb7.size; omega))
          have hp8 := hp2.later hb8
          have hxd8 : Dat w8 xo x.xs := hxd.later (hB0.trans (hbS8.mono (by omega)))
          have hB8 : Below w.heap.size w w8 := hB0.trans (hbS8.mono (by omega))
          clear x0 x1 x2 x3 hb5' hbv2 hbu5 hbS5 hB5 hp1 hb6 hbS6 hb7 hbS7 hp2 hb8 hbu hbS hBr hG hS2
          obtain ⟨x0, x1, x2, x3⟩ := box_of hbS8
          by_cases h4 : x.xs.length = 4
          · have eA : ansX x = (be x.xs, .none) := if_pos h4
            rw [eA] at hp8 ⊢
            clear eA
            have hpn : p2 = .pointer none := hp8
            subst hpn
            clear hp8
            rcases hxd8 with h | ⟨bx, ox, hxo, hbx, hcx⟩
            · rw [h] at h4; cases h4
            subst hxo
            have y0 : w8.cell? ⟨bx, ox, none⟩ = some (.int .u8 (x.xs.getD 0 0)) := hcx 0 (by omega)
            have y1 := hcx 1 (by omega)
            have y2 := hcx 2 (by omega)
            have y3 := hcx 3 (by omega)
            have i0 : (0 : Int) < (x.xs.length : Int) := by omega
            have i1 : (1 : Int) < (x.xs.length : Int) := by omega
            have i2 : (2 : Int) < (x.xs.length : Int) := by omega
            have i3 : (3 : Int) < (x.xs.length : Int) := by omega
            have hlb : ((x.xs.length : Int) == 4) = true := by simp; omega
            have hbe := be_eq x.xs
            generalize x.xs.getD 0 0 = d0 at *
            generalize x.xs.getD 1 0 = d1 at *
            generalize x.xs.getD 2 0 = d2 at *
            generalize x.xs.getD 3 0 = d3 at *
            clear hcx h4 hL hx hao hb hl hLs
            go_wp2_with fail
            go_quiet (fail)
            go_wp2_with fail
            go_ret
            exact ⟨rfl, below_drewN hB8 _⟩
          · have eA : ansX x = (0, some (5014, x)) := if_neg h4
            rw [eA] at hp8 ⊢
            clear eA
            obtain ⟨p, hpe, hpl, p0, ⟨a1, c1, u0, u1, u2, u3, hd1⟩⟩ := hp8
            subst hpe
            have hd1' : Dat (w8.alloc (.cells #[.int .u32 x.code, .int .u8 x.fl, .int .u32 x.ven, .slice xo x.xs.length xc] 35)) a1 x.xs := hd1.later ((Below.refl _ _).alloc (Nat.le_refl _) _)
            have hd2' : Dat (w8.alloc (.cells #[.int .u32 x.code, .int .u8 x.fl, .int .u32 x.ven, .slice xo x.xs.length xc] 35)) xo x.xs := hxd8.later ((Below.refl _ _).alloc (Nat.le_refl _) _)
            have hlb : ((x.xs.length : Int) == 4) = false := by simp; omega
            clear h4 hL hx hao hb hl hLs
            go_wp2_with fail
            have k0 : ∀ o', (w8.alloc o').cell? ⟨p, 0, none⟩ = some (.int .u32 5014) := fun o' => by go_simp
            have k1 : ∀ o', (w8.alloc o').cell? ⟨p, 1, none⟩ = some (.int .u32 x.code) := fun o' => by go_simp
            have k2 : ∀ o', (w8.alloc o').cell? ⟨p, 1 + 1, none⟩ = some (.int .u8 x.fl) := fun o' => by go_simp
            have k3 : ∀ o', (w8.alloc o').cell? ⟨p, 1 + 2, none⟩ = some (.int .u32 x.ven) := fun o' => by go_simp
            have k4 : ∀ o', (w8.alloc o').cell? ⟨p, 1 + 3, none⟩ = some (.slice a1 x.xs.length c1) := fun o' => by go_simp
            go_region_held3 (fun w' => w'.cell? ⟨p, 0, none⟩ = some (.int .u32 5014) ∧
                w'.cell? ⟨p, 1, none⟩ = some (.int .u32 x.code) ∧ w'.cell? ⟨p, 1 + 1, none⟩ = some (.int .u8 x.fl) ∧ w'.cell? ⟨p, 1 + 2, none⟩ = some (.int .u32 x.ven) ∧ w'.cell? ⟨p, 1 + 3, none⟩ = some (.slice a1 x.xs.length c1) ∧
                w'.cell? ⟨w8.heap.size, 0, none⟩ = some (.int .u32 x.code) ∧ w'.cell? ⟨w8.heap.size, 1, none⟩ = some (.int .u8 x.fl) ∧ w'.cell? ⟨w8.heap.size, 2, none⟩ = some (.int .u32 x.ven) ∧ w'.cell? ⟨w8.heap.size, 3, none⟩ = some (.slice xo x.xs.length xc))
              (first | assumption | (exact ⟨k0 _, k1 _, k2 _, k3 _, k4 _, by go_simp, by go_simp, by go_simp, by go_simp⟩) | (refine ⟨(hb9.cell (p := ⟨p, 0, none⟩) (by simp; omega)).trans (k0 _), (hb9.cell (p := ⟨p, 1, none⟩) (by simp; omega)).trans (k1 _), (hb9.cell (p := ⟨p, 1 + 1, none⟩) (by simp; omega)).trans (k2 _), (hb9.cell (p := ⟨p, 1 + 2, none⟩) (by simp; omega)).trans (k3 _), (hb9.cell (p := ⟨p, 1 + 3, none⟩) (by simp; omega)).trans (k4 _), (hb9.cell (p := ⟨w8.heap.size, 0, none⟩) (by simp)).trans (by go_simp), (hb9.cell (p := ⟨w8.heap.size, 1, none⟩) (by simp)).trans (by go_simp), (hb9.cell (p := ⟨w8.heap.size, 2, none⟩) (by simp)).trans (by go_simp), (hb9.cell (p := ⟨w8.heap.size, 3, none⟩) (by simp)).trans (by go_simp)⟩) | go_keep)
              (first | (go_at_call 10; refine (sameAVP_eq a1 xo c1 xc x.code x.fl x.ven x.xs _ (by exact hd1') (by exact hd2') hxx).mono ?_; rintro e w9 ⟨rfl, hb9⟩))
            all_goals go_wp2
            all_goals go_ret
            all_goals
              have h9 := hB8.size
              exact ⟨rfl, (hB8.alloc h9 _).drew.trans (hb9.mono (by show w.heap.size ≤ (w8.alloc _).heap.size; rw [World.size_alloc]; omega))⟩
end Go.Proofs.Qxb6629048aFmt
