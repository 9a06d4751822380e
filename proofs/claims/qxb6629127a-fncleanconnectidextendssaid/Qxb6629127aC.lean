import Derived.Test.Qxb6629127aB
namespace Go.Proofs.Qxb6629127a
open Go.RowKit Go.Deep Go.Lib

theorem and128n : ∀ y : Fin 256, (y.1 &&& 128 == 0) = decide (y.1 < 128) := by decide +kernel
theorem and128_lo (y : Int) (h0 : 0 ≤ y) (h : y < 128) : (bits .and .u8 y 128 == 0) = true := by
  rw [u8_and y 128 (by omega) (by omega) (by omega) (by omega)]
  have h1 := and128n ⟨y.toNat, by omega⟩
  simp only at h1
  rw [decide_eq_true (show y.toNat < 128 by omega), beq_iff_eq] at h1
  rw [show (128 : Int).toNat = 128 from rfl, h1]
  rfl
theorem and128_hi (y : Int) (h0 : 128 ≤ y) (h : y < 256) : (bits .and .u8 y 128 == 0) = false := by
  rw [u8_and y 128 (by omega) (by omega) (by omega) (by omega)]
  have h1 := and128n ⟨y.toNat, by omega⟩
  simp only at h1
  rw [decide_eq_false (show ¬ y.toNat < 128 by omega), beq_eq_false_iff_ne] at h1
  rw [show (128 : Int).toNat = 128 from rfl, beq_eq_false_iff_ne]
  omega

theorem and127n : ∀ y : Fin 256, (y.1 &&& 127) = y.1 % 128 := by decide +kernel
theorem and127 (y : Int) (h0 : 0 ≤ y) (h : y < 256) : bits .and .u8 y 127 = y % 128 := by
  rw [u8_and y 127 (by omega) (by omega) (by omega) (by omega)]
  have h1 := and127n ⟨y.toNat, by omega⟩
  simp only at h1
  rw [show (127 : Int).toNat = 127 from rfl, h1]
  omega

set_option maxHeartbeats 800000 in
theorem cb1 (g m cap : Nat) (a : Int) (w : World) (ha0 : 12 ≤ a) (ha : a < 128) (hm1 : (m : Int) ≤ a + 2) (hm2 : a + 2 ≤ (m : Int)) (hmc : m ≤ cap)
    (c0 : w.cell? ⟨g, 0, none⟩ = some (.int .u8 16)) (c1 : w.cell? ⟨g, 1, none⟩ = some (.int .u8 a)) :
    Calls Try.prog 7 #[.slice (some ⟨g, 0, none⟩) m cap] w fun e w' => e = .returned (.tuple #[.slice (some ⟨g, 2, none⟩) (m - 2) (cap - 2), .int .i64 2, .bool true]) ∧ w' = w := by
  have e1 := and128_lo a (by omega) (by omega)
  have e2 : (a == 0) = false := by rw [beq_eq_false_iff_ne]; omega
  have e3 : bits .and .u8 a 127 = a := by rw [and127 a (by omega) (by omega)]; omega
  go_enter Try.func7, Try.ntmps7
  go_wp2
  refine wp_loop_rounds 1 ?_
  rw [rounds_succ]
  go_wp2
  go_ret3
  exact ⟨rfl, rfl⟩

set_option maxHeartbeats 1200000 in
theorem cb2 (g m cap : Nat) (a b : Int) (w : World) (ha0 : 0 ≤ a) (ha : a < 128) (hb0 : 1 ≤ b) (hb : b < 128) (hm1 : (m : Int) ≤ a + b * 128 + 3) (hm2 : a + b * 128 + 3 ≤ (m : Int)) (hmc : m ≤ cap) (hcap : cap ≤ maxLen)
    (c0 : w.cell? ⟨g, 0, none⟩ = some (.int .u8 16)) (c1 : w.cell? ⟨g, 1, none⟩ = some (.int .u8 (a + 128))) (c2 : w.cell? ⟨g, 2, none⟩ = some (.int .u8 b)) :
    Calls Try.prog 7 #[.slice (some ⟨g, 0, none⟩) m cap] w fun e w' => e = .returned (.tuple #[.slice (some ⟨g, 3, none⟩) (m - 3) (cap - 3), .int .i64 3, .bool true]) ∧ w' = w := by
  unfold maxLen at hcap
  have e1 := and128_hi (a + 128) (by omega) (by omega)
  have e2 : (a + 128 == 0) = false := by rw [beq_eq_false_iff_ne]; omega
  have e3 : bits .and .u8 (a + 128) 127 = a := by rw [and127 (a + 128) (by omega) (by omega)]; omega
  have f1 := and128_lo b (by omega) (by omega)
  have f2 : (b == 0) = false := by rw [beq_eq_false_iff_ne]; omega
  have f3 : bits .and .u8 b 127 = b := by rw [and127 b (by omega) (by omega)]; omega
  go_enter Try.func7, Try.ntmps7
  go_wp2
  refine wp_loop_rounds 2 ?_
  rw [rounds_succ]
  go_wp2
  rw [rounds_succ]
  go_wp2
  go_ret3
  exact ⟨rfl, rfl⟩

set_option maxHeartbeats 1600000 in
theorem cb3 (g m cap : Nat) (a b c : Int) (w : World) (ha0 : 0 ≤ a) (ha : a < 128) (hb0 : 0 ≤ b) (hb : b < 128) (hc0 : 1 ≤ c) (hc : c < 128) (hm1 : (m : Int) ≤ a + b * 128 + c * 16384 + 4) (hm2 : a + b * 128 + c * 16384 + 4 ≤ (m : Int)) (hmc : m ≤ cap) (hcap : cap ≤ maxLen)
    (c0 : w.cell? ⟨g, 0, none⟩ = some (.int .u8 16)) (c1 : w.cell? ⟨g, 1, none⟩ = some (.int .u8 (a + 128))) (c2 : w.cell? ⟨g, 2, none⟩ = some (.int .u8 (b + 128))) (c3 : w.cell? ⟨g, 3, none⟩ = some (.int .u8 c)) :
    Calls Try.prog 7 #[.slice (some ⟨g, 0, none⟩) m cap] w fun e w' => e = .returned (.tuple #[.slice (some ⟨g, 4, none⟩) (m - 4) (cap - 4), .int .i64 4, .bool true]) ∧ w' = w := by
  unfold maxLen at hcap
  have e1 := and128_hi (a + 128) (by omega) (by omega)
  have e2 : (a + 128 == 0) = false := by rw [beq_eq_false_iff_ne]; omega
  have e3 : bits .and .u8 (a + 128) 127 = a := by rw [and127 (a + 128) (by omega) (by omega)]; omega
  have f1 := and128_hi (b + 128) (by omega) (by omega)
  have f2 : (b + 128 == 0) = false := by rw [beq_eq_false_iff_ne]; omega
  have f3 : bits .and .u8 (b + 128) 127 = b := by rw [and127 (b + 128) (by omega) (by omega)]; omega
  have g1 := and128_lo c (by omega) (by omega)
  have g2 : (c == 0) = false := by rw [beq_eq_false_iff_ne]; omega
  have g3 : bits .and .u8 c 127 = c := by rw [and127 c (by omega) (by omega)]; omega
  go_enter Try.func7, Try.ntmps7
  go_wp2
  refine wp_loop_rounds 3 ?_
  rw [rounds_succ]
  go_wp2
  rw [rounds_succ]
  go_wp2
  rw [rounds_succ]
  go_wp2
  go_ret3
  exact ⟨rfl, rfl⟩

/-- From offset o of block g on lie the bytes l. -/
def Dat (w : World) (g o : Nat) (l : List Int) : Prop := ∀ j (h : j < l.length), w.cell? ⟨g, o + j, none⟩ = some (.int .u8 l[j])

theorem Dat.later {w w' : World} {g o : Nat} {l : List Int} (h : Dat w g o l) (hb : Below w.heap.size w w') (hg : g < w.heap.size) : Dat w' g o l :=
  fun j hj => (hb.cell (p := ⟨g, o + j, none⟩) hg).trans (h j hj)

theorem Dat.tail {w : World} {g o : Nat} {l m : List Int} (h : Dat w g o (l ++ m)) : Dat w g (o + l.length) m := by
  intro j hj
  have h1 := h (l.length + j) (by simp; omega)
  rw [List.getElem_append_right (by omega)] at h1
  simpa [Nat.add_assoc] using h1

theorem body_length (l : List Int) (lv : Int) : (body l lv).length = (if lv = 5 then 13 else 12) + l.length := by
  unfold body
  split <;> simp <;> omega

theorem own_dat {w : World} {base : Nat} {v : Value} {n : Nat} {l : List Int} (h : w.ownsRow base 5 1 v n (ic l)) (hn : 0 < n) :
    ∃ g cap, v = .slice (some ⟨g, 0, none⟩) n cap ∧ n ≤ cap ∧ cap ≤ maxLen ∧ l.length = n ∧ base ≤ g ∧ g < w.heap.size ∧ Dat w g 0 l := by
  obtain ⟨g, cap, hv, hnc, hl, hb, hlt, hc⟩ := own_shape h hn
  have hcm : cap ≤ maxLen := by
    rcases h.2 with ⟨_, h2⟩ | ⟨g', cap', cur, hv', _, _, _, hm, _⟩
    · omega
    · rw [hv] at hv'; cases hv'; exact hm
  refine ⟨g, cap, hv, hnc, hcm, hl, hb, hlt, fun j hj => ?_⟩
  have h1 := hc j (.int .u8 l[j]) (by simp [ic, hj])
  rwa [WideShapes.add_plain] at h1

/-- zzConnectBody on a packet. -/
theorem cb_any (v : Value) (l : List Int) (lv : Int) (base : Nat) (w : World) (hl : l.length ≤ 65535) (hown : w.ownsRow base 5 1 v (packet l lv).length (ic (packet l lv))) :
    Calls Try.prog 7 #[v] w fun e w' => ∃ g h c : Nat, e = .returned (.tuple #[.slice (some ⟨g, h, none⟩) (body l lv).length c, .int .i64 h, .bool true]) ∧ h = 1 + (vi ((body l lv).length : Int)).length ∧ base ≤ g ∧ g < w.heap.size ∧ Dat w g h (body l lv) ∧ (body l lv).length ≤ c ∧ w' = w := by
  have hbl : 12 ≤ (body l lv).length ∧ (body l lv).length ≤ 65548 := by rw [body_length]; split <;> omega
  have hp : (packet l lv).length = 1 + (vi ((body l lv).length : Int)).length + (body l lv).length := by unfold packet; simp; omega
  obtain ⟨g, cap, hv, hnc, hcm, _, hbg, hglt, hd⟩ := own_dat hown (by omega)
  have hd0 : Dat w g 0 ([16] ++ vi ((body l lv).length : Int) ++ body l lv) := hd
  have htail := hd0.tail
  generalize body l lv = B at *
  rw [hv, hp]
  rw [hp] at hnc
  simp only [List.length_append, List.length_cons, List.length_nil, Nat.zero_add] at htail
  by_cases h1 : (B.length : Int) < 128
  · have ev : vi (B.length : Int) = [(B.length : Int)] := by unfold vi; rw [if_pos h1]
    rw [ev] at hd0 htail hnc ⊢
    simp only [List.length_cons, List.length_nil, Nat.zero_add] at htail hnc ⊢
    refine (cb1 g (1 + 1 + B.length) cap B.length w (by omega) h1 (by omega) (by omega) hnc (hd0 0 (by simp)) (hd0 1 (by simp))).mono fun e w' h => ⟨g, 2, cap - 2, ?_, rfl, hbg, hglt, htail, by omega, h.2⟩
    rw [h.1]; simp
  · by_cases h2 : (B.length : Int) < 16384
    · have ev : vi (B.length : Int) = [(B.length : Int) % 128 + 128, (B.length : Int) / 128] := by unfold vi; rw [if_neg h1, if_pos h2]
      rw [ev] at hd0 htail hnc ⊢
      simp only [List.length_cons, List.length_nil, Nat.zero_add] at htail hnc ⊢
      refine (cb2 g (1 + (1 + 1) + B.length) cap ((B.length : Int) % 128) ((B.length : Int) / 128) w (by omega) (by omega) (by omega) (by omega) (by omega) (by omega) hnc hcm (hd0 0 (by simp)) (hd0 1 (by simp)) (hd0 2 (by simp))).mono fun e w' h => ⟨g, 3, cap - 3, ?_, rfl, hbg, hglt, htail, by omega, h.2⟩
      rw [h.1]; simp
    · have ev : vi (B.length : Int) = [(B.length : Int) % 128 + 128, (B.length : Int) / 128 % 128 + 128, (B.length : Int) / 16384] := by unfold vi; rw [if_neg h1, if_neg h2]
      rw [ev] at hd0 htail hnc ⊢
      simp only [List.length_cons, List.length_nil, Nat.zero_add] at htail hnc ⊢
      refine (cb3 g (1 + (1 + 1 + 1) + B.length) cap ((B.length : Int) % 128) ((B.length : Int) / 128 % 128) ((B.length : Int) / 16384) w (by omega) (by omega) (by omega) (by omega) (by omega) (by omega) (by omega) (by omega) hnc hcm (hd0 0 (by simp)) (hd0 1 (by simp)) (hd0 2 (by simp)) (hd0 3 (by simp))).mono fun e w' h => ⟨g, 4, cap - 4, ?_, rfl, hbg, hglt, htail, by omega, h.2⟩
      rw [h.1]; simp

set_option maxHeartbeats 1600000 in
theorem fixed_any (g o m c : Nat) (lv : Int) (w : World) (hm : 10 ≤ m)
    (c0 : w.cell? ⟨g, o, none⟩ = some (.int .u8 0)) (c1 : w.cell? ⟨g, o + 1, none⟩ = some (.int .u8 4)) (c2 : w.cell? ⟨g, o + 2, none⟩ = some (.int .u8 77)) (c3 : w.cell? ⟨g, o + 3, none⟩ = some (.int .u8 81)) (c4 : w.cell? ⟨g, o + 4, none⟩ = some (.int .u8 84)) (c5 : w.cell? ⟨g, o + 5, none⟩ = some (.int .u8 84))
    (c6 : w.cell? ⟨g, o + 6, none⟩ = some (.int .u8 lv)) (c7 : w.cell? ⟨g, o + 7, none⟩ = some (.int .u8 2)) (c8 : w.cell? ⟨g, o + 8, none⟩ = some (.int .u8 0)) (c9 : w.cell? ⟨g, o + 9, none⟩ = some (.int .u8 60)) :
    Calls Try.prog 8 #[.slice (some ⟨g, o, none⟩) m c, .int .u8 lv] w fun e w' => e = .returned (.bool true) ∧ w' = w := by
  go_enter Try.func8, Try.ntmps8
  go_wp2
  go_ret
  exact ⟨rfl, rfl⟩
end Go.Proofs.Qxb6629127a
