import Derived.Test.Qxb6629086aE
namespace Go.Proofs.Qxb6629086a
open Go.RowKit Go.Deep Go.Lib

/-- Block g holds the bytes l. -/
def Byt (w : World) (g : Nat) (l : List UInt8) : Prop := ∀ j (h : j < l.length), w.cell? ⟨g, j, none⟩ = some (.int .u8 ((l[j]).toNat : Int))

theorem byt_set {w : World} {g n : Nat} {l : List UInt8} {b : UInt8} (h : Byt w g l) (hn : n < l.length) : Byt (w.setCell ⟨g, n, none⟩ (.int .u8 (b.toNat : Int))) g (l.set n b) := by
  intro j hj
  rw [List.length_set] at hj
  rw [List.getElem_set]
  by_cases e : n = j
  · subst e
    rw [if_pos rfl]
    obtain ⟨v, hv⟩ : ∃ v, w.cell? ⟨g, n, none⟩ = some v := ⟨_, h n hn⟩
    simp [World.cell?_setCell_same, hv]
  · rw [if_neg e]
    rw [World.cell?_setCell_other _ _ _ _ (by intro h'; cases h'; exact e rfl)]
    exact h j hj

theorem byt_set' {w : World} {g n : Nat} {l : List UInt8} {b : UInt8} {v : Int} (h : Byt w g l) (hn : n < l.length) (hv : (b.toNat : Int) = v) : Byt (w.setCell ⟨g, n, none⟩ (.int .u8 v)) g (l.set n b) := by
  subst hv; exact byt_set h hn

theorem frozen_of_block {W : World} {g k : Nat} {c : Array Value} {t : TypeId} {a b : Nat} (h : W.heap[g]? = some (.cells c t (a, b))) (hk : k < a) : W.frozen? ⟨g, k, none⟩ = false := by
  simp [World.frozen?, h]; omega

theorem wpList_bytes (w : World) {ops : Array Oper} {rest : List Oper} {o : Oper} {a : Act} {Q : Exit → Act → World → Prop} (hg : o.guard = none) (x : Operand) (ho : o.op = Op.convert 9 26 x)
    (s : ByteArray) (hx : a.eval x = .string s) (g : Nat) (hgs : g = w.heap.size)
    (hK : ∀ cap w', Byt w' g (bs s) → (∀ k, k < s.size → w'.frozen? ⟨g, k, none⟩ = false) → Below w.heap.size w w' → g < w'.heap.size → wpList Try.prog ops Q rest (a.put o.dst (.slice (some ⟨g, 0, none⟩) s.size cap)) w') :
    wpList Try.prog ops Q (o :: rest) a w := by
  subst hgs
  refine wpList_plain hg fun K hK' => ?_
  obtain ⟨cap, W', hr, h1, h2, h3, h4⟩ : ∃ cap W', (convert 9 26 (.string s)).run Try.prog w = .ok (.slice (some ⟨w.heap.size, 0, none⟩) s.size cap) W' ∧ Byt W' w.heap.size (bs s) ∧ (∀ k, k < s.size → W'.frozen? ⟨w.heap.size, k, none⟩ = false) ∧ Below w.heap.size w W' ∧ w.heap.size < W'.heap.size := by
    refine ⟨_, _, run_bytes_of_string (P := Try.prog) w 9 26 5 s Try.underlying9 Try.underlying26 Try.underlying5, fun j hj => cell_bytes w.drew s _ _ j hj, fun k hk => ?_, ((Below.refl _ _).drew.alloc (Nat.le_refl _) _), by simp⟩
    refine frozen_of_block (MapKept.heap_alloc w.drew _).1 ?_
    simp [bytesRow]; omega
  unfold Oper.wp
  simp [execOp, ho, hx, hr, Result.andThen]
  exact hK' _ _ (hK cap W' h1 h2 h3 h4)

theorem wpList_string (w : World) {ops : Array Oper} {rest : List Oper} {o : Oper} {a : Act} {Q : Exit → Act → World → Prop} (hg : o.guard = none) (x : Operand) (ho : o.op = Op.convert 26 9 x)
    (g m cap : Nat) (l : List UInt8) (hx : a.eval x = .slice (some ⟨g, 0, none⟩) m cap) (hm : l.length = m) (hb : Byt w g l)
    (hK : ∀ t, bs t = l → wpList Try.prog ops Q rest (a.put o.dst (.string t)) w) :
    wpList Try.prog ops Q (o :: rest) a w := by
  subst hm
  refine wpList_plain hg fun K hK' => ?_
  have hr := run_convert_bytes_back (P := Try.prog) w 26 9 5 ⟨g, 0, none⟩ cap l Try.underlying26 Try.underlying5 Try.underlying9 (fun j hj => by rw [WideShapes.add_plain, Nat.zero_add]; exact hb j hj)
  generalize ht : (⟨l.toArray⟩ : ByteArray) = t at hr
  unfold Oper.wp
  simp [execOp, ho, hx, hr, Result.andThen]
  exact hK' _ _ (hK t (by rw [← ht]; simp [bs]))

theorem valid_rep (b : UInt8) : valid (List.replicate 24 b) = isHex b := by
  simp [valid]
theorem all_set (l : List UInt8) (n : Nat) (b : UInt8) (hn : n < l.length) : (l.set n b).all isHex = ((l.take n).all isHex && (isHex b && (l.drop (n + 1)).all isHex)) := by
  rw [List.set_eq_take_append_cons_drop, if_pos hn, List.all_append, List.all_cons]
theorem valid_set (l : List UInt8) (n : Nat) (b : UInt8) (hn : n < l.length) : valid (l.set n b) = (valid (l.set n 48) && isHex b) := by
  have h48 : isHex 48 = true := by decide
  unfold valid
  rw [all_set l n b hn, all_set l n 48 hn, h48, List.length_set, List.length_set]
  generalize (l.take n).all isHex = p
  generalize (l.drop (n + 1)).all isHex = q
  generalize decide (l.length = 24) = r
  cases p <;> cases q <;> cases r <;> simp
theorem valid_at (l : List UInt8) (n : Nat) (hn : n < l.length) : valid l = (valid (l.set n 48) && isHex l[n]) := by
  have h := valid_set l n l[n] hn
  rw [List.set_getElem_self] at h
  exact h

set_option maxHeartbeats 2000000 in
theorem law4 (s : ByteArray) (i : Int) (c : UInt8) (w : World) (hs : s.size ≤ maxLen) : Calls Try.prog 4 #[.string s, .int .i64 i, .int .u8 (c.toNat : Int)] w fun e w' => e = .returned (.bool true) ∧ Below w.heap.size w w' := by
  have hs' := hs
  unfold maxLen at hs'
  go_enter Try.func4, Try.ntmps4
  go_wp2_with fail
  refine (bytesB s i c.toNat w hs).mono ?_
  rintro e w1 ⟨rfl, rfl⟩
  by_cases hb : s.size ≤ 1048576
  case neg =>
    rw [decide_eq_false hb]
    go_wp2
    go_ret
    exact ⟨rfl, Below.refl _ _⟩
  rw [decide_eq_true hb]
  by_cases hi0 : i < 0
  case pos =>
    go_wp2
    go_ret
    exact ⟨rfl, Below.refl _ _⟩
  obtain ⟨n, rfl⟩ := Int.eq_ofNat_of_zero_le (show 0 ≤ i by omega)
  by_cases hn : n < s.size
  case neg =>
    go_wp2
    go_ret
    exact ⟨rfl, Below.refl _ _⟩
  have hn' : n < (bs s).length := by rw [bs_length]; exact hn
  go_wp2_with (first
    | (refine wpList_bytes _ rfl (.tmp 31) rfl s rfl w1.heap.size rfl ?_; intro cap1 w2 hy2 hz2 hb2 hl2; have q1 := hy2 n hn'; have q2 := hz2 n hn)
    | (refine wpList_string _ rfl (.tmp 36) rfl w1.heap.size s.size _ ((bs s).set n 48) rfl (by rw [List.length_set, bs_length]) (byt_set' hy2 hn' rfl) ?_; intro t1 ht1; have HT1 : Hid (bs t1 = (bs s).set n 48) := ht1; clear ht1)
    | (refine wpList_bytes _ rfl (.tmp 38) rfl s rfl w2.heap.size (by simp) ?_; intro cap2 w3 hy3 hz3 hb3 hl3; have q3 := hy3 n hn'; have q4 := hz3 n hn)
    | (refine wpList_string _ rfl (.tmp 44) rfl w2.heap.size s.size _ ((bs s).set n c) rfl (by rw [List.length_set, bs_length]) (byt_set' hy3 hn' rfl) ?_; intro t2 ht2; have HT2 : Hid (bs t2 = (bs s).set n c) := ht2; clear ht2))
  have hB4 : Below w1.heap.size w1 (w3.setCell ⟨w2.heap.size, n, none⟩ (.int .u8 (c.toNat : Int))) := by
    have h2 := hb2.size
    have h3 := (hb2.setCell (p := ⟨w1.heap.size, n, none⟩) (Nat.le_refl _) (.int .u8 48)).trans (hb3.mono (by simp; omega))
    exact h3.setCell (by simp; omega) _
  generalize w3.setCell ⟨w2.heap.size, n, none⟩ (.int .u8 (c.toNat : Int)) = w4 at *
  clear hy2 hz2 hb2 hl2 q1 q2 hy3 hz3 hb3 hl3 q3 q4
  have HV : Hid (valid (bs s) = (valid (bs t1) && isHex (s[n]'hn))) := by
    show _ = _
    rw [HT1.out]; exact valid_at (bs s) n hn'
  have HU : Hid (valid (bs t2) = (valid (bs t1) && isHex c)) := by
    show _ = _
    rw [HT1.out, HT2.out]; exact valid_set (bs s) n c hn'
  clear HT1 HT2 hn'
  have h6 := valid_any t1 w4
  refine h6.mono ?_
  clear h6
  rintro e w5 ⟨rfl, hb5⟩
  have hB5 := hB4.trans (hb5.mono hB4.size)
  cases hR : valid (bs t1)
  · have hv := HV.out
    have hu := HU.out
    rw [hR] at hv hu
    simp only [Bool.false_and] at hv hu
    clear HV HU hR
    have h6 := valid_any s w5
    rw [hv] at h6
    go_wp2_with fail
    refine h6.mono ?_
    clear h6 hv
    rintro e w6 ⟨rfl, hb6⟩
    have hB6 := hB5.trans (hb6.mono hB5.size)
    have h6 := valid_any t2 w6
    rw [hu] at h6
    clear hu
    go_wp2_with fail
    refine h6.mono ?_
    clear h6
    rintro e w7 ⟨rfl, hb7⟩
    have hB7 := hB6.trans (hb7.mono hB6.size)
    go_wp2_with fail
    refine (rep24 c _).mono ?_
    rintro e w8 ⟨t4, rfl, ht4, hb8⟩
    have hB8 := hB7.trans (hb8.mono hB7.size)
    have h6 := valid_any t4 w8
    rw [ht4, valid_rep] at h6
    clear ht4
    go_wp2_with fail
    refine h6.mono ?_
    clear h6
    rintro e w9 ⟨rfl, hb9⟩
    have hB9 := hB8.trans (hb9.mono hB8.size)
    go_wp2_with fail
    refine (hexd c _).mono ?_
    rintro e w10 ⟨rfl, hw⟩
    subst hw
    go_wp2
    go_ret
    exact ⟨rfl, hB9⟩
  · have hv := HV.out
    have hu := HU.out
    rw [hR] at hv hu
    simp only [Bool.true_and] at hv hu
    clear HV HU hR
    have h6 := valid_any s w5
    rw [hv] at h6
    go_wp2_with fail
    refine h6.mono ?_
    clear h6 hv
    rintro e w6 ⟨rfl, hb6⟩
    have hB6 := hB5.trans (hb6.mono hB5.size)
    go_wp2_with fail
    refine (rep24 (s[n]'hn) _).mono ?_
    rintro e w6' ⟨t3, rfl, ht3, hb6'⟩
    have hB6' := hB6.trans (hb6'.mono hB6.size)
    have h6 := valid_any t3 w6'
    rw [ht3, valid_rep] at h6
    clear ht3
    go_wp2_with fail
    refine h6.mono ?_
    clear h6
    rintro e w6'' ⟨rfl, hb6''⟩
    have hB6'' := hB6'.trans (hb6''.mono hB6'.size)
    have h6 := valid_any t2 w6''
    rw [hu] at h6
    clear hu
    go_wp2_with fail
    refine h6.mono ?_
    clear h6
    rintro e w7 ⟨rfl, hb7⟩
    have hB7 := hB6''.trans (hb7.mono hB6''.size)
    go_wp2_with fail
    refine (rep24 c _).mono ?_
    rintro e w7' ⟨t5, rfl, ht5, hb7'⟩
    have hB7' := hB7.trans (hb7'.mono hB7.size)
    have h6 := valid_any t5 w7'
    rw [ht5, valid_rep] at h6
    clear ht5
    go_wp2_with fail
    refine h6.mono ?_
    clear h6
    rintro e w7'' ⟨rfl, hb7''⟩
    have hB7'' := hB7'.trans (hb7''.mono hB7'.size)
    go_wp2_with fail
    refine (rep24 c _).mono ?_
    rintro e w8 ⟨t4, rfl, ht4, hb8⟩
    have hB8 := hB7''.trans (hb8.mono hB7''.size)
    have h6 := valid_any t4 w8
    rw [ht4, valid_rep] at h6
    clear ht4
    go_wp2_with fail
    refine h6.mono ?_
    clear h6
    rintro e w9 ⟨rfl, hb9⟩
    have hB9 := hB8.trans (hb9.mono hB8.size)
    go_wp2_with fail
    refine (hexd c _).mono ?_
    rintro e w10 ⟨rfl, hw⟩
    subst hw
    go_wp2
    go_ret
    exact ⟨rfl, hB9⟩
end Go.Proofs.Qxb6629086a
