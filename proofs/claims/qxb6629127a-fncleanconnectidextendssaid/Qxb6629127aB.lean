import Derived.Test.Qxb6629127aA
namespace Go.Proofs.Qxb6629127a
open Go.RowKit Go.Deep Go.Lib

/-- The bytes of a string as numbers (a name that the walk does not open). -/
def ids (s : ByteArray) : List Int := s.data.toList.map fun b => (b.toNat : Int)
theorem ids_length (s : ByteArray) : (ids s).length = s.size := by simp [ids]
theorem strCells_ids (s : ByteArray) : strCells s = ic (ids s) := by simp [strCells, ic, ids]

/-- The body of the packet. -/
def body (l : List Int) (lv : Int) : List Int :=
  [0, 4, 77, 81, 84, 84] ++ [lv, 2, 0, 60] ++ (if lv = 5 then [0] else []) ++ [(l.length : Int) / 256, (l.length : Int) % 256] ++ l

theorem own_build (w : World) (x : Int) : (w.alloc (.cells #[.int .u8 x] 5)).ownsRow w.heap.size 5 1 (.slice (some ⟨w.heap.size, 0, none⟩) 1 1) 1 (ic [x]) :=
  ⟨rfl, .inr ⟨w.heap.size, 1, #[.int .u8 x], rfl, Nat.le_refl _, heap_alloc_new w _, Nat.le_refl _, by unfold maxLen; omega, rfl, rfl⟩⟩

theorem own_shape {w : World} {base : Nat} {v : Value} {n : Nat} {l : List Int} (h : w.ownsRow base 5 1 v n (ic l)) (hn : 0 < n) :
    ∃ g cap, v = .slice (some ⟨g, 0, none⟩) n cap ∧ n ≤ cap ∧ l.length = n ∧ base ≤ g ∧ g < w.heap.size ∧ ∀ j u, (ic l)[j]? = some u → w.cell? ((⟨g, 0, none⟩ : Addr).add j) = some u := by
  have hl : l.length = n := by have := h.1; rw [ic_length] at this; omega
  have h' := h
  rcases h.2 with ⟨_, h2⟩ | ⟨g, cap, cur, hv, hbg, hh, hnc, _⟩
  · omega
  · have hlt := h'.lt g (by rw [hv]; rfl)
    exact ⟨g, cap, hv, hnc, hl, hlt.1, hlt.2, fun j u hj => h'.cells (g := g) (by rw [hv]; rfl) j u hj⟩

/-- The cells of a new row. -/
theorem row_at (w : World) (C : Array Value) (fr : Nat × Nat) (l : List Value) (g : Nat) (hC : C.toList = l) (hg : g = w.heap.size) :
    ∀ j u, l[j]? = some u → (w.alloc (.cells C 5 fr)).cell? ((⟨g, 0, none⟩ : Addr).add j) = some u := by
  intro j u hj
  subst hg
  subst hC
  rw [WideShapes.add_plain, Nat.zero_add]
  have h : (w.alloc (.cells C 5 fr)).heap[w.heap.size]? = some (.cells C 5 fr) := (MapKept.heap_alloc w _).1
  generalize w.alloc (.cells C 5 fr) = W at h
  simpa [World.cell?, h] using hj

theorem ownsRow_mono {w : World} {b b' e size : Nat} {v : Value} {n : Nat} {xs : List Value} (h : w.ownsRow b e size v n xs) (hb : b' ≤ b) : w.ownsRow b' e size v n xs := by
  obtain ⟨h1, h2⟩ := h
  refine ⟨h1, ?_⟩
  rcases h2 with h2 | ⟨g, cap, cur, hv, hg, r⟩
  · exact Or.inl h2
  · exact Or.inr ⟨g, cap, cur, hv, by omega, r⟩

/-- One append to what the call owns: what stays. -/
theorem below_own {B : Nat} {w w3 : World} {v : Value} {n : Nat} {xs : List Value} (hB : B ≤ w.heap.size) (hown : w.ownsRow B 5 1 v n xs) (hg : w.grownBy w3 v.ownBlock) : Below B w w3 :=
  (Below.refl _ _).grown hg hB (fun g hg => (hown.lt g hg).1)

/-- The packet. -/
def packet (l : List Int) (lv : Int) : List Int := [16] ++ vi (body l lv).length ++ body l lv

theorem vi_length (x : Int) : (vi x).length ≤ 3 := by
  unfold vi
  split
  · simp
  · split <;> simp

set_option maxHeartbeats 1600000 in
theorem cc5 (id : ByteArray) (w : World) (hid : id.size ≤ 65535) :
    Calls Try.prog 6 #[.string id, .int .u8 5] w fun e w' => ∃ v, e = .returned v ∧ w'.ownsRow w.heap.size 5 1 v (packet (ids id) 5).length (ic (packet (ids id) 5)) ∧ Below w.heap.size w w' := by
  obtain ⟨i0, hi, hz0, hz1, hz2⟩ := info_parts info5
  have kc := fun (w : World) (C : Array Value) (n c : Nat) => Lib.run_convert_bytes_const (P := Try.prog) w 23 5 C n c Try.underlying23 Try.underlying5
  have HB : Hid (body (ids id) 5 = [0, 4, 77, 81, 84, 84] ++ [5, 2, 0, 60] ++ [0] ++ [(id.size : Int) / 256, (id.size : Int) % 256] ++ ids id) := by
    show _ = _
    simp [body, ids_length]
  go_enter Try.func6, Try.ntmps6
  go_wp2_with (first
    | (at_builtin; refine wpList_append_grows _ rfl (.tmp 7) (.tmp 9) 23 rfl 5 i0 (.int .u8 0) 1 1 Try.underlying23 hi hz0 hz1 hz2 rfl (by decide) (some ⟨w.heap.size, 0, none⟩) 6 6 (ic [0, 4, 77, 81, 84, 84]) rfl (by simp) rfl (fun b hb j u hj => by cases hb; exact cell?_alloc_marked _ (row_at _ _ _ _ _ rfl rfl j u hj)) ⟨w.heap.size + 1, 0, none⟩ 4 4 (ic [5, 2, 0, 60]) rfl rfl (row_at _ _ _ _ _ rfl (by simp)) (fun u hu => ic_one hu) (by omega) (by unfold maxLen; omega) (by omega) ?_; intro v1 w1 hown1 hg1; have hB1 : Below w.heap.size w w1 := (((Below.refl _ _).alloc (Nat.le_refl _) _).alloc (by simp) _).grown hg1 (by simp; omega) (fun k hk => by cases hk); have hz1' := hB1.size; have hown1 := ownsRow_mono (b' := w.heap.size) hown1 (by simp; omega); clear kc)
    | (at_builtin; refine wpList_append_own _ rfl (.tmp 13) (.tmp 14) 23 rfl w.heap.size 5 i0 (.int .u8 0) 1 1 Try.underlying23 hi hz0 hz1 hz2 rfl (by decide) _ _ _ rfl (hown1.alloc _) ⟨w1.heap.size, 0, none⟩ 1 1 (ic [0]) rfl rfl (cell_one_new _ _ _) (fun u hu => ic_one hu) (by unfold maxLen; omega) (by omega) (by simp; omega) ?_; intro v2 w2 hown2 hg2 _; have hB2 : Below w.heap.size w w2 := hB1.trans (below_app hz1' hown1 hg2); have hz2' := hB2.size)
    | (at_builtin; refine wpList_append_own _ rfl (.tmp 16) (.tmp 24) 23 rfl w.heap.size 5 i0 (.int .u8 0) 1 1 Try.underlying23 hi hz0 hz1 hz2 rfl (by decide) _ _ _ rfl (hown2.alloc _) ⟨w2.heap.size, 0, none⟩ 2 2 (ic [(id.size : Int) / 256, (id.size : Int) % 256]) rfl rfl (row_at _ _ _ _ _ rfl rfl) (fun u hu => ic_one hu) (by unfold maxLen; omega) (by omega) (by simp; omega) ?_; intro v3 w3 hown3 hg3 _; have hB3 : Below w.heap.size w w3 := hB2.trans (below_app hz2' hown2 hg3); have hz3' := hB3.size)
    | (at_builtin; refine wpList_append_own_string _ rfl (.tmp 25) (.tmp 26) 23 9 rfl w.heap.size 5 i0 Try.underlying23 Try.underlying9 hi hz0 hz1 hz2 _ _ _ rfl hown3 id rfl (by unfold maxLen; omega) (by omega) hz3' ?_; intro v4 w4 hown4 hg4 _; have hB4 : Below w.heap.size w w4 := hB3.trans (below_own hz3' hown3 hg4); have hz4' := hB4.size; obtain ⟨m, hm⟩ : ∃ m, m = 6 + 4 + 1 + 2 + id.size := ⟨_, rfl⟩; have hm2 : m ≤ 65548 := (by omega); have hm3 : 12 ≤ m := (by omega); rw [← hm, strCells_ids] at hown4; have hown5 : w4.ownsRow w.heap.size 5 1 v4 m (ic (body (ids id) 5)) := (by rw [HB.out, ic_append, ic_append, ic_append, ic_append]; exact hown4); have HM : Hid (m = 6 + 4 + 1 + 2 + id.size) := hm; clear hm hown4 hg4 hown1 hg1 hown2 hg2 hown3 hg3; obtain ⟨g, cap, hv, hnc, hl, hbg, hglt, hcells⟩ := own_shape hown5 (by omega); have HL : Hid ((body (ids id) 5).length = m) := hl; clear hl hown5; subst hv))
  refine (varint_any _ 1 [16] m w4.heap.size _ (by omega) (by omega) (by omega) (by simp) (own_build w4 16)).mono ?_
  rintro e w5 ⟨v5, rfl, hown5, hb5⟩
  have hB5 : Below w.heap.size w w5 := (hB4.alloc hz4' _).trans (hb5.mono hz4')
  have hvl : (vi (m : Int)).length ≤ 3 := vi_length _
  have hz5 := hb5.size
  rw [World.size_alloc] at hz5
  have hcells5 : ∀ j u, (ic (body (ids id) 5))[j]? = some u → w5.cell? ((⟨g, 0, none⟩ : Addr).add j) = some u := fun j u hj => by
    have h4 := hcells j u hj
    rw [WideShapes.add_plain] at h4 ⊢
    exact (hb5.cell (p := ⟨g, 0 + j, none⟩) hglt).trans (cell?_alloc_marked _ h4)
  go_wp2_with (at_builtin; refine wpList_append_own _ rfl (.tmp 31) (.tmp 32) 23 rfl w4.heap.size 5 i0 (.int .u8 0) 1 1 Try.underlying23 hi hz0 hz1 hz2 rfl (by decide) _ _ _ rfl hown5 ⟨g, 0, none⟩ m cap (ic (body (ids id) 5)) rfl (by rw [ic_length, HL.out, Nat.mul_one]) hcells5 (fun u hu => ic_one hu) (by unfold maxLen; omega) (by omega) (by omega) ?_; intro v6 w6 hown6 hg6 _)
  go_ret
  have e1 : packet (ids id) 5 = [16] ++ vi (m : Int) ++ body (ids id) 5 := by unfold packet; rw [HL.out]
  have e2 : (packet (ids id) 5).length = 1 + (vi (m : Int)).length + m := by rw [e1]; simp only [List.length_append, HL.out, List.length_cons, List.length_nil]
  refine ⟨_, rfl, ?_, hB5.trans ((below_own (by omega) hown5 hg6).mono hz4')⟩
  rw [e2, e1, ic_append]
  exact ownsRow_mono hown6 hz4'

set_option maxHeartbeats 1600000 in
theorem ccN (id : ByteArray) (lv : Int) (w : World) (hid : id.size ≤ 65535) (hlv : (lv == 5) = false) :
    Calls Try.prog 6 #[.string id, .int .u8 lv] w fun e w' => ∃ v, e = .returned v ∧ w'.ownsRow w.heap.size 5 1 v (packet (ids id) lv).length (ic (packet (ids id) lv)) ∧ Below w.heap.size w w' := by
  obtain ⟨i0, hi, hz0, hz1, hz2⟩ := info_parts info5
  have kc := fun (w : World) (C : Array Value) (n c : Nat) => Lib.run_convert_bytes_const (P := Try.prog) w 23 5 C n c Try.underlying23 Try.underlying5
  have HB : Hid (body (ids id) lv = [0, 4, 77, 81, 84, 84] ++ [lv, 2, 0, 60] ++  [(id.size : Int) / 256, (id.size : Int) % 256] ++ ids id) := by
    show _ = _
    simp [body, ids_length, beq_eq_false_iff_ne.1 hlv]
  go_enter Try.func6, Try.ntmps6
  go_wp2_with (first
    | (at_builtin; refine wpList_append_grows _ rfl (.tmp 7) (.tmp 9) 23 rfl 5 i0 (.int .u8 0) 1 1 Try.underlying23 hi hz0 hz1 hz2 rfl (by decide) (some ⟨w.heap.size, 0, none⟩) 6 6 (ic [0, 4, 77, 81, 84, 84]) rfl (by simp) rfl (fun b hb j u hj => by cases hb; exact cell?_alloc_marked _ (row_at _ _ _ _ _ rfl rfl j u hj)) ⟨w.heap.size + 1, 0, none⟩ 4 4 (ic [lv, 2, 0, 60]) rfl rfl (row_at _ _ _ _ _ rfl (by simp)) (fun u hu => ic_one hu) (by omega) (by unfold maxLen; omega) (by omega) ?_; intro v1 w1 hown1 hg1; have hB1 : Below w.heap.size w w1 := (((Below.refl _ _).alloc (Nat.le_refl _) _).alloc (by simp) _).grown hg1 (by simp; omega) (fun k hk => by cases hk); have hz1' := hB1.size; have hown1 := ownsRow_mono (b' := w.heap.size) hown1 (by simp; omega); clear kc)
    | (at_builtin; refine wpList_append_own _ rfl (.tmp 16) (.tmp 24) 23 rfl w.heap.size 5 i0 (.int .u8 0) 1 1 Try.underlying23 hi hz0 hz1 hz2 rfl (by decide) _ _ _ rfl (hown1.alloc _) ⟨w1.heap.size, 0, none⟩ 2 2 (ic [(id.size : Int) / 256, (id.size : Int) % 256]) rfl rfl (row_at _ _ _ _ _ rfl rfl) (fun u hu => ic_one hu) (by unfold maxLen; omega) (by omega) (by simp; omega) ?_; intro v3 w3 hown3 hg3 _; have hB3 : Below w.heap.size w w3 := hB1.trans (below_app hz1' hown1 hg3); have hz3' := hB3.size)
    | (at_builtin; refine wpList_append_own_string _ rfl (.tmp 25) (.tmp 26) 23 9 rfl w.heap.size 5 i0 Try.underlying23 Try.underlying9 hi hz0 hz1 hz2 _ _ _ rfl hown3 id rfl (by unfold maxLen; omega) (by omega) hz3' ?_; intro v4 w4 hown4 hg4 _; have hB4 : Below w.heap.size w w4 := hB3.trans (below_own hz3' hown3 hg4); have hz4' := hB4.size; obtain ⟨m, hm⟩ : ∃ m, m = 6 + 4 + 2 + id.size := ⟨_, rfl⟩; have hm2 : m ≤ 65548 := (by omega); have hm3 : 12 ≤ m := (by omega); rw [← hm, strCells_ids] at hown4; have hown5 : w4.ownsRow w.heap.size 5 1 v4 m (ic (body (ids id) lv)) := (by rw [HB.out, ic_append, ic_append, ic_append]; exact hown4); have HM : Hid (m = 6 + 4 + 2 + id.size) := hm; clear hm hown4 hg4 hown1 hg1 hown3 hg3; obtain ⟨g, cap, hv, hnc, hl, hbg, hglt, hcells⟩ := own_shape hown5 (by omega); have HL : Hid ((body (ids id) lv).length = m) := hl; clear hl hown5; subst hv))
  refine (varint_any _ 1 [16] m w4.heap.size _ (by omega) (by omega) (by omega) (by simp) (own_build w4 16)).mono ?_
  rintro e w5 ⟨v5, rfl, hown5, hb5⟩
  have hB5 : Below w.heap.size w w5 := (hB4.alloc hz4' _).trans (hb5.mono hz4')
  have hvl : (vi (m : Int)).length ≤ 3 := vi_length _
  have hz5 := hb5.size
  rw [World.size_alloc] at hz5
  have hcells5 : ∀ j u, (ic (body (ids id) lv))[j]? = some u → w5.cell? ((⟨g, 0, none⟩ : Addr).add j) = some u := fun j u hj => by
    have h4 := hcells j u hj
    rw [WideShapes.add_plain] at h4 ⊢
    exact (hb5.cell (p := ⟨g, 0 + j, none⟩) hglt).trans (cell?_alloc_marked _ h4)
  go_wp2_with (at_builtin; refine wpList_append_own _ rfl (.tmp 31) (.tmp 32) 23 rfl w4.heap.size 5 i0 (.int .u8 0) 1 1 Try.underlying23 hi hz0 hz1 hz2 rfl (by decide) _ _ _ rfl hown5 ⟨g, 0, none⟩ m cap (ic (body (ids id) lv)) rfl (by rw [ic_length, HL.out, Nat.mul_one]) hcells5 (fun u hu => ic_one hu) (by unfold maxLen; omega) (by omega) (by omega) ?_; intro v6 w6 hown6 hg6 _)
  go_ret
  have e1 : packet (ids id) lv = [16] ++ vi (m : Int) ++ body (ids id) lv := by unfold packet; rw [HL.out]
  have e2 : (packet (ids id) lv).length = 1 + (vi (m : Int)).length + m := by rw [e1]; simp only [List.length_append, HL.out, List.length_cons, List.length_nil]
  refine ⟨_, rfl, ?_, hB5.trans ((below_own (by omega) hown5 hg6).mono hz4')⟩
  rw [e2, e1, ic_append]
  exact ownsRow_mono hown6 hz4'

theorem cc_any (id : ByteArray) (lv : Int) (w : World) (hid : id.size ≤ 65535) :
    Calls Try.prog 6 #[.string id, .int .u8 lv] w fun e w' => ∃ v, e = .returned v ∧ w'.ownsRow w.heap.size 5 1 v (packet (ids id) lv).length (ic (packet (ids id) lv)) ∧ Below w.heap.size w w' := by
  by_cases h : lv = 5
  · subst h; exact cc5 id w hid
  · exact ccN id lv w hid (beq_eq_false_iff_ne.2 h)
end Go.Proofs.Qxb6629127a
