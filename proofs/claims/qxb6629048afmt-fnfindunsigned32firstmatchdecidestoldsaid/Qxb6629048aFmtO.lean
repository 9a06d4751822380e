import Derived.Test.Qxb6629048aFmtG
import Derived.ProofKit
import Derived.Lib.SmallJoins
import Derived.Deep.Slices
import Derived.SizedLaws
namespace Go.Proofs.Qxb6629048aFmt
open Go.ChangeShapes Go.WideShapes Go.ChangeAt Go.RowKit Go.Deep Go.Joins

theorem cells5 : Tryf.prog.cellsOf 5 = 1 := by kernel_rfl
theorem cells23 : Tryf.prog.cellsOf 23 = 1 := by kernel_rfl
theorem cells25 : Tryf.prog.cellsOf 25 = 1 := by kernel_rfl
theorem cells27 : Tryf.prog.cellsOf 27 = 4 := by kernel_rfl
theorem bytes5 : Tryf.prog.bytesOf 5 = 1 := by kernel_rfl
theorem bytes27 : Tryf.prog.bytesOf 27 = 40 := by kernel_rfl

section
variable {H : Type} {enc : TypeId × Value → H} {W : World} {base : Nat} {held : Bool}

/-- A slice of bytes that is read, as plain data. -/
theorem open_data {fuel : Nat} {v : Value} {x : DataW H × List MemPlace} (h : DataW.trod enc Tryf.prog W base (fun _ => true) held fuel 25 [v] = some x) (hw : ∀ n ∈ x.1.weights Tryf.prog 25, n ≤ reachBytes) :
    ∃ (ao : Option Addr) (xs : List Int) (c : Nat), v = .slice ao xs.length c ∧ Dat W ao xs ∧ xs.length ≤ 140737488351232 := by
  rcases open_ints Tryf.underlying25 Tryf.underlying5 cells5 h with ⟨hcs, _⟩ | ⟨a, len, cap, zs, hcs, _, hl, hm, hz, hx, hcell, _⟩
  · simp only [List.cons.injEq, and_true] at hcs
    exact ⟨none, [], 0, hcs, Or.inl rfl, by simp⟩
  · simp only [List.cons.injEq, and_true] at hcs
    simp only [if_true] at hz
    have hlen : (zs.take len).length = len := by rw [List.length_take]; omega
    refine ⟨some a, zs.take len, cap, by rw [hlen]; exact hcs, ?_, ?_⟩
    · by_cases h0 : len = 0
      · left; rw [h0]; rfl
      · right
        have c0 := hcell 0 (by omega)
        have hs : a.spot = none := World.cell?_spot (a := a.add 0) c0
        have hlt : a.block < W.heap.size := World.block_lt_of_cell? W (a.add 0) c0
        obtain ⟨b, o, s⟩ := a
        simp only at hs
        subst hs
        refine ⟨b, o, rfl, hlt, fun i hi => ?_⟩
        have := hcell i (by omega)
        rw [add_plain] at this
        rw [this]
        rw [hlen] at hi
        simp [List.getD, List.getElem?_take_of_lt hi]
    · subst hx
      have := hw (((lits (H := H) .u8 (zs.take len)).length + (lits (H := H) .u8 (zs.drop len)).length) * Tryf.prog.bytesOf 5) (by simp [DataW.weights, Tryf.underlying25])
      simp only [lits, List.length_map, bytes5, reachBytes] at this
      omega

/-- A struct of the law's own type that is read, as plain data. -/
theorem open_el {fuel : Nat} {v0 v1 v2 v3 : Value} {x : DataW H × List MemPlace} (h : DataW.trod enc Tryf.prog W base (fun _ => true) held fuel 27 [v0, v1, v2, v3] = some x) (hw : ∀ n ∈ x.1.weights Tryf.prog 27, n ≤ reachBytes) :
    ∃ (el : El) (ao : Option Addr) (c : Nat), v0 = .int .u32 el.code ∧ v1 = .int .u8 el.fl ∧ v2 = .int .u32 el.ven ∧ v3 = .slice ao el.xs.length c ∧ Dat W ao el.xs ∧ el.xs.length ≤ 140737488351232 := by
  obtain ⟨y0, y1, y2, y3, n, rfl, _, h0, h1, h2, h3⟩ := trod_struct4 Tryf.underlying27 h
  simp only [cells23, cells5, cells25, List.drop_zero, List.drop_succ_cons, List.take_succ_cons, List.take_zero] at h0 h1 h2 h3
  obtain ⟨a0, e0, _, _⟩ := DataW.trod_int Tryf.underlying23 h0
  obtain ⟨a1, e1, _, _⟩ := DataW.trod_int Tryf.underlying5 h1
  obtain ⟨a2, e2, _, _⟩ := DataW.trod_int Tryf.underlying23 h2
  simp only [List.cons.injEq, and_true] at e0 e1 e2
  obtain ⟨ao, xs, c, e3, hd, hl⟩ := open_data h3 (fun m hm => hw m (by
    simp only [DataW.weights, Tryf.underlying27]
    exact DataW.weights_mem_each (j := 3) (t := 25) (d := y3.1) rfl rfl m hm))
  exact ⟨⟨a0, a1, a2, xs⟩, ao, c, e0, e1, e2, e3, hd, hl⟩

theorem weights_mem_all {P : Program} {e : TypeId} : ∀ {ds : List (DataW H)} {d : DataW H}, d ∈ ds → ∀ n ∈ d.weights P e, n ∈ DataW.weightsAll P e ds
  | d' :: r, d, hd, n, hn => by
    simp only [DataW.weightsAll, List.mem_append]
    rcases List.mem_cons.1 hd with rfl | h
    · exact Or.inl hn
    · exact Or.inr (weights_mem_all h n hn)

/-- A slice of such structs that is read, as plain data. -/
theorem open_els {fuel : Nat} {v : Value} {x : DataW H × List MemPlace} (h : DataW.trod enc Tryf.prog W base (fun _ => true) held fuel 22 [v] = some x) (hw : ∀ n ∈ x.1.weights Tryf.prog 22, n ≤ reachBytes) :
    ∃ (ao : Option Addr) (L : List El) (c : Nat), v = .slice ao L.length c ∧ Lst W ao L ∧ L.length ≤ c ∧ c ≤ 140737488351232 ∧ (∀ e ∈ L, e.xs.length ≤ 140737488351232) := by
  rcases open_slice Tryf.underlying22 h with ⟨hcs, _⟩ | ⟨a, len, cap, m, n, D, Pl, hcs, _, hl, hm, hmm, hx, hel⟩
  · simp only [List.cons.injEq, and_true] at hcs
    exact ⟨none, [], 0, hcs, Or.inl rfl, by simp, by simp, fun e he => by cases he⟩
  simp only [List.cons.injEq, and_true] at hcs
  simp only [if_true] at hmm
  subst hmm
  subst hx
  have hwt : ∀ i, i < len → ∀ q ∈ (D i).weights Tryf.prog 27, q ≤ reachBytes := by
    intro i hi q hq
    refine hw q ?_
    simp only [DataW.weights, Tryf.underlying22, List.mem_cons, List.mem_append]
    exact Or.inr (Or.inl (weights_mem_all (List.mem_map.2 ⟨i, List.mem_range.2 hi, rfl⟩) q hq))
  have hcap : m ≤ 140737488351232 := by
    have := hw ((((List.range len).map D).length + ((List.range (m - len)).map fun j => D (len + j)).length) * Tryf.prog.bytesOf 27) (by simp [DataW.weights, Tryf.underlying22])
    simp only [List.length_map, List.length_range, bytes27, reachBytes] at this
    omega
  by_cases h0 : len = 0
  · subst h0
    exact ⟨some a, [], m, hcs, Or.inl rfl, by simp, hcap, fun e he => by cases he⟩
  have hsp : a.spot = none ∧ a.block < W.heap.size := by
    obtain ⟨cs', h1, _⟩ := hel 0 (by omega)
    rw [cells27] at h1
    obtain ⟨_, hlen, hcell⟩ := World.cells?_some h1
    match cs', hlen with
    | [v0, v1, v2, v3], _ =>
      have c0 := hcell 0 (by omega)
      exact ⟨World.cell?_spot (a := a) c0, World.block_lt_of_cell? W a c0⟩
  obtain ⟨b, o, s⟩ := a
  obtain ⟨hs, hlt⟩ := hsp
  simp only at hs hlt
  subst hs
  have each : ∀ i, i < len → ∃ q : El, ElAt W b (o + i * 4) q ∧ q.xs.length ≤ 140737488351232 := by
    intro i hi
    obtain ⟨cs', h1, h2⟩ := hel i (by omega)
    rw [cells27, add_plain] at h1
    obtain ⟨_, hlen, hcell⟩ := World.cells?_some h1
    match cs', hlen with
    | [v0, v1, v2, v3], _ =>
      obtain ⟨el, ao, c, rfl, rfl, rfl, rfl, hd, hxl⟩ := open_el h2 (hwt i hi)
      have c0 := hcell 0 (by omega)
      have c1 := hcell 1 (by omega)
      have c2 := hcell 2 (by omega)
      have c3 := hcell 3 (by omega)
      rw [add_plain] at c0 c1 c2 c3
      exact ⟨el, ⟨ao, c, c0, c1, c2, c3, hd⟩, hxl⟩
  have inh : Inhabited El := ⟨⟨0, 0, 0, []⟩⟩
  obtain ⟨q, hq⟩ := choose_lt each
  refine ⟨some ⟨b, o, none⟩, (List.range len).map q, m, by simpa using hcs, Or.inr ⟨b, o, rfl, hlt, fun i hi => ?_⟩, by simpa using hl, hcap, fun e he => ?_⟩
  · simp only [List.length_map, List.length_range] at hi
    simpa using (hq i hi).1
  · obtain ⟨i, hi, rfl⟩ := List.mem_map.1 he
    exact (hq i (List.mem_range.1 hi)).2
end
end Go.Proofs.Qxb6629048aFmt
