import Derived.Test.Qxb6629048aFmtCards
import Derived.Test.Qxb6629048aFmtO
import Derived.Test.Qxb6629048aFmtH
import Derived.ChangeSlices
import Derived.ChangeSame
import Derived.ChangeMaps5
import Derived.JoinedOf
import Derived.Carry
import Derived.Stop.JoinedAt
import Derived.Stop.Texts
import Derived.Stop.JoinedTold
import Derived.SevenToldRow
namespace Go.Proofs.Qxb6629048aFmt
open Go.ChangeShapes Go.WideShapes Go.ChangeAt Go.RowKit Go.Kit
open Go.Extern.Stop Go.Stop Go.Extern
open Go.Joins (array4)

theorem own : ownKnob Tryf.prog.godebug = none := by kernel_rfl
theorem laidOut : laidOutB Tryf.pinned.checked.prog = true := by kernel_rfl
theorem stopsAre : Tryf.pinned.checked.prog.stops = ["fmt.errorf"] := by kernel_rfl
theorem stopKnobsAre : Tryf.pinned.checked.prog.stopKnobs = [] := by kernel_rfl
theorem quietAt (os : Os) : Stop.quiet Tryf.pinned.checked.prog os := by
  intro k hk
  rw [stopKnobsAre] at hk
  cases hk

theorem law1_any (F : Interp) (x : El) (xo : Option Addr) (xc : Nat) (ao : Option Addr) (c : Nat) (L : List El) (w : World) (hF : F.answers w.tape) (hxd : Dat w xo x.xs) (hxx : x.xs.length ≤ 140737488351232)
    (hL : Lst w ao L) (hl : L.length ≤ 140737488351232) (hx : ∀ e ∈ L, e.xs.length ≤ 140737488351232) :
    Calls Tryf.prog 4 #[.agg #[.int .u32 x.code, .int .u8 x.fl, .int .u32 x.ven, .slice xo x.xs.length xc], .slice ao L.length c] w fun e w' => e = .returned (.bool true) ∧ Below w.heap.size w w' := by
  have hLs := hL
  rcases hL with rfl | ⟨b, o, rfl, hb, hc⟩
  · exact law1_walk F x xo xc ao c 0 0 [] w hF hxd hxx (fun h => absurd h (by simp)) (fun h => absurd h (by simp)) (fun i h => absurd h (by simp)) hl hx hLs
  · exact law1_walk F x xo xc _ c b o L w hF hxd hxx (fun _ => rfl) (fun _ => hb) hc hl hx hLs

set_option maxRecDepth 100000 in
theorem lifted1 (os : Os) (started : os.Started) (H : Type) (enc : TypeId × Value → H) :
    ReturnsInTold none {} Tryf.checked os 4 .any Input.okWide ((OpenSpec.ofChange Rows.fnFindUnsigned32FirstMatchDecidesSpec).preRow enc Tryf.prog Tryf.f4 [] false []) (fun F => ((OpenSpec.ofChange Rows.fnFindUnsigned32FirstMatchDecidesSpec).at F).post enc Tryf.prog Tryf.f4 false true false false) (aloneAtReturn Tryf.prog) nothingAlways := by
  refine returnsInTold_of_row (C := Tryf.checked) (s := OpenSpec.ofChange Rows.fnFindUnsigned32FirstMatchDecidesSpec) (by kernel_rfl) own started (by kernel_rfl) Tryf.func4
    (OpenSpec.witness_stopped (enc := enc) (C := Tryf.checked) false ⟨#[], #[.agg #[.int .u32 0, .int .u8 0, .int .u32 0, .slice none 0 0], .slice none 0 0], []⟩ 8 (by kernel_rfl) (by kernel_rfl) (by kernel_rfl) (by kernel_rfl)) ?_
  intro F W base args ds gs before _ hF hval0 hW _ _ hsz _ _
  have hval : ∀ (j : Nat) t v, Tryf.f4.params[j]? = some t → args[j]? = some v → Value.okWide Tryf.prog W .any base t v := hval0
  have hW' := hW
  obtain ⟨p, q, hA0, hV, rfl, _, _⟩ := hW
  have hA : DataW.TrodAll enc Tryf.prog W 0 (fun _ => true) true Tryf.f4.params.toList args.toList ds p := hA0
  rw [Tryf.params4] at hA hval
  obtain ⟨v0, v1, d0, d1, p0, p1, rfl, rfl, rfl, h0, h1⟩ := trodAll_two hA
  obtain ⟨rfl, rfl⟩ := trodVars_none hV
  have hsz1 : (DataW.weightsEach Tryf.prog [27, 22] [d0, d1]).all (· ≤ reachBytes) = true := hsz
  have hw0 : ∀ n ∈ d0.weights Tryf.prog 27, n ≤ reachBytes := fun n hn => by simpa using List.all_eq_true.1 hsz1 n (DataW.weights_mem_each (j := 0) rfl rfl n hn)
  have hw1 : ∀ n ∈ d1.weights Tryf.prog 22, n ≤ reachBytes := fun n hn => by simpa using List.all_eq_true.1 hsz1 n (DataW.weights_mem_each (j := 1) rfl rfl n hn)
  simp only [List.append_nil] at hW'
  have hlt0 : ∀ x ∈ p0, x.block < W.heap.size := fun x hx => hW'.lt x (by simp [hx])
  have hlt1 : ∀ x ∈ p1, x.block < W.heap.size := fun x hx => hW'.lt x (by simp [hx])
  have a0 : ∀ (W' : World), Below W.heap.size W W' → DataW.Trod enc Tryf.prog W' 0 (fun b => decide (b < W.heap.size)) true 27 v0 d0 p0 :=
    fun W' hn => Below.trod laidOut (by kernel_rfl) (of_decide_eq_true (by kernel_rfl)) h0 hn hlt0
  have a1 : ∀ (W' : World), Below W.heap.size W W' → DataW.Trod enc Tryf.prog W' 0 (fun b => decide (b < W.heap.size)) true 22 v1 d1 p1 :=
    fun W' hn => Below.trod laidOut (by kernel_rfl) (of_decide_eq_true (by kernel_rfl)) h1 hn hlt1
  obtain ⟨cs, rfl, hcsz⟩ := okWide_struct Tryf.underlying27 (hval 0 27 v0 rfl rfl)
  obtain ⟨c0, c1, c2, c3, rfl⟩ := array4 (hcsz.trans cells27)
  obtain ⟨sa, sl, sc, rfl⟩ := okWide_slice Tryf.underlying22 (hval 1 22 v1 rfl rfl)
  obtain ⟨fuel0, hf0⟩ := h0
  obtain ⟨fuel1, hf1⟩ := h1
  have hf0' : DataW.trod enc Tryf.prog W 0 (fun _ => true) true fuel0 27 [c0, c1, c2, c3] = some (d0, p0) := by simpa [Value.cells] using hf0
  have hf1' : DataW.trod enc Tryf.prog W 0 (fun _ => true) true fuel1 22 [.slice sa sl sc] = some (d1, p1) := by simpa [Value.cells] using hf1
  obtain ⟨x, xo, xc, rfl, rfl, rfl, rfl, hxd, hxx⟩ := open_el hf0' hw0
  obtain ⟨ao, L, c, hv, hL, hlc, hc, hx⟩ := open_els hf1' hw1
  rw [hv] at a1 ⊢
  refine (law1_any F.told x xo xc ao c L W hF hxd hxx hL (by omega) hx).mono fun e W' ⟨he, hnx⟩ => ?_
  subst he
  refine ⟨_, rfl, [d0, d1], [], p0 ++ p1, [], p0 ++ p1, [], by rw [← hv]; exact hW', trodAll_mk1 (shut_bool Tryf.underlying4 true), trodAll_mk2 (a0 _ hnx) (a1 _ hnx), rfl, hnx.frame _, fun h => by cases h⟩

theorem proved1 : Rows.FnFindUnsigned32FirstMatchDecidesToldSaid :=
  Claim7.holds_of_told_any 4 Tryf.f4 "fmt.errorf" [] [] _ _ _ (by kernel_rfl) rfl rfl rfl laidOut (by kernel_rfl) rfl ⟨rfl, rfl, rfl, rfl, rfl, rfl, rfl⟩ rfl rfl (by kernel_rfl) (by kernel_rfl) Tryf.func4 (by kernel_rfl)
    (of_decide_eq_true (by kernel_rfl)) (of_decide_eq_true (by kernel_rfl)) stopsAre.symm rfl stopKnobsAre.symm (by kernel_rfl)
    (by kernel_rfl) (by kernel_rfl) (by kernel_rfl) (by kernel_rfl) (by kernel_rfl) (by kernel_rfl) (by kernel_rfl) (by kernel_rfl) (by kernel_rfl) rfl (by kernel_rfl) rfl rfl
    rfl rfl
    rfl (by kernel_rfl) (by kernel_rfl) (by kernel_rfl) (by decide) (by kernel_rfl)
    (OpenClaim.moreEntering_of (by kernel_rfl) (by kernel_rfl) (by kernel_rfl) (by kernel_rfl) (by kernel_rfl) (by kernel_rfl) (by kernel_rfl) (by kernel_rfl) (by kernel_rfl) (by kernel_rfl))
    ⟨_, WideRow.started_initial, quietAt _⟩
    (fun os started _ H enc _ => lifted1 os started H enc)
#print axioms proved1
end Go.Proofs.Qxb6629048aFmt
