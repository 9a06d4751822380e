import Derived.Test.Qxb6629048aFmtCards
import Derived.Test.Qxb6629048aFmtO
import Derived.Test.Qxb6629048aFmtI
import Derived.ChangeSlices
import Derived.ChangeSame
import Derived.ChangeMaps5
import Derived.JoinedOf
import Derived.Carry
import Derived.Stop.JoinedAt
import Derived.Stop.Texts
import Derived.Stop.JoinedTold
import Derived.SevenToldRow
namespace Go.Proofs.Qxb6629048aFmt
open Go.ChangeShapes Go.WideShapes Go.ChangeAt Go.RowKit Go.Kit
open Go.Extern.Stop Go.Stop Go.Extern
open Go.Joins (array4)

theorem own : ownKnob Tryf.prog.godebug = none := by kernel_rfl
theorem laidOut : laidOutB Tryf.pinned.checked.prog = true := by kernel_rfl
theorem stopsAre : Tryf.pinned.checked.prog.stops = ["fmt.errorf"] := by kernel_rfl
theorem stopKnobsAre : Tryf.pinned.checked.prog.stopKnobs = [] := by kernel_rfl
theorem quietAt (os : Os) : Stop.quiet Tryf.pinned.checked.prog os := by
  intro k hk
  rw [stopKnobsAre] at hk
  cases hk

theorem law2_any (F : Interp) (k0 code ven : Int) (ao : Option Addr) (c : Nat) (L : List El) (w : World) (hF : F.answers w.tape)
    (hL : Lst w ao L) (hl : L.length ≤ c) (hc : c ≤ 140737488351232) (hx : ∀ e ∈ L, e.xs.length ≤ 140737488351232) :
    Calls Tryf.prog 3 #[.slice ao L.length c, .int .i64 k0, .int .u32 code, .int .u32 ven] w fun e w' => e = .returned (.bool true) ∧ Below w.heap.size w w' := by
  have hLs := hL
  rcases hL with rfl | ⟨b, o, rfl, hb, hcc⟩
  · exact law2_walk F k0 code ven ao c 0 0 [] w hF (fun h => absurd h (by simp)) (fun h => absurd h (by simp)) (fun i h => absurd h (by simp)) hl hc hx hLs
  · exact law2_walk F k0 code ven _ c b o L w hF (fun _ => rfl) (fun _ => hb) hcc hl hc hx hLs

set_option maxRecDepth 100000 in
theorem lifted2 (os : Os) (started : os.Started) (H : Type) (enc : TypeId × Value → H) :
    ReturnsInTold none {} Tryf.checked os 3 .any Input.okWide ((OpenSpec.ofChange Rows.fnFindUnsigned32CutAndMissingSpec).preRow enc Tryf.prog Tryf.f3 [] false []) (fun F => ((OpenSpec.ofChange Rows.fnFindUnsigned32CutAndMissingSpec).at F).post enc Tryf.prog Tryf.f3 false true false false) (aloneAtReturn Tryf.prog) nothingAlways := by
  refine returnsInTold_of_row (C := Tryf.checked) (s := OpenSpec.ofChange Rows.fnFindUnsigned32CutAndMissingSpec) (by kernel_rfl) own started (by kernel_rfl) Tryf.func3
    (OpenSpec.witness_stopped (enc := enc) (C := Tryf.checked) false ⟨#[], #[.slice none 0 0, .int .i64 0, .int .u32 0, .int .u32 0], []⟩ 8 (by kernel_rfl) (by kernel_rfl) (by kernel_rfl) (by kernel_rfl)) ?_
  intro F W base args ds gs before _ hF hval0 hW _ _ hsz _ _
  have hval : ∀ (j : Nat) t v, Tryf.f3.params[j]? = some t → args[j]? = some v → Value.okWide Tryf.prog W .any base t v := hval0
  have hW' := hW
  obtain ⟨p, q, hA0, hV, rfl, _, _⟩ := hW
  have hA : DataW.TrodAll enc Tryf.prog W 0 (fun _ => true) true Tryf.f3.params.toList args.toList ds p := hA0
  rw [Tryf.params3] at hA hval
  obtain ⟨v0, v1, v2, v3, d0, d1, d2, d3, p0, p1, p2, p3, rfl, rfl, rfl, h0, h1, h2, h3⟩ := trodAll_four hA
  obtain ⟨rfl, rfl⟩ := trodVars_none hV
  obtain ⟨k0, rfl, rfl, rfl, wk⟩ := open_int Tryf.underlying3 (hval 1 3 v1 rfl rfl) h1
  obtain ⟨code, rfl, rfl, rfl, wc⟩ := open_int Tryf.underlying23 (hval 2 23 v2 rfl rfl) h2
  obtain ⟨ven, rfl, rfl, rfl, wv⟩ := open_int Tryf.underlying23 (hval 3 23 v3 rfl rfl) h3
  have hsz1 : (DataW.weightsEach Tryf.prog [22, 3, 23, 23] [d0, .lit (.int .i64 k0), .lit (.int .u32 code), .lit (.int .u32 ven)]).all (· ≤ reachBytes) = true := hsz
  have hw0 : ∀ n ∈ d0.weights Tryf.prog 22, n ≤ reachBytes := fun n hn => by simpa using List.all_eq_true.1 hsz1 n (DataW.weights_mem_each (j := 0) rfl rfl n hn)
  simp only [List.append_nil] at hW'
  have hlt0 : ∀ x ∈ p0, x.block < W.heap.size := fun x hx => hW'.lt x (by simp [hx])
  have a0 : ∀ (W' : World), Below W.heap.size W W' → DataW.Trod enc Tryf.prog W' 0 (fun b => decide (b < W.heap.size)) true 22 v0 d0 p0 :=
    fun W' hn => Below.trod laidOut (by kernel_rfl) (of_decide_eq_true (by kernel_rfl)) h0 hn hlt0
  obtain ⟨sa, sl, sc, rfl⟩ := okWide_slice Tryf.underlying22 (hval 0 22 v0 rfl rfl)
  obtain ⟨fuel0, hf0⟩ := h0
  have hf0' : DataW.trod enc Tryf.prog W 0 (fun _ => true) true fuel0 22 [.slice sa sl sc] = some (d0, p0) := by simpa [Value.cells] using hf0
  obtain ⟨ao, L, c, hv, hL, hlc, hc, hx⟩ := open_els hf0' hw0
  rw [hv] at a0 ⊢
  refine (law2_any F.told k0 code ven ao c L W hF hL hlc hc hx).mono fun e W' ⟨he, hnx⟩ => ?_
  subst he
  refine ⟨_, rfl, [d0, .lit (.int .i64 k0), .lit (.int .u32 code), .lit (.int .u32 ven)], [], p0, [], p0 ++ ([] ++ ([] ++ [])), [], by rw [← hv]; exact hW', trodAll_mk1 (shut_bool Tryf.underlying4 true), trodAll_mk4 (a0 _ hnx) (shut_int Tryf.underlying3 wk) (shut_int Tryf.underlying23 wc) (shut_int Tryf.underlying23 wv), rfl, hnx.frame _, fun h => by cases h⟩

theorem proved2 : Rows.FnFindUnsigned32CutAndMissingToldSaid :=
  Claim7.holds_of_told_any 3 Tryf.f3 "fmt.errorf" [] [] _ _ _ (by kernel_rfl) rfl rfl rfl laidOut (by kernel_rfl) rfl ⟨rfl, rfl, rfl, rfl, rfl, rfl, rfl⟩ rfl rfl (by kernel_rfl) (by kernel_rfl) Tryf.func3 (by kernel_rfl)
    (of_decide_eq_true (by kernel_rfl)) (of_decide_eq_true (by kernel_rfl)) stopsAre.symm rfl stopKnobsAre.symm (by kernel_rfl)
    (by kernel_rfl) (by kernel_rfl) (by kernel_rfl) (by kernel_rfl) (by kernel_rfl) (by kernel_rfl) (by kernel_rfl) (by kernel_rfl) (by kernel_rfl) rfl (by kernel_rfl) rfl rfl
    rfl rfl
    rfl (by kernel_rfl) (by kernel_rfl) (by kernel_rfl) (by decide) (by kernel_rfl)
    (OpenClaim.moreEntering_of (by kernel_rfl) (by kernel_rfl) (by kernel_rfl) (by kernel_rfl) (by kernel_rfl) (by kernel_rfl) (by kernel_rfl) (by kernel_rfl) (by kernel_rfl) (by kernel_rfl))
    ⟨_, WideRow.started_initial, quietAt _⟩
    (fun os started _ H enc _ => lifted2 os started H enc)
#print axioms proved2
end Go.Proofs.Qxb6629048aFmt
