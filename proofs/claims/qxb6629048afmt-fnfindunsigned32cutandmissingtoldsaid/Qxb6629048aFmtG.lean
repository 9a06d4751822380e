import Derived.Test.Qxb6629048aFmtF
namespace Go.Proofs.Qxb6629048aFmt
open Go.RowKit Go.Deep

/-- The call has returned some bool. -/
def IsB (e : Ending) : Prop := ∃ r, e = .returned (.bool r)

set_option maxHeartbeats 600000 in
theorem bytesA_some (b o c : Nat) (k0 code ven : Int) (L : List El) (w : World) (hL : ∀ i (h : i < L.length), ElAt w b (o + i * 4) L[i]) (hl : L.length ≤ 140737488351232) (hx : ∀ e ∈ L, e.xs.length ≤ 140737488351232) :
    Calls Tryf.prog 5 #[.slice (some ⟨b, o, none⟩) L.length c, .int .i64 k0, .int .u32 code, .int .u32 ven] w fun e w' => IsB e ∧ w' = w := by
  by_cases hl2 : L.length ≤ 1048576
  · go_enter Tryf.func5, Tryf.ntmps5
    go_wp2
    go_loop [9, 10] (fun n i => ∃ k : Nat, k ≤ L.length ∧ i = .int .i64 k ∧ ∃ m : Nat, m ≤ 1048576 ∧ n = .int .i64 m) (fun _ i => L.length - (intOf i).toNat)
    case atStart => exact ⟨0, Nat.zero_le _, rfl, L.length, hl2, rfl⟩
    case round =>
      obtain ⟨k, hk, rfl, m, hm, rfl⟩ := hrel
      by_cases hlt : k < L.length
      · have hE := hL k hlt
        have hxk := hx L[k] (List.getElem_mem hlt)
        obtain ⟨el, hel⟩ : ∃ el, el = L[k] := ⟨_, rfl⟩
        rw [← hel] at hE hxk
        clear hel
        obtain ⟨ao, ca, e0, e1, e2, e3, hd⟩ := hE
        by_cases hx1 : el.xs.length ≤ 1048576
        · by_cases hx2 : m + el.xs.length ≤ 1048576
          · go_wp2
            go_round
            case rel => exact ⟨k + 1, by omega, by go_num, m + el.xs.length, by omega, by go_num⟩
            case measure => simp [intOf]; omega
          · go_wp2
            go_ret
            exact ⟨⟨_, rfl⟩, rfl⟩
        · go_wp2
          go_ret
          exact ⟨⟨_, rfl⟩, rfl⟩
      · go_wp2
        go_ret
        exact ⟨⟨_, rfl⟩, rfl⟩
  · go_enter Tryf.func5, Tryf.ntmps5
    go_wp2
    go_ret
    exact ⟨⟨_, rfl⟩, rfl⟩

theorem bytesA_empty (ao : Option Addr) (c : Nat) (k0 code ven : Int) (w : World) :
    Calls Tryf.prog 5 #[.slice ao 0 c, .int .i64 k0, .int .u32 code, .int .u32 ven] w fun e w' => IsB e ∧ w' = w := by
  go_enter Tryf.func5, Tryf.ntmps5
  go_wp2
  refine wp_loop_rounds 1 ?_
  rw [rounds_succ]
  go_wp2
  go_ret
  exact ⟨⟨_, rfl⟩, rfl⟩

theorem bytesA_any (ao : Option Addr) (c : Nat) (k0 code ven : Int) (L : List El) (w : World) (hL : Lst w ao L) (hl : L.length ≤ 140737488351232) (hx : ∀ e ∈ L, e.xs.length ≤ 140737488351232) :
    Calls Tryf.prog 5 #[.slice ao L.length c, .int .i64 k0, .int .u32 code, .int .u32 ven] w fun e w' => IsB e ∧ w' = w := by
  rcases hL with rfl | ⟨b, o, rfl, hb, hc⟩
  · exact bytesA_empty ao c k0 code ven w
  · exact bytesA_some b o c k0 code ven L w hc hl hx

set_option maxHeartbeats 800000 in
theorem bytesB_some (b o c : Nat) (x : El) (xo : Option Addr) (xc : Nat) (L : List El) (w : World) (hb : b < w.heap.size) (hL : ∀ i (h : i < L.length), ElAt w b (o + i * 4) L[i]) (hl : L.length ≤ 140737488351232) (hx : ∀ e ∈ L, e.xs.length ≤ 140737488351232) (hxx : x.xs.length ≤ 140737488351232) :
    Calls Tryf.prog 11 #[.agg #[.int .u32 x.code, .int .u8 x.fl, .int .u32 x.ven, .slice xo x.xs.length xc], .slice (some ⟨b, o, none⟩) L.length c] w fun e w' => IsB e ∧ Below w.heap.size w w' := by
  by_cases h1 : x.xs.length ≤ 1048576
  · by_cases hl2 : L.length ≤ 1048576
    · by_cases hl3 : x.xs.length + L.length ≤ 1048576
      · go_enter Tryf.func11, Tryf.ntmps11
        go_wp2
        go_loop [5, 6] (fun n i => ∃ k : Nat, k ≤ L.length ∧ i = .int .i64 k ∧ ∃ m : Nat, m ≤ 1048576 ∧ n = .int .i64 m) (fun _ i => L.length - (intOf i).toNat)
        case atStart => exact ⟨0, Nat.zero_le _, rfl, x.xs.length + L.length, hl3, by go_num⟩
        case round =>
          obtain ⟨k, hk, rfl, m, hm, rfl⟩ := hrel
          by_cases hlt : k < L.length
          · have hE := hL k hlt
            have hxk := hx L[k] (List.getElem_mem hlt)
            obtain ⟨el, hel⟩ : ∃ el, el = L[k] := ⟨_, rfl⟩
            rw [← hel] at hE hxk
            clear hel
            obtain ⟨ao, ca, e0, e1, e2, e3, hd⟩ := hE
            by_cases hx1 : el.xs.length ≤ 1048576
            · by_cases hx2 : m + el.xs.length ≤ 1048576
              · go_wp2
                go_round
                case rel => exact ⟨k + 1, by omega, by go_num, m + el.xs.length, by omega, by go_num⟩
                case measure => simp [intOf]; omega
              · go_wp2
                go_ret
                exact ⟨⟨_, rfl⟩, (Below.refl _ _).alloc (Nat.le_refl _) _⟩
            · go_wp2
              go_ret
              exact ⟨⟨_, rfl⟩, (Below.refl _ _).alloc (Nat.le_refl _) _⟩
          · go_wp2
            go_ret
            exact ⟨⟨_, rfl⟩, (Below.refl _ _).alloc (Nat.le_refl _) _⟩
      · go_enter Tryf.func11, Tryf.ntmps11
        go_wp2
        go_ret
        exact ⟨⟨_, rfl⟩, (Below.refl _ _).alloc (Nat.le_refl _) _⟩
    · go_enter Tryf.func11, Tryf.ntmps11
      go_wp2
      go_ret
      exact ⟨⟨_, rfl⟩, (Below.refl _ _).alloc (Nat.le_refl _) _⟩
  · go_enter Tryf.func11, Tryf.ntmps11
    go_wp2
    go_ret
    exact ⟨⟨_, rfl⟩, (Below.refl _ _).alloc (Nat.le_refl _) _⟩

theorem bytesB_empty (ao : Option Addr) (c : Nat) (x : El) (xo : Option Addr) (xc : Nat) (w : World) (hxx : x.xs.length ≤ 140737488351232) :
    Calls Tryf.prog 11 #[.agg #[.int .u32 x.code, .int .u8 x.fl, .int .u32 x.ven, .slice xo x.xs.length xc], .slice ao 0 c] w fun e w' => IsB e ∧ Below w.heap.size w w' := by
  by_cases h1 : x.xs.length ≤ 1048576
  · go_enter Tryf.func11, Tryf.ntmps11
    go_wp2
    refine wp_loop_rounds 1 ?_
    rw [rounds_succ]
    go_wp2
    go_ret
    exact ⟨⟨_, rfl⟩, (Below.refl _ _).alloc (Nat.le_refl _) _⟩
  · go_enter Tryf.func11, Tryf.ntmps11
    go_wp2
    go_ret
    exact ⟨⟨_, rfl⟩, (Below.refl _ _).alloc (Nat.le_refl _) _⟩

theorem bytesB_any (ao : Option Addr) (c : Nat) (x : El) (xo : Option Addr) (xc : Nat) (L : List El) (w : World) (hL : Lst w ao L) (hl : L.length ≤ 140737488351232) (hx : ∀ e ∈ L, e.xs.length ≤ 140737488351232) (hxx : x.xs.length ≤ 140737488351232) :
    Calls Tryf.prog 11 #[.agg #[.int .u32 x.code, .int .u8 x.fl, .int .u32 x.ven, .slice xo x.xs.length xc], .slice ao L.length c] w fun e w' => IsB e ∧ Below w.heap.size w w' := by
  rcases hL with rfl | ⟨b, o, rfl, hb, hc⟩
  · exact bytesB_empty ao c x xo xc w hxx
  · exact bytesB_some b o c x xo xc L w hb hc hl hx hxx
end Go.Proofs.Qxb6629048aFmt
