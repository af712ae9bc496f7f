/-
  The walks of the laws over lists of ranks: each returns true and writes nothing that was there.
  CONDITIONS: none (a list of more than 2147483647 numbers is let by at once, as the law's own text says).
-/
import Derived.Test.YtjabehkfajikjaaLawA
namespace Go.Proofs.Ytjabehkfajikjaa
open Go.RowKit Plain

/-- What a list that the call owns gives. -/
theorem list_of {w : World} {B n : Nat} {v : Value} {R : List Int} (h : w.ownsRow B 3 1 v n (R.map (Value.int .i64))) : ∃ ao cl, v = .slice ao n cl ∧ n ≤ cl ∧ Cells w ao n R := by
  rcases h.2 with ⟨rfl, rfl⟩ | ⟨g, cap, cur, rfl, _, hh, hnc, _⟩
  · exact ⟨none, 0, rfl, Nat.le_refl _, fun j hj => absurd hj (Nat.not_lt_zero _)⟩
  · refine ⟨some ⟨g, 0, none⟩, cap, rfl, hnc, fun j hj => ⟨g, 0, rfl, ?_⟩⟩
    have hl : R.length = n := by simpa using h.1
    have hc := h.cells (g := g) rfl j (.int .i64 (R.getD j 0)) (by simp [List.getD, show j < R.length by omega])
    rw [Addr.add_lit] at hc
    exact hc

set_option maxHeartbeats 400000 in
theorem chainedLaw_walk (ao : Option Addr) (n cl : Nat) (zs : List Int) (w : World) (hn : n ≤ zs.length) (hc : Cells w ao n zs) :
    Calls Try.prog 3 #[.slice ao n cl] w fun e w' => e = .returned (.bool true) ∧ Below w.heap.size w w' := by
  by_cases hbig : 2147483647 < n
  · have hz : (2147483647 : Int) < (n : Int) := by omega
    go_enter Try.func3, Try.ntmps3
    go_wp2
    go_ret
    exact ⟨rfl, Below.refl _ _⟩
  · have hz : ¬ (2147483647 : Int) < (n : Int) := by omega
    have HC : Hid (Cells w ao n zs) := hc
    clear hc
    go_enter Try.func3, Try.ntmps3
    go_wp2_with (go_at_call 12; refine (implOrder_any _).mono ?_; rintro e w1 ⟨o, cp, rfl, ho, hbel⟩)
    have HO : Hid (OrderAt w1 o) := ho
    have HBel : Hid (Below w.heap.size w w1) := hbel
    have HC1 : Hid (Cells w1 ao n zs) := fun j hj => by
      obtain ⟨g, q, e, h⟩ := HC.out j hj
      exact ⟨g, q, e, by rw [hbel.cell (World.block_lt_of_cell? _ _ h)]; exact h⟩
    clear ho hbel
    refine (ranks_any _ _ _ _ _ zs _ hn (by omega) HC1.out).mono ?_
    rintro e w2 ⟨v, rfl, hown, hbel2⟩
    obtain ⟨ao', cl', rfl, hcl, hc2⟩ := list_of hown
    have HO2 : Hid (OrderAt w2 o) := HO.out.below hbel2
    have HBel2 : Hid (Below w.heap.size w w2) := HBel.out.trans (hbel2.mono HBel.out.size)
    have HC2 : Hid (Cells w2 ao' n (RK zs n)) := hc2
    have HL : Hid (n = (RK zs n).length) := (RK_length hn).symm
    have HR := RK_ranks zs n
    generalize RK zs n = R at *
    have HRK : Hid (Ranks R) := HR
    clear hown hbel2 hc2 HR
    cases h1 : chainedB R with
    | false =>
      go_wp2_with (go_at_call 14; refine (chained_any _ _ _ _ _ R _ HO2.out HL.out (by omega) HRK.out HC2.out).mono ?_; rintro e w3 ⟨rfl, q, rfl⟩)
      go_ret
      exact ⟨rfl, below_drewN HBel2.out _⟩
    | true =>
      have h2 := allowed_of_chained HRK.out h1
      go_wp2_with (go_at_call 14; refine (chained_any _ _ _ _ _ R _ HO2.out HL.out (by omega) HRK.out HC2.out).mono ?_; rintro e w3 ⟨rfl, q, rfl⟩)
      have HO3 : OrderAt (w2.drewN q) o := HO2.out
      have HC3 : Cells (w2.drewN q) ao' n R := HC2.out
      refine (allowed_any _ _ _ _ _ R _ HO3 HL.out hcl (by omega) HRK.out HC3).mono ?_
      rintro e w4 ⟨rfl, rfl⟩
      clear HO3 HC3
      go_wp2
      go_ret
      exact ⟨rfl, below_drewN HBel2.out _⟩

set_option maxHeartbeats 400000 in
theorem rising_walk (ao : Option Addr) (n cl : Nat) (zs : List Int) (w : World) (hn : n ≤ zs.length) (hc : Cells w ao n zs) :
    Calls Try.prog 7 #[.slice ao n cl] w fun e w' => e = .returned (.bool true) ∧ Below w.heap.size w w' := by
  by_cases hbig : 2147483647 < n
  · have hz : (2147483647 : Int) < (n : Int) := by omega
    go_enter Try.func7, Try.ntmps7
    go_wp2
    go_ret
    exact ⟨rfl, Below.refl _ _⟩
  · have hz : ¬ (2147483647 : Int) < (n : Int) := by omega
    have HC : Hid (Cells w ao n zs) := hc
    clear hc
    go_enter Try.func7, Try.ntmps7
    go_wp2_with (go_at_call 12; refine (implOrder_any _).mono ?_; rintro e w1 ⟨o, cp, rfl, ho, hbel⟩)
    have HO : Hid (OrderAt w1 o) := ho
    have HBel : Hid (Below w.heap.size w w1) := hbel
    have HC1 : Hid (Cells w1 ao n zs) := fun j hj => by
      obtain ⟨g, q, e, h⟩ := HC.out j hj
      exact ⟨g, q, e, by rw [hbel.cell (World.block_lt_of_cell? _ _ h)]; exact h⟩
    clear ho hbel
    refine (ranks_any _ _ _ _ _ zs _ hn (by omega) HC1.out).mono ?_
    rintro e w2 ⟨v, rfl, hown, hbel2⟩
    obtain ⟨ao', cl', rfl, hcl, hc2⟩ := list_of hown
    have HO2 : Hid (OrderAt w2 o) := HO.out.below hbel2
    have HBel2 : Hid (Below w.heap.size w w2) := HBel.out.trans (hbel2.mono HBel.out.size)
    have HC2 : Hid (Cells w2 ao' n (RK zs n)) := hc2
    have HL : Hid (n = (RK zs n).length) := (RK_length hn).symm
    have HR := RK_ranks zs n
    generalize RK zs n = R at *
    have HRK : Hid (Ranks R) := HR
    clear hown hbel2 hc2 HR
    cases h1 : allowedB R with
    | false =>
      go_wp2_with (go_at_call 15; refine (allowed_any _ _ _ _ _ R _ HO2.out HL.out hcl (by omega) HRK.out HC2.out).mono ?_; rintro e w3 ⟨rfl, rfl⟩)
      go_ret
      exact ⟨rfl, HBel2.out⟩
    | true =>
      have HA : Hid (allowedB R = true) := h1
      go_wp2_with (go_at_call 15; refine (allowed_any _ _ _ _ _ R _ HO2.out HL.out hcl (by omega) HRK.out HC2.out).mono ?_; rintro e w3 ⟨rfl, rfl⟩)
      go_loopw [4] (fun s wr => ∃ i : Nat, (i ≤ n ∨ i = 0) ∧ s = .int .i64 (i + 1) ∧ Hid (∃ q, wr = w2.drewN q)) (fun s _ => n - (intOf s).toNat)
      case atStart => exact ⟨0, Or.inr rfl, rfl, ⟨0, rfl⟩⟩
      case round =>
        obtain ⟨i, hi, rfl, HW⟩ := hrel
        by_cases hlt : i + 1 < n
        · obtain ⟨g, u, rfl, hcell⟩ : ∃ g u, ao' = some ⟨g, u, none⟩ ∧ wr.cell? ⟨g, u + i, none⟩ = some (.int .i64 (R.getD i 0)) := by
            obtain ⟨q, rfl⟩ := HW.out; exact HC2.out i (by omega)
          have hcell1 : wr.cell? ⟨g, u + (i + 1), none⟩ = some (.int .i64 (R.getD (i + 1) 0)) := by
            obtain ⟨q, rfl⟩ := HW.out
            obtain ⟨g', o', hgo, h⟩ := HC2.out (i + 1) (by omega)
            simp only [Option.some.injEq, Addr.mk.injEq] at hgo
            obtain ⟨rfl, rfl, _⟩ := hgo
            exact h
          have hle := rises HRK.out HA.out (i := i) (by rw [← HL.out]; exact hlt)
          obtain ⟨t, ht⟩ : ∃ t, t = R.getD (i + 1) 0 := ⟨_, rfl⟩
          obtain ⟨x, hx⟩ : ∃ x, x = R.getD i 0 := ⟨_, rfl⟩
          rw [← ht] at hcell1 hle
          rw [← hx] at hcell hle
          clear ht hx hi
          have hi1 : (i : Int) < n := by omega
          have hi2 : (i : Int) + 1 < n := by omega
          have hi0 : (0 : Int) ≤ i := by omega
          have hi3 : (0 : Int) ≤ (i : Int) + 1 := by omega
          have q1 : IntKind.i64.wrap (i : Int) = (i : Int) := IntWalk.i64_in _ (by omega)
          have q3 : ((i : Int) + 1).toNat = i + 1 := by omega
          go_wp2
          go_quiet (fail)
          clear hcell hcell1 q1 q3
          go_wp2
          exact ⟨⟨i + 1, Or.inl (by omega), by go_num, by obtain ⟨q, rfl⟩ := HW.out; exact ⟨q + nq, by rw [World.drewN_drewN]⟩⟩, by simp [intOf]; omega⟩
        · go_wp2
          go_ret
          exact ⟨rfl, by obtain ⟨q, rfl⟩ := HW.out; exact below_drewN HBel2.out _⟩

end Go.Proofs.Ytjabehkfajikjaa
