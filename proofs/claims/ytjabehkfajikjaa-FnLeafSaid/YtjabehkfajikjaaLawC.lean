/-
  The walks of the laws on names: each returns true and writes nothing that was there.
  CONDITIONS: none.
-/
import Derived.Test.YtjabehkfajikjaaNames
import Derived.Test.YtjabehkfajikjaaLawA
import Derived.Deep.RegionHeld3
namespace Go.Proofs.Ytjabehkfajikjaa
open Go.RowKit Plain

theorem no_leaf_name : (List.range 68).all (fun i => !(([76, 69, 65, 70] : List UInt8) == (nameOf i).toList)) = true := by decide +kernel

theorem name_not_leaf {i : Nat} (hi : i < 68) : true = !(([76, 69, 65, 70] : List UInt8) == (nameOf i).toList) := by
  have h := no_leaf_name
  simp only [List.all_eq_true, List.mem_range] at h
  exact (h i hi).symm

set_option maxHeartbeats 400000 in
/-- 'impl.Leaf'. -/
theorem leaf_any (w : World) : Calls Try.prog 18 #[] w fun e w' => e = .returned (.int .i64 1000) ∧ w = w' := by
  go_enter Try.func18, Try.ntmps18
  go_wp2
  go_ret
  exact ⟨rfl, rfl⟩

set_option maxHeartbeats 400000 in
theorem leaf_walk (x : Int) (w : World) :
    Calls Try.prog 10 #[.int .i64 x] w fun e w' => e = .returned (.bool true) ∧ Below w.heap.size w w' := by
  obtain ⟨a, HA, ha0, ha⟩ := rank_lies x
  go_enter Try.func10, Try.ntmps10
  go_wp2_with (go_at_call 12; refine (implOrder_any _).mono ?_; rintro e w1 ⟨o, cp, rfl, ho, hbel⟩)
  have HBel : Hid (Below w.heap.size w w1) := hbel
  clear ho hbel
  refine (rank_at _ _ _ a HA _).mono ?_; rintro e w' ⟨rfl, rfl⟩
  by_cases h0 : a = 0
  · subst h0
    go_wp2_with (go_at_call 18; refine (leaf_any _).mono ?_; rintro e w' ⟨rfl, rfl⟩)
    refine (name_leaf _).mono ?_; rintro e w' ⟨rfl, rfl⟩
    go_wp2_with (go_at_call 18; refine (leaf_any _).mono ?_; rintro e w' ⟨rfl, rfl⟩)
    refine (name_leaf _).mono ?_; rintro e w' ⟨rfl, rfl⟩
    go_wp2_with fail
    refine (name_zero _).mono ?_; rintro e w' ⟨rfl, rfl⟩
    go_wp2
    go_ret
    exact ⟨rfl, HBel.out⟩
  · have h1 : 1 ≤ a := by omega
    go_wp2_with (go_at_call 18; refine (leaf_any _).mono ?_; rintro e w' ⟨rfl, rfl⟩)
    refine (name_leaf _).mono ?_; rintro e w' ⟨rfl, rfl⟩
    go_wp2_with (go_at_call 18; refine (leaf_any _).mono ?_; rintro e w' ⟨rfl, rfl⟩)
    refine (name_leaf _).mono ?_; rintro e w' ⟨rfl, rfl⟩
    go_wp2_with fail
    refine (name_mid a h1 ha _).mono ?_; rintro e w2 ⟨rfl, hb2⟩
    have HB2 : Hid (Below w1.heap.size w1 w2) := hb2
    clear hb2
    go_wp2
    go_ret
    exact ⟨ret_bool (name_not_leaf (i := a.toNat) (by omega)).symm, HBel.out.trans (HB2.out.mono HBel.out.size)⟩

theorem name_keep (a : Int) (h1 : 1 ≤ a) (h2 : a < 68) (w : World) (N i : Nat) (v : Value) (hc : w.cell? ⟨N, i, none⟩ = some v) :
    Calls Try.prog 19 #[.int .i64 a] w fun e w' => e = .returned (.string (nameOf a.toNat)) ∧ Below w.heap.size w w' ∧ w'.cell? ⟨N, i, none⟩ = some v :=
  (name_mid a h1 h2 w).mono fun _ _ h => ⟨h.1, h.2, by rw [h.2.cell (World.block_lt_of_cell? _ _ hc)]; exact hc⟩

set_option maxHeartbeats 400000 in
theorem names_walk (x : Int) (w : World) :
    Calls Try.prog 11 #[.int .i64 x] w fun e w' => e = .returned (.bool true) ∧ Below w.heap.size w w' := by
  obtain ⟨a, HA, ha0, ha⟩ := rank_lies x
  go_enter Try.func11, Try.ntmps11
  go_wp2_with (go_at_call 12; refine (implOrder_any _).mono ?_; rintro e w1 ⟨o, cp, rfl, ho, hbel⟩)
  have HBel : Hid (Below w.heap.size w w1) := hbel
  clear ho hbel
  refine (implNames_any _).mono ?_; rintro e w2 ⟨r, rfl, rfl, hr⟩
  have hc := name_cell hr (W := w1) (i := a.toNat) (by omega) rfl
  clear hr
  go_wp2_with fail
  refine (rank_at _ _ _ a HA _).mono ?_; rintro e w' ⟨rfl, rfl⟩
  by_cases h0 : a = 0
  · subst h0
    go_wp2_with fail
    go_quiet (fail)
    go_wp2
    go_ret
    exact ⟨rfl, below_drewN (HBel.out.alloc HBel.out.size _) _⟩
  · have h1 : 1 ≤ a := by omega
    have e0 : (a == 0) = false := by simp; omega
    go_wp2_with fail
    go_region_with (go_at_call 19; refine (name_keep a h1 ha _ w1.heap.size a.toNat (.string (nameOf a.toNat)) (by exact hc)).mono ?_; rintro e w3 ⟨rfl, hb, hc3⟩)
    all_goals
      have HB3 : Hid (Below (w1.alloc (.cells r 9)).heap.size (w1.alloc (.cells r 9)) w3) := (Below.refl (w1.alloc (.cells r 9)).heap.size (w1.alloc (.cells r 9))).drew.trans hb
      clear hb hc3 hc
      go_wp2
      go_ret
      exact ⟨rfl, (HBel.out.alloc HBel.out.size _).trans (HB3.out.mono (by have := HBel.out.size; simp; omega))⟩
end Go.Proofs.Ytjabehkfajikjaa
