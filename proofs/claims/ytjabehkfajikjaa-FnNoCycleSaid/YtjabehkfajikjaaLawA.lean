/-
  The walks of the laws over two and three ranks: each returns true and writes nothing that was there.
  CONDITIONS: none.
-/
import Derived.Test.YtjabehkfajikjaaOrder
namespace Go.Proofs.Ytjabehkfajikjaa
open Go.RowKit Plain

/-- 'rank', its answer under a name. -/
theorem rank_at (oo : Option Addr) (cp : Nat) (x r : Int) (hr : Hid (r = x % 68)) (w : World) :
    Calls Try.prog 16 #[.slice oo 68 cp, .int .i64 x] w fun e w' => e = .returned (.int .i64 r) ∧ w = w' := by
  rw [hr.out]; exact rank_any oo cp x w

theorem rank_lies (x : Int) : ∃ r, Hid (r = x % 68) ∧ 0 ≤ r ∧ r < 68 := ⟨x % 68, rfl, by omega, by omega⟩

set_option maxHeartbeats 400000 in
theorem transitive_walk (x y z : Int) (w : World) :
    Calls Try.prog 9 #[.int .i64 x, .int .i64 y, .int .i64 z] w fun e w' => e = .returned (.bool true) ∧ Below w.heap.size w w' := by
  obtain ⟨a, HA, ha0, ha⟩ := rank_lies x
  obtain ⟨b, HB, hb0, hb⟩ := rank_lies y
  obtain ⟨c, HC, hc0, hc⟩ := rank_lies z
  go_enter Try.func9, Try.ntmps9
  go_wp2_with (go_at_call 12; refine (implOrder_any _).mono ?_; rintro e w1 ⟨o, cp, rfl, ho, hbel⟩)
  have HO : Hid (OrderAt w1 o) := ho
  have HBel : Hid (Below w.heap.size w w1) := hbel
  clear ho hbel
  refine (rank_at _ _ _ a HA _).mono ?_; rintro e w' ⟨rfl, rfl⟩
  go_wp2_with fail
  refine (rank_at _ _ _ b HB _).mono ?_; rintro e w' ⟨rfl, rfl⟩
  go_wp2_with fail
  refine (rank_at _ _ _ c HC _).mono ?_; rintro e w' ⟨rfl, rfl⟩
  cases h1 : mayB a b with
  | false =>
    go_wp2_with (go_at_call 17; refine (may_any _ _ _ _ (by assumption) (by assumption) _ HO.out).mono ?_; rintro e w' ⟨rfl, rfl⟩)
    go_ret
    exact ⟨rfl, HBel.out⟩
  | true =>
    cases h2 : mayB b c with
    | false =>
      go_wp2_with (go_at_call 17; refine (may_any _ _ _ _ (by assumption) (by assumption) _ HO.out).mono ?_; rintro e w' ⟨rfl, rfl⟩)
      go_ret
      exact ⟨rfl, HBel.out⟩
    | true =>
      have h3 := may_trans hc0 hc h1 h2
      go_wp2_with (go_at_call 17; refine (may_any _ _ _ _ (by assumption) (by assumption) _ HO.out).mono ?_; rintro e w' ⟨rfl, rfl⟩)
      go_ret
      exact ⟨rfl, HBel.out⟩

set_option maxHeartbeats 400000 in
theorem noCycle_walk (x y : Int) (w : World) :
    Calls Try.prog 5 #[.int .i64 x, .int .i64 y] w fun e w' => e = .returned (.bool true) ∧ Below w.heap.size w w' := by
  obtain ⟨a, HA, ha0, ha⟩ := rank_lies x
  obtain ⟨b, HB, hb0, hb⟩ := rank_lies y
  go_enter Try.func5, Try.ntmps5
  go_wp2_with (go_at_call 12; refine (implOrder_any _).mono ?_; rintro e w1 ⟨o, cp, rfl, ho, hbel⟩)
  have HO : Hid (OrderAt w1 o) := ho
  have HBel : Hid (Below w.heap.size w w1) := hbel
  clear ho hbel
  refine (rank_at _ _ _ a HA _).mono ?_; rintro e w' ⟨rfl, rfl⟩
  go_wp2_with fail
  refine (rank_at _ _ _ b HB _).mono ?_; rintro e w' ⟨rfl, rfl⟩
  cases h0 : a == b with
  | true =>
    go_wp2_with (go_at_call 17; refine (may_any _ _ _ _ (by assumption) (by assumption) _ HO.out).mono ?_; rintro e w' ⟨rfl, rfl⟩)
    go_ret
    exact ⟨rfl, HBel.out⟩
  | false =>
    cases h1 : mayB a b with
    | false =>
      go_wp2_with (go_at_call 17; refine (may_any _ _ _ _ (by assumption) (by assumption) _ HO.out).mono ?_; rintro e w' ⟨rfl, rfl⟩)
      go_ret
      exact ⟨rfl, HBel.out⟩
    | true =>
      cases h2 : mayB b a with
      | false =>
        go_wp2_with (go_at_call 17; refine (may_any _ _ _ _ (by assumption) (by assumption) _ HO.out).mono ?_; rintro e w' ⟨rfl, rfl⟩)
        go_ret
        exact ⟨rfl, HBel.out⟩
      | true =>
        exact absurd (no_cycle ha0 ha hb0 hb h1 h2) (by simpa using h0)

set_option maxHeartbeats 400000 in
theorem rankOrder_walk (x y : Int) (w : World) :
    Calls Try.prog 6 #[.int .i64 x, .int .i64 y] w fun e w' => e = .returned (.bool true) ∧ Below w.heap.size w w' := by
  obtain ⟨a, HA, ha0, ha⟩ := rank_lies x
  obtain ⟨b, HB, hb0, hb⟩ := rank_lies y
  go_enter Try.func6, Try.ntmps6
  go_wp2_with (go_at_call 12; refine (implOrder_any _).mono ?_; rintro e w1 ⟨o, cp, rfl, ho, hbel⟩)
  have HO : Hid (OrderAt w1 o) := ho
  have HBel : Hid (Below w.heap.size w w1) := hbel
  clear ho hbel
  refine (rank_at _ _ _ a HA _).mono ?_; rintro e w' ⟨rfl, rfl⟩
  go_wp2_with fail
  refine (rank_at _ _ _ b HB _).mono ?_; rintro e w' ⟨rfl, rfl⟩
  cases h1 : mayB a b with
  | false =>
    go_wp2_with (go_at_call 17; refine (may_any _ _ _ _ (by assumption) (by assumption) _ HO.out).mono ?_; rintro e w' ⟨rfl, rfl⟩)
    go_ret
    exact ⟨rfl, HBel.out⟩
  | true =>
    have h2 := (may_le hb0 hb h1).2
    go_wp2_with (go_at_call 17; refine (may_any _ _ _ _ (by assumption) (by assumption) _ HO.out).mono ?_; rintro e w' ⟨rfl, rfl⟩)
    go_ret
    exact ⟨rfl, HBel.out⟩

theorem tmod_within (x : Int) (n : Nat) (hn : 0 < n) : -(n : Int) < x.tmod n ∧ x.tmod n < n := by
  have hn' : (0 : Int) < n := by omega
  rcases Int.le_total 0 x with h | h
  · rw [Int.tmod_eq_emod_of_nonneg h]
    have := Int.emod_nonneg x (show (n : Int) ≠ 0 by omega)
    have := Int.emod_lt_of_pos x hn'
    omega
  · have e : x.tmod n = -((-x) % n) := by
      rw [← Int.tmod_eq_emod_of_nonneg (show 0 ≤ -x by omega), Int.neg_tmod, Int.neg_neg]
    rw [e]
    have := Int.emod_nonneg (-x) (show (n : Int) ≠ 0 by omega)
    have := Int.emod_lt_of_pos (-x) hn'
    omega

/-- An index made of any number lies within the row. -/
theorem index_lies (x : Int) (n : Nat) (hn : 0 < n) (h68 : n ≤ 68) : ∃ i : Nat, i < n ∧ (wrap64 (x.tmod n + n)).tmod n = (i : Int) := by
  have hb := tmod_within x n hn
  rw [IntWalk.wrap64_in _ ⟨by omega, by omega⟩, Int.tmod_eq_emod_of_nonneg (by omega)]
  have h0 := Int.emod_nonneg (x.tmod n + n) (show (n : Int) ≠ 0 by omega)
  have h1 := Int.emod_lt_of_pos (x.tmod n + n) (show (0 : Int) < n by omega)
  exact ⟨((x.tmod n + n) % n).toNat, by omega, by omega⟩

set_option maxHeartbeats 400000 in
theorem known_walk (x k : Int) (w : World) :
    Calls Try.prog 4 #[.int .i64 x, .int .i64 k] w fun e w' => e = .returned (.bool true) ∧ Below w.heap.size w w' := by
  obtain ⟨a, HA, ha0, ha⟩ := rank_lies x
  go_enter Try.func4, Try.ntmps4
  go_wp2_with (go_at_call 12; refine (implOrder_any _).mono ?_; rintro e w1 ⟨o, cp, rfl, ho, hbel⟩)
  have HO : Hid (OrderAt w1 o) := ho
  have HBel : Hid (Below w.heap.size w w1) := hbel
  obtain ⟨g, cp', hcell, hrow⟩ := ho a.toNat (by omega)
  have hl := row_length (c := a.toNat) (by omega)
  obtain ⟨n, hn⟩ : ∃ n, n = (row a.toNat).length := ⟨_, rfl⟩
  rw [← hn] at hcell hl hrow
  have HN : Hid (n = (row a.toNat).length) := hn
  have HR : Hid (∀ j, j < n → w1.cell? ⟨g, j, none⟩ = some (.int .i64 ((row a.toNat).getD j 0))) := hrow
  clear ho hbel hn hrow
  refine (rank_at _ _ _ a HA _).mono ?_; rintro e w' ⟨rfl, rfl⟩
  by_cases h0 : n = 0
  · subst h0
    go_wp2
    go_ret
    exact ⟨rfl, HBel.out⟩
  · have hz : ((n : Int) == 0) = false := by simp; omega
    obtain ⟨i, hi, hq⟩ := index_lies k n (by omega) hl
    have hc := HR.out i hi
    have hkn : 0 ≤ (row a.toNat).getD i 0 ∧ (row a.toNat).getD i 0 < 68 := by
      have hm : (row a.toNat).getD i 0 ∈ row a.toNat := by
        have hi' : i < (row a.toNat).length := by rw [← HN.out]; exact hi
        simp only [List.getD, List.getElem?_eq_getElem hi', Option.getD_some]
        exact List.getElem_mem hi'
      have := known (c := a.toNat) (by omega) hm
      omega
    obtain ⟨q, hqq⟩ : ∃ q, q = (row a.toNat).getD i 0 := ⟨_, rfl⟩
    rw [← hqq] at hc hkn
    obtain ⟨hk0, hk1⟩ := hkn
    clear hqq
    go_wp2
    go_ret
    exact ⟨rfl, HBel.out⟩
end Go.Proofs.Ytjabehkfajikjaa
