/-
  The small functions by their contracts: 'Has' tells whether a row holds a number, 'May' whether a rank may be held, 'rank' brings any number into the ranks.
  CONDITIONS: each contract says which cells are read.
-/
import Derived.Test.YtjabehkfajikjaaRows
import Derived.Test.YtjabehkfajikjaaPlain
import Derived.WalkKit
import Derived.WalkSpells
import Derived.WalkLawsBesides
import Derived.Deep.QuietTactic
import Derived.BigQuiet
namespace Go.Proofs.Ytjabehkfajikjaa
open Go.RowKit Plain

theorem ret_bool {a b : Bool} (h : a = b) : Ending.returned (.bool a) = .returned (.bool b) := by rw [h]
theorem ret_int {k : IntKind} {a b : Int} (h : a = b) : Ending.returned (.int k a) = .returned (.int k b) := by rw [h]

theorem has_take (zs : List Int) (x : Int) (k : Nat) (hk : k < zs.length) : hasB (zs.take (k + 1)) x = (hasB (zs.take k) x || (zs.getD k 0 == x)) := by
  unfold hasB
  rw [List.take_succ_eq_append_getElem hk]
  simp only [List.contains_eq_any_beq, List.any_append, List.any_cons, List.any_nil, Bool.or_false, List.getD, List.getElem?_eq_getElem hk, Option.getD_some]
  congr 1
  rw [Bool.eq_iff_iff, beq_iff_eq, beq_iff_eq]
  exact ⟨fun h => h.symm, fun h => h.symm⟩

theorem has_hit (zs : List Int) (x : Int) (k : Nat) (hk : k < zs.length) (h : (zs[k]?.getD 0 == x) = true) : true = hasB zs x := by
  unfold hasB
  rw [eq_comm, List.contains_iff_mem]
  rw [List.getElem?_eq_getElem hk, Option.getD_some, beq_iff_eq] at h
  rw [← h]
  exact List.getElem_mem hk

theorem has_miss (zs : List Int) (x : Int) (k : Nat) (hk : k < zs.length) (h0 : hasB (zs.take k) x = false) (h : (zs[k]?.getD 0 == x) = false) : hasB (zs.take (k + 1)) x = false := by
  rw [has_take zs x k hk, h0, List.getD, h]
  rfl

set_option maxHeartbeats 400000 in
/-- 'Has' on a row whose cells are known. -/
theorem has_any (ao : Option Addr) (cp n : Nat) (zs : List Int) (x : Int) (w : World) (hn : n = zs.length) (hm : n ≤ 9223372036854775807)
    (hc : ∀ j, j < n → ∃ g o, ao = some ⟨g, o, none⟩ ∧ w.cell? ⟨g, o + j, none⟩ = some (.int .i64 (zs.getD j 0))) :
    Calls Try.prog 22 #[.slice ao n cp, .int .i64 x] w fun e w' => e = .returned (.bool (hasB zs x)) ∧ w = w' := by
  have Hn : Hid (n = zs.length) := hn
  have HC : Hid (∀ j, j < n → ∃ g o, ao = some ⟨g, o, none⟩ ∧ w.cell? ⟨g, o + j, none⟩ = some (.int .i64 (zs.getD j 0))) := hc
  clear hc hn
  go_enter Try.func22, Try.ntmps22
  go_wp2
  go_loop [9] (fun i => ∃ k : Nat, k ≤ n ∧ i = .int .i64 k ∧ Hid (hasB (zs.take k) x = false)) (fun i => n - (intOf i).toNat)
  case atStart => exact ⟨0, Nat.zero_le _, rfl, rfl⟩
  case round =>
    obtain ⟨k, hk, rfl, HF⟩ := hrel
    by_cases hlt : k < n
    · obtain ⟨g, o, rfl, hcell⟩ := HC.out k hlt
      go_wp2
      · have hh : (zs[k]?.getD 0 == x) = true := by assumption
        go_ret
        exact ⟨ret_bool (has_hit zs x k (by rw [← Hn.out]; exact hlt) hh), rfl⟩
      · have hh : (zs[k]?.getD 0 == x) = false := by assumption
        exact ⟨⟨k + 1, by omega, by go_num, has_miss zs x k (by rw [← Hn.out]; exact hlt) HF.out hh⟩, by simp [intOf]; omega⟩
    · go_wp2
      go_ret
      have e : zs.take k = zs := List.take_of_length_le (by rw [← Hn.out]; omega)
      exact ⟨ret_bool (by rw [← HF.out, e]), rfl⟩

theorem tmod_bounds (x : Int) : -68 < x.tmod 68 ∧ x.tmod 68 < 68 := by
  rcases Int.le_total 0 x with h | h
  · rw [Int.tmod_eq_emod_of_nonneg h]; omega
  · have e : x.tmod 68 = -((-x) % 68) := by
      rw [← Int.tmod_eq_emod_of_nonneg (show 0 ≤ -x by omega), Int.neg_tmod, Int.neg_neg]
    rw [e]; omega

theorem rank_val (x : Int) : (wrap64 (x.tmod 68 + 68)).tmod 68 = x % 68 := by
  have hb := tmod_bounds x
  rw [IntWalk.wrap64_in _ ⟨by omega, by omega⟩, Int.tmod_eq_emod_of_nonneg (by omega)]
  rcases Int.le_total 0 x with h | h
  · rw [Int.tmod_eq_emod_of_nonneg h]; omega
  · have e : x.tmod 68 = -((-x) % 68) := by
      rw [← Int.tmod_eq_emod_of_nonneg (show 0 ≤ -x by omega), Int.neg_tmod, Int.neg_neg]
    rw [e]; omega

set_option maxHeartbeats 400000 in
/-- 'rank': the remainder from 0 on. -/
theorem rank_any (oo : Option Addr) (cp : Nat) (x : Int) (w : World) :
    Calls Try.prog 16 #[.slice oo 68 cp, .int .i64 x] w fun e w' => e = .returned (.int .i64 (x % 68)) ∧ w = w' := by
  go_enter Try.func16, Try.ntmps16
  go_wp2
  go_ret
  exact ⟨ret_int (rank_val x), rfl⟩

/-- The order as 'Order' hands it back: cell i of block b holds the slice over row i. -/
def OrderAt (w : World) (b : Nat) : Prop := ∀ i, i < 68 → ∃ g cp, w.cell? ⟨b, i, none⟩ = some (.slice (some ⟨g, 0, none⟩) (row i).length cp) ∧ ∀ j, j < (row i).length → w.cell? ⟨g, j, none⟩ = some (.int .i64 ((row i).getD j 0))

theorem OrderAt.below {w w' : World} {b : Nat} (h : OrderAt w b) (hb : Below w.heap.size w w') : OrderAt w' b := by
  intro i hi
  obtain ⟨g, cp, hc, hr⟩ := h i hi
  refine ⟨g, cp, ?_, fun j hj => ?_⟩
  · rw [hb.cell (World.block_lt_of_cell? _ _ hc)]; exact hc
  · rw [hb.cell (World.block_lt_of_cell? _ _ (hr j hj))]; exact hr j hj

set_option maxHeartbeats 400000 in
/-- 'May' for a rank that is taken. -/
theorem may_any (b cp : Nat) (x t : Int) (ht0 : 0 ≤ t) (ht : t < 68) (w : World) (ho : OrderAt w b) :
    Calls Try.prog 17 #[.slice (some ⟨b, 0, none⟩) 68 cp, .int .i64 x, .int .i64 t] w fun e w' => e = .returned (.bool (mayB x t)) ∧ w = w' := by
  obtain ⟨g, cp', hcell, hrow⟩ := ho t.toNat (by omega)
  have hl := row_length (c := t.toNat) (by omega)
  obtain ⟨n, hn⟩ : ∃ n, n = (row t.toNat).length := ⟨_, rfl⟩
  rw [← hn] at hcell hl
  have H : Hid (n = (row t.toNat).length) := hn
  have HR : Hid (∀ j, j < n → w.cell? ⟨g, j, none⟩ = some (.int .i64 ((row t.toNat).getD j 0))) := by rw [hn]; exact hrow
  clear hn hrow ho
  go_enter Try.func17, Try.ntmps17
  go_wp2_with (go_at_call 22; refine (has_any _ _ _ (row t.toNat) _ _ H.out (by omega) (fun j hj => ⟨g, 0, rfl, by rw [Nat.zero_add]; exact HR.out j hj⟩)).mono ?_; rintro e w' ⟨rfl, rfl⟩)
  go_ret
  exact ⟨rfl, rfl⟩
end Go.Proofs.Ytjabehkfajikjaa
