/-
  'ranks' by its contract: a new list that holds, for each number of the list that came in, its remainder by 68 from 0 on; nothing that was there is written.
  CONDITIONS: the list's cells are known; it holds at most 2147483647 numbers.
-/
import Derived.Test.YtjabehkfajikjaaLists
namespace Go.Proofs.Ytjabehkfajikjaa
open Go.RowKit Plain

theorem Try.info3 : (Try.prog.info? 3).map (fun i => (i.zero, i.size, i.bytes)) = some (some (.int .i64 0), 1, 8) := by kernel_rfl
theorem Try.info22 : (Try.prog.info? 22).map (fun i => (i.zero, i.size, i.bytes)) = some (some (.slice none 0 0), 1, 24) := by kernel_rfl

/-- The ranks of the first k numbers. -/
def RK (zs : List Int) (k : Nat) : List Int := (zs.take k).map (fun x => x % 68)

theorem RK_length {zs : List Int} {k : Nat} (hk : k ≤ zs.length) : (RK zs k).length = k := by simp [RK]; omega
theorem RK_succ {zs : List Int} {k : Nat} (hk : k < zs.length) : RK zs (k + 1) = RK zs k ++ [zs.getD k 0 % 68] := by
  unfold RK
  rw [List.take_succ_eq_append_getElem hk, List.map_append, List.getD, List.getElem?_eq_getElem hk]
  rfl
theorem RK_ranks (zs : List Int) (k : Nat) : Ranks (RK zs k) := by
  intro a ha
  unfold RK at ha
  obtain ⟨x, _, rfl⟩ := List.mem_map.1 ha
  omega

theorem ints_snoc {zs : List Int} {k : Nat} (hk : k < zs.length) : (RK zs k).map (Value.int .i64) ++ [.int .i64 (zs.getD k 0 % 68)] = (RK zs (k + 1)).map (Value.int .i64) := by
  rw [RK_succ hk, List.map_append]; rfl

set_option maxHeartbeats 400000 in
theorem ranks_any (oo : Option Addr) (cp : Nat) (ao : Option Addr) (n cl : Nat) (zs : List Int) (w : World) (hn : n ≤ zs.length) (hm : n ≤ 2147483647) (hc : Cells w ao n zs) :
    Calls Try.prog 13 #[.slice oo 68 cp, .slice ao n cl] w fun e w' => ∃ v, e = .returned v ∧ w'.ownsRow w.heap.size 3 1 v n ((RK zs n).map (Value.int .i64)) ∧ Below w.heap.size w w' := by
  obtain ⟨i0, hi, hz0, hz1, hz2⟩ := info_parts Try.info3
  have HC : Hid (Cells w ao n zs) := hc
  clear hc
  go_enter Try.func13, Try.ntmps13
  go_wp2
  go_loopw [5, 10] (fun v s wr => ∃ k : Nat, k ≤ n ∧ s = .int .i64 k ∧ wr.ownsRow w.heap.size 3 1 v k ((RK zs k).map (Value.int .i64)) ∧ Below w.heap.size w wr) (fun _ s _ => n - (intOf s).toNat)
  case atStart => exact ⟨0, Nat.zero_le _, rfl, World.ownsRow_nil _ _ _ _, Below.refl _ _⟩
  case round =>
    obtain ⟨k, hk, rfl, hown, hbel⟩ := hrel
    by_cases hlt : k < n
    · obtain ⟨g, o, rfl, hcell0⟩ := HC.out k hlt
      have hcell : wr.cell? ⟨g, o + k, none⟩ = some (.int .i64 (zs.getD k 0)) := by rw [hbel.cell (World.block_lt_of_cell? _ _ hcell0)]; exact hcell0
      obtain ⟨x, hx⟩ : ∃ x, x = zs.getD k 0 := ⟨_, rfl⟩
      rw [← hx] at hcell
      have HX : Hid (x = zs.getD k 0) := hx
      clear hx hcell0
      go_wp2_with (first | (go_at_call 16; refine (rank_any _ _ _ _).mono ?_; rintro e w' ⟨rfl, rfl⟩) | (at_builtin; refine wpList_append_own _ rfl _ _ 22 rfl w.heap.size 3 i0 (.int .i64 0) 1 8 Try.underlying22 hi hz0 hz1 hz2 rfl (by decide) _ _ _ rfl (hown.alloc _) ⟨wr.heap.size, 0, none⟩ 1 1 [.int .i64 (x % 68)] rfl rfl ?c1 ?c2 ?c3 ?c4 ?c5 ?_))
      case c1 =>
        intro j u hj
        match j, hj with
        | 0, hj => simp at hj; subst hj; simp [Addr.add]
      case c2 => intro u hu; simp at hu; subst hu; rfl
      case c3 => unfold maxLen; omega
      case c4 => omega
      case c5 => have := hbel.size; simp; omega
      intro v' w1 hown' hgrow _
      have hlt' : k < zs.length := by omega
      have hown2 : w1.ownsRow w.heap.size 3 1 v' (k + 1) ((RK zs (k + 1)).map (Value.int .i64)) := by rw [← ints_snoc hlt', ← HX.out]; exact hown'
      have hbel2 : Below w.heap.size w w1 := by
        have hs := hbel.size
        exact (hbel.alloc hs _).grown hgrow (by simp; omega) (fun q hq => (hown.lt q hq).1)
      clear hown' hgrow hown hbel hcell
      go_wp2
      go_roundw
      case rel => exact ⟨k + 1, by omega, by go_num, hown2, hbel2⟩
      case measure => simp [intOf]; omega
    · have e : k = n := by omega
      subst e
      go_wp2
      go_ret
      exact ⟨_, rfl, hown, hbel⟩
end Go.Proofs.Ytjabehkfajikjaa
