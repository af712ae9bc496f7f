/-
  'Order' by its contract: it hands back new memory that reads as the table of ranks, and writes nothing that was there.
  CONDITIONS: none.
-/
import Derived.Test.YtjabehkfajikjaaTable
import Derived.Test.YtjabehkfajikjaaRanks
namespace Go.Proofs.Ytjabehkfajikjaa
open Go.RowKit Plain

/-- The first k rows of the order are made: value i of 'vs' leads to a block of numbers that begins with row i. -/
def Good (w : World) (vs : List Value) (k : Nat) : Prop := ∀ i, i < k → ∃ g cp cur, vs[i]? = some (.slice (some ⟨g, 0, none⟩) (row i).length cp) ∧ w.heap[g]? = some (.cells cur 3 (0, 0)) ∧ ∀ j, j < (row i).length → cur[j]? = some (.int .i64 ((row i).getD j 0))

theorem Good.nil (w : World) : Good w [] 0 := fun i hi => absurd hi (Nat.not_lt_zero i)

theorem Good.below {w w' : World} {vs : List Value} {k : Nat} (h : Good w vs k) (hb : Below w.heap.size w w') : Good w' vs k := by
  intro i hi
  obtain ⟨g, cp, cur, h1, h2, h3⟩ := h i hi
  exact ⟨g, cp, cur, h1, by rw [hb.block g (Array.getElem?_eq_some_iff.1 h2).1]; exact h2, h3⟩

/-- An append onto the order's own row leaves the rows of numbers. -/
theorem Good.grown {w w' : World} {vs : List Value} {k B n : Nat} {v : Value} {xs : List Value} (h : Good w vs k) (hown : w.ownsRow B 22 1 v n xs) (hg : w.grownBy w' v.ownBlock) : Good w' vs k := by
  intro i hi
  obtain ⟨g, cp, cur, h1, h2, h3⟩ := h i hi
  refine ⟨g, cp, cur, h1, ?_, h3⟩
  rw [hg.block g (Array.getElem?_eq_some_iff.1 h2).1 ?_]
  · exact h2
  · intro e
    rcases hown.2 with ⟨rfl, _⟩ | ⟨g', cap, cur', rfl, _, hh, _⟩
    · simp [Value.ownBlock] at e
    · simp [Value.ownBlock] at e
      subst e
      rw [h2] at hh
      simp at hh

theorem Good.snoc {w : World} {vs : List Value} {k : Nat} {x : Value} (h : Good w vs k) (hl : vs.length = k)
    (hx : ∃ g cp cur, x = .slice (some ⟨g, 0, none⟩) (row k).length cp ∧ w.heap[g]? = some (.cells cur 3 (0, 0)) ∧ ∀ j, j < (row k).length → cur[j]? = some (.int .i64 ((row k).getD j 0))) :
    Good w (vs ++ [x]) (k + 1) := by
  intro i hi
  by_cases e : i = k
  · subst e
    obtain ⟨g, cp, cur, h1, h2, h3⟩ := hx
    exact ⟨g, cp, cur, by rw [List.getElem?_append_right (by omega), hl, h1]; simp, h2, h3⟩
  · obtain ⟨g, cp, cur, h1, h2, h3⟩ := h i (by omega)
    exact ⟨g, cp, cur, by rw [List.getElem?_append_left (by omega)]; exact h1, h2, h3⟩

/-- What a row of numbers that is owned whole gives. -/
theorem own_shape {w : World} {M n : Nat} {x : Value} {zs : List Int} (h : w.ownsRow M 3 1 x n (zs.map (Value.int .i64))) (hx : ¬ x = .slice none 0 0) :
    ∃ g cp cur, x = .slice (some ⟨g, 0, none⟩) n cp ∧ w.heap[g]? = some (.cells cur 3 (0, 0)) ∧ ∀ j, j < n → cur[j]? = some (.int .i64 (zs.getD j 0)) := by
  obtain ⟨hlen, h2⟩ := h
  rcases h2 with ⟨rfl, _⟩ | ⟨g, cap, cur, rfl, _, hh, hnc, _, hcs, htake⟩
  · exact absurd rfl hx
  · refine ⟨g, cap, cur, rfl, hh, fun j hj => ?_⟩
    have hz : zs.length = n := by simpa using hlen
    have e := congrArg (fun l => l[j]?) htake
    simp only [Nat.mul_one] at e
    rw [List.getElem?_take_of_lt hj] at e
    rw [← Array.getElem?_toList, e]
    simp [List.getD, show j < zs.length by omega]

/-- .. and the order whole. -/
theorem ord_of {w : World} {B : Nat} {v : Value} {vs : List Value} (h : w.ownsRow B 22 1 v 68 vs) (hg : Good w vs 68) : ∃ b cp, v = .slice (some ⟨b, 0, none⟩) 68 cp ∧ OrderAt w b := by
  rcases h.2 with ⟨_, h0⟩ | ⟨b, cap, cur, rfl, _, hh, _⟩
  · cases h0
  · refine ⟨b, cap, rfl, fun i hi => ?_⟩
    obtain ⟨g, cp, cur', h1, h2, h3⟩ := hg i hi
    have hc := h.cells (g := b) rfl i _ h1
    rw [Addr.add_lit, Nat.zero_add] at hc
    exact ⟨g, cp, hc, fun j hj => by simp [World.cell?, h2, h3 j hj]⟩

/-- The first j numbers of row k, as values. -/
def part (k j : Nat) : List Value := ((row k).take j).map (Value.int .i64)

theorem part_succ {k j : Nat} (hj : j < (row k).length) : part k (j + 1) = part k j ++ [.int .i64 ((row k).getD j 0)] := by
  unfold part
  rw [List.take_succ_eq_append_getElem hj, List.map_append, List.getD, List.getElem?_eq_getElem hj]
  rfl

theorem part_full {k j : Nat} (hj : j = (row k).length) : part k j = (row k).map (Value.int .i64) := by
  unfold part
  rw [List.take_of_length_le (by omega)]

set_option maxHeartbeats 400000 in
theorem order_any (w : World) : Calls Try.prog 21 #[] w fun e w' => ∃ b cp, e = .returned (.slice (some ⟨b, 0, none⟩) 68 cp) ∧ OrderAt w' b ∧ Below w.heap.size w w' := by
  obtain ⟨i0, hi, hz0, hz1, hz2⟩ := info_parts Try.info3
  obtain ⟨i1, hj, hy0, hy1, hy2⟩ := info_parts Try.info22
  go_enter Try.func21, Try.ntmps21
  go_wp2_with (go_at_call 25; refine (table_any _).mono ?_; rintro e w1 ⟨rfl, hraw, hb1⟩)
  have HB1 : Hid (Below w.heap.size w w1) := hb1
  clear hb1
  go_loopw [1, 9] (fun v s wr => ∃ (k : Nat) (vs : List Value), k ≤ 68 ∧ s = .int .i64 k ∧ wr.ownsRow w1.heap.size 22 1 v k vs ∧ Hid (Good wr vs k) ∧ Below w1.heap.size w1 wr) (fun _ s _ => 68 - (intOf s).toNat)
  case atStart => exact ⟨0, [], Nat.zero_le _, rfl, World.ownsRow_nil _ _ _ _, Good.nil _, Below.refl _ _⟩
  case round =>
    obtain ⟨k, vs, hk, rfl, hown, HG, hbel⟩ := hrel
    obtain ⟨wo, rfl⟩ : ∃ wo : World, wo = wr := ⟨_, rfl⟩
    by_cases hlt : k < 68
    · obtain ⟨ao, cp, hcell1, hr⟩ := hraw k hlt
      have hcell : wo.cell? ⟨w.heap.size + 67, k, none⟩ = some (.slice ao (row k).length cp) := by rw [hbel.cell (World.block_lt_of_cell? _ _ hcell1)]; exact hcell1
      have hl := row_length hlt
      obtain ⟨n, hn⟩ : ∃ n, n = (row k).length := ⟨_, rfl⟩
      rw [← hn] at hcell hl hr
      have HN : Hid (n = (row k).length) := hn
      have HR : Hid (∀ j, j < n → ∃ g, ao = some ⟨g, 0, none⟩ ∧ wo.cell? ⟨g, j, none⟩ = some (.int .i64 ((row k).getD j 0))) := fun j hj => by
        obtain ⟨g, e, h⟩ := hr j hj
        exact ⟨g, e, by rw [hbel.cell (World.block_lt_of_cell? _ _ h)]; exact h⟩
      clear hn hr hcell1
      have hkz : (k : Int) < 68 := by omega
      go_wp2
      go_loopw [4, 16] (fun x s wi => ∃ j : Nat, j ≤ n ∧ s = .int .i64 j ∧ wi.ownsRow wo.heap.size 3 1 x j (part k j) ∧ Hid (¬ x = .slice none 0 0) ∧ Below wo.heap.size wo wi) (fun _ s _ => n - (intOf s).toNat)
      case atStart => exact ⟨0, Nat.zero_le _, rfl, World.ownsRow_made wo #[] 0 (Nat.le_refl _) (by simp [maxLen]) rfl, by simp [Hid], (Below.refl _ _).alloc (Nat.le_refl _) _⟩
      case round =>
        obtain ⟨j, hjn, rfl, hownx, HX, hbeli⟩ := hrel
        by_cases hji : j < n
        · obtain ⟨g, rfl, hc0⟩ := HR.out j hji
          have hc : wr.cell? ⟨g, j, none⟩ = some (.int .i64 ((row k).getD j 0)) := by rw [hbeli.cell (World.block_lt_of_cell? _ _ hc0)]; exact hc0
          obtain ⟨q, hq⟩ : ∃ q, q = (row k).getD j 0 := ⟨_, rfl⟩
          rw [← hq] at hc
          have HQ : Hid (q = (row k).getD j 0) := hq
          clear hq hc0
          go_wp2_with (at_builtin; refine wpList_append_own _ rfl _ _ 22 rfl wo.heap.size 3 i0 (.int .i64 0) 1 8 Try.underlying22 hi hz0 hz1 hz2 rfl (by decide) _ _ _ rfl (hownx.alloc _) ⟨wr.heap.size, 0, none⟩ 1 1 [.int .i64 q] rfl rfl ?c1 ?c2 ?c3 ?c4 ?c5 ?_)
          case c1 =>
            intro t u ht
            match t, ht with
            | 0, ht => simp at ht; subst ht; simp [Addr.add]
          case c2 => intro u hu; simp at hu; subst hu; rfl
          case c3 => unfold maxLen; omega
          case c4 => omega
          case c5 => have := hbeli.size; simp; omega
          intro x' w2 hown' hgrow hxn
          have hjr : j < (row k).length := by rw [← HN.out]; exact hji
          have hown2 : w2.ownsRow wo.heap.size 3 1 x' (j + 1) (part k (j + 1)) := by rw [part_succ hjr, ← HQ.out]; exact hown'
          have hbel2 : Below wo.heap.size wo w2 := by
            have hs := hbeli.size
            exact (hbeli.alloc hs _).grown hgrow (by simp; omega) (fun q hq => (hownx.lt q hq).1)
          have HX2 : Hid (¬ x' = .slice none 0 0) := by simpa [Hid] using hxn
          clear hown' hgrow hownx hbeli hc hxn
          go_wp2
          go_roundw
          case rel => exact ⟨j + 1, by omega, by go_num, hown2, HX2, hbel2⟩
          case measure => simp [intOf]; omega
        · have e : j = n := by omega
          subst e
          rw [part_full HN.out] at hownx
          obtain ⟨g, cap, cur, rfl, hh, hcur⟩ := own_shape hownx HX.out
          have hs0 := hbel.size
          have hs1 := hbeli.size
          have hgr : wo.grownBy wr none := ⟨hbeli.os, hbeli.tape, hbeli.output, hbeli.size, fun q hq _ => hbeli.block q hq⟩
          have hownV : wr.ownsRow w1.heap.size 22 1 u1 k vs := hown.kept hgr (by cases u1.ownBlock <;> simp)
          have hvl : vs.length = k := by simpa using hown.1
          have hrl : (row k).length = j := HN.out.symm
          have HGW : ∀ o, Hid (Good (wr.alloc o) (vs ++ [.slice (some ⟨g, 0, none⟩) j cap]) (k + 1)) := fun o => by
            refine ((HG.out.below hbeli).below ((Below.refl _ _).alloc (Nat.le_refl _) o)).snoc hvl ⟨g, cap, cur, by rw [hrl], ?_, fun t ht => hcur t (by omega)⟩
            rw [heap_alloc_old _ _ (Array.getElem?_eq_some_iff.1 hh).1]
            exact hh
          have hbelV : ∀ o, Below w1.heap.size w1 (wr.alloc o) := fun o => (hbel.trans (hbeli.mono hs0)).alloc (by omega) o
          clear hcur hh hgr hown hbel hbeli hownx hvl hrl HR hcell
          go_wp2_with (at_builtin; refine wpList_append_own _ rfl _ _ 23 rfl w1.heap.size 22 i1 (.slice none 0 0) 1 24 Try.underlying23 hj hy0 hy1 hy2 rfl (by decide) _ _ _ rfl (hownV.alloc _) ⟨wr.heap.size, 0, none⟩ 1 1 [.slice (some ⟨g, 0, none⟩) j cap] rfl rfl ?d1 ?d2 ?d3 ?d4 ?d5 ?_)
          case d1 =>
            intro t u ht
            match t, ht with
            | 0, ht => simp at ht; subst ht; simp [Addr.add]
          case d2 => intro u hu; simp at hu; subst hu; rfl
          case d3 => unfold maxLen; omega
          case d4 => omega
          case d5 => simp; omega
          intro v' w3 hown' hgrow _
          have HG3 : Hid (Good w3 (vs ++ [.slice (some ⟨g, 0, none⟩) j cap]) (k + 1)) := (HGW _).out.grown (hownV.alloc _) hgrow
          have hbel3 : Below w1.heap.size w1 w3 := (hbelV _).grown hgrow (by simp; omega) (fun q hq => (hownV.lt q hq).1)
          clear hgrow hownV HGW hbelV
          go_wp2
          go_roundw
          case rel => exact ⟨k + 1, _, by omega, by go_num, hown', HG3, hbel3⟩
          case measure => simp [intOf]; omega
    · have e : k = 68 := by omega
      subst e
      obtain ⟨b, cp, rfl, ho⟩ := ord_of hown HG.out
      go_wp2
      go_ret
      exact ⟨b, cp, rfl, ho, HB1.out.trans (hbel.mono HB1.out.size)⟩

set_option maxHeartbeats 400000 in
/-- 'impl.Order'. -/
theorem implOrder_any (w : World) : Calls Try.prog 12 #[] w fun e w' => ∃ b cp, e = .returned (.slice (some ⟨b, 0, none⟩) 68 cp) ∧ OrderAt w' b ∧ Below w.heap.size w w' := by
  go_enter Try.func12, Try.ntmps12
  go_wp2_with (go_at_call 21; refine (order_any _).mono ?_; rintro e w1 ⟨b, cp, rfl, ho, hb⟩)
  go_ret
  exact ⟨b, cp, rfl, ho, hb⟩

#print axioms implOrder_any
end Go.Proofs.Ytjabehkfajikjaa
