/-
  The walk of the law on a part of a list: it returns true and writes nothing that was there.
  CONDITIONS: none (a list of more than 2147483647 values is let by at once, as the law's own text says).
-/
import Derived.Test.YtjabehkfajikjaaLawB
namespace Go.Proofs.Ytjabehkfajikjaa
open Go.RowKit Plain

/-- A list of bools as cells. -/
def CellsB (w : World) (ao : Option Addr) (n : Nat) (ks : List Bool) : Prop := ∀ j, j < n → ∃ g o, ao = some ⟨g, o, none⟩ ∧ w.cell? ⟨g, o + j, none⟩ = some (.bool (ks.getD j false))

/-- Is place k among those that are kept? -/
def keptB (ks : List Bool) (m k : Nat) : Bool := decide (k < m) && ks.getD k false

/-- What is kept of the first k numbers. -/
def picked (R : List Int) (ks : List Bool) (m : Nat) : Nat → List Int
  | 0 => []
  | k + 1 => if keptB ks m k then picked R ks m k ++ [R.getD k 0] else picked R ks m k

theorem picked_yes {R : List Int} {ks : List Bool} {m k : Nat} (h : keptB ks m k = true) : picked R ks m (k + 1) = picked R ks m k ++ [R.getD k 0] := by rw [picked, if_pos h]
theorem picked_no {R : List Int} {ks : List Bool} {m k : Nat} (h : keptB ks m k = false) : picked R ks m (k + 1) = picked R ks m k := by rw [picked, if_neg (by rw [h]; decide)]

theorem picked_length (R : List Int) (ks : List Bool) (m k : Nat) : (picked R ks m k).length ≤ k := by
  induction k with
  | zero => simp [picked]
  | succ k ih =>
    cases h : keptB ks m k with
    | true => rw [picked_yes h]; simp; omega
    | false => rw [picked_no h]; omega

theorem picked_sub (R : List Int) (ks : List Bool) (m k : Nat) (hk : k ≤ R.length) : (picked R ks m k).Sublist (R.take k) := by
  induction k with
  | zero => simp [picked]
  | succ k ih =>
    have hk' : k < R.length := by omega
    rw [List.take_succ_eq_append_getElem hk']
    have ih := ih (by omega)
    cases h : keptB ks m k with
    | true =>
      rw [picked_yes h]
      have e : R.getD k 0 = R[k] := by simp [List.getD, hk']
      rw [e]
      exact ih.append (List.Sublist.refl _)
    | false =>
      rw [picked_no h]
      exact ih.trans (List.sublist_append_left _ _)

theorem picked_whole {R : List Int} {ks : List Bool} {m n : Nat} (hn : n = R.length) : (picked R ks m n).Sublist R := by
  have := picked_sub R ks m n (by omega)
  rwa [List.take_of_length_le (by omega)] at this

theorem picked_snoc {R : List Int} {ks : List Bool} {m k : Nat} (h : keptB ks m k = true) : (picked R ks m k).map (Value.int .i64) ++ [.int .i64 (R.getD k 0)] = (picked R ks m (k + 1)).map (Value.int .i64) := by
  rw [picked_yes h, List.map_append]; rfl

theorem ranks_sub {R S : List Int} (hs : S.Sublist R) (h : Ranks R) : Ranks S := fun a ha => h a (hs.subset ha)

set_option maxHeartbeats 400000 in
theorem subset_walk (ao : Option Addr) (n cl : Nat) (zs : List Int) (ko : Option Addr) (m cm : Nat) (ks : List Bool) (w : World) (hn : n ≤ zs.length) (hc : Cells w ao n zs) (hk : CellsB w ko m ks) :
    Calls Try.prog 8 #[.slice ao n cl, .slice ko m cm] w fun e w' => e = .returned (.bool true) ∧ Below w.heap.size w w' := by
  by_cases hbig : 2147483647 < n
  · have hz : (2147483647 : Int) < (n : Int) := by omega
    go_enter Try.func8, Try.ntmps8
    go_wp2
    go_ret
    exact ⟨rfl, Below.refl _ _⟩
  · have hz : ¬ (2147483647 : Int) < (n : Int) := by omega
    have hz' : decide ((2147483647 : Int) < (n : Int)) = false := by simpa using hz
    by_cases hbig2 : 2147483647 < m
    · have hy : (2147483647 : Int) < (m : Int) := by omega
      go_enter Try.func8, Try.ntmps8
      go_wp2
      go_ret
      exact ⟨rfl, Below.refl _ _⟩
    · have hy : ¬ (2147483647 : Int) < (m : Int) := by omega
      obtain ⟨i0, hi, hz0, hz1, hz2⟩ := info_parts Try.info3
      have HC : Hid (Cells w ao n zs) := hc
      have HK : Hid (CellsB w ko m ks) := hk
      clear hc hk
      go_enter Try.func8, Try.ntmps8
      go_wp2_with (go_at_call 12; refine (implOrder_any _).mono ?_; rintro e w1 ⟨o, cp, rfl, ho, hbel⟩)
      have HO : Hid (OrderAt w1 o) := ho
      have HBel : Hid (Below w.heap.size w w1) := hbel
      have HC1 : Hid (Cells w1 ao n zs) := fun j hj => by
        obtain ⟨g, q, e, h⟩ := HC.out j hj
        exact ⟨g, q, e, by rw [hbel.cell (World.block_lt_of_cell? _ _ h)]; exact h⟩
      clear ho hbel
      refine (ranks_any _ _ _ _ _ zs _ hn (by omega) HC1.out).mono ?_
      rintro e w2 ⟨v, rfl, hown, hbel2⟩
      obtain ⟨ao', cl', rfl, hcl, hc2⟩ := list_of hown
      have HO2 : Hid (OrderAt w2 o) := HO.out.below hbel2
      have HBel2 : Hid (Below w.heap.size w w2) := HBel.out.trans (hbel2.mono HBel.out.size)
      have HC2 : Hid (Cells w2 ao' n (RK zs n)) := hc2
      have HK2 : Hid (CellsB w2 ko m ks) := fun j hj => by
        obtain ⟨g, q, e, h⟩ := HK.out j hj
        exact ⟨g, q, e, by rw [HBel2.out.cell (World.block_lt_of_cell? _ _ h)]; exact h⟩
      have HL : Hid (n = (RK zs n).length) := (RK_length hn).symm
      have HR := RK_ranks zs n
      generalize RK zs n = R at *
      have HRK : Hid (Ranks R) := HR
      clear hown hbel2 hc2 HR HC1 HC HK
      go_wp2_with fail
      go_loopw [6, 26] (fun v s wr => ∃ k : Nat, k ≤ n ∧ s = .int .i64 k ∧ wr.ownsRow w2.heap.size 3 1 v (picked R ks m k).length ((picked R ks m k).map (Value.int .i64)) ∧ Below w2.heap.size w2 wr) (fun _ s _ => n - (intOf s).toNat)
      case atStart => exact ⟨0, Nat.zero_le _, rfl, World.ownsRow_nil _ _ _ _, Below.refl _ _⟩
      case round =>
        obtain ⟨k, hkn, rfl, hown, hbel⟩ := hrel
        by_cases hlt : k < n
        · have hkz : (k : Int) < n := by omega
          obtain ⟨g, u, rfl, hcell0⟩ := HC2.out k hlt
          have hcell : wr.cell? ⟨g, u + k, none⟩ = some (.int .i64 (R.getD k 0)) := by rw [hbel.cell (World.block_lt_of_cell? _ _ hcell0)]; exact hcell0
          obtain ⟨x, hx⟩ : ∃ x, x = R.getD k 0 := ⟨_, rfl⟩
          rw [← hx] at hcell
          have HX : Hid (x = R.getD k 0) := hx
          clear hx hcell0
          have hpl := picked_length R ks m k
          by_cases hkm : k < m
          · have hkmz : (k : Int) < m := by omega
            obtain ⟨g', u', rfl, hb0⟩ := HK2.out k hkm
            have hb : wr.cell? ⟨g', u' + k, none⟩ = some (.bool (ks.getD k false)) := by rw [hbel.cell (World.block_lt_of_cell? _ _ hb0)]; exact hb0
            clear hb0
            cases hkb : ks.getD k false with
            | true =>
              have hkept : keptB ks m k = true := by simp only [keptB, hkb, hkm, decide_true, Bool.and_self]
              rw [hkb] at hb
              have HKB : Hid (keptB ks m k = true) := hkept
              clear hkept hkb
              go_wp2_with (at_builtin; refine wpList_append_own _ rfl _ _ 22 rfl w2.heap.size 3 i0 (.int .i64 0) 1 8 Try.underlying22 hi hz0 hz1 hz2 rfl (by decide) _ _ _ rfl (hown.alloc _) ⟨wr.heap.size, 0, none⟩ 1 1 [.int .i64 x] rfl rfl ?c1 ?c2 ?c3 ?c4 ?c5 ?_)
              case c1 =>
                intro j u hj
                match j, hj with
                | 0, hj => simp at hj; subst hj; simp [Addr.add]
              case c2 => intro u hu; simp at hu; subst hu; rfl
              case c3 => unfold maxLen; omega
              case c4 => omega
              case c5 => have := hbel.size; simp; omega
              intro v' w3 hown' hgrow _
              have hown2 : w3.ownsRow w2.heap.size 3 1 v' (picked R ks m (k + 1)).length ((picked R ks m (k + 1)).map (Value.int .i64)) := by
                rw [← picked_snoc HKB.out, ← HX.out]
                have e : (picked R ks m (k + 1)).length = (picked R ks m k).length + 1 := by rw [picked_yes HKB.out]; simp
                rw [e]
                exact hown'
              have hbel2 : Below w2.heap.size w2 w3 := by
                have hs := hbel.size
                exact (hbel.alloc hs _).grown hgrow (by simp; omega) (fun q hq => (hown.lt q hq).1)
              clear hown' hgrow hown hbel hcell hb
              go_wp2
              go_roundw
              case rel => exact ⟨k + 1, by omega, by go_num, hown2, hbel2⟩
              case measure => simp [intOf]; omega
            | false =>
              have hno : keptB ks m k = false := by simp only [keptB, hkb, Bool.and_false]
              have hown2 : wr.ownsRow w2.heap.size 3 1 u6 (picked R ks m (k + 1)).length ((picked R ks m (k + 1)).map (Value.int .i64)) := by rw [picked_no hno]; exact hown
              rw [hkb] at hb
              clear hno hkb hown
              go_wp2
              go_roundw
              case rel => exact ⟨k + 1, by omega, by go_num, hown2, hbel⟩
              case measure => simp [intOf]; omega
          · have hkmz : ¬ (k : Int) < m := by omega
            have hno : keptB ks m k = false := by simp [keptB, hkm]
            have hown2 : wr.ownsRow w2.heap.size 3 1 u6 (picked R ks m (k + 1)).length ((picked R ks m (k + 1)).map (Value.int .i64)) := by rw [picked_no hno]; exact hown
            clear hno hown
            go_wp2
            go_roundw
            case rel => exact ⟨k + 1, by omega, by go_num, hown2, hbel⟩
            case measure => simp [intOf]; omega
        · have e : k = n := by omega
          subst e
          obtain ⟨so, sc, rfl, hsc, hcs⟩ := list_of hown
          have HO3 : Hid (OrderAt wr o) := HO2.out.below hbel
          have HC3 : Hid (Cells wr ao' k R) := fun j hj => by
            obtain ⟨g, q, e, h⟩ := HC2.out j hj
            exact ⟨g, q, e, by rw [hbel.cell (World.block_lt_of_cell? _ _ h)]; exact h⟩
          have HBel3 : Hid (Below w.heap.size w wr) := HBel2.out.trans (hbel.mono HBel2.out.size)
          have HS : Hid (Cells wr so (picked R ks m k).length (picked R ks m k)) := hcs
          have hsub := picked_whole (R := R) (ks := ks) (m := m) HL.out
          have HRS : Hid (Ranks (picked R ks m k)) := ranks_sub hsub HRK.out
          have hpl := picked_length R ks m k
          have hall := allowed_sublist hsub
          generalize picked R ks m k = S at *
          have HALL : Hid (allowedB R = true → allowedB S = true) := hall
          obtain ⟨sn, hsn⟩ : ∃ sn, sn = S.length := ⟨_, rfl⟩
          have HSN : Hid (sn = S.length) := hsn
          rw [← hsn] at hsc hpl HS ⊢
          clear hown hbel hcs hsub hall hsn
          cases h1 : allowedB R with
          | false =>
            go_wp2_with (go_at_call 15; refine (allowed_any _ _ _ _ _ R _ HO3.out HL.out hcl (by omega) HRK.out HC3.out).mono ?_; rintro e w4 ⟨rfl, rfl⟩)
            go_ret
            exact ⟨rfl, HBel3.out⟩
          | true =>
            have h2 := HALL.out h1
            go_wp2_with fail
            refine (allowed_any _ _ _ _ _ R _ HO3.out HL.out hcl (by omega) HRK.out HC3.out).mono ?_
            rintro e w4 ⟨rfl, rfl⟩
            go_wp2_with fail
            refine (allowed_any _ _ _ _ _ S _ HO3.out HSN.out hsc (by omega) HRS.out HS.out).mono ?_
            rintro e w4 ⟨rfl, rfl⟩
            go_wp2
            go_ret
            exact ⟨rfl, HBel3.out⟩
end Go.Proofs.Ytjabehkfajikjaa
