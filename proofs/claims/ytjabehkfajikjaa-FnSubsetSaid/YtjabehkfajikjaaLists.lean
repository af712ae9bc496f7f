/-
  'Allowed' and 'Chained' by their contracts: over a list of ranks they tell what the plain 'allowedB' and 'chainedB' tell, and write nothing.
  CONDITIONS: the order's cells and the list's cells are known; the list holds ranks.
-/
import Derived.Test.YtjabehkfajikjaaLeaf
namespace Go.Proofs.Ytjabehkfajikjaa
open Go.RowKit Plain

/-- A list of integers as cells: the first n cells behind the slice's address. -/
def Cells (w : World) (ao : Option Addr) (n : Nat) (R : List Int) : Prop := ∀ j, j < n → ∃ g o, ao = some ⟨g, o, none⟩ ∧ w.cell? ⟨g, o + j, none⟩ = some (.int .i64 (R.getD j 0))

/-- Each of the first i ranks of a list may be taken while those ahead of it are held. -/
def UpTo (R : List Int) (i : Nat) : Prop := ∀ i', i' < i → ∀ j, j < i' → mayB (R.getD j 0) (R.getD i' 0) = true
/-- The first j ranks of a list may be held when rank i is taken. -/
def Under (R : List Int) (i j : Nat) : Prop := ∀ j', j' < j → mayB (R.getD j' 0) (R.getD i 0) = true

theorem UpTo.all {R : List Int} (h : UpTo R R.length) : true = allowedB R := by
  rw [eq_comm, allowed_iff]
  exact fun i j hj hi => h i hi j hj

theorem not_allowed {R : List Int} {i j : Nat} (hi : i < R.length) (hj : j < i) (h : mayB (R.getD j 0) (R.getD i 0) = false) : false = allowedB R := by
  rw [eq_comm, ← Bool.not_eq_true, allowed_iff]
  intro hh
  rw [hh i j hj hi] at h
  cases h

theorem UpTo.next {R : List Int} {i : Nat} (h : UpTo R i) (hu : Under R i i) : UpTo R (i + 1) := by
  intro i' hi' j hj
  by_cases e : i' = i
  · subst e; exact hu j hj
  · exact h i' (by omega) j hj

theorem Under.next {R : List Int} {i j : Nat} (h : Under R i j) (hm : mayB (R.getD j 0) (R.getD i 0) = true) : Under R i (j + 1) := by
  intro j' hj'
  by_cases e : j' = j
  · subst e; exact hm
  · exact h j' (by omega)

set_option maxHeartbeats 400000 in
theorem allowed_any (b cp : Nat) (ao : Option Addr) (n cl : Nat) (R : List Int) (w : World) (ho : OrderAt w b) (hn : n = R.length) (hcl : n ≤ cl) (hm : n ≤ 2147483647) (hr : Ranks R) (hc : Cells w ao n R) :
    Calls Try.prog 15 #[.slice (some ⟨b, 0, none⟩) 68 cp, .slice ao n cl] w fun e w' => e = .returned (.bool (allowedB R)) ∧ w = w' := by
  have Hn : Hid (n = R.length) := hn
  have HC : Hid (Cells w ao n R) := hc
  have HR : Hid (Ranks R) := hr
  have HO : Hid (OrderAt w b) := ho
  clear hn hc hr ho
  go_enter Try.func15, Try.ntmps15
  go_wp2
  go_loop [11] (fun s => ∃ i : Nat, i ≤ n ∧ s = .int .i64 i ∧ Hid (UpTo R i)) (fun s => n - (intOf s).toNat)
  case atStart => exact ⟨0, Nat.zero_le _, rfl, fun i' hi' => absurd hi' (Nat.not_lt_zero _)⟩
  case round =>
    obtain ⟨i, hi, rfl, HU⟩ := hrel
    by_cases hlt : i < n
    · have hcellI := HC.out i hlt
      obtain ⟨g, o, rfl, hcell⟩ := hcellI
      obtain ⟨t, ht⟩ : ∃ t, t = R.getD i 0 := ⟨_, rfl⟩
      have hb := ranks_getD HR.out (i := i) (by rw [← Hn.out]; exact hlt)
      rw [← ht] at hcell hb
      obtain ⟨hb0, hb1⟩ := hb
      have HT : Hid (t = R.getD i 0) := ht
      clear ht
      have hicl : i ≤ cl := by omega
      go_wp2
      go_loop [20] (fun s => ∃ j : Nat, j ≤ i ∧ s = .int .i64 j ∧ Hid (Under R i j)) (fun s => i - (intOf s).toNat)
      case atStart => exact ⟨0, Nat.zero_le _, rfl, fun j' hj' => absurd hj' (Nat.not_lt_zero _)⟩
      case round =>
        obtain ⟨j, hj, rfl, HV⟩ := hrel
        by_cases hji : j < i
        · obtain ⟨g', o', hgo, hcellJ⟩ := HC.out j (by omega)
          simp only [Option.some.injEq, Addr.mk.injEq] at hgo
          obtain ⟨rfl, rfl, _⟩ := hgo
          obtain ⟨x, hx⟩ : ∃ x, x = R.getD j 0 := ⟨_, rfl⟩
          rw [← hx] at hcellJ
          have HX : Hid (x = R.getD j 0) := hx
          clear hx
          cases hmay : mayB x t with
          | true =>
            go_wp2_with (go_at_call 17; refine (may_any _ _ _ _ hb0 hb1 _ HO.out).mono ?_; rintro e w' ⟨rfl, rfl⟩)
            exact ⟨⟨j + 1, by omega, by go_num, HV.out.next (by rw [← HX.out, ← HT.out]; exact hmay)⟩, by simp [intOf]; omega⟩
          | false =>
            go_wp2_with (go_at_call 17; refine (may_any _ _ _ _ hb0 hb1 _ HO.out).mono ?_; rintro e w' ⟨rfl, rfl⟩)
            go_ret
            exact ⟨ret_bool (not_allowed (i := i) (j := j) (by rw [← Hn.out]; exact hlt) hji (by rw [← HX.out, ← HT.out]; exact hmay)), rfl⟩
        · go_wp2
          exact ⟨⟨i + 1, by omega, by go_num, HU.out.next (by have e : j = i := by omega
                                                              rw [e] at HV; exact HV.out)⟩, by simp [intOf]; omega⟩
    · go_wp2
      go_ret
      exact ⟨ret_bool (by have e : i = R.length := by rw [← Hn.out]; omega
                          rw [e] at HU; exact HU.out.all), rfl⟩

/-- 'May' in a world behind some draws. -/
theorem may_quiet (b cp : Nat) (x t : Int) (ht0 : 0 ≤ t) (ht : t < 68) (w : World) (ho : OrderAt w b) (n : Nat) :
    Calls Try.prog 17 #[.slice (some ⟨b, 0, none⟩) 68 cp, .int .i64 x, .int .i64 t] (w.drewN n) fun e w' => e = .returned (.bool (mayB x t)) ∧ ∃ m, w' = w.drewN m :=
  (may_any b cp x t ht0 ht (w.drewN n) ho).mono fun _ _ h => ⟨h.1, n, h.2.symm⟩

/-- Each of the first i links of a list holds. -/
def Links (R : List Int) (i : Nat) : Prop := ∀ i', i' + 1 < i → mayB (R.getD i' 0) (R.getD (i' + 1) 0) = true

theorem Links.all {R : List Int} {i : Nat} (h : Links R i) (hi : R.length ≤ i) : true = chainedB R := by
  rw [eq_comm, chained_iff]
  exact fun i' hi' => h i' (by omega)

theorem not_chained {R : List Int} {i : Nat} (hi : i + 1 < R.length) (h : mayB (R.getD i 0) (R.getD (i + 1) 0) = false) : false = chainedB R := by
  rw [eq_comm, ← Bool.not_eq_true, chained_iff]
  intro hh
  rw [hh i hi] at h
  cases h

theorem Links.next {R : List Int} {i : Nat} (h : Links R (i + 1)) (hm : mayB (R.getD i 0) (R.getD (i + 1) 0) = true) : Links R (i + 1 + 1) := by
  intro i' hi'
  by_cases e : i' = i
  · subst e; exact hm
  · exact h i' (by omega)

set_option maxHeartbeats 400000 in
theorem chained_any (b cp : Nat) (ao : Option Addr) (n cl : Nat) (R : List Int) (w : World) (ho : OrderAt w b) (hn : n = R.length) (hm : n ≤ 2147483647) (hr : Ranks R) (hc : Cells w ao n R) :
    Calls Try.prog 14 #[.slice (some ⟨b, 0, none⟩) 68 cp, .slice ao n cl] w fun e w' => e = .returned (.bool (chainedB R)) ∧ ∃ q, w' = w.drewN q := by
  have Hn : Hid (n = R.length) := hn
  have HC : Hid (Cells w ao n R) := hc
  have HR : Hid (Ranks R) := hr
  have HO : Hid (OrderAt w b) := ho
  clear hn hc hr ho
  go_enter Try.func14, Try.ntmps14
  go_wp2
  go_loopw [5] (fun s wr => ∃ i : Nat, (i ≤ n ∨ i = 0) ∧ s = .int .i64 (i + 1) ∧ Hid (Links R (i + 1)) ∧ Hid (∃ q, wr = w.drewN q)) (fun s _ => n - (intOf s).toNat)
  case atStart => exact ⟨0, Or.inr rfl, rfl, fun i' hi' => absurd hi' (by omega), ⟨0, rfl⟩⟩
  case round =>
    obtain ⟨i, hi, rfl, HL, HW⟩ := hrel
    by_cases hlt : i + 1 < n
    · have HO' : Hid (OrderAt wr b) := by obtain ⟨q, rfl⟩ := HW.out; exact HO.out
      obtain ⟨g, o, rfl, hcell⟩ : ∃ g o, ao = some ⟨g, o, none⟩ ∧ wr.cell? ⟨g, o + i, none⟩ = some (.int .i64 (R.getD i 0)) := by
        obtain ⟨q, rfl⟩ := HW.out; exact HC.out i (by omega)
      have hcell1 : wr.cell? ⟨g, o + (i + 1), none⟩ = some (.int .i64 (R.getD (i + 1) 0)) := by
        obtain ⟨q, rfl⟩ := HW.out
        obtain ⟨g', o', hgo, h⟩ := HC.out (i + 1) (by omega)
        simp only [Option.some.injEq, Addr.mk.injEq] at hgo
        obtain ⟨rfl, rfl, _⟩ := hgo
        exact h
      obtain ⟨t, ht⟩ : ∃ t, t = R.getD (i + 1) 0 := ⟨_, rfl⟩
      obtain ⟨x, hx⟩ : ∃ x, x = R.getD i 0 := ⟨_, rfl⟩
      have hb := ranks_getD HR.out (i := i + 1) (by rw [← Hn.out]; exact hlt)
      rw [← ht] at hcell1 hb
      rw [← hx] at hcell
      obtain ⟨hb0, hb1⟩ := hb
      have HT : Hid (t = R.getD (i + 1) 0) := ht
      have HX : Hid (x = R.getD i 0) := hx
      clear ht hx hi
      have hi1 : (i : Int) < n := by omega
      have hi2 : (i : Int) + 1 < n := by omega
      have hi0 : (0 : Int) ≤ i := by omega
      have hi3 : (0 : Int) ≤ (i : Int) + 1 := by omega
      have q1 : IntKind.i64.wrap (i : Int) = (i : Int) := IntWalk.i64_in _ (by omega)
      have q3 : ((i : Int) + 1).toNat = i + 1 := by omega
      cases hmay : mayB x t with
      | true =>
        go_wp2
        go_quiet ((go_at_call 17; exact may_quiet b cp x t hb0 hb1 wr HO'.out _))
        clear hcell hcell1 q1 q3
        go_wp2
        exact ⟨⟨i + 1, Or.inl (by omega), by go_num, HL.out.next (by rw [← HX.out, ← HT.out]; exact hmay), by obtain ⟨q, rfl⟩ := HW.out; exact ⟨q + nq, by rw [World.drewN_drewN]⟩⟩, by simp [intOf]; omega⟩
      | false =>
        go_wp2
        go_quiet ((go_at_call 17; exact may_quiet b cp x t hb0 hb1 wr HO'.out _))
        clear hcell hcell1 q1 q3
        go_wp2
        go_ret
        exact ⟨ret_bool (not_chained (i := i) (by rw [← Hn.out]; exact hlt) (by rw [← HX.out, ← HT.out]; exact hmay)), by obtain ⟨q, rfl⟩ := HW.out; exact ⟨q + nq, by rw [World.drewN_drewN]⟩⟩
    · go_wp2
      go_ret
      exact ⟨ret_bool (HL.out.all (by rw [← Hn.out]; omega)), HW.out⟩
end Go.Proofs.Ytjabehkfajikjaa
