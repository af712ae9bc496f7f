/-
  'lockNames', 'String' and 'Name' by their contracts: the table of names in a new block; the name of a rank.
  CONDITIONS: 'String' and 'Name' for the ranks from 0 to 67 and for the rank of leaf locks.
-/
import Derived.Test.YtjabehkfajikjaaOrder
namespace Go.Proofs.Ytjabehkfajikjaa
open Go.RowKit Plain

/-- The name of a rank from 1 on, as the table holds it. -/
def nameOf (i : Nat) : ByteArray := ⟨(([] :: NAMES1).getD i []).toArray⟩

/-- The cells of the table of names. -/
def NamesRow (r : Array Value) : Prop := ∀ i, i < 68 → r[i]? = some (.string (nameOf i))

noncomputable def ops27 : Array Oper := match Try.f27.body with
  | some (.seq _ (.seq (.region _ ops _) _)) => ops
  | _ => #[]
noncomputable def code27 : Code := match Try.f27.body with
  | some c => c
  | _ => .skip
theorem body27 : Try.f27.body = some code27 := rfl
noncomputable def ops27a : Array Oper := match Try.f27.body with
  | some (.seq (.region _ ops _) _) => ops
  | _ => #[]
theorem code27_is : code27 = .seq (.region 0 ops27a false) (.seq (.region 1 ops27 false) .ret) := by kernel_rfl

theorem ops27_is : ops27.toList.map (fun o => (o.guard, o.dst, o.op)) = [(none, some 1, Op.buildSlice 37 68 ((List.range 67).map fun i => (i + 1, Operand.const (.string (nameOf (i + 1))))).toArray), (none, some 0, Op.assign (.tmp 1))] := by kernel_rfl
theorem ops27a_is : ops27a.toList.map (fun o => (o.guard, o.dst, o.op)) = [(none, some 0, Op.assign (.const (.slice none 0 0)))] := by kernel_rfl

theorem Try.under37 : Try.prog.underlying 37 = some (.slice 9) := by kernel_rfl
theorem Try.info9 : (Try.prog.info? 9).map (fun i => (i.zero, i.size, i.bytes)) = some (some (.string ⟨#[]⟩), 1, 16) := by kernel_rfl

theorem nameOf_zero : nameOf 0 = ⟨#[]⟩ := rfl

theorem names_any (w : World) :
    Calls Try.prog 27 #[] w fun e w' => ∃ r, e = .returned (.slice (some ⟨w.heap.size, 0, none⟩) 68 68) ∧ w' = w.alloc (.cells r 9) ∧ NamesRow r := by
  obtain ⟨i0, hi, hz0, hz1, hz2⟩ := info_parts Try.info9
  obtain ⟨r, hr, h0, h1⟩ := table_cells (fun i => .string (nameOf (i + 1))) (fun _ => rfl) (.string ⟨#[]⟩) rfl
  have hrow : NamesRow r := fun i hi => by
    cases i with
    | zero => exact h0
    | succ i => exact h1 i (by omega)
  refine calls_of_wp Try.func27 body27 ?_
  rw [code27_is]
  generalize hT : #[] ++ Array.replicate (Try.f27.ntmps - (#[] : Array Value).size) undef = T
  have hsz : T.size = 2 := by rw [← hT]; simp
  clear hT
  obtain ⟨o0, hoa, ga, da, pa⟩ := one_of ops27a_is
  obtain ⟨o1, o2, hlo, ⟨g1, d1, p1⟩, g2, d2, p2⟩ := two_of ops27_is
  refine wp_seq (wp_region_list ?_)
  rw [hoa]
  refine wpList_assign ga _ 0 da pa (wpList_nil ?_)
  simp only [Exit.then]
  refine wp_seq (wp_region_list ?_)
  rw [hlo]
  have hparts : ∀ a : Act, (((List.range 67).map fun i => (i + 1, Operand.const (.string (nameOf (i + 1))))).toArray.map fun (i, x) => (i, a.eval x)).toList =
      (List.range 67).map fun i => (i + 1, Value.string (nameOf (i + 1))) := fun a => by
    rw [List.map_toArray, List.map_map]
    rfl
  refine wpList_buildSlice g1 37 9 68 _ p1 r i0 (.string ⟨#[]⟩) Try.under37 hi hz0 (by rw [hz1]; omega) (by rw [hz1]; omega) ?_ ?_
  · rw [hparts]
    simp only [hz1]
    exact hr
  · rw [d1]
    refine wpList_assign g2 _ 0 d2 p2 (wpList_nil ?_)
    simp only [Exit.then]
    refine wp_ret ?_
    refine bodyPost_ret (v := .slice (some ⟨w.heap.size, 0, none⟩) 68 68) ?_ rfl ⟨r, rfl, rfl, hrow⟩
    rw [results_tmp (t := 0) rfl]
    simp [Act.put, Act.eval, Array.getD_eq_getD_getElem?, hsz]

/-- A name in a table that has just been laid. -/
theorem name_cell {W : World} {r : Array Value} (hr : NamesRow r) {i : Nat} (hi : i < 68) {N : Nat} (hN : N = W.heap.size) : (W.alloc (.cells r 9)).cell? ⟨N, i, none⟩ = some (.string (nameOf i)) := by
  subst hN
  have h : (W.alloc (.cells r 9)).heap[W.heap.size]? = some (.cells r 9) := heap_alloc_new _ _
  rw [cell_of_row _ _ _ r 9 (0, 0) h]
  exact hr i hi

set_option maxHeartbeats 400000 in
theorem string_zero (w : World) : Calls Try.prog 26 #[.int .i64 0] w fun e w' => e = .returned (.string ⟨#[85, 78, 75, 78, 79, 87, 78]⟩) ∧ w = w' := by
  go_enter Try.func26, Try.ntmps26
  go_wp2
  go_ret
  exact ⟨rfl, rfl⟩

set_option maxHeartbeats 400000 in
theorem string_leaf (w : World) : Calls Try.prog 26 #[.int .i64 1000] w fun e w' => e = .returned (.string ⟨#[76, 69, 65, 70]⟩) ∧ w = w' := by
  go_enter Try.func26, Try.ntmps26
  go_wp2
  go_ret
  exact ⟨rfl, rfl⟩

set_option maxHeartbeats 400000 in
theorem string_mid (a : Int) (h1 : 1 ≤ a) (h2 : a < 68) (w : World) : Calls Try.prog 26 #[.int .i64 a] w fun e w' => e = .returned (.string (nameOf a.toNat)) ∧ Below w.heap.size w w' := by
  have e0 : (a == 0) = false := by simp; omega
  have e1 : (a == 1000) = false := by simp; omega
  go_enter Try.func26, Try.ntmps26
  go_wp2_with fail
  refine (names_any _).mono ?_; rintro e w1 ⟨r1, rfl, rfl, hr1⟩
  clear hr1
  go_wp2_with fail
  refine (names_any _).mono ?_; rintro e w2 ⟨r2, rfl, rfl, hr2⟩
  have hc := name_cell (W := w.alloc (.cells r1 9)) hr2 (i := a.toNat) (by omega) (N := w.heap.size + 1) (by simp)
  clear hr2
  go_wp2
  go_ret
  exact ⟨rfl, ((Below.refl _ _).alloc (Nat.le_refl _) _).alloc (by simp) _⟩

set_option maxHeartbeats 400000 in
/-- 'impl.Name', by what 'String' says. -/
theorem name_of_string {a : Int} {w : World} {v : Value} {P : World → Prop} (h : Calls Try.prog 26 #[.int .i64 a] w fun e w' => e = .returned v ∧ P w') :
    Calls Try.prog 19 #[.int .i64 a] w fun e w' => e = .returned v ∧ P w' := by
  have H : Hid (Calls Try.prog 26 #[.int .i64 a] w fun e w' => e = .returned v ∧ P w') := h
  clear h
  have h23 : Calls Try.prog 23 #[.int .i64 a] w fun e w' => e = .returned v ∧ P w' := by
    go_enter Try.func23, Try.ntmps23
    go_wp2_with fail
    refine Calls.mono H.out ?_
    rintro e w' ⟨rfl, hp⟩
    have HP : Hid (P w') := hp
    clear hp
    go_wp2
    go_ret
    exact ⟨rfl, HP.out⟩
  have H23 : Hid (Calls Try.prog 23 #[.int .i64 a] w fun e w' => e = .returned v ∧ P w') := h23
  clear h23
  go_enter Try.func19, Try.ntmps19
  go_wp2_with fail
  refine Calls.mono H23.out ?_
  rintro e w' ⟨rfl, hp⟩
  have HP : Hid (P w') := hp
  clear hp
  go_wp2
  go_ret
  exact ⟨rfl, HP.out⟩

theorem name_zero (w : World) : Calls Try.prog 19 #[.int .i64 0] w fun e w' => e = .returned (.string ⟨#[85, 78, 75, 78, 79, 87, 78]⟩) ∧ w = w' := name_of_string (string_zero w)
theorem name_leaf (w : World) : Calls Try.prog 19 #[.int .i64 1000] w fun e w' => e = .returned (.string ⟨#[76, 69, 65, 70]⟩) ∧ w = w' := name_of_string (string_leaf w)
theorem name_mid (a : Int) (h1 : 1 ≤ a) (h2 : a < 68) (w : World) : Calls Try.prog 19 #[.int .i64 a] w fun e w' => e = .returned (.string (nameOf a.toNat)) ∧ Below w.heap.size w w' := name_of_string (string_mid a h1 h2 w)

set_option maxHeartbeats 400000 in
/-- 'impl.Names'. -/
theorem implNames_any (w : World) : Calls Try.prog 20 #[] w fun e w' => ∃ r, e = .returned (.slice (some ⟨w.heap.size, 0, none⟩) 68 68) ∧ w' = w.alloc (.cells r 9) ∧ NamesRow r := by
  have h24 : Calls Try.prog 24 #[] w fun e w' => ∃ r, e = .returned (.slice (some ⟨w.heap.size, 0, none⟩) 68 68) ∧ w' = w.alloc (.cells r 9) ∧ NamesRow r := by
    go_enter Try.func24, Try.ntmps24
    go_wp2_with fail
    refine (names_any _).mono ?_; rintro e w1 ⟨r1, rfl, rfl, hr1⟩
    have HR : Hid (NamesRow r1) := hr1
    clear hr1
    go_wp2
    go_ret
    exact ⟨r1, rfl, rfl, HR.out⟩
  have H24 : Hid (Calls Try.prog 24 #[] w fun e w' => ∃ r, e = .returned (.slice (some ⟨w.heap.size, 0, none⟩) 68 68) ∧ w' = w.alloc (.cells r 9) ∧ NamesRow r) := h24
  clear h24
  go_enter Try.func20, Try.ntmps20
  go_wp2_with fail
  refine Calls.mono H24.out ?_; rintro e w1 ⟨r1, rfl, rfl, hr1⟩
  have HR : Hid (NamesRow r1) := hr1
  clear hr1
  go_wp2
  go_ret
  exact ⟨r1, rfl, rfl, HR.out⟩

#print axioms implNames_any
end Go.Proofs.Ytjabehkfajikjaa
