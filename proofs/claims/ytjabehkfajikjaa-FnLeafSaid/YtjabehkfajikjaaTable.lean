/-
  'lockPartialOrder' by its contract: it lays one new block a row of the table and one for the table itself, and writes nothing that was there.
  CONDITIONS: none.
-/
import Derived.Test.YtjabehkfajikjaaLeaf
import Derived.Great.BuildSlice
namespace Go.Proofs.Ytjabehkfajikjaa
open Go.RowKit Plain

/-- The parts of a slice literal of numbers, every place written. -/
def rowParts (zs : List Int) : Array (Nat × Operand) := ((zs.zipIdx 0).map fun x => (x.2, Operand.const (Value.int .i64 x.1))).toArray

/-- What a row of such literals leaves in the frame: the first in slot d, at block N. -/
def laidTmps : List (List Int) → Nat → Nat → Array Value → Array Value
  | [], _, _, t => t
  | zs :: r, d, N, t => laidTmps r (d + 1) (N + 1) (t.setIfInBounds d (.slice (some ⟨N, 0, none⟩) zs.length zs.length))

/-- .. and in the world. -/
def laidWorld : List (List Int) → World → World
  | [], w => w
  | zs :: r, w => laidWorld r (w.alloc (.cells (zs.map (Value.int .i64)).toArray 43))

theorem run_buildEmpty {P : Program} (w : World) (t e : TypeId) (hu : P.underlying t = some (.slice e)) (hie : (P.info? e).isSome = true) :
    (Instr.buildSlice t 0 #[]).run P w = .ok (.slice (some ⟨w.heap.size, 0, none⟩) 0 0) (w.alloc (.cells #[] e)) := by
  obtain ⟨ie, hie⟩ := Option.isSome_iff_exists.1 hie
  simp [Instr.buildSlice, run_underlying hu, sizeOf, typeInfo, hie, Instr.fill, newRow]
  congr 2
  exact Array.eq_empty_of_size_eq_zero (by simp)

theorem wpList_row {P : Program} {ops : Array Oper} {rest : List Oper} {o : Oper} {a : Act} {w : World} {Q : Exit → Act → World → Prop} (hg : o.guard = none) (t e : TypeId) (zs : List Int) (d : Nat) (hd : o.dst = some d)
    (ho : o.op = .buildSlice t zs.length (rowParts zs)) (hu : P.underlying t = some (.slice e)) (hsz : (P.info? e).map (·.size) = some 1) (hz : ((P.info? e).bind (·.zero)).isSome = true) (hl : zs.length ≤ 2 ^ 24)
    (h : wpList P ops Q rest (a.put (some d) (.slice (some ⟨w.heap.size, 0, none⟩) zs.length zs.length)) (w.alloc (.cells (zs.map (Value.int .i64)).toArray e))) : wpList P ops Q (o :: rest) a w := by
  cases zs with
  | nil =>
    refine wpList_plain hg fun K hK => ?_
    have hie : (P.info? e).isSome = true := by cases hq : P.info? e <;> simp [hq] at hsz ⊢
    have hrun := run_buildEmpty (P := P) w t e hu hie
    have ho' : o.op = .buildSlice t 0 #[] := ho
    unfold Oper.wp execOp
    simp [ho', hrun]
    rw [Oper.upon_value, hd]
    exact hK _ _ h
  | cons z zs =>
    exact wpList_buildFlatAt hg t e _ _ ho .i64 (z :: zs) w.heap.size rfl (some d) hd hu hsz hz rfl (by simp) hl rfl h

/-- A run of such literals, one behind the other. -/
theorem wpList_rows {P : Program} (t : TypeId) (hu : P.underlying t = some (.slice 43)) (hsz : (P.info? 43).map (·.size) = some 1) (hz : ((P.info? 43).bind (·.zero)).isSome = true)
    {ops : Array Oper} {rest : List Oper} {Q : Exit → Act → World → Prop} :
    ∀ (rows : List (List Int)) (os : List Oper) (d : Nat) (a : Act) (w : World),
      os.map (fun o => (o.guard, o.dst, o.op)) = (rows.zipIdx d).map (fun x => (none, some x.2, Op.buildSlice t x.1.length (rowParts x.1))) →
      (rows.all fun zs => decide (zs.length ≤ 2 ^ 24)) = true →
      wpList P ops Q rest ⟨laidTmps rows d w.heap.size a.tmps, a.defers⟩ (laidWorld rows w) → wpList P ops Q (os ++ rest) a w
  | [], os, d, a, w, ho, _, h => by
    have : os = [] := by simpa using ho
    subst this
    exact h
  | zs :: rows, [], d, a, w, ho, _, h => by simp at ho
  | zs :: rows, o :: os, d, a, w, ho, hl, h => by
    simp only [List.map_cons, List.zipIdx_cons, List.cons.injEq, Prod.mk.injEq] at ho
    obtain ⟨⟨hg, hd, hop⟩, ho⟩ := ho
    simp only [List.all_cons, Bool.and_eq_true, decide_eq_true_eq] at hl
    refine wpList_row hg t 43 zs d hd hop hu hsz hz hl.1 ?_
    refine wpList_rows t hu hsz hz rows os (d + 1) _ _ ho hl.2 ?_
    have e : (w.alloc (.cells (zs.map (Value.int .i64)).toArray 43)).heap.size = w.heap.size + 1 := by simp
    rw [e]
    exact h

theorem laidTmps_size : ∀ (rows : List (List Int)) (d N : Nat) (t : Array Value), (laidTmps rows d N t).size = t.size
  | [], _, _, _ => rfl
  | zs :: r, d, N, t => by rw [laidTmps, laidTmps_size r]; simp

theorem laidTmps_low : ∀ (rows : List (List Int)) (d N : Nat) (t : Array Value) (k : Nat), k < d → (laidTmps rows d N t)[k]? = t[k]?
  | [], _, _, _, _, _ => rfl
  | zs :: r, d, N, t, k, hk => by
    rw [laidTmps, laidTmps_low r (d + 1) (N + 1) _ k (by omega)]
    simp [show d ≠ k by omega]

theorem laidTmps_at : ∀ (rows : List (List Int)) (d N : Nat) (t : Array Value) (i : Nat), i < rows.length → d + rows.length ≤ t.size →
    (laidTmps rows d N t)[d + i]? = some (.slice (some ⟨N + i, 0, none⟩) (rows.getD i []).length (rows.getD i []).length)
  | [], _, _, _, i, hi, _ => absurd hi (by simp)
  | zs :: r, d, N, t, 0, _, hs => by
    rw [laidTmps, laidTmps_low r (d + 1) (N + 1) _ (d + 0) (by omega)]
    simp only [List.length_cons] at hs
    simp [show d < t.size by omega]
  | zs :: r, d, N, t, i + 1, hi, hs => by
    simp only [List.length_cons] at hi hs
    rw [laidTmps, show d + (i + 1) = (d + 1) + i by omega, laidTmps_at r (d + 1) (N + 1) _ i (by omega) (by simp; omega), show N + (i + 1) = N + 1 + i by omega]
    rfl

theorem laidWorld_size : ∀ (rows : List (List Int)) (w : World), (laidWorld rows w).heap.size = w.heap.size + rows.length
  | [], _ => rfl
  | zs :: r, w => by rw [laidWorld, laidWorld_size r]; simp; omega

theorem laidWorld_below : ∀ (rows : List (List Int)) (B : Nat) (w : World), B ≤ w.heap.size → Below B w (laidWorld rows w)
  | [], _, _, _ => Below.refl _ _
  | zs :: r, B, w, h => by
    rw [laidWorld]
    exact ((Below.refl B w).alloc h _).trans (laidWorld_below r B _ (by simp; omega))

theorem laidWorld_at : ∀ (rows : List (List Int)) (w : World) (i : Nat), i < rows.length → (laidWorld rows w).heap[w.heap.size + i]? = some (.cells ((rows.getD i []).map (Value.int .i64)).toArray 43)
  | [], _, i, hi => absurd hi (by simp)
  | zs :: r, w, 0, _ => by
    rw [laidWorld, Nat.add_zero, (laidWorld_below r (w.heap.size + 1) _ (by simp)).block _ (by omega)]
    exact heap_alloc_new w _
  | zs :: r, w, i + 1, hi => by
    simp only [List.length_cons] at hi
    have h := laidWorld_at r (w.alloc (.cells (zs.map (Value.int .i64)).toArray 43)) i (by omega)
    have e : (w.alloc (.cells (zs.map (Value.int .i64)).toArray 43)).heap.size = w.heap.size + 1 := by simp
    rw [e] at h
    rw [laidWorld, show w.heap.size + (i + 1) = w.heap.size + 1 + i by omega, h]
    rfl

/-- The region that lays the table. -/
noncomputable def ops25 : Array Oper := match Try.f25.body with
  | some (.seq _ (.seq (.region _ ops _) _)) => ops
  | _ => #[]
noncomputable def code25 : Code := match Try.f25.body with
  | some c => c
  | _ => .skip
theorem body25 : Try.f25.body = some code25 := rfl
noncomputable def ops25a : Array Oper := match Try.f25.body with
  | some (.seq (.region _ ops _) _) => ops
  | _ => #[]
theorem code25_is : code25 = .seq (.region 0 ops25a false) (.seq (.region 1 ops25 false) .ret) := by kernel_rfl

/-- The table's rows from rank 1 on. -/
def ROWS1 : List (List Int) := ORD.drop 1

theorem ops25_rows : (ops25.toList.take 67).map (fun o => (o.guard, o.dst, o.op)) = (ROWS1.zipIdx 1).map (fun x => (none, some x.2, Op.buildSlice 42 x.1.length (rowParts x.1))) := by kernel_rfl

theorem ops25_split : ops25.toList = ops25.toList.take 67 ++ ops25.toList.drop 67 := (List.take_append_drop 67 _).symm

/-- The two last operations: the table itself, and the result. -/
theorem ops25_last : (ops25.toList.drop 67).map (fun o => (o.guard, o.dst, o.op)) = [(none, some 68, Op.buildSlice 40 68 ((List.range 67).map fun i => (i + 1, Operand.tmp (i + 1))).toArray), (none, some 0, Op.assign (.tmp 68))] := by kernel_rfl

theorem ops25a_is : ops25a.toList.map (fun o => (o.guard, o.dst, o.op)) = [(none, some 0, Op.assign (.const (.slice none 0 0)))] := by kernel_rfl

theorem Try.under42 : Try.prog.underlying 42 = some (.slice 43) := by kernel_rfl
theorem Try.under40 : Try.prog.underlying 40 = some (.slice 42) := by kernel_rfl
theorem Try.info43 : (Try.prog.info? 43).map (fun i => (i.zero, i.size, i.bytes)) = some (some (.int .i64 0), 1, 8) := by kernel_rfl
theorem Try.info42 : (Try.prog.info? 42).map (fun i => (i.zero, i.size, i.bytes)) = some (some (.slice none 0 0), 1, 24) := by kernel_rfl

/-- An assignment of what an operand holds. -/
theorem wpList_assign {P : Program} {ops : Array Oper} {rest : List Oper} {o : Oper} {a : Act} {w : World} {Q : Exit → Act → World → Prop} (hg : o.guard = none) (x : Operand) (d : Nat) (hd : o.dst = some d) (ho : o.op = .assign x)
    (h : wpList P ops Q rest (a.put (some d) (a.eval x)) w) : wpList P ops Q (o :: rest) a w := by
  refine wpList_plain hg fun K hK => ?_
  unfold Oper.wp execOp
  simp [ho]
  rw [Oper.upon_value, hd]
  exact hK _ _ h

/-- THE TABLE AS 'lockPartialOrder' HANDS IT BACK: cell i of block b holds a slice over row i (row 0: nil). -/
def Raw (w : World) (b : Nat) : Prop := ∀ i, i < 68 → ∃ ao cp, w.cell? ⟨b, i, none⟩ = some (.slice ao (row i).length cp) ∧ ∀ j, j < (row i).length → ∃ g, ao = some ⟨g, 0, none⟩ ∧ w.cell? ⟨g, j, none⟩ = some (.int .i64 ((row i).getD j 0))

theorem rows1_at (i : Nat) : ROWS1.getD i [] = row (i + 1) := by
  unfold ROWS1 row
  simp [List.getD]

theorem row_zero : row 0 = [] := by decide +kernel
theorem rows1_length : ROWS1.length = 67 := by decide +kernel

theorem raw_of (w : World) (r : Array Value) (h0 : r[0]? = some (.slice none 0 0))
    (h1 : ∀ i, i < 67 → r[i + 1]? = some (.slice (some ⟨w.heap.size + i, 0, none⟩) (ROWS1.getD i []).length (ROWS1.getD i []).length)) :
    Raw ((laidWorld ROWS1 w).alloc (.cells r 42)) (w.heap.size + 67) := by
  have hN : (laidWorld ROWS1 w).heap.size = w.heap.size + 67 := by rw [laidWorld_size, rows1_length]
  have hnew : ((laidWorld ROWS1 w).alloc (.cells r 42)).heap[w.heap.size + 67]? = some (.cells r 42) := by rw [← hN]; exact heap_alloc_new _ _
  intro i hi
  cases i with
  | zero =>
    refine ⟨none, 0, ?_, fun j hj => ?_⟩
    · simp [World.cell?, hnew, h0, row_zero]
    · rw [row_zero] at hj; exact absurd hj (by simp)
  | succ i =>
    have h := h1 i (by omega)
    rw [rows1_at] at h
    refine ⟨some ⟨w.heap.size + i, 0, none⟩, (row (i + 1)).length, ?_, fun j hj => ⟨w.heap.size + i, rfl, ?_⟩⟩
    · simp [World.cell?, hnew, h]
    · have hb := laidWorld_at ROWS1 w i (by rw [rows1_length]; omega)
      rw [rows1_at] at hb
      have hold : ((laidWorld ROWS1 w).alloc (.cells r 42)).heap[w.heap.size + i]? = some (.cells ((row (i + 1)).map (Value.int .i64)).toArray 43) := by
        rw [heap_alloc_old _ _ (by rw [hN]; omega)]; exact hb
      simp [World.cell?, hold, List.getD, hj]

theorem one_of {l : List Oper} {x : Option (Nat × Bool) × Option Tmp × Op} (h : l.map (fun o => (o.guard, o.dst, o.op)) = [x]) : ∃ o, l = [o] ∧ o.guard = x.1 ∧ o.dst = x.2.1 ∧ o.op = x.2.2 := by
  obtain ⟨o, rfl⟩ := List.length_eq_one_iff.1 (by simpa using congrArg List.length h)
  simp only [List.map_cons, List.map_nil, List.cons.injEq, and_true] at h
  subst h
  exact ⟨o, rfl, rfl, rfl, rfl⟩

theorem two_of {l : List Oper} {x y : Option (Nat × Bool) × Option Tmp × Op} (h : l.map (fun o => (o.guard, o.dst, o.op)) = [x, y]) :
    ∃ o p, l = [o, p] ∧ (o.guard = x.1 ∧ o.dst = x.2.1 ∧ o.op = x.2.2) ∧ p.guard = y.1 ∧ p.dst = y.2.1 ∧ p.op = y.2.2 := by
  cases l with
  | nil => cases h
  | cons o l =>
    simp only [List.map_cons, List.cons.injEq] at h
    obtain ⟨hx, h'⟩ := h
    obtain ⟨p, rfl, h3⟩ := one_of (x := y) h'
    subst hx
    exact ⟨o, p, rfl, ⟨rfl, rfl, rfl⟩, h3⟩

/-- The cells of the table's own block. -/
theorem table_cells (f : Nat → Value) (hf : ∀ i, (f i).cells = #[f i]) (z : Value) (hz : z.cells = #[z]) :
    ∃ r, Instr.fill (fun i => some (i * 1, 1)) ((Array.range (68 * 1)).map (z.cells[· % z.cells.size]!)) ((List.range 67).map fun i => (i + 1, f i)) = some r ∧ r[0]? = some z ∧ ∀ i, i < 67 → r[i + 1]? = some (f i) := by
  have hl : (((List.range 67).map f).zipIdx 1).map (fun x => (x.2, x.1)) = (List.range 67).map fun i => (i + 1, f i) := by
    apply List.ext_getElem?
    intro k
    by_cases hk : k < 67
    · simp [hk, Nat.add_comm]
    · simp [hk]
  obtain ⟨r, hr, hsz, hk⟩ := Great.fill_dense (s := 1) (by omega) ((List.range 67).map f) 1 ((Array.range (68 * 1)).map (z.cells[· % z.cells.size]!))
    (fun v hv => by obtain ⟨i, _, rfl⟩ := List.mem_map.1 hv; rw [hf]; rfl) (by simp)
  rw [hl] at hr
  refine ⟨r, hr, ?_, fun i hi => ?_⟩
  · rw [hk 0, if_neg (by omega)]
    simp [hz]
  · rw [hk (i + 1), if_pos (by simp; omega)]
    simp [hi, hf, Nat.mod_one]

theorem eval_tmp {a : Act} {t : Nat} {v : Value} (h : a.tmps[t]? = some v) : a.eval (.tmp t) = v := by
  simp [Act.eval, Array.getD_eq_getD_getElem?, h]

theorem table_tail (w : World) (a : Act) (hd : a.defers = []) (hsz : a.tmps.size = 69)
    (hev : ∀ i, i < 67 → a.eval (.tmp (i + 1)) = .slice (some ⟨w.heap.size + i, 0, none⟩) (ROWS1.getD i []).length (ROWS1.getD i []).length)
    (o1 o2 : Oper) (g1 : o1.guard = none) (d1 : o1.dst = some 68) (p1 : o1.op = Op.buildSlice 40 68 ((List.range 67).map fun i => (i + 1, Operand.tmp (i + 1))).toArray)
    (g2 : o2.guard = none) (d2 : o2.dst = some 0) (p2 : o2.op = Op.assign (.tmp 68)) (ops : Array Oper) (Q : Exit → Act → World → Prop)
    (hQ : ∀ T r, T[0]? = some (Value.slice (some ⟨w.heap.size + 67, 0, none⟩) 68 68) → Raw ((laidWorld ROWS1 w).alloc (.cells r 42)) (w.heap.size + 67) → Q .normal ⟨T, []⟩ ((laidWorld ROWS1 w).alloc (.cells r 42))) :
    wpList Try.prog ops Q [o1, o2] a (laidWorld ROWS1 w) := by
  obtain ⟨i0, hi, hz0, hz1, hz2⟩ := info_parts Try.info42
  have hN : (laidWorld ROWS1 w).heap.size = w.heap.size + 67 := by rw [laidWorld_size, rows1_length]
  obtain ⟨r, hr, h0, h1⟩ := table_cells (fun i => .slice (some ⟨w.heap.size + i, 0, none⟩) (ROWS1.getD i []).length (ROWS1.getD i []).length) (fun _ => rfl) (.slice none 0 0) rfl
  have hparts : (((List.range 67).map fun i => (i + 1, Operand.tmp (i + 1))).toArray.map fun (i, x) => (i, a.eval x)).toList =
      (List.range 67).map fun i => (i + 1, Value.slice (some ⟨w.heap.size + i, 0, none⟩) (ROWS1.getD i []).length (ROWS1.getD i []).length) := by
    rw [List.map_toArray, List.map_map]
    exact List.map_congr_left fun i him => congrArg (Prod.mk (i + 1)) (hev i (List.mem_range.1 him))
  refine wpList_buildSlice g1 40 42 68 _ p1 r i0 (.slice none 0 0) Try.under40 hi hz0 (by rw [hz1]; omega) (by rw [hz1]; omega) ?_ ?_
  · rw [hparts]
    simp only [hz1]
    exact hr
  · rw [hN, d1]
    refine wpList_assign g2 _ 0 d2 p2 (wpList_nil ?_)
    have e68 : (a.put (some 68) (.slice (some ⟨w.heap.size + 67, 0, none⟩) 68 68)).eval (.tmp 68) = .slice (some ⟨w.heap.size + 67, 0, none⟩) 68 68 := eval_tmp (by simp [Act.put, hsz])
    rw [e68]
    have hq := hQ ((a.tmps.setIfInBounds 68 (.slice (some ⟨w.heap.size + 67, 0, none⟩) 68 68)).setIfInBounds 0 (.slice (some ⟨w.heap.size + 67, 0, none⟩) 68 68)) r (by simp [hsz]) (raw_of w r h0 h1)
    simp only [Act.put, hd]
    exact hq

theorem table_any (w : World) :
    Calls Try.prog 25 #[] w fun e w' => e = .returned (.slice (some ⟨w.heap.size + 67, 0, none⟩) 68 68) ∧ Raw w' (w.heap.size + 67) ∧ Below w.heap.size w w' := by
  refine calls_of_wp Try.func25 body25 ?_
  rw [code25_is]
  generalize hT : #[] ++ Array.replicate (Try.f25.ntmps - (#[] : Array Value).size) undef = T
  have hsz : T.size = 69 := by rw [← hT]; simp
  clear hT
  obtain ⟨o0, hoa, ga, da, pa⟩ := one_of ops25a_is
  obtain ⟨o1, o2, hlo, ⟨g1, d1, p1⟩, g2, d2, p2⟩ := two_of ops25_last
  refine wp_seq (wp_region_list ?_)
  rw [hoa]
  refine wpList_assign ga _ 0 da pa (wpList_nil ?_)
  simp only [Exit.then]
  refine wp_seq (wp_region_list ?_)
  rw [ops25_split, hlo]
  refine wpList_rows 42 Try.under42 (by kernel_rfl) (by kernel_rfl) ROWS1 _ 1 _ _ ops25_rows (by decide +kernel) ?_
  refine table_tail w _ rfl (by rw [laidTmps_size]; simp [Act.put, hsz]) (fun i hi => eval_tmp ?_) o1 o2 g1 d1 p1 g2 d2 p2 _ _ (fun T' r hT' hraw => ?_)
  · rw [Nat.add_comm i 1, laidTmps_at _ _ _ _ _ (by rw [rows1_length]; exact hi) (by simp [Act.put, hsz, rows1_length])]
  · simp only [Exit.then]
    refine wp_ret ?_
    refine bodyPost_ret (v := .slice (some ⟨w.heap.size + 67, 0, none⟩) 68 68) ?_ rfl ⟨rfl, hraw, ?_⟩
    · rw [results_tmp (t := 0) rfl]
      simp [Array.getD_eq_getD_getElem?, hT']
    · exact (laidWorld_below ROWS1 _ _ (Nat.le_refl _)).alloc (by rw [laidWorld_size]; omega) _

#print axioms table_any

end Go.Proofs.Ytjabehkfajikjaa
