/-
  The table of lock ranks as plain lists, and the plain laws on it: transitive, no rank below one that it may be held under, no cycle, known ranks alone; what is chained is allowed; what is allowed rises; a part of what is allowed is allowed.
  CONDITIONS: none (no program in sight).
-/
import Derived.KernelRfl
namespace Go.Proofs.Ytjabehkfajikjaa.Plain

/-- The table of the order, a row a rank: the ranks that may be held when that rank is taken. -/
def ORD : List (List Int) := [
  [],
  [],
  [1],
  [1],
  [1],
  [1],
  [],
  [],
  [],
  [],
  [],
  [],
  [],
  [],
  [],
  [],
  [],
  [],
  [],
  [],
  [],
  [],
  [1, 2, 11, 12, 15, 21, 22],
  [1, 2, 3, 4, 5, 7, 8, 9, 10, 11, 12, 15, 18, 20, 21, 22],
  [1, 2, 3, 4, 5, 7, 8, 9, 10, 11, 12, 15, 18, 20, 21, 22],
  [1, 2, 3, 4, 5, 7, 8, 9, 10, 11, 12, 15, 18, 20, 21, 22, 23, 24],
  [1, 2, 3, 4, 5, 7, 8, 9, 10, 11, 12, 15, 18, 20, 21, 22, 23, 24, 25],
  [1, 2, 3, 4, 5, 7, 8, 9, 10, 11, 12, 15, 18, 20, 21, 22, 23, 24, 25],
  [],
  [1, 2, 11, 12, 15, 21, 22, 28],
  [1, 2, 11, 12, 15, 20, 21, 22, 30],
  [1, 2, 11, 12, 15, 20, 21, 22, 30],
  [1, 2, 11, 12, 15, 20, 21, 22, 30, 31],
  [],
  [],
  [34],
  [],
  [1, 2, 7, 9, 11, 12, 15, 20, 21, 22, 28, 30, 31, 33, 34, 35],
  [],
  [1, 2],
  [1, 2, 39],
  [1, 2, 3, 4, 5, 7, 8, 9, 10, 11, 12, 14, 15, 17, 18, 20, 21, 22, 23, 24, 25, 26, 27, 28, 30, 31, 34, 35, 36, 38, 39, 40],
  [1, 2, 3, 4, 5, 7, 8, 9, 10, 11, 12, 14, 15, 17, 18, 20, 21, 22, 23, 24, 25, 26, 27, 28, 30, 31, 34, 35, 36, 38, 39, 40],
  [1, 2, 3, 4, 5, 7, 8, 9, 10, 11, 12, 14, 15, 17, 18, 20, 21, 22, 23, 24, 25, 26, 27, 28, 30, 31, 34, 35, 36, 38, 39, 40],
  [1, 2, 3, 4, 5, 7, 8, 9, 10, 11, 12, 14, 15, 17, 18, 20, 21, 22, 23, 24, 25, 26, 27, 28, 30, 31, 34, 35, 36, 38, 39, 40],
  [1, 2, 3, 4, 5, 7, 8, 9, 10, 11, 12, 14, 15, 17, 18, 20, 21, 22, 23, 24, 25, 26, 27, 28, 30, 31, 34, 35, 36, 38, 39, 40, 43],
  [1, 2, 3, 4, 5, 7, 8, 9, 10, 11, 12, 14, 15, 17, 18, 20, 21, 22, 23, 24, 25, 26, 27, 28, 30, 31, 34, 35, 36, 38, 39, 40],
  [1, 2, 3, 4, 5, 7, 8, 9, 10, 11, 12, 14, 15, 17, 18, 20, 21, 22, 23, 24, 25, 26, 27, 28, 30, 31, 34, 35, 36, 38, 39, 40],
  [1, 2, 3, 4, 5, 7, 8, 9, 10, 11, 12, 14, 15, 17, 18, 20, 21, 22, 23, 24, 25, 26, 27, 28, 30, 31, 34, 35, 36, 38, 39, 40],
  [1, 2, 3, 4, 5, 7, 8, 9, 10, 11, 12, 14, 15, 17, 18, 20, 21, 22, 23, 24, 25, 26, 27, 28, 30, 31, 34, 35, 36, 38, 39, 40, 48],
  [1, 2, 3, 4, 5, 7, 8, 9, 10, 11, 12, 14, 15, 17, 18, 20, 21, 22, 23, 24, 25, 26, 27, 28, 30, 31, 32, 33, 34, 35, 36, 37, 38, 39, 40, 41, 42, 43, 45, 46, 47, 48, 49],
  [1, 2, 3, 4, 5, 7, 8, 9, 10, 11, 12, 14, 15, 17, 18, 20, 21, 22, 23, 24, 25, 26, 27, 28, 30, 31, 32, 33, 34, 35, 36, 37, 38, 39, 40, 41, 42, 43, 45, 46, 47, 48, 49, 50],
  [1, 2, 3, 4, 5, 7, 8, 9, 10, 11, 12, 14, 15, 17, 18, 20, 21, 22, 23, 24, 25, 26, 27, 28, 30, 31, 32, 33, 34, 35, 36, 37, 38, 39, 40, 41, 42, 43, 45, 46, 47, 48, 49, 50],
  [1, 2, 3, 4, 5, 7, 8, 9, 10, 11, 12, 14, 15, 17, 18, 20, 21, 22, 23, 24, 25, 26, 27, 28, 30, 31, 32, 33, 34, 35, 36, 37, 38, 39, 40, 41, 42, 43, 45, 46, 47, 48, 49, 50, 53],
  [1, 2, 3, 4, 5, 6, 7, 8, 9, 10, 11, 12, 14, 15, 17, 18, 19, 20, 21, 22, 23, 24, 25, 26, 27, 28, 29, 30, 31, 32, 33, 34, 35, 36, 37, 38, 39, 40, 41, 42, 43, 45, 46, 47, 48, 49, 50],
  [1, 2, 3, 4, 5, 7, 8, 9, 10, 11, 12, 15, 18, 20, 21, 22, 23, 24, 25],
  [1, 2, 3, 4, 5, 6, 7, 8, 9, 10, 11, 12, 14, 15, 17, 18, 19, 20, 21, 22, 23, 24, 25, 26, 27, 28, 29, 30, 31, 32, 33, 34, 35, 36, 37, 38, 39, 40, 41, 42, 43, 45, 46, 47, 48, 49, 50],
  [1, 2, 3, 4, 5, 6, 7, 8, 9, 10, 11, 12, 14, 15, 17, 18, 19, 20, 21, 22, 23, 24, 25, 26, 27, 28, 29, 30, 31, 32, 33, 34, 35, 36, 37, 38, 39, 40, 41, 42, 43, 45, 46, 47, 48, 49, 50, 51, 52, 54],
  [1, 2, 3, 4, 5, 6, 7, 8, 9, 10, 11, 12, 14, 15, 17, 18, 19, 20, 21, 22, 23, 24, 25, 26, 27, 28, 29, 30, 31, 32, 33, 34, 35, 36, 37, 38, 39, 40, 41, 42, 43, 45, 46, 47, 48, 49, 50, 51, 52, 54, 57],
  [1, 2, 3, 4, 5, 6, 7, 8, 9, 10, 11, 12, 14, 15, 17, 18, 19, 20, 21, 22, 23, 24, 25, 26, 27, 28, 29, 30, 31, 32, 33, 34, 35, 36, 37, 38, 39, 40, 41, 42, 43, 45, 46, 47, 48, 49, 50, 51, 52, 54, 55, 56, 57, 58],
  [1, 2, 3, 4, 5, 6, 7, 8, 9, 10, 11, 12, 14, 15, 17, 18, 19, 20, 21, 22, 23, 24, 25, 26, 27, 28, 29, 30, 31, 32, 33, 34, 35, 36, 37, 38, 39, 40, 41, 42, 43, 45, 46, 47, 48, 49, 50, 51, 52, 54, 57],
  [1, 2, 3, 4, 5, 6, 7, 8, 9, 10, 11, 12, 14, 15, 17, 18, 19, 20, 21, 22, 23, 24, 25, 26, 27, 28, 29, 30, 31, 32, 33, 34, 35, 36, 37, 38, 39, 40, 41, 42, 43, 45, 46, 47, 48, 49, 50, 51, 52, 54, 57, 60],
  [],
  [62, 63],
  [62],
  [1, 2, 3, 4, 5, 7, 8, 9, 10, 11, 12, 15, 16, 18, 20, 21, 22, 23],
  [1, 2, 3, 4, 5, 7, 8, 9, 10, 11, 12, 15, 17, 18, 20, 21, 22, 24],
  [12, 13]]

/-- The names of the ranks from 1 on, as bytes. -/
def NAMES1 : List (List UInt8) := [
  [115, 121, 115, 109, 111, 110],
  [115, 99, 97, 118, 101, 110, 103, 101],
  [102, 111, 114, 99, 101, 103, 99],
  [99, 111, 109, 112, 117, 116, 101, 77, 97, 120, 80, 114, 111, 99, 115],
  [117, 112, 100, 97, 116, 101, 77, 97, 120, 80, 114, 111, 99, 115, 71],
  [100, 101, 102, 101, 114],
  [115, 119, 101, 101, 112, 87, 97, 105, 116, 101, 114, 115],
  [97, 115, 115, 105, 115, 116, 81, 117, 101, 117, 101],
  [115, 116, 114, 111, 110, 103, 70, 114, 111, 109, 87, 101, 97, 107, 81, 117, 101, 117, 101],
  [99, 108, 101, 97, 110, 117, 112, 81, 117, 101, 117, 101],
  [115, 119, 101, 101, 112],
  [116, 101, 115, 116, 82],
  [116, 101, 115, 116, 87],
  [118, 103, 101, 116, 114, 97, 110, 100, 111, 109],
  [116, 105, 109, 101, 114, 83, 101, 110, 100],
  [97, 108, 108, 111, 99, 109, 87],
  [101, 120, 101, 99, 87],
  [99, 112, 117, 112, 114, 111, 102],
  [112, 111, 108, 108, 67, 97, 99, 104, 101],
  [112, 111, 108, 108, 68, 101, 115, 99],
  [119, 97, 107, 101, 97, 98, 108, 101, 83, 108, 101, 101, 112],
  [104, 99, 104, 97, 110],
  [97, 108, 108, 111, 99, 109, 82],
  [101, 120, 101, 99, 82],
  [115, 99, 104, 101, 100],
  [97, 108, 108, 103],
  [97, 108, 108, 112],
  [110, 111, 116, 105, 102, 121, 76, 105, 115, 116],
  [115, 117, 100, 111, 103],
  [116, 105, 109, 101, 114, 115],
  [116, 105, 109, 101, 114],
  [110, 101, 116, 112, 111, 108, 108, 73, 110, 105, 116],
  [114, 111, 111, 116],
  [105, 116, 97, 98],
  [114, 101, 102, 108, 101, 99, 116, 79, 102, 102, 115],
  [116, 121, 112, 101, 108, 105, 110, 107, 115],
  [115, 121, 110, 99, 116, 101, 115, 116],
  [117, 115, 101, 114, 65, 114, 101, 110, 97, 83, 116, 97, 116, 101],
  [116, 114, 97, 99, 101, 66, 117, 102],
  [116, 114, 97, 99, 101, 83, 116, 114, 105, 110, 103, 115],
  [102, 105, 110],
  [115, 112, 97, 110, 83, 101, 116, 83, 112, 105, 110, 101],
  [109, 115, 112, 97, 110, 83, 112, 101, 99, 105, 97, 108],
  [116, 114, 97, 99, 101, 84, 121, 112, 101, 84, 97, 98],
  [103, 99, 66, 105, 116, 115, 65, 114, 101, 110, 97, 115],
  [112, 114, 111, 102, 73, 110, 115, 101, 114, 116],
  [112, 114, 111, 102, 66, 108, 111, 99, 107],
  [112, 114, 111, 102, 77, 101, 109, 65, 99, 116, 105, 118, 101],
  [112, 114, 111, 102, 77, 101, 109, 70, 117, 116, 117, 114, 101],
  [103, 115, 99, 97, 110],
  [115, 116, 97, 99, 107, 112, 111, 111, 108],
  [115, 116, 97, 99, 107, 76, 97, 114, 103, 101],
  [104, 99, 104, 97, 110, 76, 101, 97, 102],
  [119, 98, 117, 102, 83, 112, 97, 110, 115],
  [120, 82, 101, 103, 65, 108, 108, 111, 99],
  [115, 112, 97, 110, 83, 80, 77, 67, 115],
  [109, 104, 101, 97, 112],
  [109, 104, 101, 97, 112, 83, 112, 101, 99, 105, 97, 108],
  [103, 108, 111, 98, 97, 108, 65, 108, 108, 111, 99],
  [116, 114, 97, 99, 101],
  [116, 114, 97, 99, 101, 83, 116, 97, 99, 107, 84, 97, 98],
  [112, 97, 110, 105, 99],
  [100, 101, 97, 100, 108, 111, 99, 107],
  [114, 97, 99, 101, 70, 105, 110, 105],
  [97, 108, 108, 111, 99, 109, 82, 73, 110, 116, 101, 114, 110, 97, 108],
  [101, 120, 101, 99, 82, 73, 110, 116, 101, 114, 110, 97, 108],
  [116, 101, 115, 116, 82, 73, 110, 116, 101, 114, 110, 97, 108]]

/-- The row of a rank. -/
def row (i : Nat) : List Int := ORD.getD i []

/-- Does a list hold a number? -/
def hasB (zs : List Int) (x : Int) : Bool := zs.contains x

/-- May 'held' be held when 'taken' is taken? -/
def mayB (held taken : Int) : Bool := hasB (row taken.toNat) held

theorem ord_length : ORD.length = 68 := by decide +kernel

/-- Each rank in row c lies from 0 to c. -/
theorem known_all : (List.range 68).all (fun c => (row c).all fun a => decide (0 ≤ a) && decide (a ≤ (c : Int))) = true := by decide +kernel

theorem trans_all : (List.range 68).all (fun c => (row c).all fun b => (row b.toNat).all fun a => (row c).contains a) = true := by decide +kernel

theorem mem_of_may {a b : Int} (h : mayB a b = true) : a ∈ row b.toNat := by simpa [mayB, hasB] using h
theorem may_of_mem {a b : Int} (h : a ∈ row b.toNat) : mayB a b = true := by simpa [mayB, hasB] using h

theorem known {c : Nat} (hc : c < 68) {a : Int} (h : a ∈ row c) : 0 ≤ a ∧ a ≤ c := by
  have := known_all
  simp only [List.all_eq_true, List.mem_range, Bool.and_eq_true, decide_eq_true_eq] at this
  exact this c hc a h

theorem row_length {c : Nat} (hc : c < 68) : (row c).length ≤ 68 := by
  have : (List.range 68).all (fun c => decide ((row c).length ≤ 68)) = true := by decide +kernel
  simp only [List.all_eq_true, List.mem_range, decide_eq_true_eq] at this
  exact this c hc

/-- THE ORDER GOES UP. -/
theorem may_le {a b : Int} (hb0 : 0 ≤ b) (hb : b < 68) (h : mayB a b = true) : 0 ≤ a ∧ a ≤ b := by
  have := known (c := b.toNat) (by omega) (mem_of_may h)
  omega

/-- THE ORDER IS TRANSITIVE. -/
theorem may_trans {a b c : Int} (hc0 : 0 ≤ c) (hc : c < 68) (h1 : mayB a b = true) (h2 : mayB b c = true) : mayB a c = true := by
  have := trans_all
  simp only [List.all_eq_true, List.mem_range] at this
  have h := this c.toNat (by omega) b (mem_of_may h2) a (mem_of_may h1)
  simpa [mayB, hasB] using h

theorem no_cycle {a b : Int} (ha0 : 0 ≤ a) (ha : a < 68) (hb0 : 0 ≤ b) (hb : b < 68) (h1 : mayB a b = true) (h2 : mayB b a = true) : a = b := by
  have := may_le hb0 hb h1
  have := may_le ha0 ha h2
  omega

/-- All are ranks. -/
def Ranks (l : List Int) : Prop := ∀ a ∈ l, 0 ≤ a ∧ a < 68

/-- Each may be held when a later one is taken. -/
def allowedB (l : List Int) : Bool := decide (l.Pairwise fun a b => mayB a b = true)

/-- Each may be held when the next one is taken. -/
def chainedB (l : List Int) : Bool := (List.range (l.length - 1)).all fun i => mayB (l.getD i 0) (l.getD (i + 1) 0)

theorem allowed_iff (l : List Int) : allowedB l = true ↔ ∀ i j, j < i → i < l.length → mayB (l.getD j 0) (l.getD i 0) = true := by
  unfold allowedB
  rw [decide_eq_true_iff, List.pairwise_iff_getElem]
  constructor
  · intro h i j hji hi
    have := h j i (by omega) hi hji
    simpa [List.getD, List.getElem?_eq_getElem hi, List.getElem?_eq_getElem (show j < l.length by omega)] using this
  · intro h j i hj hi hji
    have := h i j hji hi
    simpa [List.getD, List.getElem?_eq_getElem hi, List.getElem?_eq_getElem hj] using this

theorem chained_iff (l : List Int) : chainedB l = true ↔ ∀ i, i + 1 < l.length → mayB (l.getD i 0) (l.getD (i + 1) 0) = true := by
  unfold chainedB
  simp only [List.all_eq_true, List.mem_range]
  constructor
  · intro h i hi; exact h i (by omega)
  · intro h i hi; exact h i (by omega)

theorem ranks_getD {l : List Int} (hl : Ranks l) {i : Nat} (hi : i < l.length) : 0 ≤ l.getD i 0 ∧ l.getD i 0 < 68 := by
  have : l.getD i 0 ∈ l := by
    simp only [List.getD, List.getElem?_eq_getElem hi, Option.getD_some]
    exact List.getElem_mem hi
  exact hl _ this

/-- WHAT IS CHAINED IS ALLOWED. -/
theorem allowed_of_chained {l : List Int} (hl : Ranks l) (h : chainedB l = true) : allowedB l = true := by
  rw [chained_iff] at h
  rw [allowed_iff]
  intro i j hji hi
  obtain ⟨d, rfl⟩ : ∃ d, i = j + 1 + d := ⟨i - (j + 1), by omega⟩
  induction d with
  | zero => exact h j hi
  | succ d ih =>
    have r := ranks_getD hl hi
    exact may_trans r.1 r.2 (ih (by omega) (by omega)) (h (j + 1 + d) hi)

/-- WHAT IS ALLOWED RISES. -/
theorem rises {l : List Int} (hl : Ranks l) (h : allowedB l = true) {i : Nat} (hi : i + 1 < l.length) : l.getD i 0 ≤ l.getD (i + 1) 0 := by
  rw [allowed_iff] at h
  have r := ranks_getD hl hi
  exact (may_le r.1 r.2 (h (i + 1) i (by omega) hi)).2

/-- A PART OF WHAT IS ALLOWED IS ALLOWED. -/
theorem allowed_sublist {l m : List Int} (hs : m.Sublist l) (h : allowedB l = true) : allowedB m = true := by
  unfold allowedB at *
  rw [decide_eq_true_iff] at *
  exact h.sublist hs

end Go.Proofs.Ytjabehkfajikjaa.Plain
