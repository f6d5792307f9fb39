/- The statement's text as a template, in plain words: no Go in sight. -/
import Derived.KernelRfl
namespace Go.Proofs.Qxb6602665a

def sA : List UInt8 := [10, 87, 73, 84, 72, 32, 111, 119, 110, 32, 65, 83, 32, 40, 10, 32, 32, 32, 32, 83, 69, 76, 69, 67, 84, 32, 105, 100, 32, 65, 83, 32, 116, 97, 115, 107, 95, 105, 100, 32, 70, 82, 79, 77, 32]
def sB : List UInt8 := [10, 32, 32, 32, 32, 87, 72, 69, 82, 69, 32, 105, 100, 32, 61, 32, 65, 78, 89, 32, 40, 36, 49, 41, 10, 32, 32, 32, 32, 32, 32, 65, 78, 68, 32, 105, 100, 32, 66, 69, 84, 87, 69, 69, 78, 32, 36, 50, 32, 65, 78, 68, 32, 36, 51, 32, 65, 78, 68, 32, 115, 116, 97, 116, 117, 115, 32, 61, 32, 39]
def sC0 : List UInt8 := [39, 10, 32, 32, 32, 32, 79, 82, 68, 69, 82, 32, 66, 89, 32, 105, 100, 32, 70, 79, 82, 32, 85, 80, 68, 65, 84, 69, 32, 83, 75, 73, 80, 32, 76, 79, 67, 75, 69, 68, 10, 41, 44, 32, 99, 97, 110, 99, 101, 108, 108, 101, 100, 32, 65, 83, 32, 40, 10, 32, 32, 32, 32, 85, 80, 68, 65, 84, 69, 32]
def sC1 : List UInt8 := [39, 10, 32, 32, 32, 32, 79, 82, 68, 69, 82, 32, 66, 89, 32, 105, 100, 32, 70, 79, 82, 32, 85, 80, 68, 65, 84, 69, 10, 41, 44, 32, 99, 97, 110, 99, 101, 108, 108, 101, 100, 32, 65, 83, 32, 40, 10, 32, 32, 32, 32, 85, 80, 68, 65, 84, 69, 32]
def sD : List UInt8 := [32, 116, 10, 32, 32, 32, 32, 83, 69, 84, 32, 115, 116, 97, 116, 117, 115, 32, 61, 32, 39, 99, 97, 110, 99, 101, 108, 108, 101, 100, 39, 44, 32, 102, 105, 110, 105, 115, 104, 101, 100, 95, 97, 116, 32, 61, 32, 110, 111, 119, 40, 41, 44, 32, 100, 117, 101, 95, 97, 116, 32, 61, 32, 78, 85, 76, 76, 44, 32, 108, 101, 97, 115, 101, 95, 117, 110, 116, 105, 108, 32, 61, 32, 78, 85, 76, 76, 10, 32, 32, 32, 32, 87, 72, 69, 82, 69, 32, 116, 46, 105, 100, 32, 61, 32, 65, 78, 89, 32, 40, 65, 82, 82, 65, 89, 40, 83, 69, 76, 69, 67, 84, 32, 116, 97, 115, 107, 95, 105, 100, 32, 70, 82, 79, 77, 32, 111, 119, 110, 41, 41, 10, 32, 32, 32, 32, 32, 32, 65, 78, 68, 32, 116, 46, 105, 100, 32, 66, 69, 84, 87, 69, 69, 78, 32, 36, 50, 32, 65, 78, 68, 32, 36, 51, 10, 32, 32, 32, 32, 82, 69, 84, 85, 82, 78, 73, 78, 71, 32, 116, 46, 105, 100, 44, 32, 116, 46, 103, 114, 111, 117, 112, 95, 107, 101, 121, 44, 32, 116, 46, 113, 117, 101, 117, 101, 44, 32, 116, 46, 115, 116, 97, 116, 117, 115, 10, 41, 44, 32, 102, 111, 114, 103, 111, 116, 116, 101, 110, 32, 65, 83, 32, 40, 10, 32, 32, 32, 32, 68, 69, 76, 69, 84, 69, 32, 70, 82, 79, 77, 32, 101, 118, 101, 110, 107, 101, 101, 108, 46, 108, 101, 97, 115, 101, 95, 115, 101, 99, 111, 110, 100, 115, 32, 115, 32, 85, 83, 73, 78, 71, 32, 99, 97, 110, 99, 101, 108, 108, 101, 100, 32, 99, 32, 87, 72, 69, 82, 69, 32, 115, 46, 116, 97, 115, 107, 95, 105, 100, 32, 61, 32, 99, 46, 105, 100, 10, 41, 10, 83, 69, 76, 69, 67, 84, 32, 105, 100, 44, 32, 103, 114, 111, 117, 112, 95, 107, 101, 121, 44, 32, 113, 117, 101, 117, 101, 44, 32, 115, 116, 97, 116, 117, 115, 44, 32, 48, 32, 70, 82, 79, 77, 32, 99, 97, 110, 99, 101, 108, 108, 101, 100, 32, 79, 82, 68, 69, 82, 32, 66, 89, 32, 105, 100]
def sE0 : List UInt8 := [10, 87, 73, 84, 72, 32, 111, 119, 110, 32, 65, 83, 32, 40, 10, 32, 32, 32, 32, 68, 69, 76, 69, 84, 69, 32, 70, 82, 79, 77, 32, 101, 118, 101, 110, 107, 101, 101, 108, 46, 115, 99, 104, 101, 100, 117, 108, 101, 100, 32, 87, 72, 69, 82, 69, 32, 116, 97, 115, 107, 95, 105, 100, 32, 61, 32, 65, 78, 89, 32, 40, 65, 82, 82, 65, 89, 40, 10, 32, 32, 32, 32, 32, 32, 32, 32, 83, 69, 76, 69, 67, 84, 32, 116, 97, 115, 107, 95, 105, 100, 32, 70, 82, 79, 77, 32, 101, 118, 101, 110, 107, 101, 101, 108, 46, 115, 99, 104, 101, 100, 117, 108, 101, 100, 32, 87, 72, 69, 82, 69, 32, 116, 97, 115, 107, 95, 105, 100, 32, 61, 32, 65, 78, 89, 32, 40, 36, 49, 41, 32, 79, 82, 68, 69, 82, 32, 66, 89, 32, 116, 97, 115, 107, 95, 105, 100, 32, 70, 79, 82, 32, 85, 80, 68, 65, 84, 69, 32, 83, 75, 73, 80, 32, 76, 79, 67, 75, 69, 68, 41, 41, 10, 32, 32, 32, 32, 82, 69, 84, 85, 82, 78, 73, 78, 71, 32, 116, 97, 115, 107, 95, 105, 100, 10, 41, 44, 32, 99, 97, 110, 99, 101, 108, 108, 101, 100, 32, 65, 83, 32, 40, 10, 32, 32, 32, 32, 85, 80, 68, 65, 84, 69, 32]
def sE1 : List UInt8 := [10, 87, 73, 84, 72, 32, 111, 119, 110, 32, 65, 83, 32, 40, 10, 32, 32, 32, 32, 68, 69, 76, 69, 84, 69, 32, 70, 82, 79, 77, 32, 101, 118, 101, 110, 107, 101, 101, 108, 46, 115, 99, 104, 101, 100, 117, 108, 101, 100, 32, 87, 72, 69, 82, 69, 32, 116, 97, 115, 107, 95, 105, 100, 32, 61, 32, 65, 78, 89, 32, 40, 65, 82, 82, 65, 89, 40, 10, 32, 32, 32, 32, 32, 32, 32, 32, 83, 69, 76, 69, 67, 84, 32, 116, 97, 115, 107, 95, 105, 100, 32, 70, 82, 79, 77, 32, 101, 118, 101, 110, 107, 101, 101, 108, 46, 115, 99, 104, 101, 100, 117, 108, 101, 100, 32, 87, 72, 69, 82, 69, 32, 116, 97, 115, 107, 95, 105, 100, 32, 61, 32, 65, 78, 89, 32, 40, 36, 49, 41, 32, 79, 82, 68, 69, 82, 32, 66, 89, 32, 116, 97, 115, 107, 95, 105, 100, 32, 70, 79, 82, 32, 85, 80, 68, 65, 84, 69, 41, 41, 10, 32, 32, 32, 32, 82, 69, 84, 85, 82, 78, 73, 78, 71, 32, 116, 97, 115, 107, 95, 105, 100, 10, 41, 44, 32, 99, 97, 110, 99, 101, 108, 108, 101, 100, 32, 65, 83, 32, 40, 10, 32, 32, 32, 32, 85, 80, 68, 65, 84, 69, 32]
def sC (wait : Bool) : List UInt8 := if wait then sC1 else sC0
def sE (wait : Bool) : List UInt8 := if wait then sE1 else sE0

/-- The template: 1 stands for the table, 2 for the status. -/
def tpl (sched wait : Bool) : List UInt8 := if sched then sE wait ++ 1 :: sD else sA ++ 1 :: (sB ++ 2 :: (sC wait ++ 1 :: sD))
/-- The holes filled. -/
def fill (T S : List UInt8) : List UInt8 → List UInt8
  | [] => []
  | c :: l => if c = 1 then T ++ fill T S l else if c = 2 then S ++ fill T S l else c :: fill T S l
theorem fill_append (T S a b : List UInt8) : fill T S (a ++ b) = fill T S a ++ fill T S b := by
  induction a with
  | nil => rfl
  | cons c l ih => simp only [List.cons_append, fill, ih]; split <;> (try split) <;> simp
theorem fill_plain (T S l : List UInt8) (h : l.all (fun c => c != 1 && c != 2) = true) : fill T S l = l := by
  induction l with
  | nil => rfl
  | cons c l ih =>
    simp only [List.all_cons, Bool.and_eq_true, bne_iff_ne] at h
    simp only [fill]
    rw [if_neg h.1.1, if_neg h.1.2, ih h.2]
theorem fill_one (T S l : List UInt8) : fill T S (1 :: l) = T ++ fill T S l := rfl
theorem fill_two (T S l : List UInt8) : fill T S (2 :: l) = S ++ fill T S l := rfl
theorem fill_tpl (T S : List UInt8) (wait : Bool) : fill T S (tpl false wait) = sA ++ (T ++ (sB ++ (S ++ (sC wait ++ (T ++ sD))))) := by
  have hC : (sC wait).all (fun c => c != 1 && c != 2) = true := by cases wait <;> kernel_rfl
  show fill T S (sA ++ 1 :: (sB ++ 2 :: (sC wait ++ 1 :: sD))) = _
  rw [fill_append, fill_one, fill_append, fill_two, fill_append, fill_one, fill_plain T S sA (by kernel_rfl), fill_plain T S sB (by kernel_rfl), fill_plain T S _ hC, fill_plain T S sD (by kernel_rfl)]
theorem fill_tplS (T S : List UInt8) (wait : Bool) : fill T S (tpl true wait) = sE wait ++ (T ++ sD) := by
  have hC : (sE wait).all (fun c => c != 1 && c != 2) = true := by cases wait <;> kernel_rfl
  show fill T S (sE wait ++ 1 :: sD) = _
  rw [fill_append, fill_one, fill_plain T S _ hC, fill_plain T S sD (by kernel_rfl)]
theorem fill_self (l : List UInt8) : fill [1] [2] l = l := by
  induction l with
  | nil => rfl
  | cons c l ih =>
    simp only [fill, ih]
    split
    · rename_i h; rw [h]; rfl
    · split
      · rename_i h; rw [h]; rfl
      · rfl
theorem fill_selfS (S : List UInt8) (wait : Bool) : fill [1] S (tpl true wait) = tpl true wait := by
  rw [fill_tplS]; rfl
def cnt (a : UInt8) (l : List UInt8) : Nat := (l.filter (fun c => c == a)).length
theorem cnt_snoc (a c : UInt8) (l : List UInt8) : cnt a (l ++ [c]) = cnt a l + if c = a then 1 else 0 := by
  unfold cnt
  rw [List.filter_append]
  by_cases h : c = a <;> simp [h]
theorem cnt_le (a : UInt8) (l : List UInt8) : cnt a l ≤ l.length := List.length_filter_le _ _
theorem cnt_tpl (wait : Bool) : cnt 1 (tpl false wait) = 2 ∧ cnt 2 (tpl false wait) = 1 := by cases wait <;> exact ⟨by kernel_rfl, by kernel_rfl⟩
theorem cnt_tplS (wait : Bool) : cnt 1 (tpl true wait) = 1 ∧ cnt 2 (tpl true wait) = 0 := by cases wait <;> exact ⟨by kernel_rfl, by kernel_rfl⟩
theorem tpl_len (sched wait : Bool) : (tpl sched wait).length ≤ 700 := by
  refine Nat.le_of_ble_eq_true ?_
  cases sched <;> cases wait <;> kernel_rfl
theorem fill_len (T S l : List UInt8) (hT : T.length ≤ 65536) (hS : S.length ≤ 65536) : (fill T S l).length ≤ l.length * 65536 := by
  induction l with
  | nil => simp [fill]
  | cons c l ih =>
    simp only [fill, List.length_cons]
    split
    · simp; omega
    · split <;> simp <;> omega
end Go.Proofs.Qxb6602665a
