/- Lines put together with line feeds, and taken apart again, in plain Lean. -/
import Derived.Test.YtmcjhcfhglfmlaaGreatDoorBlank
namespace Go.Proofs.YtmcjhcfhglfmlaaGreatDoor
open Go.RowKit
/-- Lines, a line feed between. -/
def joinL : List (List UInt8) → List UInt8
  | [] => []
  | [a] => a
  | a :: b :: t => a ++ 10 :: joinL (b :: t)
theorem joinL_cons (a : List UInt8) (t : List (List UInt8)) (h : t ≠ []) : joinL (a :: t) = a ++ 10 :: joinL t := by
  cases t with
  | nil => exact absurd rfl h
  | cons b t => rfl
theorem idx_append (a rest : List UInt8) (c : UInt8) (h : c ∉ a) : idxB c (a ++ c :: rest) = a.length := by
  refine idxB_at _ _ _ (fun j hj he => ?_) ?_
  · rw [List.getElem?_append_left hj] at he
    exact h (List.mem_of_getElem? he)
  · rw [List.getElem?_append_right (Nat.le_refl _), Nat.sub_self]; rfl
theorem nextLine_cut (a rest : List UInt8) (h10 : 10 ∉ a) (h13 : 13 ∉ a) (hr : 13 ∉ rest) : nextLine (a ++ 10 :: rest) = (a, 10, rest) := by
  have h1 : idxB 10 (a ++ 10 :: rest) = a.length := idx_append a rest 10 h10
  have h2 : idxB 13 (a ++ 10 :: rest) = -1 := idxB_not _ _ (by
    intro hm
    rcases List.mem_append.1 hm with h | h
    · exact h13 h
    · rcases List.mem_cons.1 h with h | h
      · cases h
      · exact hr h)
  unfold nextLine
  rw [h1, h2, if_neg (by omega), if_pos (by omega)]
  have e1 : ((a.length : Int)).toNat = a.length := by omega
  rw [e1]
  refine Prod.ext ?_ (Prod.ext rfl ?_)
  · exact List.take_left' rfl
  · show List.drop (a.length + 1) (a ++ 10 :: rest) = rest
    rw [show a ++ 10 :: rest = (a ++ [10]) ++ rest by simp]
    exact List.drop_left' (by simp)
theorem nextLine_last (a : List UInt8) (h10 : 10 ∉ a) (h13 : 13 ∉ a) : nextLine a = (a, 0, []) := by
  unfold nextLine
  rw [idxB_not a 13 h13, idxB_not a 10 h10]
  rfl
theorem joinL_not (t : List (List UInt8)) (c : UInt8) (hc : c ≠ 10) (h : ∀ a ∈ t, c ∉ a) : c ∉ joinL t := by
  induction t with
  | nil => simp [joinL]
  | cons a t ih =>
    by_cases ht : t = []
    · subst ht
      exact h a (List.mem_cons_self ..)
    · rw [joinL_cons a t ht]
      intro hm
      rcases List.mem_append.1 hm with h1 | h1
      · exact h a (List.mem_cons_self ..) h1
      · rcases List.mem_cons.1 h1 with h1 | h1
        · exact hc h1
        · exact ih (fun b hb => h b (List.mem_cons_of_mem _ hb)) h1
end Go.Proofs.YtmcjhcfhglfmlaaGreatDoor
