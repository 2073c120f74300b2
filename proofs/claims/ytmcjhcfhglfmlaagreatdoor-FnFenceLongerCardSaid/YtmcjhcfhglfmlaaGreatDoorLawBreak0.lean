/- The texts of the law FnBreak, in plain Lean: what a thematic break's line holds. -/
import Derived.Test.YtmcjhcfhglfmlaaGreatDoorHR
import Derived.Test.YtmcjhcfhglfmlaaGreatDoorBlank
namespace Go.Proofs.YtmcjhcfhglfmlaaGreatDoor
open Go.RowKit
theorem cat_lists (l m : List UInt8) : (ByteArray.mk l.toArray) ++ (ByteArray.mk m.toArray) = ⟨(l ++ m).toArray⟩ := by
  apply ByteArray.ext
  simp [ByteArray.data_append]
theorem bt_list (l : List UInt8) (k : Nat) : bt ⟨l.toArray⟩ k = match l[k]? with
    | some c => (c.toNat : Int)
    | none => 0 := by
  unfold bt
  by_cases h : k < l.length
  · rw [dif_pos (by simpa [ByteArray.size] using h), List.getElem?_eq_getElem h]
    rfl
  · rw [dif_neg (by simpa [ByteArray.size] using h), List.getElem?_eq_none (by omega)]
/-- A line made of up to j spaces, then i signs c with spaces behind them. -/
def BrkL (c : UInt8) (j i : Nat) (l : List UInt8) : Prop :=
  ∃ r, l = List.replicate j 32 ++ r ∧ (∀ x ∈ r, x = c ∨ x = 32) ∧ r.count c = i ∧ (i ≠ 0 → r.head? = some c) ∧ r.length ≤ 5 * i
/-- The same, where a sign has just been laid. -/
def BrkM (c : UInt8) (j i : Nat) (l : List UInt8) : Prop :=
  ∃ r, l = List.replicate j 32 ++ r ∧ (∀ x ∈ r, x = c ∨ x = 32) ∧ r.count c = i + 1 ∧ r.head? = some c ∧ r.length ≤ 5 * i + 1
theorem while_nil (p : UInt8 → Bool) : ∀ l : List UInt8, l.dropWhile p = [] → ∀ x ∈ l, p x = true := by
  intro l
  induction l with
  | nil => intro _ x hx; cases hx
  | cons a l ih =>
    intro h x hx
    rw [List.dropWhile_cons] at h
    by_cases ha : p a = true
    · rw [if_pos ha] at h
      rcases List.mem_cons.1 hx with e | e
      · rw [e]; exact ha
      · exact ih h x e
    · rw [if_neg ha] at h
      cases h
theorem brk_zero (c : UInt8) (j : Nat) : BrkL c j 0 (List.replicate j 32) := ⟨[], by simp, by simp, by simp, by simp, by simp⟩
theorem brk_sign {c : UInt8} {j i : Nat} {l : List UInt8} (h : BrkL c j i l) : BrkM c j i (l ++ [c]) := by
  obtain ⟨r, rfl, h1, h2, h3, h4⟩ := h
  refine ⟨r ++ [c], by simp, ?_, by simp [h2], ?_, by simp; omega⟩
  · intro x hx
    rcases List.mem_append.1 hx with hx | hx
    · exact h1 x hx
    · simp at hx; exact .inl hx
  · cases r with
    | nil => rfl
    | cons a r =>
      have hi : i ≠ 0 := by
        intro h0
        subst h0
        have := h4
        simp at this
      simpa using h3 hi
theorem brk_done {c : UInt8} {j i : Nat} {l : List UInt8} (h : BrkM c j i l) (hc : c ≠ 32) (n : Nat) (hn : n ≤ 4) : BrkL c j (i + 1) (l ++ List.replicate n 32) := by
  obtain ⟨r, rfl, h1, h2, h3, h4⟩ := h
  refine ⟨r ++ List.replicate n 32, by simp, ?_, ?_, ?_, by simp; omega⟩
  · intro x hx
    rcases List.mem_append.1 hx with hx | hx
    · exact h1 x hx
    · exact .inr (List.eq_of_mem_replicate hx)
  · rw [List.count_append, h2, List.count_replicate]
    simp [Ne.symm hc]
  · intro _
    cases r with
    | nil => simp at h3
    | cons a r => simpa using h3
theorem cnt_list (c : UInt8) (p r : List UInt8) : ∀ m, m ≤ r.length → cntB ⟨(p ++ r).toArray⟩ (c.toNat : Int) p.length (p.length + m) = (r.take m).count c := by
  intro m
  induction m with
  | zero => intro _; rw [Nat.add_zero, cntB_self]; simp
  | succ m ih =>
    intro h
    rw [← Nat.add_assoc]
    show cntB _ _ _ (p.length + m) + _ = _
    rw [ih (by omega), List.take_add_one, List.count_append, List.getElem?_eq_getElem (by omega : m < r.length)]
    congr 1
    have hb : bt ⟨(p ++ r).toArray⟩ (p.length + m) = ((r[m]'(by omega)).toNat : Int) := by
      rw [bt_list, List.getElem?_append_right (by omega), show p.length + m - p.length = m from by omega, List.getElem?_eq_getElem (by omega : m < r.length)]
    rw [hb]
    by_cases he : r[m] = c
    · rw [if_pos ⟨by omega, by rw [he]⟩]
      simp [he]
    · rw [if_neg (fun x => he (UInt8.toNat_inj.1 (by have := x.2; omega)))]
      simp [he]
/-- What the functions ask of such a line. -/
structure HRLine (l : List UInt8) (j : Nat) (c : Int) : Prop where
  j3 : j ≤ 3
  sp : ∀ k, 0 ≤ k → k < j → bt ⟨l.toArray⟩ k = 32
  js : j < (ByteArray.mk l.toArray).size
  at_ : bt ⟨l.toArray⟩ j = c
  cc : c = 42 ∨ c = 45 ∨ c = 95
  all : ∀ k, j ≤ k → k < (ByteArray.mk l.toArray).size → bt ⟨l.toArray⟩ k = c ∨ bt ⟨l.toArray⟩ k = 32
  three : 3 ≤ cntB ⟨l.toArray⟩ c j (ByteArray.mk l.toArray).size
theorem brk_line {c : UInt8} {j i : Nat} {l : List UInt8} (h : BrkL c j i l) (hj : j ≤ 3) (hc : c = 42 ∨ c = 45 ∨ c = 95) (hi : 3 ≤ i) : HRLine l j (c.toNat : Int) := by
  obtain ⟨r, rfl, h1, h2, h3, h4⟩ := h
  have h3' := h3 (by omega)
  have hr : 0 < r.length := by cases r with
    | nil => simp at h3'
    | cons a r => simp
  have hsz : (ByteArray.mk (List.replicate j 32 ++ r).toArray).size = j + r.length := by simp [ByteArray.size]
  have hbr : ∀ k (hk : k < r.length), bt ⟨(List.replicate j 32 ++ r).toArray⟩ (j + k) = (r[k].toNat : Int) := by
    intro k hk
    rw [bt_list, List.getElem?_append_right (by simp), List.length_replicate, show j + k - j = k from by omega, List.getElem?_eq_getElem hk]
  refine ⟨hj, ?_, by omega, ?_, ?_, ?_, ?_⟩
  · intro k _ hk
    rw [bt_list, List.getElem?_append_left (by simpa using hk), List.getElem?_replicate, if_pos hk]
    rfl
  · have := hbr 0 hr
    rw [Nat.add_zero] at this
    rw [this]
    cases r with
    | nil => simp at hr
    | cons a r => simp at h3'; simp [h3']
  · rcases hc with rfl | rfl | rfl
    · exact .inl rfl
    · exact .inr (.inl rfl)
    · exact .inr (.inr rfl)
  · intro k hk hs
    rw [hsz] at hs
    obtain ⟨m, rfl⟩ : ∃ m, k = j + m := ⟨k - j, by omega⟩
    rw [hbr m (by omega)]
    rcases h1 (r[m]'(by omega)) (List.getElem_mem _) with e | e
    · exact .inl (by rw [e])
    · exact .inr (by rw [e]; rfl)
  · have := cnt_list c (List.replicate j 32) r r.length (Nat.le_refl _)
    rw [List.length_replicate, List.take_length, h2] at this
    rw [hsz, this]
    exact hi
namespace HRLine
variable {l : List UInt8} {j : Nat} {c : Int}
theorem mem (h : HRLine l j c) : ∀ x ∈ l, (x.toNat : Int) = c ∨ (x.toNat : Int) = 32 := by
  intro x hx
  obtain ⟨k, hk, rfl⟩ := List.getElem_of_mem hx
  have hb : bt ⟨l.toArray⟩ k = (l[k].toNat : Int) := by rw [bt_list, List.getElem?_eq_getElem hk]
  rw [← hb]
  rcases Nat.lt_or_ge k j with h1 | h1
  · exact .inr (h.sp k (Nat.zero_le _) h1)
  · exact h.all k h1 (by simpa [ByteArray.size] using hk)
theorem not_ (h : HRLine l j c) (x : UInt8) (hx : x ≠ 42 ∧ x ≠ 45 ∧ x ≠ 95 ∧ x ≠ 32) : x ∉ l := by
  intro hm
  obtain ⟨a, b, d, e⟩ := hx
  rcases h.mem x hm with h1 | h1
  · rcases h.cc with h2 | h2 | h2
    · exact a (UInt8.toNat_inj.1 (by simp; omega))
    · exact b (UInt8.toNat_inj.1 (by simp; omega))
    · exact d (UInt8.toNat_inj.1 (by simp; omega))
  · exact e (UInt8.toNat_inj.1 (by simp; omega))
theorem bt_not (h : HRLine l j c) (x : Int) (hx : x ≠ 42 ∧ x ≠ 45 ∧ x ≠ 95 ∧ x ≠ 32 ∧ x ≠ 0) (k : Nat) : bt ⟨l.toArray⟩ k ≠ x := by
  rw [bt_list]
  obtain ⟨a, b, d, e, f⟩ := hx
  cases hk : l[k]? with
  | none => exact fun h => f h.symm
  | some y =>
    have hm : y ∈ l := List.mem_of_getElem? hk
    intro (h0 : (y.toNat : Int) = x)
    rcases h.mem y hm with h1 | h1
    · rcases h.cc with h2 | h2 | h2 <;> omega
    · omega
theorem next (h : HRLine l j c) : nextLine l = (l, 0, []) := by
  unfold nextLine
  rw [idxB_not l 13 (h.not_ 13 (by decide)), idxB_not l 10 (h.not_ 10 (by decide))]
  rfl
theorem ink (h : HRLine l j c) : (trimL l).isEmpty = false := by
  have hj : j < l.length := by have := h.js; simpa [ByteArray.size] using this
  have hb : bt ⟨l.toArray⟩ j = (l[j].toNat : Int) := by rw [bt_list, List.getElem?_eq_getElem hj]
  have h0 := h.at_
  rw [hb] at h0
  cases he : (trimL l).isEmpty with
  | false => rfl
  | true =>
    rw [List.isEmpty_iff, trimL] at he
    have hst := while_nil _ _ he l[j] (List.getElem_mem _)
    rw [isST_not (by rcases h.cc with h | h | h <;> omega) (by rcases h.cc with h | h | h <;> omega)] at hst
    cases hst
end HRLine
end Go.Proofs.YtmcjhcfhglfmlaaGreatDoor
