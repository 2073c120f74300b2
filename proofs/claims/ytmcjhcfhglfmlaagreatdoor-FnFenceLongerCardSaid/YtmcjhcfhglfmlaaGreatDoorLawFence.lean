/- The walk of the law FnFenceLonger: for every text it returns true. -/
import Derived.Test.YtmcjhcfhglfmlaaGreatDoorLawCom
import Derived.Test.YtmcjhcfhglfmlaaGreatDoorFen
namespace Go.Proofs.YtmcjhcfhglfmlaaGreatDoor
open Go.RowKit
/-- The lines of a text. -/
def linesL : List UInt8 → List (List UInt8)
  | [] => [[]]
  | c :: t => if c = 10 then [] :: linesL t else match linesL t with
    | a :: r => (c :: a) :: r
    | [] => [[c]]
theorem linesL_pos (l : List UInt8) : 0 < (linesL l).length := by
  cases l with
  | nil => simp [linesL]
  | cons c t =>
    unfold linesL
    split
    · simp
    · split <;> simp
theorem unL_lines (l : List UInt8) : unL (linesL l) = l ++ [10] := by
  induction l with
  | nil => rfl
  | cons c t ih =>
    unfold linesL
    by_cases hc : c = 10
    · rw [if_pos hc, unL_cons, ih, hc]
      rfl
    · rw [if_neg hc]
      have hp := linesL_pos t
      cases hx : linesL t with
      | nil => rw [hx] at hp; cases hp
      | cons a r =>
        rw [hx, unL_cons] at ih
        rw [unL_cons, List.cons_append, ih]
        rfl
theorem linesL_tot (l : List UInt8) : (linesL l).flatten.length ≤ l.length ∧ (linesL l).length ≤ l.length + 1 := by
  have h := unL_len (linesL l)
  rw [unL_lines, List.length_append, List.length_cons, List.length_nil] at h
  have := linesL_pos l
  omega
theorem linesL_chr (l : List UInt8) (p : UInt8 → Prop) (h : ∀ c ∈ l, c = 10 ∨ p c) : ∀ a ∈ linesL l, ∀ c ∈ a, p c := by
  induction l with
  | nil =>
    intro a ha c hc
    simp [linesL] at ha
    subst ha
    cases hc
  | cons x t ih =>
    have ih2 := ih (fun c hc => h c (List.mem_cons_of_mem _ hc))
    have hx := h x (List.mem_cons_self ..)
    unfold linesL
    by_cases hx10 : x = 10
    · rw [if_pos hx10]
      intro a ha c hc
      rcases List.mem_cons.1 ha with rfl | ha
      · cases hc
      · exact ih2 a ha c hc
    · rw [if_neg hx10]
      cases hl : linesL t with
      | nil => have := linesL_pos t; rw [hl] at this; cases this
      | cons b r =>
        rw [hl] at ih2
        intro a ha c hc
        rcases List.mem_cons.1 ha with rfl | ha
        · rcases List.mem_cons.1 hc with rfl | hc
          · rcases hx with hx | hx
            · exact absurd hx hx10
            · exact hx
          · exact ih2 b (List.mem_cons_self ..) c hc
        · exact ih2 a (List.mem_cons_of_mem _ ha) c hc
theorem fen_text (l : List UInt8) (i j : Nat) : unL (List.replicate i 126 :: (linesL l ++ [List.replicate j 126])) = List.replicate i 126 ++ [10] ++ l ++ [10] ++ List.replicate j 126 ++ [10] := by
  have e : ∀ a b : List (List UInt8), unL (a ++ b) = unL a ++ unL b := fun a b => by simp [unL]
  rw [unL_cons, e, unL_lines]
  simp [unL]
theorem fen_text1 (l : List UInt8) (n q : Nat) : ((((repF n 126 ++ ByteArray.mk #[10]) ++ ByteArray.mk l.toArray) ++ ByteArray.mk #[10]) ++ repF n 126) ++ repF q 126 ++ ByteArray.mk #[10] = ⟨(unL (List.replicate n 126 :: (linesL l ++ [List.replicate (n + q) 126]))).toArray⟩ := by
  rw [fen_text]
  unfold repF
  rw [show (ByteArray.mk #[10]) = ⟨[10].toArray⟩ from rfl]
  simp only [cat_lists]
  rw [← List.replicate_append_replicate]
  simp
theorem fen_text2 (l : List UInt8) : ((ByteArray.mk #[126, 126, 126, 10]) ++ ByteArray.mk l.toArray) ++ ByteArray.mk #[10, 126, 126, 126, 10] = ⟨(unL (List.replicate 3 126 :: (linesL l ++ [List.replicate 3 126]))).toArray⟩ := by
  rw [fen_text, show (ByteArray.mk #[126, 126, 126, 10]) = ⟨[126, 126, 126, 10].toArray⟩ from rfl, show (ByteArray.mk #[10, 126, 126, 126, 10]) = ⟨[10, 126, 126, 126, 10].toArray⟩ from rfl]
  simp only [cat_lists]
  simp
theorem fenT_of (l : List UInt8) (n q : Nat) (h3 : 3 ≤ n) (hn : n + q ≤ 100) (hl : l.length ≤ 500) (hc : ∀ c ∈ l, c = 10 ∨ (32 ≤ c.toNat ∧ c.toNat ≤ 125)) : FenT (List.replicate n 126) (List.replicate (n + q) 126) (linesL l) where
  a0 := fun c hc => List.eq_of_mem_replicate hc
  a1 := fun c hc => List.eq_of_mem_replicate hc
  n0 := by simpa using h3
  n1 := by simp
  big := by simpa using hn
  few := by have := linesL_tot l; omega
  tot := by have := linesL_tot l; omega
  pos := linesL_pos l
  chr := linesL_chr l _ hc
theorem HTML_fence2 (s : ByteArray) (l : List UInt8) (n q : Nat) (w : World) (hs : s = ⟨(unL (List.replicate n 126 :: (linesL l ++ [List.replicate (n + q) 126]))).toArray⟩) (h3 : 3 ≤ n) (hn : n + q ≤ 100) (hl : l.length ≤ 500) (hc : ∀ c ∈ l, c = 10 ∨ (32 ≤ c.toNat ∧ c.toNat ≤ 125)) (hent : HasEnt w) :
    Calls Tryz.prog 12 #[.agg #[.bool false, .bool false, .bool false, .bool false, .bool false, .bool false, .bool false, .bool false, .bool false, .bool false], .string s] w fun e w' => e = .returned (.string ⟨(codeOut (linesL l)).toArray⟩) ∧ Below w.heap.size w w' := by
  subst hs
  exact HTML_fence _ _ _ w (fenT_of l n q h3 hn hl hc) hent
theorem timesF_int (c : UInt8) (z : Int) (w : World) (h0 : 0 ≤ z) (h1 : z ≤ 1000) : Calls Tryz.prog 11 #[.string ⟨#[c]⟩, .int .i64 z] w fun e w' => e = .returned (.string (repF z.toNat c)) ∧ w = w' := by
  obtain ⟨n, rfl⟩ := Int.eq_ofNat_of_zero_le h0
  exact timesF_any c n w (by omega)
theorem codeOut_ne (L : List (List UInt8)) : (codeOut L).isEmpty = false := rfl
set_option maxRecDepth 20000 in
set_option maxHeartbeats 1600000 in
theorem law_fence (l : List UInt8) (more still : Nat) (w : World) (hm : more < 256) (hst : still < 256) (hl : l.length ≤ 9223372036854775807) (hent : HasEnt w) :
    Calls Tryz.prog 3 #[.string ⟨l.toArray⟩, .int .u8 more, .int .u8 still] w fun e w' => e = .returned (.bool true) ∧ Below w.heap.size w w' := by
  have HE := hid hent
  clear hent
  by_cases hbig : l.length ≤ 2147483647
  · go_enter Tryz.func3, Tryz.ntmps3
    go_wp2_with fail
    refine (withoutByte_any 126 w (by omega)).mono ?_
    rintro e w1 ⟨⟨al, rfl, hal, hall⟩, hb1⟩
    have HAL := hid hal
    have HB1 := hid hb1
    clear hal hb1
    go_wp2_with fail
    rw [show (ByteArray.mk al.toArray) ++ (ByteArray.mk #[10]) = ⟨(al ++ [10]).toArray⟩ from cat_lists al [10]]
    refine (only_any l (al ++ [10]) 500 w1 (by omega) hl).mono ?_
    rintro e w2 ⟨⟨b, rfl, hb⟩, rfl⟩
    cases b with
    | false =>
      go_wp2_with fail
      go_ret
      exact ⟨rfl, HB1.out⟩
    | true =>
      obtain ⟨h500, hin⟩ := hb rfl
      have HCHR : Hid (∀ c ∈ l, c = 10 ∨ (32 ≤ c.toNat ∧ c.toNat ≤ 125)) := hid (fun c hc => by
        rcases List.mem_append.1 (hin c hc) with h | h
        · have := HAL.out c h
          exact .inr (by omega)
        · exact .inl (by simpa using h))
      clear hb hin
      go_wp2_with fail
      refine (timesF_int 126 _ w1 (by omega) (by omega)).mono ?_
      rintro e w2 ⟨rfl, rfl⟩
      have hn1 : 3 ≤ (3 + (more : Int) % 20).toNat := by omega
      have hn2 : (3 + (more : Int) % 20).toNat ≤ 22 := by omega
      generalize (3 + (more : Int) % 20).toNat = n at hn1 hn2
      have hz1 := repF_size n 126
      go_wp2_with fail
      refine (timesF_int 126 _ w1 (by omega) (by omega)).mono ?_
      rintro e w2 ⟨rfl, rfl⟩
      have hq2 : ((still : Int) % 20).toNat ≤ 19 := by omega
      generalize ((still : Int) % 20).toNat = q at hq2
      have hz2 := repF_size q 126
      go_wp2_with fail
      refine (HTML_fence2 _ l n q w1 (fen_text1 l n q) hn1 (by omega) h500 HCHR.out (HE.out.below HB1.out)).mono ?_
      rintro e w2 ⟨rfl, hb2⟩
      have HB2 := hid (HB1.out.trans (hb2.mono HB1.out.size))
      clear hb2
      have hne := codeOut_ne (linesL l)
      generalize hout : codeOut (linesL l) = out at hne ⊢
      have HOUT := hid hout
      clear hout
      go_wp2_with fail
      refine (HTML_fence2 _ l 3 0 w2 (fen_text2 l) (by omega) (by omega) h500 HCHR.out (HE.out.below HB2.out)).mono ?_
      rintro e w3 ⟨rfl, hb3⟩
      rw [HOUT.out]
      have HB3 := hid (HB2.out.trans (hb3.mono HB2.out.size))
      clear hb3
      go_wp2_with fail
      go_ret
      exact ⟨rfl, HB3.out⟩
  · go_enter Tryz.func3, Tryz.ntmps3
    go_wp2_with fail
    go_ret
    exact ⟨rfl, Below.refl _ _⟩
end Go.Proofs.YtmcjhcfhglfmlaaGreatDoor
