/- PROVED: a label of a definition, in capital letters and with other blanks, is a reference to it, in each of the three forms, whether the definition stands ahead or behind (the law FnReference returns true). -/
import Derived.Test.YtmmijmhdbpldpaaGreatDoorCRef14
import Derived.Laws.IdiomStrings
import Derived.Test.YtmmijmhdbpldpaaGreatDoorCRef12
import Derived.Test.YtmmijmhdbpldpaaGreatDoorCRef01
import Derived.Test.YtmmijmhdbpldpaaGreatDoorCards
import Derived.Test.YtmmijmhdbpldpaaGreatDoorTie
import Derived.Stop.LaidErr
import Derived.ChangeMaps5
/- FnReference: the three uses, each with its HTML. -/

namespace Go.Proofs.YtmmijmhdbpldpaaGreatDoor
open Go.RowKit
def upS (L : List UInt8) : List UInt8 := (trimNR (trimNL L)).map up
def keyL (L : List UInt8) : ByteArray := ⟨(normL (trimNR (trimNL L))).toArray⟩
theorem defD_key (L : List UInt8) : refKey ⟨(defD L).toArray⟩ (1 + L.length) = keyL L := by unfold refKey keyL; rw [defD_lab]
variable {L : List UInt8}
theorem trimN_chr (H : LabL L) {c : UInt8} (hc : c ∈ trimNR (trimNL L)) : c ∈ lcs := H.chr c (trimNL_sub (trimNR_sub hc))
theorem upS_chr (H : LabL L) {c : UInt8} (hc : c ∈ upS L) : c ∈ lus := by
  obtain ⟨d, hd, rfl⟩ := List.mem_map.1 hc
  exact (up_lcs d (trimN_chr H hd)).1
theorem upS_len (H : LabL L) : (upS L).length ≤ 40 := by
  have := trimN_len L
  have := H.len
  unfold upS
  rw [List.length_map]
  omega
theorem upS_pos (H : LabL L) : 0 < (upS L).length := by
  unfold upS
  rw [List.length_map]
  exact List.length_pos_iff.2 H.ink
theorem norm_up (H : LabL L) (W : World) : Calls Tryz.prog 118 #[.string ⟨(upS L).toArray⟩] W fun e w' => e = .returned (.string (keyL L)) ∧ Below W.heap.size W w' := by
  have hl := upS_len H
  have key : ∀ c ∈ upS L, c ≠ 91 ∧ c ≠ 93 ∧ c.toNat < 128 := fun c hc => by
    have := upS_chr H hc
    revert this
    exact (by decide : ∀ c ∈ lus, c ≠ 91 ∧ c ≠ 93 ∧ c.toNat < 128) c
  have h := normLabel_any ⟨(upS L).toArray⟩ W (by rw [sz_mk]; omega) (fun h => (key 91 (by simpa using h)).1 rfl) (fun h => (key 93 (by simpa using h)).2.1 rfl) (fun c hc => (key c (by simpa using hc)).2.2)
  rw [show (ByteArray.mk (upS L).toArray).data.toList = upS L from by simp] at h
  have e : normL (upS L) = normL (trimNR (trimNL L)) := normL_map (fun c hc => trimN_chr H hc)
  rw [e] at h
  exact h
theorem upS_rcs (H : LabL L) : ∀ c ∈ upS L, c ∈ rcs := fun c hc => by
  have := upS_chr H hc
  revert this
  exact (by decide : ∀ c ∈ lus, c ∈ rcs) c
def useR (form : Nat) (L : List UInt8) : List UInt8 := match form with
  | 0 => 91 :: (32 :: (L.map up ++ [32, 32]) ++ [93])
  | 1 => [91, 93]
  | _ => []
def useW (form : Nat) (L : List UInt8) : List UInt8 := match form with
  | 0 => [116]
  | _ => upS L
theorem useW_rcs (H : LabL L) (form : Nat) : ∀ c ∈ useW form L, c ∈ rcs := by
  cases form with
  | zero => exact (by decide : ∀ c ∈ ([116] : List UInt8), c ∈ rcs)
  | succ n => exact upS_rcs H
theorem useW_pos (H : LabL L) (form : Nat) : 0 < (useW form L).length := by
  cases form with
  | zero => exact Nat.succ_pos 0
  | succ n => exact upS_pos H
theorem useW_len (H : LabL L) (form : Nat) : (useW form L).length ≤ 40 := by
  cases form with
  | zero => show 1 ≤ 40; omega
  | succ n => exact upS_len H
theorem useR_len (H : LabL L) (form : Nat) : (useR form L).length ≤ 50 := by
  have := H.len
  match form with
  | 0 => unfold useR; simp; omega
  | 1 => show 2 ≤ 50; omega
  | n + 2 => show 0 ≤ 50; omega
/-- How each use is closed. -/
theorem use_close (H : LabL L) (form : Nat) (u : ByteArray) (g m b ob : Nat) (r : PSr) (W : World) (hps : IsPS W g r) (hln : r.links = some m) (hK : Known W m (keyL L) u b) (hob : Blk W ob 139 #[lineV [91], .int .i64 ((1 : Nat) : Int)]) :
    Calls Tryz.prog 79 #[.pointer (some ⟨g, 0, none⟩), .string ⟨(useT (useW form L) (useR form L)).toArray⟩, .int .i64 ((1 + (useW form L).length : Nat) : Int), .pointer (some ⟨ob, 0, none⟩)] W (ClosedBy u (useT (useW form L) (useR form L)).length W) := by
  have hlen := use_len (useW form L) (useR form L)
  have hwl := useW_len H form
  have hrl := useR_len H form
  match form, hlen, hwl, hrl with
  | 0, hlen, hwl, hrl =>
    have hL := H.len
    have hrl0 : (useR 0 L).length = L.length + 5 := by unfold useR; simp
    have hx : (ByteArray.mk (useT (useW 0 L) (useR 0 L)).toArray).extract (1 + (useW 0 L).length + 1 + 1) (L.length + 7) = ⟨(32 :: (L.map up ++ [32, 32])).toArray⟩ := ext_mid (p := [91, 116, 93, 91]) (q := 32 :: (L.map up ++ [32, 32])) (r := [93]) (by simp [useT, useW, useR]) _ _ rfl (by simp; omega)
    have htm : trimNR (trimNL (32 :: (L.map up ++ [32, 32]))) = upS L := by
      have hi : trimNL (L.map up) ≠ [] := by
        rw [trimNL_map H.chr]
        intro e
        have h2 : trimNL L = [] := List.map_eq_nil_iff.1 e
        exact H.ink (by rw [h2]; rfl)
      rw [trimN_pad hi, trimN_map H.chr]
      rfl
    rw [show (useT (useW 0 L) (useR 0 L)).length = L.length + 7 + 1 from by rw [hlen, hrl0]; show 1 + (L.length + 5) + 2 = _; omega]
    refine refClose_full g m b _ r _ (keyL L) u (1 + (useW 0 L).length) (L.length + 7) W hps hln hK (by rw [sz_mk]; omega) (bt_one (t := useT (useW 0 L) (useR 0 L)) (p := [91, 116, 93]) (r := 32 :: (L.map up ++ [32, 32]) ++ [93]) (x := 91) (by simp [useT, useW, useR]) _ rfl) (by show 1 + 1 + 1 < _; omega) (by rw [sz_mk, hlen, hrl0]; show _ < 1 + (L.length + 5) + 2; omega) (by show L.length + 7 - (1 + 1 + 2) ≤ 999; omega) (fun n h1 h2 => ?_) (bt_one (t := useT (useW 0 L) (useR 0 L)) (p := [91, 116, 93, 91] ++ (32 :: (L.map up ++ [32, 32]))) (r := []) (x := 93) (by simp [useT, useW, useR]) _ (by simp <;> omega)) ?_ (fun W2 => ?_)
    · obtain ⟨c, hc, e⟩ := at_mid (t := useT (useW 0 L) (useR 0 L)) (p := [91, 116, 93, 91]) (q := 32 :: (L.map up ++ [32, 32])) (r := [93]) (by simp [useT, useW, useR]) n (by show 4 ≤ n; have : 1 + 1 + 1 < n := h1; omega) (by simp; omega)
      rw [e]
      have hcl : c ∈ lus := by
        simp only [List.mem_cons, List.mem_append, List.not_mem_nil, or_false] at hc
        rcases hc with rfl | hc | rfl | rfl
        · decide
        · obtain ⟨d, hd, rfl⟩ := List.mem_map.1 hc
          exact (up_lcs d (H.chr d hd)).1
        all_goals decide
      revert hcl
      exact (by decide : ∀ c ∈ lus, (c.toNat : Int) ≠ 91 ∧ (c.toNat : Int) ≠ 92 ∧ (c.toNat : Int) ≠ 93) c
    · rw [hx, show (ByteArray.mk (32 :: (L.map up ++ [32, 32])).toArray).data.toList = 32 :: (L.map up ++ [32, 32]) from by simp, htm]
      exact List.length_pos_iff.1 (upS_pos H)
    · rw [hx, show (ByteArray.mk (32 :: (L.map up ++ [32, 32])).toArray).data.toList = 32 :: (L.map up ++ [32, 32]) from by simp, htm]
      exact norm_up H W2
  | 1, hlen, hwl, hrl =>
    rw [show (useT (useW 1 L) (useR 1 L)).length = 1 + (useW 1 L).length + 3 from by rw [hlen]; show (useW 1 L).length + 2 + 2 = _; omega]
    refine refClose_coll g m b ob 1 r _ (keyL L) u ⟨[91].toArray⟩ (1 + (useW 1 L).length) W hps hln hK hob (by rw [sz_mk]; omega) (by omega) (by rw [sz_mk, hlen]; show _ = (useW 1 L).length + 2 + 2; omega) (bt_one (t := useT (useW 1 L) (useR 1 L)) (p := 91 :: (useW 1 L ++ [93])) (r := [93]) (x := 91) (by simp [useT, useR]) _ (by simp; omega)) (bt_one (t := useT (useW 1 L) (useR 1 L)) (p := 91 :: (useW 1 L ++ [93, 91])) (r := []) (x := 93) (by simp [useT, useR]) _ (by simp; omega)) (fun W2 => ?_)
    rw [use_text]
    exact norm_up H W2
  | k + 2, hlen, hwl, hrl =>
    rw [show (useT (useW (k + 2) L) (useR (k + 2) L)).length = 1 + (useW (k + 2) L).length + 1 from by rw [hlen]; show (useW (k + 2) L).length + 0 + 2 = _; omega]
    refine refClose_short g m b ob 1 r _ (keyL L) u ⟨[91].toArray⟩ (1 + (useW (k + 2) L).length) W hps hln hK hob (by rw [sz_mk]; omega) (by omega) (by rw [sz_mk, hlen]; show _ = (useW (k + 2) L).length + 0 + 2; omega) (fun W2 => ?_)
    rw [use_text]
    exact norm_up H W2
end Go.Proofs.YtmmijmhdbpldpaaGreatDoor
/- FnReference: the uses are lines that begin a paragraph and are no definitions. -/

namespace Go.Proofs.YtmmijmhdbpldpaaGreatDoor
open Go.RowKit
variable {L : List UInt8}
theorem dropW_ink {l : List UInt8} (h : l.dropWhile isSN ≠ []) : ∃ c ∈ l.dropWhile isSN, isSN c = false := by
  induction l with
  | nil => exact absurd rfl h
  | cons c l ih =>
    rw [List.dropWhile_cons] at h ⊢
    cases hc : isSN c with
    | true =>
      rw [hc] at h
      exact ih h
    | false => exact ⟨c, List.mem_cons_self .., hc⟩
theorem dropW_keep {l : List UInt8} (h : ∃ c ∈ l, isSN c = false) : ∃ c ∈ l.dropWhile isSN, isSN c = false := by
  induction l with
  | nil => obtain ⟨c, hc, _⟩ := h; cases hc
  | cons c l ih =>
    rw [List.dropWhile_cons]
    cases hc : isSN c with
    | true =>
      refine ih ?_
      obtain ⟨d, hd, e⟩ := h
      rcases List.mem_cons.1 hd with rfl | hd
      · rw [hc] at e; cases e
      · exact ⟨d, hd, e⟩
    | false => exact ⟨c, List.mem_cons_self .., hc⟩
theorem trimN_ne {l : List UInt8} (h : ∃ c ∈ l, isSN c = false) : trimNR (trimNL l) ≠ [] := by
  have h1 : ∃ c ∈ trimNL l, isSN c = false := dropW_keep h
  have h2 : ∃ c ∈ (trimNL l).reverse, isSN c = false := by
    obtain ⟨c, hc, e⟩ := h1
    exact ⟨c, List.mem_reverse.2 hc, e⟩
  obtain ⟨c, hc, _⟩ := dropW_keep h2
  unfold trimNR
  intro e
  rw [List.reverse_eq_nil_iff.1 e] at hc
  cases hc
theorem trimN_ink {l : List UInt8} (h : trimNR l ≠ []) : ∃ c ∈ trimNR l, isSN c = false := by
  have h1 : l.reverse.dropWhile isSN ≠ [] := fun e => h (by unfold trimNR; rw [e]; rfl)
  obtain ⟨c, hc, e⟩ := dropW_ink h1
  exact ⟨c, by unfold trimNR; exact List.mem_reverse.2 hc, e⟩
theorem useW_ink (H : LabL L) (form : Nat) : trimNR (trimNL (useW form L)) ≠ [] := by
  match form with
  | 0 => exact (by decide : trimNR (trimNL ([116] : List UInt8)) ≠ [])
  | k + 1 =>
    show trimNR (trimNL ((trimNR (trimNL L)).map up)) ≠ []
    obtain ⟨c, hc, e⟩ := trimN_ink H.ink
    exact trimN_ne ⟨up c, List.mem_map_of_mem hc, by rw [(up_lcs c (trimN_chr H hc)).2.1]; exact e⟩
theorem use_mem (H : LabL L) (form : Nat) {c : UInt8} (hc : c ∈ useT (useW form L) (useR form L)) : c ∈ rcs ++ [91, 93] := by
  have hup : ∀ d ∈ L, up d ∈ rcs := fun d hd => by
    have := (up_lcs d (H.chr d hd)).1
    revert this
    exact (by decide : ∀ c ∈ lus, c ∈ rcs) _
  unfold useT at hc
  simp only [List.mem_cons, List.mem_append] at hc
  rcases hc with rfl | hc | rfl | hc
  · decide
  · exact List.mem_append_left _ (useW_rcs H form c hc)
  · decide
  · match form with
    | 0 =>
      unfold useR at hc
      simp only [List.mem_cons, List.mem_append, List.not_mem_nil, or_false, List.mem_map] at hc
      rcases hc with rfl | (rfl | ⟨d, hd, rfl⟩ | rfl | rfl) | rfl
      · decide
      · decide
      · exact List.mem_append_left _ (hup d hd)
      all_goals decide
    | 1 =>
      have h : c ∈ ([91, 93] : List UInt8) := hc
      exact List.mem_append_right _ h
    | k + 2 => cases hc
theorem use_line (H : LabL L) (form : Nat) : ParLine ⟨(useT (useW form L) (useR form L)).toArray⟩ := br_line _ (use_0 _ _) (by rw [use_len]; have := useW_len H form; have := useR_len H form; omega) (fun c hc e => by
  have := use_mem H form hc
  subst e
  revert this
  decide)
theorem use_last (_ : LabL L) (form : Nat) : ∃ p, useT (useW form L) (useR form L) = p ++ [93] := by
  match form with
  | 0 => exact ⟨91 :: ([116] ++ 93 :: 91 :: (32 :: (L.map up ++ [32, 32]))), by simp [useT, useW, useR]⟩
  | 1 => exact ⟨91 :: (upS L ++ [93, 91]), by simp [useT, useW, useR]⟩
  | k + 2 => exact ⟨91 :: upS L, by simp [useT, useW, useR]⟩
theorem use_trim (H : LabL L) (form : Nat) : trimR (trimL (useT (useW form L) (useR form L))) = useT (useW form L) (useR form L) := by
  obtain ⟨p, hp⟩ := use_last H form
  have h1 : trimL (useT (useW form L) (useR form L)) = useT (useW form L) (useR form L) := trimL_self (fun c hc => by
    have : c = 91 := by unfold useT at hc; simpa using hc.symm
    subst this
    decide)
  rw [h1, hp]
  unfold trimR
  rw [List.reverse_append]
  simp [isST]
theorem use_head (H : LabL L) (form : Nat) : ParaHead (useT (useW form L) (useR form L)) := by
  have hlen := use_len (useW form L) (useR form L)
  have hwl := useW_len H form
  have hrl := useR_len H form
  have hwp := useW_pos H form
  have hx := use_text (useW form L) (useR form L)
  refine ⟨by omega, by omega, refNo_label _ (1 + (useW form L).length) (by omega) (by omega) (by omega) (by omega) (use_0 _ _) (fun m h1 h2 => ?_) (use_93 _ _) ?_ (fun _ => ?_)⟩
  · obtain ⟨c, hc, e⟩ := use_mid (rest := useR form L) (useW_rcs H form) m (by omega) h2
    rw [e]
    have := useW_rcs H form c hc
    revert this
    exact (by decide : ∀ c ∈ rcs, (c.toNat : Int) ≠ 91 ∧ (c.toNat : Int) ≠ 92 ∧ (c.toNat : Int) ≠ 93) c
  · rw [show (0 + 1 : Nat) = 1 from rfl, hx, show (ByteArray.mk (useW form L).toArray).data.toList = useW form L from by simp]
    exact useW_ink H form
  · exact bt_mem _ _ (fun z => z ≠ 58) (by decide) (fun c hc => by
      have := use_mem H form hc
      revert this
      exact (by decide : ∀ c ∈ rcs ++ [91, 93], (c.toNat : Int) ≠ 58) c)
set_option maxRecDepth 20000 in
theorem HTML_use (H : LabL L) (bh : Bool) (form : Nat) (w : World) (s : ByteArray) (hs : s = ⟨((if bh then useT (useW form L) (useR form L) else defD L) ++ 10 :: ([] ++ 10 :: ((if bh then defD L else useT (useW form L) (useR form L)) ++ 10 :: []))).toArray⟩) :
    Calls Tryz.prog 11 #[plainO.v, .string s] w fun e w' => e = .returned (.string ⟨(paraOut (lkOut [47, 117] (useW form L))).toArray⟩) ∧ Below w.heap.size w w' := by
  have hwl := useW_len H form
  have hrl := useR_len H form
  have nd : ∀ c, c ∉ lcs ++ [91, 93, 58, 47, 117] → c ∉ defD L := fun c hc h => hc (defD_mem H h)
  have nu : ∀ c, c ∉ rcs ++ [91, 93] → c ∉ useT (useW form L) (useR form L) := fun c hc h => hc (use_mem H form h)
  refine HTML_ref plainO bh (defD L) (useT (useW form L) (useR form L)) (lkOut [47, 117] (useW form L)) (1 + L.length) w (defD_line H) (use_line H form) ⟨nd 10 (by decide), nd 13 (by decide), nd 0 (by decide)⟩ ⟨nu 10 (by decide), nu 13 (by decide), nu 0 (by decide)⟩ (defD_ref H) (use_head H form) rfl (by unfold lkOut lkHead; simp; omega) ?_ s hs
  rw [defD_key, defD_dest]
  exact inlCK_use (useW form L) (useR form L) (keyL L) ⟨[47, 117].toArray⟩ (useW_rcs H form) (useW_pos H form) (by omega) (by omega) (fun k => bt_mem _ k (fun z => z ≠ 37) (by decide) (by decide)) (by decide) (fun i hi => by
    have : i < 2 := hi
    match i with
    | 0 => unfold Plainly; decide
    | 1 => unfold Plainly; decide
    | i + 2 => omega) (use_trim H form) (fun g m b ob r W => use_close H form _ g m b ob r W)
end Go.Proofs.YtmmijmhdbpldpaaGreatDoor
/- The law's helper upper: small letters become capitals, in a row of its own. -/


namespace Go.Proofs.YtmmijmhdbpldpaaGreatDoor
open Go.RowKit
/-- The row at the loop's round i. -/
structure UpR (L : List UInt8) (h : Nat) (w : World) (i : Nat) (wr : World) : Prop where
  bel : Below h w wr
  lt : h < wr.heap.size
  cell : ∀ (j : Nat) c, L[j]? = some c → wr.cell? ⟨h, j, none⟩ = some (.int .u8 ((if j < i then up c else c).toNat : Int))
  fr : ∀ j, j < L.length → wr.frozen? ⟨h, j, none⟩ = false
theorem UpR.start (L : List UInt8) (w : World) (cap : Nat) : UpR L w.heap.size w 0 (w.drew.alloc (.cells (bytesRow ⟨L.toArray⟩ cap) 5 ((bytesRow ⟨L.toArray⟩ cap).size, (bytesRow ⟨L.toArray⟩ cap).size + 1))) where
  bel := (below_drewN (Below.refl _ w) 1).alloc (Nat.le_refl _) _
  lt := by simp
  cell := fun j c hc => by
    obtain ⟨hj, e⟩ := List.getElem?_eq_some_iff.1 hc
    have h1 := World.cell?_alloc_mark w.drew (bytesRow ⟨L.toArray⟩ cap) 5 ((bytesRow ⟨L.toArray⟩ cap).size, (bytesRow ⟨L.toArray⟩ cap).size + 1) j
    have h2 := bytesRow_at ⟨L.toArray⟩ cap j (by simpa using hj)
    rw [h2] at h1
    rw [if_neg (Nat.not_lt_zero _)]
    refine h1.trans ?_
    subst e
    simp
  fr := fun j hj => by
    have h1 := World.frozen?_alloc_mark w.drew (bytesRow ⟨L.toArray⟩ cap) 5 (bytesRow ⟨L.toArray⟩ cap).size ((bytesRow ⟨L.toArray⟩ cap).size + 1) j
    refine h1.trans ?_
    have : L.length ≤ (bytesRow ⟨L.toArray⟩ cap).size := by unfold bytesRow; simp
    rw [decide_eq_false (by omega)]
    rfl
theorem UpR.skip {L : List UInt8} {h i : Nat} {w wr : World} (H : UpR L h w i wr) {c : UInt8} (hc : L[i]? = some c) (hu : up c = c) : UpR L h w (i + 1) wr where
  bel := H.bel
  lt := H.lt
  fr := H.fr
  cell := fun j d hd => by
    rw [H.cell j d hd]
    rcases Nat.lt_trichotomy j i with h1 | h1 | h1
    · rw [if_pos h1, if_pos (by omega)]
    · subst h1
      rw [hc] at hd
      cases hd
      rw [if_neg (Nat.lt_irrefl _), if_pos (by omega), hu]
    · rw [if_neg (by omega), if_neg (by omega)]
theorem UpR.step {L : List UInt8} {h i : Nat} {w wr : World} (H : UpR L h w i wr) {c : UInt8} (hc : L[i]? = some c) {x : Int} (hx : x = ((up c).toNat : Int)) : UpR L h w (i + 1) (wr.setCell ⟨h, i, none⟩ (.int .u8 x)) where
  bel := H.bel.setCell (p := ⟨h, i, none⟩) (Nat.le_refl _) _
  lt := by simp [World.setCell]; exact H.lt
  cell := fun j d hd => by
    subst hx
    by_cases h1 : j = i
    · subst h1
      rw [hc] at hd
      cases hd
      rw [if_pos (by omega)]
      exact World.cell?_setCell_same (h := H.cell j c hc) ..
    · rw [World.cell?_setCell_other (h := show (⟨h, i, none⟩ : Addr) ≠ ⟨h, j, none⟩ from by intro e; simp only [Addr.mk.injEq] at e; exact h1 e.2.1.symm), H.cell j d hd]
      by_cases h2 : j < i
      · rw [if_pos h2, if_pos (by omega)]
      · rw [if_neg h2, if_neg (by omega)]
  fr := fun j hj => by
    rw [World.frozen?_setCell]
    exact H.fr j hj
theorem up_yes {c : UInt8} (h1 : 97 ≤ (c.toNat : Int)) (h2 : (c.toNat : Int) ≤ 122) : (c.toNat : Int) - 97 + 65 = ((up c).toNat : Int) := by
  unfold up
  rw [if_pos ⟨by omega, by omega⟩, UInt8.toNat_sub_of_le _ _ (by show (32 : UInt8).toNat ≤ c.toNat; have : (32 : UInt8).toNat = 32 := rfl; omega)]
  have : (32 : UInt8).toNat = 32 := rfl
  omega
theorem up_no {c : UInt8} (h : ¬ (97 ≤ (c.toNat : Int) ∧ (c.toNat : Int) ≤ 122)) : up c = c := by
  unfold up
  rw [if_neg (by omega)]
theorem UpR.done {L : List UInt8} {h i : Nat} {w wr : World} (H : UpR L h w i wr) (hi : L.length ≤ i) : ∀ j (hj : j < (L.map up).length), wr.cell? (Addr.add ⟨h, 0, none⟩ j) = some (.int .u8 ((L.map up)[j].toNat : Int)) := by
  intro j hj
  rw [List.length_map] at hj
  have h1 := H.cell j L[j] (List.getElem?_eq_getElem hj)
  rw [if_pos (by omega)] at h1
  have h2 : Addr.add ⟨h, 0, none⟩ j = ⟨h, j, none⟩ := by unfold Addr.add; split <;> simp_all
  rw [h2, h1]
  simp
set_option maxRecDepth 20000 in
set_option maxHeartbeats 1600000 in
theorem upper_any (L : List UInt8) (w : World) (hl : L.length ≤ 1000) (_ : ∀ c ∈ L, c.toNat < 128) :
    Calls Tryz.prog 14 #[.string ⟨L.toArray⟩] w fun e w' => e = .returned (.string ⟨(L.map up).toArray⟩) ∧ Below w.heap.size w w' := by
  have hz : (ByteArray.mk L.toArray).size = L.length := List.size_toArray ..
  have hcv := fun w s => run_bytes_of_string (P := Tryz.prog) w 9 56 5 s Tryz.underlying9 Tryz.underlying56 Tryz.underlying5
  have hback := hid (fun (w : World) (a : Addr) (cap : Nat) (l : List UInt8) => run_convert_bytes_back (P := Tryz.prog) w 56 9 5 a cap l Tryz.underlying56 Tryz.underlying5 Tryz.underlying9)
  go_enter Tryz.func14, Tryz.ntmps14
  go_wp2_with fail
  have H0 := hid (UpR.start L w (grownCap w L.length 0 5))
  generalize grownCap w L.length 0 5 = cap at H0 ⊢
  go_loopw [10] (fun t10 wr => ∃ i : Nat, i ≤ L.length ∧ t10 = .int .i64 i ∧ UpR L w.heap.size w i wr) (fun t10 _ => L.length - (intOf t10).toNat)
  case atStart => exact ⟨0, Nat.zero_le _, rfl, H0.out⟩
  case round =>
    obtain ⟨i, hi, rfl, hr⟩ := hrel
    have HR := hid hr
    clear hr
    by_cases hlt : i < L.length
    · have hc := List.getElem?_eq_getElem hlt
      have hcell := HR.out.cell i _ hc
      rw [if_neg (Nat.lt_irrefl _)] at hcell
      have hfr := HR.out.fr i hlt
      have HC := hid hc
      generalize L[i] = c at hcell HC hc
      clear hc
      by_cases h2 : 97 ≤ (c.toNat : Int)
      · by_cases h3 : (c.toNat : Int) ≤ 122
        · have HS := hid (HR.out.step HC.out (up_yes h2 h3))
          go_wp2_with fail
          go_roundw
          case rel => exact ⟨i + 1, hlt, by go_num, HS.out⟩
          case measure => simp [intOf]; omega
        · have HS := hid (HR.out.skip HC.out (up_no (fun h => h3 h.2)))
          go_wp2_with fail
          go_roundw
          case rel => exact ⟨i + 1, hlt, by go_num, HS.out⟩
          case measure => simp [intOf]; omega
      · have HS := hid (HR.out.skip HC.out (up_no (fun h => h2 h.1)))
        go_wp2_with fail
        go_roundw
        case rel => exact ⟨i + 1, hlt, by go_num, HS.out⟩
        case measure => simp [intOf]; omega
    · obtain rfl : i = L.length := by omega
      have hb := hback.out wr ⟨w.heap.size, 0, none⟩ cap (L.map up) (HR.out.done (Nat.le_refl _))
      rw [List.length_map] at hb
      go_wp2_with fail
      go_ret
      exact ⟨rfl, HR.out.bel⟩
end Go.Proofs.YtmmijmhdbpldpaaGreatDoor
/- The law's helper shorn: blanks at a text's ends are cut off. -/


namespace Go.Proofs.YtmmijmhdbpldpaaGreatDoor
open Go.RowKit
theorem specBlank_any (c : Int) (w : World) : Calls Tryz.prog 36 #[.int .u8 c] w fun e w' => e = .returned (.bool (decide (c = 32 ∨ c = 9 ∨ c = 10 ∨ c = 13))) ∧ w = w' := by
  by_cases h1 : c = 32
  · subst h1
    go_enter Tryz.func36, Tryz.ntmps36
    go_wp2_with fail
    go_ret
    exact ⟨rfl, rfl⟩
  by_cases h2 : c = 9
  · subst h2
    go_enter Tryz.func36, Tryz.ntmps36
    go_wp2_with fail
    go_ret
    exact ⟨rfl, rfl⟩
  by_cases h3 : c = 10
  · subst h3
    go_enter Tryz.func36, Tryz.ntmps36
    go_wp2_with fail
    go_ret
    exact ⟨rfl, rfl⟩
  have e1 : (c == 32) = false := by simpa using h1
  have e2 : (c == 9) = false := by simpa using h2
  have e3 : (c == 10) = false := by simpa using h3
  have e4 : decide (c = 32 ∨ c = 9 ∨ c = 10 ∨ c = 13) = (c == 13) := by
    by_cases h4 : c = 13
    · subst h4; rfl
    · rw [show (c == 13) = false from by simpa using h4]
      exact decide_eq_false (by omega)
  rw [e4]
  go_enter Tryz.func36, Tryz.ntmps36
  go_wp2_with fail
  go_ret
  exact ⟨rfl, rfl⟩
theorem blank_sn {c : UInt8} (h13 : c ≠ 13) : decide ((c.toNat : Int) = 32 ∨ (c.toNat : Int) = 9 ∨ (c.toNat : Int) = 10 ∨ (c.toNat : Int) = 13) = isSN c := by
  have h : (c.toNat : Int) ≠ 13 := fun e => h13 (UInt8.toNat_inj.1 (by show c.toNat = 13; omega))
  cases hs : isSN c with
  | true =>
    refine decide_eq_true ?_
    by_cases h1 : (c.toNat : Int) = 32
    · exact .inl h1
    by_cases h2 : (c.toNat : Int) = 9
    · exact .inr (.inl h2)
    by_cases h3 : (c.toNat : Int) = 10
    · exact .inr (.inr (.inl h3))
    rw [isSN_not h1 h2 h3] at hs
    cases hs
  | false =>
    refine decide_eq_false (fun e => ?_)
    have : isSN c = true := by
      rcases e with e | e | e | e
      · exact isSN_of (.inl e)
      · exact isSN_of (.inr (.inl e))
      · exact isSN_of (.inr (.inr e))
      · exact absurd e h
    rw [hs] at this
    cases this
set_option maxRecDepth 20000 in
set_option maxHeartbeats 1600000 in
theorem shorn_any (s : ByteArray) (w : World) (hs : s.size ≤ 100000) (h13 : ∀ c ∈ s.data.toList, c ≠ 13) :
    Calls Tryz.prog 13 #[.string s] w fun e w' => e = .returned (.string ⟨(trimNR (trimNL s.data.toList)).toArray⟩) ∧ w = w' := by
  have hb := get_bt s
  have HL := hid (Lib.size_eq s)
  have HB : Hid (∀ i, i < s.size → ∃ c, s.data.toList[i]? = some c ∧ bt s i = (c.toNat : Int) ∧ decide (bt s i = 32 ∨ bt s i = 9 ∨ bt s i = 10 ∨ bt s i = 13) = isSN c) := hid (fun i hi => by
    obtain ⟨c, hc, e⟩ := bt_at s hi
    exact ⟨c, hc, e, by rw [e]; exact blank_sn (h13 c (List.mem_of_getElem? hc))⟩)
  clear h13
  go_enter Tryz.func13, Tryz.ntmps13
  go_wp2_with fail
  go_loopw [3] (fun t3 wr => ∃ i : Nat, i ≤ s.size ∧ t3 = .int .i64 i ∧ wr = w ∧ ∀ k c, k < i → s.data.toList[k]? = some c → isSN c = true) (fun t3 _ => s.size - (intOf t3).toNat)
  case atStart => exact ⟨0, Nat.zero_le _, rfl, rfl, fun k c h => absurd h (by omega)⟩
  case round =>
    obtain ⟨i, hi, rfl, rfl, hsp⟩ := hrel
    have HSP := hid hsp
    clear hsp
    have FIN0 : Hid ((∀ c, s.data.toList[i]? = some c → isSN c = false) → ∀ k, i ≤ k → k ≤ s.size → (∀ q c, k ≤ q → s.data.toList[q]? = some c → isSN c = true) → (∀ q c, k = q + 1 → i ≤ q → s.data.toList[q]? = some c → isSN c = false) → s.extract i k = ⟨(trimNR (trimNL s.data.toList)).toArray⟩) := hid (fun h1 k h2 h3 h4 h5 => by
      have e1 : trimNL s.data.toList = s.data.toList.drop i := drop_of_while isSN _ i HSP.out h1
      have hl := HL.out
      rw [e1, trimNR_of (s.data.toList.drop i) (k - i) (by rw [List.length_drop]; omega) (fun q c hq hc => by
        rw [List.getElem?_drop] at hc
        exact h4 _ c (by omega) hc) (fun q c hq hc => by
        rw [List.getElem?_drop] at hc
        exact h5 (i + q) c (by omega) (by omega) hc), extract_mk, List.drop_take])
    by_cases hlt : i < s.size
    · obtain ⟨c, hc, hbt, hdec⟩ := HB.out i hlt
      have HC := hid hc
      have HDEC := hid hdec
      clear hc hbt hdec
      go_wp2_with fail
      refine (specBlank_any (bt s i) _).mono ?_
      rintro e w1 ⟨rfl, rfl⟩
      rw [HDEC.out]
      cases hsn : isSN c with
      | true =>
        go_wp2_with fail
        go_roundw
        case rel => exact ⟨i + 1, by omega, by go_num, trivial, fun k d hk hd => by
          rcases Nat.lt_or_ge k i with h1 | h1
          · exact HSP.out k d h1 hd
          · obtain rfl : k = i := by omega
            rw [HC.out] at hd
            cases hd
            exact hsn⟩
        case measure => simp [intOf]; omega
      | false =>
        have FIN := hid (fun k h2 h3 h4 (h5 : ∀ q c, k = q + 1 → s.data.toList[q]? = some c → isSN c = false ∨ q < i) => FIN0.out (fun d hd => by rw [HC.out] at hd; cases hd; exact hsn) k h2 h3 h4 (fun q c hq hiq hc => by
          rcases h5 q c hq hc with h | h
          · exact h
          · omega))
        go_wp2_with fail
        go_loopw [4] (fun t4 wy => ∃ k : Nat, i ≤ k ∧ k ≤ s.size ∧ t4 = .int .i64 k ∧ wy = wr ∧ ∀ q c, k ≤ q → s.data.toList[q]? = some c → isSN c = true) (fun t4 _ => (intOf t4).toNat)
        case atStart => exact ⟨s.size, hi, Nat.le_refl _, rfl, rfl, fun q c hq hc => by
          rw [List.getElem?_eq_none (by rw [← HL.out]; omega)] at hc
          cases hc⟩
        case round =>
          obtain ⟨k, hik, hk, rfl, rfl, hst⟩ := hrel
          have HST := hid hst
          clear hst
          by_cases hlt2 : i < k
          · obtain ⟨m, rfl⟩ : ∃ m, k = m + 1 := ⟨k - 1, by omega⟩
            have hmk : m < s.size := by omega
            obtain ⟨d, hd, hbt, hdec⟩ := HB.out m hmk
            have HD := hid hd
            have HDEC2 := hid hdec
            clear hd hbt hdec
            go_wp2_with fail
            refine (specBlank_any (bt s m) _).mono ?_
            rintro e w1 ⟨rfl, rfl⟩
            rw [HDEC2.out]
            cases hsn2 : isSN d with
            | true =>
              go_wp2_with fail
              go_roundw
              case rel => exact ⟨m, by omega, by omega, by go_num, trivial, fun q c hq hc => by
                rcases Nat.lt_or_ge m q with h1 | h1
                · exact HST.out q c h1 hc
                · obtain rfl : q = m := by omega
                  rw [HD.out] at hc
                  cases hc
                  exact hsn2⟩
              case measure => simp [intOf]
            | false =>
              have hr := hid (FIN.out (m + 1) hik hk HST.out (fun q c hq hc => by
                obtain rfl : q = m := by omega
                rw [HD.out] at hc
                cases hc
                exact .inl hsn2))
              go_wp2_with fail
              go_ret
              exact ⟨ret_str hr.out, rfl⟩
          · obtain rfl : k = i := by omega
            have hr := hid (FIN.out k hik hk HST.out (fun q c hq hc => .inr (by omega)))
            go_wp2_with fail
            go_ret
            exact ⟨ret_str (by rw [← hr.out]; simp), rfl⟩
    · obtain rfl : i = s.size := by omega
      have FIN := hid (fun k h2 h3 h4 (h5 : ∀ q c, k = q + 1 → s.data.toList[q]? = some c → isSN c = false ∨ q < s.size) => FIN0.out (fun d hd => by rw [List.getElem?_eq_none (by rw [← HL.out]; exact Nat.le_refl _)] at hd; cases hd) k h2 h3 h4 (fun q c hq hiq hc => by omega))
      go_wp2_with fail
      have hr := hid (FIN.out s.size (Nat.le_refl _) (Nat.le_refl _) (fun q c hq hc => by
        rw [List.getElem?_eq_none (by rw [← HL.out]; omega)] at hc
        cases hc) (fun q c hq hc => .inr (by omega)))
      refine wp_loop_rounds 1 ?_
      rw [rounds_succ]
      go_wp2_with fail
      go_ret
      exact ⟨ret_str (by rw [← hr.out]; simp), rfl⟩
end Go.Proofs.YtmmijmhdbpldpaaGreatDoor
/- The laws' plain options. -/

namespace Go.Proofs.YtmmijmhdbpldpaaGreatDoor
open Go.RowKit
set_option maxRecDepth 20000 in
theorem plain_any (w : World) : Calls Tryz.prog 21 #[] w fun e w' => e = .returned plainO.v ∧ Below w.heap.size w w' := by
  go_enter Tryz.func21, Tryz.ntmps21
  go_wp2
  go_returns
  exact ⟨rfl, (Below.refl _ _).alloc (Nat.le_refl _) _⟩
end Go.Proofs.YtmmijmhdbpldpaaGreatDoor
/- The walk of the law FnReference: for all labels, places and forms it returns true. -/




namespace Go.Proofs.YtmmijmhdbpldpaaGreatDoor
open Go.RowKit
def shB (L : List UInt8) : ByteArray := ⟨(trimNR (trimNL L)).toArray⟩
def upB (L : List UInt8) : ByteArray := ⟨(L.map up).toArray⟩
def usB (L : List UInt8) : ByteArray := ⟨(upS L).toArray⟩
theorem shB_size (L : List UInt8) : (shB L).size ≤ L.length := by unfold shB; rw [sz_mk]; exact trimN_len L
theorem upB_size (L : List UInt8) : (upB L).size = L.length := by unfold upB; rw [sz_mk, List.length_map]
theorem usB_size (L : List UInt8) : (usB L).size ≤ L.length := by unfold usB upS; rw [sz_mk, List.length_map]; exact trimN_len L
theorem shorn_l (L : List UInt8) (w : World) (hl : L.length ≤ 40) (hc : ∀ c ∈ L, c ∈ lcs) : Calls Tryz.prog 13 #[.string ⟨L.toArray⟩] w fun e w' => e = .returned (.string (shB L)) ∧ w = w' := by
  have h := shorn_any ⟨L.toArray⟩ w (by rw [sz_mk]; omega) (fun c h => by
    have := hc c (by simpa using h)
    revert this
    exact (by decide : ∀ c ∈ lcs, c ≠ 13) c)
  rw [show (ByteArray.mk L.toArray).data.toList = L from by simp] at h
  exact h
theorem upper_l (L : List UInt8) (w : World) (hl : L.length ≤ 40) (hc : ∀ c ∈ L, c ∈ lcs) : Calls Tryz.prog 14 #[.string ⟨L.toArray⟩] w fun e w' => e = .returned (.string (upB L)) ∧ Below w.heap.size w w' := upper_any L w (by omega) (fun c h => by
    have := hc c h
    revert this
    exact (by decide : ∀ c ∈ lcs, c.toNat < 128) c)
theorem upper_s (L : List UInt8) (w : World) (hl : L.length ≤ 40) (hc : ∀ c ∈ L, c ∈ lcs) : Calls Tryz.prog 14 #[.string (shB L)] w fun e w' => e = .returned (.string (usB L)) ∧ Below w.heap.size w w' := upper_l (trimNR (trimNL L)) w (Nat.le_trans (trimN_len L) hl) (fun c h => hc c (trimNL_sub (trimNR_sub h)))
def defB (L : List UInt8) : ByteArray := (ByteArray.mk #[91] ++ ByteArray.mk L.toArray) ++ ByteArray.mk #[93, 58, 32, 47, 117, 10]
theorem defB_is (L : List UInt8) : defB L = ⟨(defD L ++ [10]).toArray⟩ := by
  unfold defB
  rw [show ByteArray.mk #[91] = ⟨[91].toArray⟩ from rfl, show ByteArray.mk #[93, 58, 32, 47, 117, 10] = ⟨[93, 58, 32, 47, 117, 10].toArray⟩ from rfl]
  simp only [cat_lists]
  unfold defD
  simp
/-- The law's text. -/
def refB (bh : Bool) (L : List UInt8) (u : ByteArray) : ByteArray := match bh with
  | true => (u ++ ByteArray.mk #[10, 10]) ++ defB L
  | false => ((defB L ++ ByteArray.mk #[10]) ++ u) ++ ByteArray.mk #[10]
theorem refB_is (bh : Bool) (L U : List UInt8) : refB bh L ⟨U.toArray⟩ = ⟨((if bh then U else defD L) ++ 10 :: ([] ++ 10 :: ((if bh then defD L else U) ++ 10 :: []))).toArray⟩ := by
  cases bh with
  | true =>
    unfold refB
    simp only [defB_is]
    rw [show ByteArray.mk #[10, 10] = ⟨[10, 10].toArray⟩ from rfl]
    simp only [cat_lists]
    simp
  | false =>
    unfold refB
    simp only [defB_is]
    rw [show ByteArray.mk #[10] = ⟨[10].toArray⟩ from rfl]
    simp only [cat_lists]
    simp
theorem use_0is (L : List UInt8) : ByteArray.mk #[91, 116, 93] ++ ((ByteArray.mk #[91, 32] ++ upB L) ++ ByteArray.mk #[32, 32, 93]) = ⟨(useT (useW 0 L) (useR 0 L)).toArray⟩ := by
  unfold upB
  rw [show ByteArray.mk #[91, 116, 93] = ⟨[91, 116, 93].toArray⟩ from rfl, show ByteArray.mk #[91, 32] = ⟨[91, 32].toArray⟩ from rfl, show ByteArray.mk #[32, 32, 93] = ⟨[32, 32, 93].toArray⟩ from rfl]
  simp only [cat_lists]
  simp [useT, useW, useR]
theorem use_1is (L : List UInt8) : (ByteArray.mk #[91] ++ usB L) ++ ByteArray.mk #[93, 91, 93] = ⟨(useT (useW 1 L) (useR 1 L)).toArray⟩ := by
  unfold usB
  rw [show ByteArray.mk #[91] = ⟨[91].toArray⟩ from rfl, show ByteArray.mk #[93, 91, 93] = ⟨[93, 91, 93].toArray⟩ from rfl]
  simp only [cat_lists]
  simp [useT, useW, useR]
theorem use_2is (L : List UInt8) : (ByteArray.mk #[91] ++ usB L) ++ ByteArray.mk #[93] = ⟨(useT (useW 2 L) (useR 2 L)).toArray⟩ := by
  unfold usB
  rw [show ByteArray.mk #[91] = ⟨[91].toArray⟩ from rfl, show ByteArray.mk #[93] = ⟨[93].toArray⟩ from rfl]
  simp only [cat_lists]
  simp [useT, useW, useR]
theorem HTML_useB (bh : Bool) (form : Nat) {L : List UInt8} (w : World) (H : LabL L) (u : ByteArray) (hu : u = ⟨(useT (useW form L) (useR form L)).toArray⟩) (s : ByteArray) (hs : s = refB bh L u) :
    Calls Tryz.prog 11 #[plainO.v, .string s] w fun e w' => e = .returned (.string ⟨(paraOut (lkOut [47, 117] (useW form L))).toArray⟩) ∧ Below w.heap.size w w' := HTML_use H bh form w s (by rw [hs, hu, refB_is])
theorem ref_o0 (L : List UInt8) : ByteArray.mk (paraOut (lkOut [47, 117] (useW 0 L))).toArray = ByteArray.mk #[60, 112, 62, 60, 97, 32, 104, 114, 101, 102, 61, 34, 47, 117, 34, 62, 116, 60, 47, 97, 62, 60, 47, 112, 62, 10] := rfl
theorem ref_o1 (L : List UInt8) (k : Nat) : ByteArray.mk (paraOut (lkOut [47, 117] (useW (k + 1) L))).toArray = (ByteArray.mk #[60, 112, 62, 60, 97, 32, 104, 114, 101, 102, 61, 34, 47, 117, 34, 62] ++ usB L) ++ ByteArray.mk #[60, 47, 97, 62, 60, 47, 112, 62, 10] := by
  unfold usB
  rw [show ByteArray.mk #[60, 112, 62, 60, 97, 32, 104, 114, 101, 102, 61, 34, 47, 117, 34, 62] = ⟨[60, 112, 62, 60, 97, 32, 104, 114, 101, 102, 61, 34, 47, 117, 34, 62].toArray⟩ from rfl, show ByteArray.mk #[60, 47, 97, 62, 60, 47, 112, 62, 10] = ⟨[60, 47, 97, 62, 60, 47, 112, 62, 10].toArray⟩ from rfl]
  simp only [cat_lists]
  simp [paraOut, lkOut, lkHead, useW]
set_option maxRecDepth 20000 in
set_option maxHeartbeats 4000000 in
theorem law_reference (L : List UInt8) (bh : Bool) (z : Int) (w : World) (ll : L.length ≤ 9223372036854775807) :
    Calls Tryz.prog 5 #[.string ⟨L.toArray⟩, .bool bh, .int .i64 z] w fun e' w' => e' = .returned (.bool true) ∧ Below w.heap.size w w' := by
  have sa := sz_mk L
  by_cases ba : L.length ≤ 2147483647
  · have WA := hid (only_any L lcs 40 w (by omega) ll)
    go_enter Tryz.func5, Tryz.ntmps5
    go_wp2_with fail
    refine WA.out.mono ?_
    rintro e1 w1 ⟨⟨q, rfl, hq⟩, rfl⟩
    cases q with
    | false =>
      go_wp2_with fail
      go_ret
      exact ⟨rfl, Below.refl _ _⟩
    | true =>
      have HA := hid (hq rfl)
      have h40 := HA.out.1
      clear hq WA
      go_wp2_with fail
      refine (shorn_l L w h40 HA.out.2).mono ?_
      rintro e1 w1 ⟨rfl, rfl⟩
      by_cases hk : trimNR (trimNL L) = []
      · have e0 : shB L = ByteArray.mk #[] := by unfold shB; rw [hk]
        rw [e0]
        clear e0 hk
        go_wp2_with fail
        go_ret
        exact ⟨rfl, Below.refl _ _⟩
      · have HL := hid (show LabL L from ⟨h40, HA.out.2, hk⟩)
        have zs := shB_size L
        have zu := upB_size L
        have zt := usB_size L
        have hne2 : (shB L).toList.isEmpty = false := by
          rw [← decide_eq_emptyBytes]
          refine decide_eq_false (fun e => ?_)
          have h1 := congrArg ByteArray.size e
          unfold shB at h1
          rw [sz_mk] at h1
          have : ByteArray.empty.size = 0 := rfl
          rw [this] at h1
          exact hk (List.length_eq_zero_iff.1 h1)
        clear hk
        go_wp2_with fail
        refine (upper_l L w h40 HA.out.2).mono ?_
        rintro e1 w1 ⟨rfl, hb1⟩
        have HB1 := hid hb1
        clear hb1
        go_wp2_with fail
        refine (shorn_l L w1 h40 HA.out.2).mono ?_
        rintro e1 w2 ⟨rfl, rfl⟩
        go_wp2_with fail
        refine (upper_s L w1 h40 HA.out.2).mono ?_
        rintro e1 w2 ⟨rfl, hb2⟩
        have HB2 := hid (HB1.out.trans (hb2.mono HB1.out.size))
        clear hb2
        by_cases z0 : z = 0
        · subst z0
          cases bh with
          | true =>
            go_wp2_with fail
            refine (HTML_useB true 0 w2 HL.out _ (use_0is L) _ rfl).mono ?_
            rintro e1 w3 ⟨rfl, hb3⟩
            have HB3 := hid (HB2.out.trans (hb3.mono HB2.out.size))
            clear hb3
            rw [ref_o0]
            go_wp2_with fail
            go_ret
            exact ⟨rfl, HB3.out⟩
          | false =>
            go_wp2_with fail
            refine (HTML_useB false 0 w2 HL.out _ (use_0is L) _ rfl).mono ?_
            rintro e1 w3 ⟨rfl, hb3⟩
            have HB3 := hid (HB2.out.trans (hb3.mono HB2.out.size))
            clear hb3
            rw [ref_o0]
            go_wp2_with fail
            go_ret
            exact ⟨rfl, HB3.out⟩
        by_cases z1 : z = 1
        · subst z1
          go_wp2_with fail
          refine (shorn_l L w2 h40 HA.out.2).mono ?_
          rintro e1 w3 ⟨rfl, rfl⟩
          go_wp2_with fail
          refine (upper_s L w2 h40 HA.out.2).mono ?_
          rintro e1 w3 ⟨rfl, hb3⟩
          have HB3 := hid (HB2.out.trans (hb3.mono HB2.out.size))
          clear hb3
          cases bh with
          | true =>
            go_wp2_with fail
            refine (HTML_useB true 1 w3 HL.out _ (use_1is L) _ rfl).mono ?_
            rintro e1 w4 ⟨rfl, hb4⟩
            have HB4 := hid (HB3.out.trans (hb4.mono HB3.out.size))
            clear hb4
            rw [ref_o1]
            go_wp2_with fail
            go_ret
            exact ⟨rfl, HB4.out⟩
          | false =>
            go_wp2_with fail
            refine (HTML_useB false 1 w3 HL.out _ (use_1is L) _ rfl).mono ?_
            rintro e1 w4 ⟨rfl, hb4⟩
            have HB4 := hid (HB3.out.trans (hb4.mono HB3.out.size))
            clear hb4
            rw [ref_o1]
            go_wp2_with fail
            go_ret
            exact ⟨rfl, HB4.out⟩
        by_cases z2 : z = 2
        · subst z2
          go_wp2_with fail
          refine (shorn_l L w2 h40 HA.out.2).mono ?_
          rintro e1 w3 ⟨rfl, rfl⟩
          go_wp2_with fail
          refine (upper_s L w2 h40 HA.out.2).mono ?_
          rintro e1 w3 ⟨rfl, hb3⟩
          have HB3 := hid (HB2.out.trans (hb3.mono HB2.out.size))
          clear hb3
          cases bh with
          | true =>
            go_wp2_with fail
            refine (HTML_useB true 2 w3 HL.out _ (use_2is L) _ rfl).mono ?_
            rintro e1 w4 ⟨rfl, hb4⟩
            have HB4 := hid (HB3.out.trans (hb4.mono HB3.out.size))
            clear hb4
            rw [ref_o1]
            go_wp2_with fail
            go_ret
            exact ⟨rfl, HB4.out⟩
          | false =>
            go_wp2_with fail
            refine (HTML_useB false 2 w3 HL.out _ (use_2is L) _ rfl).mono ?_
            rintro e1 w4 ⟨rfl, hb4⟩
            have HB4 := hid (HB3.out.trans (hb4.mono HB3.out.size))
            clear hb4
            rw [ref_o1]
            go_wp2_with fail
            go_ret
            exact ⟨rfl, HB4.out⟩
        · have e0 : (z == 0) = false := by simpa using z0
          have e1 : (z == 1) = false := by simpa using z1
          have e2 : (z == 2) = false := by simpa using z2
          go_wp2_with fail
          go_ret
          exact ⟨rfl, HB2.out⟩
  · go_enter Tryz.func5, Tryz.ntmps5
    go_wp2_with fail
    go_ret
    exact ⟨rfl, Below.refl _ _⟩
end Go.Proofs.YtmmijmhdbpldpaaGreatDoor
/- Arguments of a law that are bytes. -/

namespace Go.Proofs.YtmmijmhdbpldpaaGreatDoor
open Go.RowKit Go.ChangeShapes Go.WideShapes Go.ChangeAt
/-- A byte, as a number below 256. -/
theorem open_byte {H : Type} {enc : TypeId × Value → H} {P : Program} {t : TypeId} (ht : P.underlying t = some (.int .u8)) {W : World} {base : Nat} {v : Value} {d : DataW H} {ps : List MemPlace}
    (hval : Value.okWide P W .any base t v) (h : DataW.Trod enc P W 0 (fun _ => true) true t v d ps) : ∃ n : Nat, v = .int .u8 n ∧ n < 256 := by
  obtain ⟨z, rfl, _, _, hw⟩ := open_int ht hval h
  have h3 : 0 ≤ z ∧ z ≤ 255 := by simpa [Lit.wf, IntKind.min, IntKind.max, IntKind.bits, IntKind.signed] using hw
  obtain ⟨n, rfl⟩ := Int.eq_ofNat_of_zero_le h3.1
  exact ⟨n, rfl, by omega⟩
end Go.Proofs.YtmmijmhdbpldpaaGreatDoor
/- The witness's world, for every law: the settled world, the eight listed variables holding what their initialisers lay. -/




namespace Go.Proofs.YtmmijmhdbpldpaaGreatDoor
open Go.RowKit Go.ChangeShapes Go.WideShapes Go.ChangeAt Go.Lib
/-- The cells of a datum of plain parts. -/
def flat1 : DataW Unit → List Value
  | .lit (.int k n) => [.int k n]
  | .lit (.string s) => [.string ⟨s.toArray⟩]
  | _ => []
def flat2 : DataW Unit → List Value
  | .agg ds => ds.flatMap flat1
  | d => flat1 d
def flat3 : DataW Unit → List Value
  | .agg ds => ds.flatMap flat2
  | d => flat2 d
noncomputable def laidWorld (os : Os) : World :=
  let N := (World.settled Tryz.prog os).heap.size
  let w0 := World.holding Tryz.prog os ⟨#[
    .cells #[.string ⟨#[105, 110, 118, 97, 108, 105, 100, 32, 115, 121, 110, 116, 97, 120]⟩] 310,
    .cells #[.string ⟨#[118, 97, 108, 117, 101, 32, 111, 117, 116, 32, 111, 102, 32, 114, 97, 110, 103, 101]⟩] 310], #[], []⟩
  let put (h : Array Obj) (g : Nat) (cs : Array Value) : Array Obj := h.modify g fun
    | .cells _ t frozen => .cells cs t frozen
    | o => o
  let h1 := put w0.heap 1 (flat3 Rows.laid_pub_paratext_pub_rscmarkdown_htmlEntities).toArray
  let h2 := put h1 2 (flat3 Rows.laid_unicode_utf8_first).toArray
  let h3 := put h2 3 (flat3 Rows.laid_unicode_utf8_acceptRanges).toArray
  let h4 := put h3 4 #[.iface 308 (.pointer (some ⟨N, 0, none⟩))]
  let h5 := put h4 5 #[.iface 308 (.pointer (some ⟨N + 1, 0, none⟩))]
  let h6 := put h5 6 (flat3 Rows.laid_internal_strconv_uint64pow10).toArray
  let h7 := put h6 7 (flat3 Rows.laid_math_bits_deBruijn32tab).toArray
  let h8 := put h7 8 (flat3 Rows.laid_math_bits_deBruijn64tab).toArray
  { w0 with heap := h8 }
noncomputable abbrev N0 : Nat := (World.settled Tryz.prog default).heap.size
set_option maxRecDepth 1000000 in
theorem laid_met (os : Os) (args : Array Value) : laidMet Tryz.prog Rows.fnAutoRow.laid ((laidWorld os).forCall (fun _ _ => 0) ⟨#[], args, []⟩).memory :=
  (LaidIn.of_run [1, 2, 3, 4, 5, 6, 7, 8, N0, N0 + 1] 8 (by kernel_rfl) (by kernel_rfl) (by kernel_rfl) (by kernel_rfl)).met
end Go.Proofs.YtmmijmhdbpldpaaGreatDoor
/- The closed facts that the row of FnReference asks of the program. -/


namespace Go.Proofs.YtmmijmhdbpldpaaGreatDoor.fnReference
open Go.ChangeShapes Go.WideShapes Go.ChangeAt Go.RowKit
set_option maxHeartbeats 8000000 in
set_option maxRecDepth 100000 in
theorem closed : joinedFacts Tryz.prog 5 Tryz.f5 (OpenSpec.ofChange Rows.fnReferenceSpec).bare Rows.fnReferenceRow = true := by
  unfold joinedFacts
  simp only [Bool.and_eq_true]
  repeat' (refine And.intro ?_ ?_)
  all_goals (as_aux_lemma => kernel_rfl)
theorem inst : Tryz.f5.isInstance Tryz.prog Rows.fnReferenceRow.origin Rows.fnReferenceRow.targs := of_decide_eq_true (by kernel_rfl)
theorem wrap : Tryz.f5.isWrapper Tryz.prog Rows.fnReferenceRow.wrapper Rows.fnReferenceRow.mainSum := by unfold Func.isWrapper; rw [if_neg (of_decide_eq_false (by kernel_rfl))]; exact ⟨rfl, rfl⟩
theorem looks : true = Tryz.prog.looks [] := by kernel_rfl
theorem named : Tryz.prog.funcNamed "pub-paratext/laws.FnReference" = some 5 := by kernel_rfl
theorem noStand0 : Tryz.prog.wantsStandIn 9 = false := by kernel_rfl
theorem read0 : Tryz.prog.readableRec 9 = true := by kernel_rfl
theorem lt0 : 9 < Tryz.prog.types.size := of_decide_eq_true (by kernel_rfl)
theorem noStand1 : Tryz.prog.wantsStandIn 4 = false := by kernel_rfl
theorem read1 : Tryz.prog.readableRec 4 = true := by kernel_rfl
theorem lt1 : 4 < Tryz.prog.types.size := of_decide_eq_true (by kernel_rfl)
theorem noStand2 : Tryz.prog.wantsStandIn 3 = false := by kernel_rfl
theorem read2 : Tryz.prog.readableRec 3 = true := by kernel_rfl
theorem lt2 : 3 < Tryz.prog.types.size := of_decide_eq_true (by kernel_rfl)
end Go.Proofs.YtmmijmhdbpldpaaGreatDoor.fnReference
/- The closed facts that the card of FnReference asks of the program. -/


namespace Go.Proofs.YtmmijmhdbpldpaaGreatDoor.fnReference
open Go.ChangeShapes Go.WideShapes Go.ChangeAt Go.RowKit
theorem goes : false = Rows.fnReferenceRow.goesBy Tryz.pinned.checked.prog := by kernel_rfl
theorem wfBy : Rows.fnReferenceRow.wfByText (OpenSpec.ofChange Rows.fnReferenceSpec) = true := by kernel_rfl
theorem mainIs : Tryz.pinned.checked.prog.mainIs = some ((true, "95e68baec09978130d1dc4d5052b3c4126b0390ccf37554e0a187599024dd8dc").1, (true, "95e68baec09978130d1dc4d5052b3c4126b0390ccf37554e0a187599024dd8dc").2.toList) := by kernel_rfl
end Go.Proofs.YtmmijmhdbpldpaaGreatDoor.fnReference
/- PROVED: a label of a definition, in capital letters and with other blanks, is a reference to it, in each of the three forms, whether the definition stands ahead or behind (the law FnReference returns true). -/






namespace Go.Proofs.YtmmijmhdbpldpaaGreatDoor.fnReference
open Go.ChangeShapes Go.WideShapes Go.ChangeAt Go.RowKit
theorem bytes_back (s : ByteArray) : (⟨s.data.toList.toArray⟩ : ByteArray) = s := by simp
set_option maxRecDepth 100000 in
/-- What the walk gives, for every argument and every world. -/
theorem contract (H : Type) (enc : TypeId × Value → H) (W : World) (base : Nat) (args : Array Value) (ds gs : List (DataW H)) (before : List MemPlace)
    (hval : ∀ (j : Nat) t v, Tryz.f5.params[j]? = some t → args[j]? = some v → Value.okWide Tryz.prog W .any base t v)
    (hW : DataW.Whole enc Tryz.prog Tryz.f5.params.toList Rows.fnReferenceSpec.vars false W args.toList ds gs before) :
    Calls Tryz.prog 5 args W fun e W' => ∃ v, e = .returned v ∧ Rows.fnReferenceSpec.post enc Tryz.prog Tryz.f5 false true false false W args v W' := by
  have hW' := hW
  obtain ⟨p, q, hA0, hV, rfl, hfz, hnd⟩ := hW
  have hAk := hA0
  have hA : DataW.TrodAll enc Tryz.prog W 0 (fun _ => true) true Tryz.f5.params.toList args.toList ds p := hA0
  rw [Tryz.params5] at hA hval
  obtain ⟨v0, vs0, d0, ds0, p0, q0, hargs0, rfl, rfl, h0, r0⟩ := trodAll_cons hA
  obtain ⟨v1, vs1, d1, ds1, p1, q1, rfl, rfl, rfl, h1, r1⟩ := trodAll_cons r0
  obtain ⟨v2, vs2, d2, ds2, p2, q2, rfl, rfl, rfl, h2, r2⟩ := trodAll_cons r1
  obtain ⟨rfl, rfl, rfl⟩ := trodAll_nil r2
  obtain rfl : args = #[v0, v1, v2] := by cases args; simp_all
  obtain ⟨rfl, rfl⟩ := trodVars_none hV
  obtain ⟨l0, rfl, _, _, hl0⟩ := Go.ChangeMaps.open_string Tryz.underlying9 (hval 0 9 v0 rfl rfl) h0
  have hll0 : l0.data.toList.length ≤ 9223372036854775807 := by
    have : l0.data.toList.length = l0.size := Array.length_toList
    unfold maxLen at hl0
    omega
  obtain ⟨b1, rfl, _, _⟩ := open_bool Tryz.underlying4 (hval 1 4 v1 rfl rfl) h1
  obtain ⟨z2, rfl, _, _, _⟩ := open_int Tryz.underlying3 (hval 2 3 v2 rfl rfl) h2
  have hlaw := law_reference l0.data.toList b1 z2 W hll0
  rw [bytes_back] at hlaw
  refine hlaw.mono fun e W' ⟨he, hg⟩ => ?_
  subst he
  exact ⟨_, rfl, post_true hW' hAk rfl rfl rfl rfl rfl rfl (by rw [Tryz.params5]; intro t ht; simp at ht; rcases ht with rfl | rfl | rfl; (· exact ⟨read0, lt0⟩); (· exact ⟨read1, lt1⟩); exact ⟨read2, lt2⟩) hg⟩

theorem reads (os : Os) {H : Type} (enc : TypeId × Value → H) : ∃ places, DataW.whole enc Tryz.prog ((laidWorld os).forCall (fun _ _ => 0) ⟨#[], #[.string ⟨#[]⟩, .bool false, .int .i64 0], []⟩).memory Tryz.f5.params.toList Rows.fnReferenceSpec.vars false #[Value.string ⟨#[]⟩, Value.bool false, Value.int .i64 0].toList 8 = some ([.lit (.string []), .lit (.bool false), .lit (.int .i64 0)], [], places) :=
  ⟨[], by kernel_rfl⟩

set_option maxRecDepth 100000 in
theorem lifted (os : Os) (started : os.Started) (H : Type) (enc : TypeId × Value → H) (F : Stop.Interp) :
    ReturnsInHanded {} Tryz.checked os 5 .any ((OpenSpec.ofChange Rows.fnReferenceSpec).preRow enc Tryz.prog Tryz.f5 Rows.fnReferenceRow.domain false Rows.fnReferenceRow.laid) (((OpenSpec.ofChange Rows.fnReferenceSpec).at F).post enc Tryz.prog Tryz.f5 false true false false) := by
  obtain ⟨places, hx⟩ := reads os enc
  refine returnsInHanded_of_row (C := Tryz.checked) (s := OpenSpec.ofChange Rows.fnReferenceSpec) own started (by kernel_rfl) Tryz.func5
    (witness_row_atRef (enc := enc) (C := Tryz.checked) false (laidWorld os) #[.string ⟨#[]⟩, .bool false, .int .i64 0] rfl (by kernel_rfl) (by kernel_rfl) (by kernel_rfl)
      (OpenSpec.preRow_of_cond 8 hx (by kernel_rfl) (fun k hk => by cases hk) (by kernel_rfl) (laid_met os _))) ?_
  intro W base args ds gs before hval hW _ _ _ _ _ _
  exact contract H enc W base args ds gs before hval hW

theorem said : Rows.FnReferenceSaid :=
  OpenClaim.holds_of_cond 5 Tryz.f5 rfl rfl rfl rfl rfl rfl rfl ⟨rfl, rfl, rfl, rfl, rfl⟩ rfl rfl rfl rfl rfl named Tryz.func5 closed inst wrap
    (fun os started H enc _ F => by rw [OpenClaim.pre_eq_preRow]; exact lifted os started H enc F)

theorem plain (f : FuncId) (fn : Func) (hf : Tryz.pinned.checked.prog.funcNamed "pub-paratext/laws.FnReference" = some f) (hfn : Tryz.pinned.checked.prog.funcs[f]? = some fn) :
    true = Tryz.pinned.checked.prog.looks [] ∧ ∀ (j : Nat) t, fn.params[j]? = some t → Tryz.pinned.checked.prog.wantsStandIn t = false := by
  obtain rfl : f = 5 := Option.some.inj (named.symm.trans hf) |>.symm
  obtain rfl : fn = Tryz.f5 := (Option.some.inj (Tryz.func5.symm.trans hfn)).symm
  refine ⟨looks, fun j t ht => ?_⟩
  rw [Tryz.params5] at ht
  have h : t = 9 ∨ t = 4 ∨ t = 3 := by simpa using Array.mem_of_getElem? ht
  rcases h with rfl | rfl | rfl
  · exact noStand0
  · exact noStand1
  · exact noStand2

theorem card : Rows.FnReferenceCardSaid :=
  Claim7.holds_tied_plain_at .later [] _ _ _ _ said (fun _ h => by cases h) wfBy (fun _ h => by cases h) fnReference_row_tie rfl ⟨rfl, rfl⟩ mainIs rfl plain goes
end Go.Proofs.YtmmijmhdbpldpaaGreatDoor.fnReference
