/- Texts of this proof, joined: The loop of (*parseState).inline: a text is read, each sign that asks for a parser by this one's contract. (Its frame is printed by wip/gen_inl.py.), What a text prints, from how it is read, No list item begins with digits that no full stop and no bracket follow. -/
import Derived.Test.YtmmijmhdbpldpaaGreatDoorCInt10
import Derived.Test.YtmmijmhdbpldpaaGreatDoorCInt08
import Derived.Test.YtmmijmhdbpldpaaGreatDoorCInt04
import Derived.Test.YtmmijmhdbpldpaaGreatDoorCInt01
import Derived.Test.YtmmijmhdbpldpaaGreatDoorCInt06
import Derived.Deep.DeepCutAuto
import Derived.Shelf.Strings.Builder1
import Derived.Ground.NamesProg
import Derived.Test.YtmmijmhdbpldpaaGreatDoorProg
/- The loop of (*parseState).inline: a text is read, each sign that asks for a parser by this one's contract. (Its frame is printed by wip/gen_inl.py.) -/






namespace Go.Proofs.YtmmijmhdbpldpaaGreatDoor
open Go.RowKit
/-- The parser that a character asks for, and what is bound in it. -/
def parF (o : Opt) (g : Nat) (c : Int) : Option (FuncId × Array Value) :=
  if c = 92 then some (65, #[])
  else if c = 96 then some (67, #[.pointer (some ⟨g, 12, none⟩)])
  else if c = 60 then some (68, #[])
  else if c = 91 then some (69, #[])
  else if c = 33 then some (70, #[])
  else if c = 95 ∨ c = 42 then some (71, #[])
  else if c = 46 then (if o.dots then some (72, #[]) else none)
  else if c = 45 then (if o.dashes then some (73, #[]) else none)
  else if c = 34 ∨ c = 39 then (if o.quotes then some (71, #[]) else none)
  else if c = 126 then (if o.del then some (71, #[]) else none)
  else if c = 10 then some (74, #[])
  else if c = 38 then some (75, #[])
  else if c = 58 then (if o.emoji then some (76, #[]) else none)
  else none
def zeroBack : List Value := List.replicate 80 (.int .i64 0) ++ [.bool false]
@[reducible] def tkAt (c : Int) (tk : Bool) : Bool := tk || decide (c = 96)
@[reducible] def bkAt (c : Int) (tk : Bool) (bk : List Value) : List Value := if c = 96 ∧ tk = false then zeroBack else bk
@[reducible] def psAt (r : PSr) (s : ByteArray) (c : Bool) (bk : List Value) : PSr := { r with s := s, corner := c, back := bk }
/-- What a parser leaves. -/
def ParP (B g : Nat) (r : PSr) (s : ByteArray) (J : Nat → Nat → Bool → List Value → List Kind → Prop) (i em : Nat) (tk : Bool) (ks : List Kind) (w : World) (e : Ending) (w' : World) : Prop :=
  ∃ c bk, InS B g (psAt r s c bk) em ks w' ∧ Mod (fun k => k = g ∨ B ≤ k) w w' ∧
    ((∃ x st en, e = .returned (.tuple #[x, st, en, .bool false]) ∧ J (i + 1) em tk bk ks) ∨
     (∃ (v : Value) (k : Kind) (st en : Nat), e = .returned (.tuple #[v, .int .i64 st, .int .i64 en, .bool true]) ∧ IsItem w' B v k ∧ k.Sure ∧ em ≤ st ∧ st ≤ s.size ∧ i < en ∧ st ≤ en ∧ en ≤ s.size ∧ J en en tk bk (ks ++ pieceK s em st ++ [k])))
/-- How a text is read: J holds ahead of each sign, Fin of the whole list. -/
structure InlH (o : Opt) (B g : Nat) (r : PSr) (s : ByteArray) (w : World) (J : Nat → Nat → Bool → List Value → List Kind → Prop) (Fin : List Kind → Prop) : Prop where
  start : J 0 0 false r.back []
  fin : ∀ em tk bk ks, J s.size em tk bk ks → Fin (ks ++ pieceK s em s.size)
  quiet : ∀ i em tk bk ks, J i em tk bk ks → em ≤ i → i < s.size → parF o g (bt s i) = none → J (i + 1) em tk bk ks
  tick : ∀ i em tk bk ks, J i em tk bk ks → em ≤ i → i < s.size → bt s i = 96 → tk = false → ∀ c W, InS B g (psAt r s c bk) em ks W → Calls Tryz.prog 66 #[.pointer (some ⟨g, 12, none⟩)] W fun e w' => e = .returned (.tuple #[]) ∧ InS B g (psAt r s c zeroBack) em ks w' ∧ Mod (fun k => k = g) W w'
  call : ∀ i em tk bk ks f rv, J i em tk bk ks → em ≤ i → i < s.size → parF o g (bt s i) = some (f, rv) → ∀ c W, InS B g (psAt r s c (bkAt (bt s i) tk bk)) em ks W → Mod (fun k => k = g ∨ B ≤ k) w W →
    Calls Tryz.prog f (rv ++ #[.pointer (some ⟨g, 0, none⟩), .string s, .int .i64 i]) W (ParP B g r s J i em (tkAt (bt s i) tk) ks W)
/-- What is known at the loop's head. -/
def InlR (B g : Nat) (r : PSr) (s : ByteArray) (J : Nat → Nat → Bool → List Value → List Kind → Prop) (w : World) (i : Nat) (tk : Bool) (wr : World) : Prop :=
  ∃ em c bk ks, i ≤ s.size ∧ em ≤ i ∧ ks.length ≤ 2 * em ∧ (∀ k ∈ ks, k.Sure) ∧ InS B g (psAt r s c bk) em ks wr ∧ J i em tk bk ks ∧ Mod (fun k => k = g ∨ B ≤ k) w wr
/-- What is known behind the switch. -/
def SwR (o : Opt) (B g : Nat) (r : PSr) (s : ByteArray) (i em : Nat) (tk : Bool) (c : Bool) (bk : List Value) (ks : List Kind) (wr : World) (tk2 : Bool) (fv : Value) (wx : World) : Prop :=
  (parF o g (bt s i) = none ∧ fv = .nilFunc ∧ tk2 = tk ∧ wx = wr) ∨
  (∃ f rv, parF o g (bt s i) = some (f, rv) ∧ fv = .func (Fn.func f) rv #[] ∧ tk2 = tkAt (bt s i) tk ∧ InS B g (psAt r s c (bkAt (bt s i) tk bk)) em ks wx ∧ Mod (fun k => k = g) wr wx)
def nthV : List Value → Nat → Value
  | [], _ => undef
  | a :: _, 0 => a
  | _ :: l, n + 1 => nthV l n
@[reducible] def inlFrame (g : Nat) (s : ByteArray) (tk : Bool) (i : Int) (U : Nat → Value) : Act := { tmps := #[.pointer (some ⟨g, 0, none⟩), .string s, U 2, U 3, .slice none 0 0, .slice none 0 0, .int .i64 0, .bool tk, .int .i64 i, U 9, U 10, U 11, U 12, U 13, U 14, U 15, undef, undef, undef, undef, undef, U 21, U 22, U 23, U 24, U 25, U 26, U 27, U 28, U 29, U 30, U 31, U 32, U 33, U 34, U 35, U 36, U 37, U 38, U 39, U 40, U 41, U 42, U 43, U 44, U 45, U 46, U 47, U 48, U 49, U 50, U 51, U 52, U 53, U 54, U 55, U 56, U 57, U 58, U 59, U 60, U 61, U 62, U 63, U 64, U 65, U 66, U 67, U 68, U 69, U 70, U 71, U 72, U 73, U 74, U 75, U 76, U 77, U 78, U 79, U 80, U 81, U 82, U 83, U 84, U 85, U 86, U 87, U 88, U 89, U 90, U 91, U 92, U 93, U 94, U 95, U 96, U 97, U 98, U 99, U 100, U 101, U 102, U 103, U 104, U 105, U 106, U 107, U 108, U 109, U 110, U 111, U 112, U 113, U 114, U 115, U 116, U 117, U 118, U 119, U 120, U 121, U 122, U 123, U 124, U 125, U 126, U 127, U 128, U 129, U 130, U 131, U 132, U 133, U 134, undef, undef, undef, undef, undef, undef, undef, undef, U 143, U 144, U 145, U 146, U 147, U 148, U 149, U 150, U 151, U 152, U 153, U 154, U 155, U 156, U 157, U 158, U 159, U 160, U 161, U 162, U 163, U 164, U 165, undef, undef, undef, undef, undef, undef, undef, undef, undef, undef, undef, undef, undef, undef, undef, undef, undef, undef, undef, undef, undef, undef, undef, undef, undef, undef, undef, undef, undef, undef, undef, undef, undef, undef, undef, undef, undef, undef, undef, undef, undef, undef, undef, undef, undef, undef, undef, undef, undef, undef, undef, undef, undef, undef, undef, undef, undef, undef, undef, undef, undef, undef, undef, undef, undef, undef, undef, undef, undef, undef, undef, undef, undef, undef, undef, undef, undef, undef, undef, undef, undef, undef, undef, undef, undef, undef, undef, undef, undef, undef, undef, undef, undef, undef, undef, undef, undef, undef, undef, undef, undef, undef, undef, undef, undef, undef, undef, undef, undef, undef, undef, undef, undef, undef, undef, undef, undef, undef, undef, undef, undef, undef, undef, undef, undef, undef, undef, U 293, U 294, undef, undef, undef, undef, undef, undef, undef, undef, undef, undef, undef, undef, undef, undef, undef, undef, undef, undef, undef, undef, undef, undef, undef, undef, undef, undef, undef, undef, undef, undef, undef, undef, undef, undef, undef, undef, undef, undef, undef, undef], defers := [] }
def inlList (g : Nat) (s : ByteArray) (tk : Bool) (i : Int) (U : Nat → Value) : List Value := [.pointer (some ⟨g, 0, none⟩), .string s, U 2, U 3, .slice none 0 0, .slice none 0 0, .int .i64 0, .bool tk, .int .i64 i, U 9, U 10, U 11, U 12, U 13, U 14, U 15, undef, undef, undef, undef, undef, U 21, U 22, U 23, U 24, U 25, U 26, U 27, U 28, U 29, U 30, U 31, U 32, U 33, U 34, U 35, U 36, U 37, U 38, U 39, U 40, U 41, U 42, U 43, U 44, U 45, U 46, U 47, U 48, U 49, U 50, U 51, U 52, U 53, U 54, U 55, U 56, U 57, U 58, U 59, U 60, U 61, U 62, U 63, U 64, U 65, U 66, U 67, U 68, U 69, U 70, U 71, U 72, U 73, U 74, U 75, U 76, U 77, U 78, U 79, U 80, U 81, U 82, U 83, U 84, U 85, U 86, U 87, U 88, U 89, U 90, U 91, U 92, U 93, U 94, U 95, U 96, U 97, U 98, U 99, U 100, U 101, U 102, U 103, U 104, U 105, U 106, U 107, U 108, U 109, U 110, U 111, U 112, U 113, U 114, U 115, U 116, U 117, U 118, U 119, U 120, U 121, U 122, U 123, U 124, U 125, U 126, U 127, U 128, U 129, U 130, U 131, U 132, U 133, U 134, undef, undef, undef, undef, undef, undef, undef, undef, U 143, U 144, U 145, U 146, U 147, U 148, U 149, U 150, U 151, U 152, U 153, U 154, U 155, U 156, U 157, U 158, U 159, U 160, U 161, U 162, U 163, U 164, U 165, undef, undef, undef, undef, undef, undef, undef, undef, undef, undef, undef, undef, undef, undef, undef, undef, undef, undef, undef, undef, undef, undef, undef, undef, undef, undef, undef, undef, undef, undef, undef, undef, undef, undef, undef, undef, undef, undef, undef, undef, undef, undef, undef, undef, undef, undef, undef, undef, undef, undef, undef, undef, undef, undef, undef, undef, undef, undef, undef, undef, undef, undef, undef, undef, undef, undef, undef, undef, undef, undef, undef, undef, undef, undef, undef, undef, undef, undef, undef, undef, undef, undef, undef, undef, undef, undef, undef, undef, undef, undef, undef, undef, undef, undef, undef, undef, undef, undef, undef, undef, undef, undef, undef, undef, undef, undef, undef, undef, undef, undef, undef, undef, undef, undef, undef, undef, undef, undef, undef, undef, undef, undef, undef, undef, undef, undef, undef, U 293, U 294, undef, undef, undef, undef, undef, undef, undef, undef, undef, undef, undef, undef, undef, undef, undef, undef, undef, undef, undef, undef, undef, undef, undef, undef, undef, undef, undef, undef, undef, undef, undef, undef, undef, undef, undef, undef, undef, undef, undef, undef]
theorem frame_eq {g : Nat} {s : ByteArray} {tk : Bool} {i : Int} (L : List Value) (h : inlList g s tk i (nthV L) = L) : ({ tmps := L.toArray, defers := [] } : Act) = inlFrame g s tk i (nthV L) := by
  have : inlFrame g s tk i (nthV L) = { tmps := (inlList g s tk i (nthV L)).toArray, defers := [] } := rfl
  rw [this, h]
def InlI (B g : Nat) (r : PSr) (s : ByteArray) (J : Nat → Nat → Bool → List Value → List Kind → Prop) (w : World) (a : Act) (wr : World) : Prop := ∃ (i : Nat) (tk : Bool) (U : Nat → Value), InlR B g r s J w i tk wr ∧ a = inlFrame g s tk i U
def InlC2 (g : Nat) (s : ByteArray) (i : Nat) (R : Bool → Value → World → Prop) (a : Act) (wx : World) : Prop := ∃ (tk : Bool) (U : Nat → Value), R tk (U 9) wx ∧ a = inlFrame g s tk i U
theorem parF_enters {o : Opt} {g : Nat} {c : Int} {f : FuncId} {rv : Array Value} (h : parF o g c = some (f, rv)) : ∀ args W, (callFunc f args).run Tryz.prog W = .ok (.enter f args) W := by
  intro args W
  unfold parF at h
  by_cases h0 : c = 92
  · rw [if_pos h0] at h
    cases h
    exact Go.Proofs.enters_of Tryz.func65 (by kernel_rfl) rfl args W
  rw [if_neg h0] at h
  by_cases h1 : c = 96
  · rw [if_pos h1] at h
    cases h
    exact Go.Proofs.enters_of Tryz.func67 (by kernel_rfl) rfl args W
  rw [if_neg h1] at h
  by_cases h2 : c = 60
  · rw [if_pos h2] at h
    cases h
    exact Go.Proofs.enters_of Tryz.func68 (by kernel_rfl) rfl args W
  rw [if_neg h2] at h
  by_cases h3 : c = 91
  · rw [if_pos h3] at h
    cases h
    exact Go.Proofs.enters_of Tryz.func69 (by kernel_rfl) rfl args W
  rw [if_neg h3] at h
  by_cases h4 : c = 33
  · rw [if_pos h4] at h
    cases h
    exact Go.Proofs.enters_of Tryz.func70 (by kernel_rfl) rfl args W
  rw [if_neg h4] at h
  by_cases h5 : c = 95 ∨ c = 42
  · rw [if_pos h5] at h
    cases h
    exact Go.Proofs.enters_of Tryz.func71 (by kernel_rfl) rfl args W
  rw [if_neg h5] at h
  by_cases h6 : c = 46
  · rw [if_pos h6] at h
    by_cases k : o.dots = true
    · rw [if_pos k] at h
      cases h
      exact Go.Proofs.enters_of Tryz.func72 (by kernel_rfl) rfl args W
    · rw [if_neg k] at h
      cases h
  rw [if_neg h6] at h
  by_cases h7 : c = 45
  · rw [if_pos h7] at h
    by_cases k : o.dashes = true
    · rw [if_pos k] at h
      cases h
      exact Go.Proofs.enters_of Tryz.func73 (by kernel_rfl) rfl args W
    · rw [if_neg k] at h
      cases h
  rw [if_neg h7] at h
  by_cases h8 : c = 34 ∨ c = 39
  · rw [if_pos h8] at h
    by_cases k : o.quotes = true
    · rw [if_pos k] at h
      cases h
      exact Go.Proofs.enters_of Tryz.func71 (by kernel_rfl) rfl args W
    · rw [if_neg k] at h
      cases h
  rw [if_neg h8] at h
  by_cases h9 : c = 126
  · rw [if_pos h9] at h
    by_cases k : o.del = true
    · rw [if_pos k] at h
      cases h
      exact Go.Proofs.enters_of Tryz.func71 (by kernel_rfl) rfl args W
    · rw [if_neg k] at h
      cases h
  rw [if_neg h9] at h
  by_cases h10 : c = 10
  · rw [if_pos h10] at h
    cases h
    exact Go.Proofs.enters_of Tryz.func74 (by kernel_rfl) rfl args W
  rw [if_neg h10] at h
  by_cases h11 : c = 38
  · rw [if_pos h11] at h
    cases h
    exact Go.Proofs.enters_of Tryz.func75 (by kernel_rfl) rfl args W
  rw [if_neg h11] at h
  by_cases h12 : c = 58
  · rw [if_pos h12] at h
    by_cases k : o.emoji = true
    · rw [if_pos k] at h
      cases h
      exact Go.Proofs.enters_of Tryz.func76 (by kernel_rfl) rfl args W
    · rw [if_neg k] at h
      cases h
  rw [if_neg h12] at h
  cases h
/-- What the reading of a text leaves: the list, with neighbouring plain texts as one. -/
theorem plainK_sure (l : List UInt8) : (plainK l).Sure := ⟨plainK_ok l, fun h => by rw [plainOf_plain] at h; cases h⟩
set_option maxRecDepth 20000 in
set_option maxHeartbeats 16000000 in
theorem inline_loop (o : Opt) (g : Nat) (r : PSr) (s0 s : ByteArray) (w : World) (J : Nat → Nat → Bool → List Value → List Kind → Prop) (Fin : List Kind → Prop) (hps : IsPS w g r) (hpar : Blk w r.parser 77 o.parser) (hne : r.parser ≠ g) (out : List UInt8)
    (hs0 : s0.size ≤ 100000) (hs : s = ⟨(trimR (trimL s0.data.toList)).toArray⟩) (hsz : s.size ≤ 100000) (H : InlH o w.heap.size g r s w J Fin) (hfin : ∀ ks, Fin ks → (∀ k ∈ ks, k.Sure) → ks ≠ [] ∧ (ks.filterMap plainOf).flatten.length ≤ 1000000 ∧ AutP o w.heap.size g r out (mergeA [] ks)) :
    Calls Tryz.prog 56 #[.pointer (some ⟨g, 0, none⟩), .string s0] w (InlPost g r out w) := by
  obtain ⟨is0, his0, hsz0, hsz1, hsz2⟩ := info_parts infoInl
  have HH := hid H
  have HPS := hid hps
  have HPAR := hid hpar
  have HFIN := hid hfin
  have hgl := hps.lt
  have hpl := hpar.lt
  have fq := hps.free
  have c7 := hps.c7
  have c8 := hps.c8
  have c9 := hps.c9
  have hT : Calls Tryz.prog 64 #[.string s0] w fun e w' => e = .returned (.string s) ∧ w = w' := by rw [hs]; exact trimST_any s0 w hs0
  have HT := hid hT
  clear hT hs
  have hgB : g < w.heap.size := hgl
  clear H hps hpar hfin
  have hin0 : Hid (InS w.heap.size g (psAt r s r.corner r.back) 0 [] (World.setCell (World.setCell (World.setCell w ⟨g, 7, none⟩ (.string s)) ⟨g, 9, none⟩ (.slice none 0 0)) ⟨g, 8, none⟩ (.int .i64 0))) := hid ⟨Sl.nil, [], ((HPS.out.set7 s).set9 none 0 0).set8 0, World.ownsRow_nil _ _ _ _, rfl, IsItems.nil _ _⟩
  have hm0 : Hid (Mod (fun k => k = g ∨ w.heap.size ≤ k) w (World.setCell (World.setCell (World.setCell w ⟨g, 7, none⟩ (.string s)) ⟨g, 9, none⟩ (.slice none 0 0)) ⟨g, 8, none⟩ (.int .i64 0))) := hid ((((Mod.refl _ w).setCell (p := ⟨g, 7, none⟩) (.inl (.inl rfl)) _).setCell (p := ⟨g, 9, none⟩) (.inl (.inl rfl)) _).setCell (p := ⟨g, 8, none⟩) (.inl (.inl rfl)) _)
  go_enter Tryz.func56, Tryz.ntmps56
  go_wp2_with (first | (go_at_call 64; refine HT.out.mono ?_; rintro e w' ⟨rfl, rfl⟩))
  generalize World.setCell (World.setCell (World.setCell w ⟨g, 7, none⟩ (.string s)) ⟨g, 9, none⟩ (.slice none 0 0)) ⟨g, 8, none⟩ (.int .i64 0) = w1 at hin0 hm0 ⊢
  clear fq c7 c8 c9
  refine wp_loop (InlI w.heap.size g r s J w) (fun a _ => s.size - (intOf (a.tmps.getD 8 undef)).toNat) ?_ ?_
  · exact ⟨0, false, nthV _, ⟨0, r.corner, r.back, [], Nat.zero_le _, Nat.le_refl _, Nat.le_refl _, (fun k hk => by cases hk), hin0.out, HH.out.start, hm0.out⟩, frame_eq _ (by kernel_rfl)⟩
  · clear hin0 hm0
    rintro a0 wr ⟨i, tk, U, ⟨em, c, bk, ks, hi, hem, hkl, hsu, hin, hj, hm⟩, rfl⟩
    try dsimp only
    have HIN := hid hin
    have HJ := hid hj
    have HM := hid hm
    have HSU := hid hsu
    clear hin hj hm hsu
    by_cases hlt : i < s.size
    · have hb := get_bt s
      obtain ⟨l, vs, hps1, _, _, _⟩ := HIN.out
      have c0 := hps1.c0
      dsimp only [psAt] at c0
      have hpar1 : Blk wr r.parser 77 o.parser := HPAR.out.mod HM.out (by omega)
      go_upto_block 2 with fail
      refine wp_cut (InlC2 g s i (SwR o w.heap.size g r s i em tk c bk ks wr)) ?_ ?_
      · clear c0 hpar1 hps1
        rintro a2 wx ⟨tk2, U2, hcut, rfl⟩
        try dsimp only
        rcases hcut with ⟨hpf, h9, rfl, rfl⟩ | ⟨f, rv, hpf, h9, rfl, hin5, hm5⟩
        · dsimp only [inlFrame]
          rw [h9]
          have HJ2 := hid (HH.out.quiet i em tk2 bk ks HJ.out hem hlt hpf)
          clear h9 hpf
          have hnn : ∀ W, (Go.binOp BinOp.neq 130 Value.nilFunc Value.nilFunc).run Tryz.prog W = .ok (.bool false) W := fun W => by kernel_rfl
          by_cases z93 : bt s i = 93
          · go_wp2_with fail
            refine ⟨⟨i + 1, tk2, nthV _, ⟨em, c, bk, ks, hlt, by omega, hkl, HSU.out, HIN.out, HJ2.out, HM.out⟩, frame_eq _ (by kernel_rfl)⟩, ?_⟩
            simp [intOf]; omega
          · have b93 : (bt s i == 93) = false := by simpa using z93
            go_wp2_with fail
            refine ⟨⟨i + 1, tk2, nthV _, ⟨em, c, bk, ks, hlt, by omega, hkl, HSU.out, HIN.out, HJ2.out, HM.out⟩, frame_eq _ (by kernel_rfl)⟩, ?_⟩
            simp [intOf]; omega
        · dsimp only [inlFrame]
          rw [h9]
          have hmx : Mod (fun k => k = g ∨ w.heap.size ≤ k) w wx := HM.out.trans hm5 (fun k _ e => .inl e)
          have HC := hid (HH.out.call i em tk bk ks f rv HJ.out hem hlt hpf c wx hin5 hmx)
          have HMX := hid hmx
          clear h9 hin5 hm5 hmx
          generalize tkAt (bt s i) tk = tk3 at HC ⊢
          have hent := parF_enters hpf
          have hnn : ∀ W, (Go.binOp BinOp.neq 130 (Value.func (Fn.func f) rv #[]) Value.nilFunc).run Tryz.prog W = .ok (.bool true) W := fun W => by kernel_rfl
          go_wp2_with fail
          refine HC.out.mono ?_
          rintro e w6 ⟨c6, bk6, hin6, hm6, hcase⟩
          have HIN6 := hid hin6
          have HM6 := hid (HMX.out.trans hm6 (fun _ _ h => h))
          clear hin6 hm6 HC
          rcases hcase with ⟨x, st, en, rfl, hj6⟩ | ⟨v, k, st, en, rfl, hit, hks, q1, q2, q3, q4, q5, hj6⟩
          · have HJ6 := hid hj6
            clear hj6
            by_cases z93 : bt s i = 93
            · go_wp2_with fail
              refine ⟨⟨i + 1, _, nthV _, ⟨em, c6, bk6, ks, hlt, by omega, hkl, HSU.out, HIN6.out, HJ6.out, HM6.out⟩, frame_eq _ (by kernel_rfl)⟩, ?_⟩
              simp [intOf]; omega
            · have b93 : (bt s i == 93) = false := by simpa using z93
              go_wp2_with fail
              refine ⟨⟨i + 1, _, nthV _, ⟨em, c6, bk6, ks, hlt, by omega, hkl, HSU.out, HIN6.out, HJ6.out, HM6.out⟩, frame_eq _ (by kernel_rfl)⟩, ?_⟩
              simp [intOf]; omega
          · obtain ⟨ib, rfl, hib, hibB⟩ := hit
            have HJ6 := hid hj6
            have HKS := hid hks
            have hBw6 : w.heap.size ≤ w6.heap.size := HM6.out.size
            have HE := hid (emit_any w.heap.size g (psAt r s c6 bk6) em st ks w6 hgB hBw6 HIN6.out (fun k hk => (HSU.out k hk).1) q1 q2 (by omega))
            have HIB := hid (show IsItem w6 w.heap.size (.iface k.T (.pointer (some ⟨ib, 0, none⟩))) k from ⟨ib, rfl, hib, hibB⟩)
            have ta := hks.1.open_ (some ⟨ib, 0, none⟩)
            clear hj6 hks hib
            go_wp2_with fail
            refine HE.out.mono ?_
            rintro e w7 ⟨rfl, hin7, hm7, hit7⟩
            have HIT7 := hid (hit7 _ k HKS.out.1 HIB.out)
            have HM7 := hid (HM6.out.trans hm7 (fun _ _ h => h))
            have hpk : (pieceK s em st).length ≤ 1 := by unfold pieceK; split <;> simp
            have hkl7 : (ks ++ pieceK s em st).length ≤ 2 * em + 1 := by rw [List.length_append]; omega
            have HSU7 : Hid (∀ k ∈ ks ++ pieceK s em st, k.Sure) := hid (fun k hk => by
              rcases List.mem_append.1 hk with h | h
              · exact HSU.out k h
              · unfold pieceK at h
                split at h
                · simp only [List.mem_cons, List.not_mem_nil, or_false] at h
                  subst h
                  exact plainK_sure _
                · cases h)
            obtain ⟨l7, vs7, hps7, hrow7, hln7, hits7⟩ := hin7
            have c9 := hps7.c9
            have f7 := hps7.free
            have HPS7 := hid hps7
            have HROW7 := hid hrow7
            have HITS7 := hid hits7
            have HLN7 := hid hln7
            have hn7 : l7.n ≤ 300000 := by rw [hln7]; omega
            clear hm7 hit7 hps7 hrow7 hits7 hln7 HE HIN6 HIB HMX
            go_wp2_with (at_builtin; refine wpList_append_lies _ rfl (.tmp 147) (.tmp 149) 88 (by rfl) w.heap.size 132 is0 _ 1 16 Tryz.underlying88 his0 hsz0 hsz1 hsz2 rfl (by decide) (.slice l7.a l7.n l7.c) l7.n vs7 (by rfl) (HROW7.out.alloc _) ⟨w7.heap.size, 0, none⟩ 1 1 [.iface k.T (.pointer (some ⟨ib, 0, none⟩))] (by rfl) rfl (World.news_of_block (heap_alloc_new _ _)) (by intro v hv; simp at hv; subst hv; rfl) (by omega) (by unfold maxLen; omega) (by omega) (by have := HM7.out.size; simp; omega) (w7.heap.size + 1) (by simp) ?_; intro g2 cap2 w8 hown8 hgr8 hat8 hlt8; have hp8 := Blk.grown (Blk.alloc HPS7.out (.cells #[.iface k.T (.pointer (some ⟨ib, 0, none⟩))] 132)) hgr8 (own_ne HROW7.out HPS7.out (by decide)); have q9 := IsPS.c9 hp8; have f8 := Blk.free hp8)
            have hpush := InS.push (r := psAt r s c6 bk6) (em := st) HPS7.out HROW7.out HLN7.out HITS7.out (fun q hq => (HSU7.out q hq).1) HKS.out.1 HIT7.out hown8 hgr8
            have HPU := hid hpush.1
            have HPM := hid (HM7.out.trans hpush.2 (S := fun k => k = g ∨ w.heap.size ≤ k) (fun q _ e => by
              rcases e with e | e
              · exact .inl e
              · exact .inr (ownBase HROW7.out e)))
            clear hpush hown8 hgr8 hat8 hlt8 hp8 q9 f8 c9 f7
            generalize World.setCell w8 ⟨g, 9, none⟩ _ = w9 at HPU HPM ⊢
            have HSU9 : Hid (∀ q ∈ ks ++ pieceK s em st ++ [k], q.Sure) := hid (fun q hq => by
              rcases List.mem_append.1 hq with h | h
              · exact HSU7.out q h
              · simp only [List.mem_cons, List.not_mem_nil, or_false] at h
                subst h
                exact HKS.out)
            have HSK := hid (skipI_any w.heap.size g (psAt r s c6 bk6) st en (ks ++ pieceK s em st ++ [k]) w9 HPU.out (fun q hq => (HSU9.out q hq).1))
            go_wp2_with fail
            refine HSK.out.mono ?_
            rintro e w10 ⟨rfl, hin10, hm10⟩
            have HI10 := hid hin10
            have HM10 := hid (HPM.out.trans hm10 (S := fun k => k = g ∨ w.heap.size ≤ k) (fun q _ e => .inl e))
            clear hin10 hm10
            go_wp2_with fail
            refine ⟨⟨en, tk3, nthV _, ⟨en, c6, bk6, ks ++ pieceK s em st ++ [k], q5, Nat.le_refl _, by rw [List.length_append, List.length_cons, List.length_nil]; omega, HSU9.out, HI10.out, HJ6.out, HM10.out⟩, frame_eq _ (by kernel_rfl)⟩, ?_⟩
            simp [intOf]; omega
      · intro _ _ _ _
        have hother : ∀ z, bt s i = z → ¬ z = 96 → InS w.heap.size g (psAt r s c (bkAt (bt s i) tk bk)) em ks wr := fun z hz h => by
          unfold bkAt
          rw [if_neg (by rw [hz]; omega)]
          exact HIN.out
        have HO := hid hother
        clear hother
        have p1 : wr.cell? ⟨r.parser, 1, none⟩ = some (.bool o.del) := hpar1.at_ 1 rfl
        have p6 : wr.cell? ⟨r.parser, 6, none⟩ = some (.bool o.emoji) := hpar1.at_ 6 rfl
        have p7 : wr.cell? ⟨r.parser, 7, none⟩ = some (.bool o.dots) := hpar1.at_ 7 rfl
        have p8 : wr.cell? ⟨r.parser, 8, none⟩ = some (.bool o.dashes) := hpar1.at_ 8 rfl
        have p9 : wr.cell? ⟨r.parser, 9, none⟩ = some (.bool o.quotes) := hpar1.at_ 9 rfl
        clear hpar1 hps1
        by_cases z0 : bt s i = 92
        · have hpf : parF o g (bt s i) = some (65, #[]) := by simp [parF, z0]
          go_wp2_with fail
          refine Met.intro ?_
          go_step
          exact ⟨tk, nthV _, .inr ⟨_, _, hpf, rfl, by simp [tkAt, z0], HO.out _ z0 (by omega), Mod.refl _ _⟩, frame_eq _ (by kernel_rfl)⟩
        by_cases z1 : bt s i = 96
        · cases tk with
          | true =>
            go_wp2_with fail
            refine Met.intro ?_
            go_step
            exact ⟨true, nthV _, .inr ⟨67, #[.pointer (some ⟨g, 12, none⟩)], by simp [parF, z1], rfl, by simp [tkAt], by unfold bkAt; rw [if_neg (by simp)]; exact HIN.out, Mod.refl _ _⟩, frame_eq _ (by kernel_rfl)⟩
          | false =>
            have HTK := hid (HH.out.tick i em false bk ks HJ.out hem hlt z1 rfl c wr HIN.out)
            go_wp2_with fail
            refine HTK.out.mono ?_
            rintro e w5 ⟨rfl, hin5, hm5⟩
            have HI5 := hid hin5
            have HM5 := hid hm5
            clear hin5 hm5
            go_wp2_with fail
            refine Met.intro ?_
            go_step
            exact ⟨true, nthV _, .inr ⟨67, #[.pointer (some ⟨g, 12, none⟩)], by simp [parF, z1], rfl, by simp [tkAt, z1], by unfold bkAt; rw [if_pos ⟨z1, rfl⟩]; exact HI5.out, HM5.out⟩, frame_eq _ (by kernel_rfl)⟩
        by_cases z2 : bt s i = 60
        · have hpf : parF o g (bt s i) = some (68, #[]) := by simp [parF, z2]
          go_wp2_with fail
          refine Met.intro ?_
          go_step
          exact ⟨tk, nthV _, .inr ⟨_, _, hpf, rfl, by simp [tkAt, z2], HO.out _ z2 (by omega), Mod.refl _ _⟩, frame_eq _ (by kernel_rfl)⟩
        by_cases z3 : bt s i = 91
        · have hpf : parF o g (bt s i) = some (69, #[]) := by simp [parF, z3]
          go_wp2_with fail
          refine Met.intro ?_
          go_step
          exact ⟨tk, nthV _, .inr ⟨_, _, hpf, rfl, by simp [tkAt, z3], HO.out _ z3 (by omega), Mod.refl _ _⟩, frame_eq _ (by kernel_rfl)⟩
        by_cases z4 : bt s i = 33
        · have hpf : parF o g (bt s i) = some (70, #[]) := by simp [parF, z4]
          go_wp2_with fail
          refine Met.intro ?_
          go_step
          exact ⟨tk, nthV _, .inr ⟨_, _, hpf, rfl, by simp [tkAt, z4], HO.out _ z4 (by omega), Mod.refl _ _⟩, frame_eq _ (by kernel_rfl)⟩
        by_cases z5 : bt s i = 95
        · have hpf : parF o g (bt s i) = some (71, #[]) := by simp [parF, z5]
          go_wp2_with fail
          refine Met.intro ?_
          go_step
          exact ⟨tk, nthV _, .inr ⟨_, _, hpf, rfl, by simp [tkAt, z5], HO.out _ z5 (by omega), Mod.refl _ _⟩, frame_eq _ (by kernel_rfl)⟩
        by_cases z6 : bt s i = 42
        · have hpf : parF o g (bt s i) = some (71, #[]) := by simp [parF, z6]
          go_wp2_with fail
          refine Met.intro ?_
          go_step
          exact ⟨tk, nthV _, .inr ⟨_, _, hpf, rfl, by simp [tkAt, z6], HO.out _ z6 (by omega), Mod.refl _ _⟩, frame_eq _ (by kernel_rfl)⟩
        by_cases z7 : bt s i = 46
        · cases hd : o.dots with
          | true =>
            have hpf : parF o g (bt s i) = some (72, #[]) := by simp [parF, z7, hd]
            rw [hd] at p7
            go_wp2_with fail
            refine Met.intro ?_
            go_step
            exact ⟨tk, nthV _, .inr ⟨_, _, hpf, rfl, by simp [tkAt, z7], HO.out _ z7 (by omega), Mod.refl _ _⟩, frame_eq _ (by kernel_rfl)⟩
          | false =>
            have hpf : parF o g (bt s i) = none := by simp [parF, z7, hd]
            rw [hd] at p7
            go_wp2_with fail
            refine Met.intro ?_
            go_step
            exact ⟨tk, nthV _, .inl ⟨hpf, rfl, rfl, rfl⟩, frame_eq _ (by kernel_rfl)⟩
        by_cases z8 : bt s i = 45
        · cases hd : o.dashes with
          | true =>
            have hpf : parF o g (bt s i) = some (73, #[]) := by simp [parF, z8, hd]
            rw [hd] at p8
            go_wp2_with fail
            refine Met.intro ?_
            go_step
            exact ⟨tk, nthV _, .inr ⟨_, _, hpf, rfl, by simp [tkAt, z8], HO.out _ z8 (by omega), Mod.refl _ _⟩, frame_eq _ (by kernel_rfl)⟩
          | false =>
            have hpf : parF o g (bt s i) = none := by simp [parF, z8, hd]
            rw [hd] at p8
            go_wp2_with fail
            refine Met.intro ?_
            go_step
            exact ⟨tk, nthV _, .inl ⟨hpf, rfl, rfl, rfl⟩, frame_eq _ (by kernel_rfl)⟩
        by_cases z9 : bt s i = 34
        · cases hd : o.quotes with
          | true =>
            have hpf : parF o g (bt s i) = some (71, #[]) := by simp [parF, z9, hd]
            rw [hd] at p9
            go_wp2_with fail
            refine Met.intro ?_
            go_step
            exact ⟨tk, nthV _, .inr ⟨_, _, hpf, rfl, by simp [tkAt, z9], HO.out _ z9 (by omega), Mod.refl _ _⟩, frame_eq _ (by kernel_rfl)⟩
          | false =>
            have hpf : parF o g (bt s i) = none := by simp [parF, z9, hd]
            rw [hd] at p9
            go_wp2_with fail
            refine Met.intro ?_
            go_step
            exact ⟨tk, nthV _, .inl ⟨hpf, rfl, rfl, rfl⟩, frame_eq _ (by kernel_rfl)⟩
        by_cases z10 : bt s i = 39
        · cases hd : o.quotes with
          | true =>
            have hpf : parF o g (bt s i) = some (71, #[]) := by simp [parF, z10, hd]
            rw [hd] at p9
            go_wp2_with fail
            refine Met.intro ?_
            go_step
            exact ⟨tk, nthV _, .inr ⟨_, _, hpf, rfl, by simp [tkAt, z10], HO.out _ z10 (by omega), Mod.refl _ _⟩, frame_eq _ (by kernel_rfl)⟩
          | false =>
            have hpf : parF o g (bt s i) = none := by simp [parF, z10, hd]
            rw [hd] at p9
            go_wp2_with fail
            refine Met.intro ?_
            go_step
            exact ⟨tk, nthV _, .inl ⟨hpf, rfl, rfl, rfl⟩, frame_eq _ (by kernel_rfl)⟩
        by_cases z11 : bt s i = 126
        · cases hd : o.del with
          | true =>
            have hpf : parF o g (bt s i) = some (71, #[]) := by simp [parF, z11, hd]
            rw [hd] at p1
            go_wp2_with fail
            refine Met.intro ?_
            go_step
            exact ⟨tk, nthV _, .inr ⟨_, _, hpf, rfl, by simp [tkAt, z11], HO.out _ z11 (by omega), Mod.refl _ _⟩, frame_eq _ (by kernel_rfl)⟩
          | false =>
            have hpf : parF o g (bt s i) = none := by simp [parF, z11, hd]
            rw [hd] at p1
            go_wp2_with fail
            refine Met.intro ?_
            go_step
            exact ⟨tk, nthV _, .inl ⟨hpf, rfl, rfl, rfl⟩, frame_eq _ (by kernel_rfl)⟩
        by_cases z12 : bt s i = 10
        · have hpf : parF o g (bt s i) = some (74, #[]) := by simp [parF, z12]
          go_wp2_with fail
          refine Met.intro ?_
          go_step
          exact ⟨tk, nthV _, .inr ⟨_, _, hpf, rfl, by simp [tkAt, z12], HO.out _ z12 (by omega), Mod.refl _ _⟩, frame_eq _ (by kernel_rfl)⟩
        by_cases z13 : bt s i = 38
        · have hpf : parF o g (bt s i) = some (75, #[]) := by simp [parF, z13]
          go_wp2_with fail
          refine Met.intro ?_
          go_step
          exact ⟨tk, nthV _, .inr ⟨_, _, hpf, rfl, by simp [tkAt, z13], HO.out _ z13 (by omega), Mod.refl _ _⟩, frame_eq _ (by kernel_rfl)⟩
        by_cases z14 : bt s i = 58
        · cases hd : o.emoji with
          | true =>
            have hpf : parF o g (bt s i) = some (76, #[]) := by simp [parF, z14, hd]
            rw [hd] at p6
            go_wp2_with fail
            refine Met.intro ?_
            go_step
            exact ⟨tk, nthV _, .inr ⟨_, _, hpf, rfl, by simp [tkAt, z14], HO.out _ z14 (by omega), Mod.refl _ _⟩, frame_eq _ (by kernel_rfl)⟩
          | false =>
            have hpf : parF o g (bt s i) = none := by simp [parF, z14, hd]
            rw [hd] at p6
            go_wp2_with fail
            refine Met.intro ?_
            go_step
            exact ⟨tk, nthV _, .inl ⟨hpf, rfl, rfl, rfl⟩, frame_eq _ (by kernel_rfl)⟩
        have b0 : (bt s i == 92) = false := by simpa using z0
        have b1 : (bt s i == 96) = false := by simpa using z1
        have b2 : (bt s i == 60) = false := by simpa using z2
        have b3 : (bt s i == 91) = false := by simpa using z3
        have b4 : (bt s i == 33) = false := by simpa using z4
        have b5 : (bt s i == 95) = false := by simpa using z5
        have b6 : (bt s i == 42) = false := by simpa using z6
        have b7 : (bt s i == 46) = false := by simpa using z7
        have b8 : (bt s i == 45) = false := by simpa using z8
        have b9 : (bt s i == 34) = false := by simpa using z9
        have b10 : (bt s i == 39) = false := by simpa using z10
        have b11 : (bt s i == 126) = false := by simpa using z11
        have b12 : (bt s i == 10) = false := by simpa using z12
        have b13 : (bt s i == 38) = false := by simpa using z13
        have b14 : (bt s i == 58) = false := by simpa using z14
        have hpf : parF o g (bt s i) = none := by simp [parF, z0, z1, z2, z3, z4, z5, z6, z7, z8, z9, z10, z11, z12, z13, z14]
        go_wp2_with fail
        refine Met.intro ?_
        go_step
        exact ⟨tk, nthV _, .inl ⟨hpf, rfl, rfl, rfl⟩, frame_eq _ (by kernel_rfl)⟩
    · obtain rfl : i = s.size := by omega
      have HF := hid (HH.out.fin em tk bk ks HJ.out)
      have HE := hid (emit_any w.heap.size g (psAt r s c bk) em s.size ks wr hgB HM.out.size HIN.out (fun k hk => (HSU.out k hk).1) hem (Nat.le_refl _) (by omega))
      clear HJ HIN
      go_wp2_with fail
      refine HE.out.mono ?_
      rintro e w2 ⟨rfl, ⟨l2, vs2, hps2, hrow2, hln2, hits2⟩, hm2, _⟩
      have hpk : (pieceK s em s.size).length ≤ 1 := by unfold pieceK; split <;> simp
      have HSU2 : Hid (∀ k ∈ ks ++ pieceK s em s.size, k.Sure) := hid (fun k hk => by
        rcases List.mem_append.1 hk with h | h
        · exact HSU.out k h
        · unfold pieceK at h
          split at h
          · simp only [List.mem_cons, List.not_mem_nil, or_false] at h
            subst h
            exact plainK_sure _
          · cases h)
      have hkl2 : (ks ++ pieceK s em s.size).length ≤ 2 * em + 1 := by rw [List.length_append]; omega
      obtain ⟨hne2, hL2, hA2⟩ := HFIN.out _ HF.out HSU2.out
      have hpos2 : 0 < (ks ++ pieceK s em s.size).length := List.length_pos_iff.2 hne2
      generalize ks ++ pieceK s em s.size = ks2 at hln2 hits2 HSU2 hkl2 hne2 hL2 hpos2 HF hA2
      have HA2 := hid hA2
      clear hA2
      have HM2 := hid (HM.out.trans hm2 (fun _ _ h => h))
      have c9 := hps2.c9
      have f2 := hps2.free
      have HPS2 := hid hps2
      have HROW2 := hid hrow2
      have HITS2 := hid hits2
      have hn2 : l2.n ≤ 300000 := by omega
      have h02 : 0 < l2.n := by omega
      have HLN2 := hid hln2
      clear hm2 hps2 hrow2 hits2 HE HM hln2 hkl2
      go_wp2_with fail
      go_region_law (first
        | (go_simp; go_at_call 81; refine (emph_flat w.heap.size g l2 vs2 ks2 (World.drew w2) HM2.out.size (World.ownsRow.drewN HROW2.out 1) HITS2.out (fun k hk => (HSU2.out k hk).1) (by omega) h02).mono ?_; rintro e w3 ⟨rfl, hb3⟩; have q9 := IsPS.c9 (IsPS.below (w := World.drew w2) HPS2.out hb3); have f3 := IsPS.free (IsPS.below (w := World.drew w2) HPS2.out hb3)))
      all_goals
        have hr3 : w3.ownsRow w.heap.size 132 1 l2.v l2.n vs2 := own_mod (w := World.drew w2) HROW2.out (Mod.below' (S := fun _ => False) hb3) (fun _ _ x => x)
        have hi3 : IsItems w3 w.heap.size vs2 ks2 := IsItems.mod (w := World.drew w2) HITS2.out (Mod.below' (S := fun _ => False) hb3) (fun _ _ _ _ _ _ x => x)
        have hp3 : IsPS w3 g _ := IsPS.below (w := World.drew w2) HPS2.out hb3
        have hm3 : Mod (fun k => k = g ∨ w.heap.size ≤ k) w w3 := (HM2.out.drew : Mod _ w (World.drew w2)).trans (Mod.below' (a := World.drew w2) (S := fun _ => False) hb3) (fun _ _ x => False.elim x)
        have hp4 := hid (IsPS.set9 hp3 l2.a l2.n l2.c)
        have hr4 := hid (own_far hr3 (p := ⟨g, 9, none⟩) (own_ne hr3 hp3 (by decide)) (.slice l2.a l2.n l2.c))
        have hi4 := hid (hi3.mod (S := fun k => k = g) ((Mod.refl (fun k => k = g) w3).setCell (p := ⟨g, 9, none⟩) (.inl rfl) (.slice l2.a l2.n l2.c)) (fun k hk b cs hb _ e => by subst e; exact Blk.ne_ hb hp3 (HSU2.out k hk).1.ps rfl))
        have hm4 := hid (hm3.setCell (p := ⟨g, 9, none⟩) (.inl (.inl rfl)) (.slice l2.a l2.n l2.c))
        clear hr3 hi3 hp3 hm3 q9 f3 hb3 HROW2 HITS2 HPS2 HM2 c9 f2
        generalize World.setCell w3 ⟨g, 9, none⟩ _ = w4 at hp4 hr4 hi4 hm4 ⊢
        have c9 := hp4.out.c9
        have f4 := hp4.out.free
        have HMP := hid (mergePlain_any w.heap.size g l2 vs2 ks2 w4 hm4.out.size hr4.out hi4.out HSU2.out (by omega) h02 hL2)
        go_wp2_with fail
        refine HMP.out.mono ?_
        rintro e w5 ⟨l5, vs5, rfl, hr5, hn5, hi5, hm5⟩
        have hb4 : ∀ k ∈ mergeA [] ks2, k.Ok := fun k hk => by
          rcases mergeA_mem _ _ k hk with h | ⟨l, rfl⟩
          · exact (HSU2.out k h).1
          · exact plainK_ok l
        have hp5 : IsPS w5 g _ := hp4.out.mod hm5 (fun e => own_ne hr4.out hp4.out (by decide) e)
        have hm6 : Mod (fun k => k = g ∨ w.heap.size ≤ k) w w5 := hm4.out.trans hm5 (fun k _ e => .inr (ownBase hr4.out e))
        have hp7 := hid (IsPS.set9 hp5 l5.a l5.n l5.c)
        have hr7 := hid (own_far hr5 (p := ⟨g, 9, none⟩) (own_ne hr5 hp5 (by decide)) (.slice l5.a l5.n l5.c))
        have hi7 := hid (hi5.mod (S := fun k => k = g) ((Mod.refl (fun k => k = g) w5).setCell (p := ⟨g, 9, none⟩) (.inl rfl) (.slice l5.a l5.n l5.c)) (fun k hk b cs hb _ e => by subst e; exact Blk.ne_ hb hp5 (hb4 k hk).ps rfl))
        have hm7 := hid (hm6.setCell (p := ⟨g, 9, none⟩) (.inl (.inl rfl)) (.slice l5.a l5.n l5.c))
        have q9 := hp5.c9
        have f5 := hp5.free
        have HN5 := hid hn5
        have hl5 : l5.n ≤ 1000000 := by
          have h1 := mergeA_len [] ks2
          have h2 : (flushK []).length = 0 := rfl
          have h3 := HLN2.out
          omega
        clear c9 f4 hr5 hi5 hm5 hp5 hm6 hp4 hr4 hi4 hm4 HMP hn5
        go_wp2_with fail
        generalize World.setCell w5 ⟨g, 9, none⟩ _ = w7 at hp7 hr7 hi7 hm7 ⊢
        clear q9 f5
        have q9 := hp7.out.c9
        have f7 := hp7.out.free
        have hpar7 : Blk w7 r.parser 77 o.parser := HPAR.out.mod hm7.out (by omega)
        have HAT := hid (HA2.out _ l5 vs5 w7 (by rfl) hm7.out.size hp7.out hpar7 hr7.out HN5.out hi7.out hl5)
        clear hpar7 HA2
        go_wp2_with fail
        refine HAT.out.mono ?_
        rintro e w8 ⟨l8, vs8, outs, rfl, hr8, hn8, hi8, ho8, hb8⟩
        have hp8 := hp7.out.below hb8
        have hm8 := hm7.out.trans (Mod.below' (S := fun _ => False) hb8) (fun _ _ x => False.elim x)
        have hp9 := hid (IsPS.set9 hp8 l8.a l8.n l8.c)
        have hr9 := hid (own_far hr8 (p := ⟨g, 9, none⟩) (own_ne hr8 hp8 (by decide)) (.slice l8.a l8.n l8.c))
        have hi9 := hid (hi8.mod (S := fun k => k = g) ((Mod.refl (fun k => k = g) w8).setCell (p := ⟨g, 9, none⟩) (.inl rfl) (.slice l8.a l8.n l8.c)) (fun k ty cs hb _ ht _ e => by subst e; exact Blk.ne_ hb hp8 ht rfl))
        have hm9 := hid (hm8.setCell (p := ⟨g, 9, none⟩) (.inl (.inl rfl)) (.slice l8.a l8.n l8.c))
        have HO8 := hid ho8
        have HN8 := hid hn8
        clear q9 f7
        have q9 := hp8.c9
        have f8 := hp8.free
        clear hp7 hr7 hi7 hm7 HAT hr8 hi8 ho8 hn8 hb8 hm8 hp8
        go_wp2_with fail
        generalize World.setCell w8 ⟨g, 9, none⟩ _ = w9 at hp9 hr9 hi9 hm9 ⊢
        clear q9 f8
        have q9 := hp9.out.c9
        go_wp2_with fail
        go_ret
        exact ⟨l8, vs8, outs, c, _, s, bk, rfl, hp9.out, hr9.out, HN8.out, hi9.out, HO8.out, hm9.out.mono (fun k hk e => by
          rcases e with e | e
          · exact e
          · omega)⟩
end Go.Proofs.YtmmijmhdbpldpaaGreatDoor
/- What a text prints, from how it is read. -/


namespace Go.Proofs.YtmmijmhdbpldpaaGreatDoor
open Go.RowKit
theorem flat_mem_len {ts : List (List UInt8)} {l : List UInt8} (h : l ∈ ts) : l.length ≤ ts.flatten.length := by
  induction ts with
  | nil => cases h
  | cons a ts ih =>
    rw [List.flatten_cons, List.length_append]
    rcases List.mem_cons.1 h with rfl | h
    · omega
    · have := ih h; omega
theorem plainK_inj {a b : List UInt8} (h : plainK a = plainK b) : a = b := by
  have := plainOf_plain a
  rw [h, plainOf_plain] at this
  exact (Option.some.inj this).symm
theorem flush_len {ts : List (List UInt8)} {l : List UInt8} (h : plainK l ∈ flushK ts) : l.length ≤ ts.flatten.length := by
  unfold flushK at h
  split at h
  · cases h
  · simp only [List.mem_cons, List.not_mem_nil, or_false] at h
    rw [plainK_inj h]
    exact Nat.le_refl _
theorem mergeA_plain_len (ts : List (List UInt8)) (ks : List Kind) (l : List UInt8) (h : plainK l ∈ mergeA ts ks) : l.length ≤ ts.flatten.length + (ks.filterMap plainOf).flatten.length := by
  induction ks generalizing ts with
  | nil => have := flush_len (ts := ts) (by simpa [mergeA] using h); omega
  | cons k ks ih =>
    rw [mergeA] at h
    cases hp : plainOf k with
    | some t =>
      rw [hp] at h
      have h1 := ih _ h
      rw [List.filterMap_cons, hp]
      simp only [List.flatten_append, List.flatten_cons, List.flatten_nil, List.append_nil, List.length_append] at h1 ⊢
      omega
    | none =>
      rw [hp] at h
      rw [List.filterMap_cons, hp]
      rcases List.mem_append.1 h with h | h
      · have := flush_len h; omega
      · rcases List.mem_cons.1 h with h | h
        · rw [← h, plainOf_plain] at hp; cases hp
        · have := ih _ h
          simp only [List.flatten_nil, List.length_nil] at this
          simp only
          omega
theorem inlC_of2 (o : Opt) (s0 s out : List UInt8) (J : Nat → Nat → Bool → List Value → List Kind → Prop) (Fin : List Kind → Prop) (ha : o.auto_ = false) (hs0 : s0.length ≤ 100000) (hs : s.length ≤ 100000) (htr : trimR (trimL s0) = s)
    (H : ∀ (g : Nat) (r : PSr) (w : World), IsPS w g r → Blk w r.parser 77 o.parser → r.parser ≠ g → r.back.length = 81 → InlH o w.heap.size g r ⟨s.toArray⟩ w J Fin)
    (hfin : ∀ ks, Fin ks → (∀ k ∈ ks, k.Sure) → ks ≠ [] ∧ (ks.filterMap plainOf).flatten.length ≤ 100000 ∧ ∃ outK : Kind → List UInt8, (∀ l, outK (plainK l) = esc l) ∧ (∀ k ∈ ks, (∀ l, k ≠ plainK l) → KPrints k (outK k)) ∧ ks.flatMap outK = out) : InlC o s0 out := by
  intro g r w hps hpar hne hbk
  refine inline_loop o g r ⟨s0.toArray⟩ ⟨s.toArray⟩ w J Fin hps hpar hne out (bsz hs0) (by simp only [htr]) (bsz hs) (H g r w hps hpar hne hbk) (fun ks hF hsu => ?_)
  obtain ⟨h3, h4, outK, ho1, ho2, ho3⟩ := hfin ks hF hsu
  have hmem : ∀ k ∈ mergeA [] ks, k.Ok ∧ KPrints k (outK k) := by
    intro k hk
    by_cases hp : ∃ l, k = plainK l
    · obtain ⟨l, rfl⟩ := hp
      refine ⟨plainK_ok l, ?_⟩
      rw [ho1]
      have := mergeA_plain_len [] ks l hk
      simp only [List.flatten_nil, List.length_nil] at this
      exact plain_kprints l (by omega)
    · rcases mergeA_mem _ _ k hk with h | ⟨l, rfl⟩
      · exact ⟨(hsu k h).1, ho2 k h (fun l e => hp ⟨l, e⟩)⟩
      · exact absurd ⟨l, rfl⟩ hp
  have hout : (mergeA [] ks).flatMap outK = out := by
    rw [mergeA_out outK esc ho1 rfl (fun a b => by simp [esc]), ho3]
    rfl
  refine ⟨h3, by omega, ?_⟩
  rw [← hout]
  exact autP_no o _ g r _ outK ha hmem
theorem inlC_of (o : Opt) (s out : List UInt8) (J : Nat → Nat → Bool → List Value → List Kind → Prop) (Fin : List Kind → Prop) (ha : o.auto_ = false) (hs : s.length ≤ 100000) (htr : trimR (trimL s) = s)
    (H : ∀ (g : Nat) (r : PSr) (w : World), IsPS w g r → Blk w r.parser 77 o.parser → r.parser ≠ g → r.back.length = 81 → InlH o w.heap.size g r ⟨s.toArray⟩ w J Fin)
    (hfin : ∀ ks, Fin ks → (∀ k ∈ ks, k.Sure) → ks ≠ [] ∧ (ks.filterMap plainOf).flatten.length ≤ 100000 ∧ ∃ outK : Kind → List UInt8, (∀ l, outK (plainK l) = esc l) ∧ (∀ k ∈ ks, (∀ l, k ≠ plainK l) → KPrints k (outK k)) ∧ ks.flatMap outK = out) : InlC o s out :=
  inlC_of2 o s s out J Fin ha hs hs htr H hfin
end Go.Proofs.YtmmijmhdbpldpaaGreatDoor
/- No list item begins with digits that no full stop and no bracket follow. -/


namespace Go.Proofs.YtmmijmhdbpldpaaGreatDoor
open Go.RowKit
def DigR (b : Nat) (s : ByteArray) (nl : Int) (w0 : World) (t9 t10 : Value) (wr : World) : Prop :=
  ∃ (j : Nat) (x : Int), t9 = .int .i64 x ∧ t10 = .int .i64 j ∧ j ≤ s.size ∧ j ≤ 9 ∧ (∀ k, k < j → 48 ≤ bt s k ∧ bt s k ≤ 57) ∧ IsLn wr b 0 0 s nl ∧ Below w0.heap.size w0 wr
set_option maxRecDepth 20000 in
set_option maxHeartbeats 4000000 in
theorem startListItem_dig (g b : Nat) (nl : Int) (s : ByteArray) (w : World) (h : IsLn w b 0 0 s nl) (hs : s.size ≤ 100000) (ht : ∀ k, bt s k ≠ 9) (h0 : bt s 0 = 48 ∨ bt s 0 = 49 ∨ bt s 0 = 57) (hq : ∀ k, (∀ j, j < k → 48 ≤ bt s j ∧ bt s j ≤ 57) → bt s k ≠ 46 ∧ bt s k ≠ 41) :
    Calls Tryz.prog 139 #[.pointer (some ⟨g, 0, none⟩), .pointer (some ⟨b, 0, none⟩)] w fun e w' => e = .returned (.bool false) ∧ Below w.heap.size w w' := by
  have hz0 := h.c0
  have h1 := h.c1
  have h2 := h.c2
  have h3 := h.c3
  have h4 := h.c4
  have hlt := Blk.lt h
  have hpos : 0 < s.size := by
    rcases Nat.eq_zero_or_pos s.size with he | he
    · unfold bt at h0; rw [dif_neg (by omega)] at h0; omega
    · exact he
  have HT := hid ht
  have HQ := hid hq
  clear ht hq h
  go_enter Tryz.func139, Tryz.ntmps139
  go_wp2_with fail
  go_step3
  go_wp2_with fail
  have hln : Hid (IsLn _ (w.heap.size + 1) 0 0 s nl) := hid (Blk.new' (w := World.alloc w (.cells #[.pointer (some ⟨g, 0, none⟩)] 116)) (t := 104) (cs := #[.int .i64 0, .int .i64 (0 : Nat), .int .i64 0, .string s, .int .u8 nl]) (by simp))
  have hbl : Hid (Below w.heap.size w (World.alloc _ _)) := hid (((Below.refl _ w).alloc (Nat.le_refl _) (.cells #[.pointer (some ⟨g, 0, none⟩)] 116)).alloc (by simp) (.cells #[.int .i64 0, .int .i64 (0 : Nat), .int .i64 0, .string s, .int .u8 nl] 104))
  refine wp_loop_rounds 1 ?_
  rw [rounds_succ]
  go_wp2_with fail
  refine (trimSp_any _ 0 1 1 false 0 nl s _ hln.out (by omega) (Nat.zero_le _) HT.out (by omega) (by omega)).mono ?_
  rintro e w2 ⟨j', a1, a2, a3, a4, a5, a6, hm2⟩
  have hj0 : j' = 0 := by
    rcases Nat.eq_zero_or_pos j' with h | h
    · exact h
    · have := a4 0 (Nat.le_refl _) h; omega
  rcases a6 with ⟨_, a7, _⟩ | ⟨rfl, _, _, _, hl2⟩
  · exfalso
    rcases a7 with h1 | h1 | h1
    · omega
    · omega
    · cases h1.1
  · have HL2 := hid hl2
    have HB2 := hid (hbl.out.trans (Mod.toBelow hm2 (by simp; omega) (fun k hk h => by omega)))
    clear a4 a5 hl2 hln hbl hz0 h1 h2 h3 h4 hm2
    go_wp2_with fail
    refine (peek_any _ 0 0 nl s _ HL2.out (by omega)).mono ?_
    rintro e w3 ⟨rfl, n3, rfl⟩
    have HL3 : Hid (IsLn (w2.drewN n3) (w.heap.size + 1) 0 0 s nl) := hid HL2.out
    have HB3 : Hid (Below w.heap.size w (w2.drewN n3)) := hid (below_drewN HB2.out n3)
    clear HL2 HB2
    generalize w2.drewN n3 = w4 at HL3 HB3 ⊢
    have d45 : (bt s 0 == 45) = false := by have : bt s 0 ≠ 45 := by omega
                                            simpa using this
    have d42 : (bt s 0 == 42) = false := by have : bt s 0 ≠ 42 := by omega
                                            simpa using this
    have d43 : (bt s 0 == 43) = false := by have : bt s 0 ≠ 43 := by omega
                                            simpa using this
    have hb := get_bt s
    have H0 := hid h0
    have b0 := HL3.out.c0
    have b1 := HL3.out.c1
    have b2 := HL3.out.c2
    have b3 := HL3.out.c3
    have b4 := HL3.out.c4
    rcases h0 with h0 | h0 | h0
    all_goals
      go_wp2_with fail
      go_step3
      go_wp2_with fail
      clear d45 d42 d43 h0
      go_loopw [9, 10, 11] (fun t9 t10 _ wr => DigR (w.heap.size + 1) s nl w t9 t10 wr) (fun _ t10 _ _ => s.size + 1 - (intOf t10).toNat)
      case atStart => exact ⟨0, 0, rfl, rfl, Nat.zero_le _, Nat.zero_le _, fun k hk => by omega, HL3.out, HB3.out⟩
      case round =>
        obtain ⟨j, x, rfl, rfl, hj, hj9, hd, hl, hbel⟩ := hrel
        have HL := hid hl
        have HB := hid hbel
        have HDD := hid hd
        clear b0 b1 b2 b3 b4
        have b0 := hl.c0
        have b1 := hl.c1
        have b2 := hl.c2
        have b3 := hl.c3
        have b4 := hl.c4
        clear hl hbel hd
        obtain ⟨n46, n41⟩ := HQ.out j HDD.out
        have e46 : (bt s j == 46) = false := by simpa using n46
        have e41 : (bt s j == 41) = false := by simpa using n41
        by_cases hlt : j < s.size
        · by_cases hlo : bt s j < 48
          · go_wp2_with fail
            all_goals (try rw [Exit.noGoto_ret])
            go_ret
            exact ⟨rfl, HB.out⟩
          · by_cases hhi : 57 < bt s j
            · go_wp2_with fail
              all_goals (try rw [Exit.noGoto_ret])
              go_ret
              exact ⟨rfl, HB.out⟩
            · by_cases h9 : 9 ≤ j
              · go_wp2_with fail
                all_goals (try rw [Exit.noGoto_ret])
                go_ret
                exact ⟨rfl, HB.out⟩
              · go_wp2_with fail
                go_roundw
                case rel => exact ⟨j + 1, _, rfl, by go_num, hlt, by omega, fun k hk => by
                  rcases Nat.lt_or_ge k j with h | h
                  · exact HDD.out k h
                  · obtain rfl : k = j := by omega
                    omega, HL.out, HB.out⟩
                case measure => simp [intOf]; omega
        · go_wp2_with fail
          all_goals (try rw [Exit.noGoto_ret])
          go_ret
          exact ⟨rfl, HB.out⟩
end Go.Proofs.YtmmijmhdbpldpaaGreatDoor
/- Texts of words, spaces and hyphens: a paragraph each, and read as they are. -/


namespace Go.Proofs.YtmmijmhdbpldpaaGreatDoor
open Go.RowKit
/-- The letters and digits of the laws' words. -/
def wcs : List UInt8 := [97, 98, 122, 48, 49, 57]
def wcs2 : List UInt8 := wcs ++ [32, 45]
theorem bt_mem (t : List UInt8) (k : Nat) (P : Int → Prop) (h0 : P 0) (h : ∀ c ∈ t, P (c.toNat : Int)) : P (bt ⟨t.toArray⟩ k) := by
  rw [bt_list]
  cases hk : t[k]? with
  | none => exact h0
  | some y => exact h y (List.mem_of_getElem? hk)
theorem bt_some {t : List UInt8} {k : Nat} {c : UInt8} (h : t[k]? = some c) : bt ⟨t.toArray⟩ k = (c.toNat : Int) := by rw [bt_list, h]
theorem bt_get {t : List UInt8} {k : Nat} (h : k < t.length) : ∃ c, t[k]? = some c ∧ c ∈ t ∧ bt ⟨t.toArray⟩ k = (c.toNat : Int) :=
  ⟨t[k], List.getElem?_eq_getElem h, List.getElem_mem h, bt_some (List.getElem?_eq_getElem h)⟩
theorem isWord_line (c0 : UInt8) (r : List UInt8) (h0 : c0 ∈ wcs) (h : ∀ c ∈ c0 :: r, c ∈ wcs2) (hl : (c0 :: r).length ≤ 100000) : ParLine ⟨(c0 :: r).toArray⟩ := by
  have all : ∀ (P : Int → Prop), P 0 → (∀ c ∈ wcs2, P (c.toNat : Int)) → ∀ k, P (bt ⟨(c0 :: r).toArray⟩ k) := fun P hp hc k => bt_mem _ k P hp (fun c hm => hc c (h c hm))
  have hb : bt ⟨(c0 :: r).toArray⟩ 0 = (c0.toNat : Int) := bt_some rfl
  have hsz : (ByteArray.mk (c0 :: r).toArray).size ≤ 100000 := by rw [sz_mk]; exact hl
  have htab := all (fun z => z ≠ 9) (by decide) (by decide)
  have first : ∀ (P : Int → Prop), (∀ c ∈ wcs, P (c.toNat : Int)) → P (bt ⟨(c0 :: r).toArray⟩ 0) := fun P hc => by rw [hb]; exact hc c0 h0
  have h32 := first (fun z => z ≠ 32) (by decide)
  refine { size := hsz, pos := by rw [sz_mk]; simp, tab := htab, q := fun k _ => all (fun z => z ≠ 62 ∧ z ≠ 35) (by decide) (by decide) k, h32 := h32, hr := first (fun z => z ≠ 42 ∧ z ≠ 45 ∧ z ≠ 95) (by decide), lt_ := first (fun z => z ≠ 60) (by decide), fence := first (fun z => z ≠ 126) (by decide), tick := first (fun z => z ≠ 96) (by decide), item := ?_ }
  intro g b nl w hw
  by_cases hd : bt ⟨(c0 :: r).toArray⟩ 0 = 48 ∨ bt ⟨(c0 :: r).toArray⟩ 0 = 49 ∨ bt ⟨(c0 :: r).toArray⟩ 0 = 57
  · exact startListItem_dig g b nl _ w hw hsz htab hd (fun k _ => all (fun z => z ≠ 46 ∧ z ≠ 41) (by decide) (by decide) k)
  · refine startListItem_no g b 0 0 nl _ w hw (by omega) (Nat.zero_le _) htab (fun k hk => ?_)
    rw [reach0 h32 hk]
    have := first (fun z => z = 48 ∨ z = 49 ∨ z = 57 ∨ NoItem z) (by unfold NoItem; decide)
    rcases this with e | e | e | e
    · exact absurd (.inl e) hd
    · exact absurd (.inr (.inl e)) hd
    · exact absurd (.inr (.inr e)) hd
    · exact e
theorem esc_self (l : List UInt8) (h : ∀ c ∈ l, c ≠ 34 ∧ c ≠ 38 ∧ c ≠ 60 ∧ c ≠ 62) : esc l = l := by
  induction l with
  | nil => rfl
  | cons a t ih =>
    have h1 := h a (List.mem_cons_self ..)
    have h2 := ih (fun c hc => h c (List.mem_cons_of_mem _ hc))
    unfold esc at h2 ⊢
    rw [List.flatMap_cons, h2]
    unfold esc1
    rw [if_neg h1.1, if_neg h1.2.1, if_neg h1.2.2.1, if_neg h1.2.2.2]
    rfl
theorem trim_self (l : List UInt8) (h0 : ∀ c, l[0]? = some c → c ≠ 32 ∧ c ≠ 9) (h1 : ∀ c, l.getLast? = some c → c ≠ 32 ∧ c ≠ 9) : trimR (trimL l) = l := by
  rw [trimL_self h0]
  unfold trimR
  have : l.reverse.dropWhile isST = l.reverse := by
    cases hr : l.reverse with
    | nil => rfl
    | cons a t =>
      have hl : l.getLast? = some a := by
        rw [← List.head?_reverse, hr]; rfl
      obtain ⟨q1, q2⟩ := h1 a hl
      rw [List.dropWhile_cons, if_neg]
      unfold isST
      simp [q1, q2]
  rw [this, List.reverse_reverse]
theorem piece_all (t : List UInt8) (h : 0 < t.length) : pieceK ⟨t.toArray⟩ 0 (ByteArray.mk t.toArray).size = [plainK t] := by
  unfold pieceK
  rw [sz_mk, if_pos h]
  simp
/-- What a list of plain texts prints. -/
def outP (k : Kind) : List UInt8 := match plainOf k with
  | some l => esc l
  | none => []
theorem outP_plain (l : List UInt8) : outP (plainK l) = esc l := by unfold outP; rw [plainOf_plain]
/-- A text without signs is read as it is. -/
theorem inlC_quiet (o : Opt) (t : List UInt8) (ha : o.auto_ = false) (hl : t.length ≤ 100000) (hp : 0 < t.length) (htr : trimR (trimL t) = t) (hq : ∀ (g : Nat), ∀ c ∈ t, parF o g (c.toNat : Int) = none ∧ c ≠ 96) : InlC o t (esc t) := by
  refine inlC_of o t (esc t) (fun _ em tk _ ks => em = 0 ∧ tk = false ∧ ks = []) (fun ks => ks = [plainK t]) ha hl htr (fun g r w hps hpar hne _ => ?_) (fun ks hF _ => ?_)
  · refine { start := ⟨rfl, rfl, rfl⟩, fin := ?_, quiet := ?_, tick := ?_, call := ?_ }
    · rintro em tk bk ks ⟨rfl, rfl, rfl⟩
      exact piece_all t hp
    · intro i em tk bk ks h _ _ _
      exact h
    · intro i em tk bk ks _ _ hi h96 _
      rw [sz_mk] at hi
      obtain ⟨c, _, h2, h3⟩ := bt_get hi
      rw [h3] at h96
      exact absurd (UInt8.toNat_inj.1 (by rw [show (96 : UInt8).toNat = 96 from rfl]; omega)) (hq 0 c h2).2
    · intro i em tk bk ks f rv _ _ hi hpf
      rw [sz_mk] at hi
      obtain ⟨c, _, h2, h3⟩ := bt_get hi
      rw [h3, (hq g c h2).1] at hpf
      cases hpf
  · subst hF
    refine ⟨by simp, by simp [plainOf_plain]; exact hl, outP, outP_plain, fun k hk hn => ?_, by simp [outP_plain]⟩
    simp only [List.mem_cons, List.not_mem_nil, or_false] at hk
    exact absurd hk (hn t)
end Go.Proofs.YtmmijmhdbpldpaaGreatDoor
/- The library's contracts on strings.Builder, laid at this program. -/



namespace Go.Proofs
open Go.Shelf
def Tryz.layXT_ren : Go.Shelf.Ren := ⟨fun | 169 => 35 | n => n, fun | 70 => 55 | 9 => 9 | 0 => 0 | 72 => 58 | 37 => 56 | 127 => 85 | 3 => 3 | 5 => 5 | n => n, fun | n => n⟩
theorem Tryz.layXT : Go.Proofs.Lays.n169 Tryz.prog Tryz.layXT_ren := {
  mixed := by kernel_rfl
  f169 := Tryz.func35.trans (congrArg some (by kernel_rfl))
  t0 := Tryz.underlying0
  a0 := Tryz.isAgg0
  z0 := Tryz.sizeOf0
  v0 := Tryz.zeroValue0
  t3 := Tryz.underlying3
  a3 := Tryz.isAgg3
  z3 := Tryz.sizeOf3
  v3 := Tryz.zeroValue3
  t9 := Tryz.underlying9
  a9 := Tryz.isAgg9
  z9 := Tryz.sizeOf9
  v9 := Tryz.zeroValue9
  t37 := Tryz.underlying56
  a37 := Tryz.isAgg56
  z37 := Tryz.sizeOf56
  v37 := Tryz.zeroValue56
  t70 := Tryz.underlying55
  a70 := Tryz.isAgg55
  z70 := Tryz.sizeOf55
  v70 := Tryz.zeroValue55
  t72 := Tryz.underlying58
  a72 := Tryz.isAgg58
  z72 := Tryz.sizeOf58
  v72 := Tryz.zeroValue58
  t127 := Tryz.underlying85
  a127 := Tryz.isAgg85
  z127 := Tryz.sizeOf85
  v127 := Tryz.zeroValue85 }
end Go.Proofs
/- A strings.Builder: what writing into it and reading it out do. -/


namespace Go.Proofs.YtmmijmhdbpldpaaGreatDoor
open Go.RowKit
/-- What a strings.Builder holds. -/
def IsBld (B b : Nat) (l : List UInt8) (w : World) : Prop := Lib.IsBuilder 58 5 B b (Lib.byteCells l) w
theorem bldSize : (Tryz.prog.info? 58).map (·.size) = some 2 := by kernel_rfl
theorem bldLies : liesAt Tryz.prog Tryz.prog.depth 58 (2 / Tryz.prog.cellsOf 58) 0 58 1 = true := by kernel_rfl
theorem bldExtraT : Builder.Extra Tryz.prog Tryz.layXT_ren where
  sizeBuilder := by kernel_rfl
  liesBuilder := by kernel_rfl
  t5 := Tryz.underlying5
  a5 := Tryz.isAgg5
  z5 := Tryz.sizeOf5
  v5 := Tryz.zeroValue5
  infoByte := by kernel_rfl
  cellsByte := by kernel_rfl
  sizeByte := by kernel_rfl
  neB5 := by decide
set_option maxRecDepth 100000 in
set_option maxHeartbeats 1000000 in
theorem bld_check_used (b : Nat) (w : World) (h0 : w.cell? ⟨b, 0, none⟩ = some (.pointer (some ⟨b, 0, none⟩))) :
    Calls Tryz.prog 47 #[.pointer (some ⟨b, 0, none⟩)] w fun e w' => e = .returned (.tuple #[]) ∧ w' = w := by
  obtain ⟨j, hj, _⟩ := Option.map_eq_some_iff.1 bldSize
  go_enter Tryz.func47, Tryz.ntmps47
  go_wp2
  rw [Lib.run_neq_ptr_same w _ Tryz.underlying55 hj]
  go_wp2
  go_end0
  exact ⟨rfl, rfl⟩
set_option maxRecDepth 100000 in
set_option maxHeartbeats 1000000 in
theorem bld_check_fresh (b : Nat) (w : World) (h0 : w.cell? ⟨b, 0, none⟩ = some (.pointer none)) (hsh : w.shape? b = some (58, 2)) (hfz : w.frozen? ⟨b, 0, none⟩ = false) :
    Calls Tryz.prog 47 #[.pointer (some ⟨b, 0, none⟩)] w fun e w' => e = .returned (.tuple #[]) ∧ w' = w.setCell ⟨b, 0, none⟩ (.pointer (some ⟨b, 0, none⟩)) := by
  obtain ⟨j, hj, hjs⟩ := Option.map_eq_some_iff.1 bldSize
  go_enter Tryz.func47, Tryz.ntmps47
  go_wp2
  rw [Lib.run_to_unsafe w ⟨b, 0, none⟩ Tryz.underlying55 Tryz.underlying113 hj (by rw [hjs]; decide) hsh (Nat.zero_lt_succ 1)]
  simp only [Result.andThen]
  rw [Oper.upon_value]
  go_wp2
  rw [run_callFunc_extern Tryz.func58 (by kernel_rfl) (by kernel_rfl) (by kernel_rfl) (e := Extern.AbiNoEscape.same) (by kernel_rfl)]
  rw [Lib.run_noEscape]
  simp only [Result.andThen]
  rw [Oper.upon_value]
  go_wp2
  rw [Lib.run_from_unsafe w ⟨b, 0, none⟩ Tryz.underlying113 Tryz.underlying55 hj hsh bldLies]
  simp only [Result.andThen]
  rw [Oper.upon_value]
  go_wp2
  go_end0
  exact ⟨rfl, rfl⟩
theorem bld_check (B b : Nat) (bs : List Value) (w : World) (h : Lib.IsBuilder 58 5 B b bs w) :
    Calls Tryz.prog 47 #[.pointer (some ⟨b, 0, none⟩)] w fun e w' => e = .returned (.tuple #[]) ∧ (Lib.BuilderAt 58 5 B b (.pointer (some ⟨b, 0, none⟩)) bs w' ∧ Below B w w') := by
  rcases h with h | h
  · refine (bld_check_fresh b w h.cell0 h.shape h.frozen0).mono ?_
    rintro e w' ⟨rfl, rfl⟩
    exact ⟨rfl, h.used _, (Below.refl B w).setCell (p := ⟨b, 0, none⟩) h.1 _⟩
  · refine (bld_check_used b w h.cell0).mono ?_
    rintro e w' ⟨rfl, rfl⟩
    exact ⟨rfl, h, Below.refl B _⟩
theorem infoByteB : (Tryz.prog.info? 5).map (fun i => (i.zero, i.size, i.bytes)) = some (some (.int .u8 0), 1, 1) := by kernel_rfl
set_option maxRecDepth 100000 in
set_option maxHeartbeats 2000000 in
theorem bld_byte (B b : Nat) (l : List UInt8) (c : UInt8) (w : World) (h : IsBld B b l w) (hBw : B ≤ w.heap.size) (hl : l.length + 1 ≤ 20000000) :
    Calls Tryz.prog 168 #[.pointer (some ⟨b, 0, none⟩), .int .u8 (c.toNat : Int)] w fun e w' => e = .returned .nilIface ∧ IsBld B b (l ++ [c]) w' ∧ Below B w w' := by
  obtain ⟨i0, hi, hz0, hz1, hz2⟩ := info_parts infoByteB
  have hbl : (Lib.byteCells l).length = l.length := Lib.byteCells_length _
  have hap : Lib.byteCells (l ++ [c]) = Lib.byteCells l ++ [.int .u8 (c.toNat : Int)] := Lib.byteCells_append _ _
  unfold IsBld at h ⊢
  rw [hap]
  generalize Lib.byteCells l = bs at h hbl ⊢
  clear hap
  go_enter Tryz.func168, Tryz.ntmps168
  go_wp2_with (go_at_call 47; refine (bld_check B b bs _ h).mono ?_)
  rintro e w1 ⟨rfl, h1, hb1⟩
  obtain ⟨hB, v, hbk, hown, hne⟩ := h1
  have c0 : w1.cell? ⟨b, 0, none⟩ = some (.pointer (some ⟨b, 0, none⟩)) := by rw [Lib.cell_of_heap hbk]; rfl
  have c1 : w1.cell? ⟨b, 1, none⟩ = some v := by rw [Lib.cell_of_heap hbk]; rfl
  go_wp2_with (at_builtin; refine wpList_append_own _ rfl _ _ 56 rfl B 5 i0 (.int .u8 0) 1 1 Tryz.underlying56 hi hz0 hz1 hz2 rfl (by decide) _ _ _ rfl (hown.alloc _) ⟨w1.heap.size, 0, none⟩ 1 1 [.int .u8 (c.toNat : Int)] rfl rfl ?c1 ?c2 ?c3 ?c4 ?c5 ?_)
  case c1 =>
    intro j u hj
    match j, hj with
    | 0, hj => simp at hj; subst hj; simp [Addr.add]
  case c2 => intro u hu; simp at hu; subst hu; rfl
  case c3 => unfold maxLen; omega
  case c4 => omega
  case c5 => have := hb1.size; simp; omega
  intro v' w2 hown' hgrow _
  rw [← hbl] at hown'
  have hlt : b < w1.heap.size := by
    rcases Nat.lt_or_ge b w1.heap.size with h' | h'
    · exact h'
    · simp [Array.getElem?_eq_none h'] at hbk
  have hb2 : w2.heap[b]? = some (.cells #[.pointer (some ⟨b, 0, none⟩), v] 58 (0, 0)) := by
    rw [hgrow.block b (by simp; omega) (fun e => hne e.symm), Lib.alloc_old w1 _ b hlt]
    exact hbk
  have d0 : w2.cell? ⟨b, 0, none⟩ = some (.pointer (some ⟨b, 0, none⟩)) := by rw [Lib.cell_of_heap hb2]; rfl
  have d1 : w2.cell? ⟨b, 1, none⟩ = some v := by rw [Lib.cell_of_heap hb2]; rfl
  have f1 : w2.frozen? ⟨b, 1, none⟩ = false := Lib.frozen_of_heap hb2 1
  obtain ⟨g, cap, rfl⟩ : ∃ g cap, v' = .slice (some ⟨g, 0, none⟩) (bs.length + 1) cap := by
    rcases hown'.2 with ⟨_, h0⟩ | ⟨g, cap, cur, hv, _⟩
    · omega
    · exact ⟨g, cap, hv⟩
  go_wp2
  go_ret
  refine ⟨rfl, ?_, ?_⟩
  · exact .inr (Lib.BuilderAt.put (T := 58) (e := 5) hB hb2 (bs' := bs ++ [.int .u8 (c.toNat : Int)]) (by simpa [hbl] using hown') (by decide))
  · exact ((hb1.alloc (by have := hb1.size; omega) _).grown hgrow (by have := hb1.size; simp; omega) (fun k hk => (hown.lt k hk).1)).setCell (p := ⟨b, 1, none⟩) hB _
set_option maxRecDepth 100000 in
set_option maxHeartbeats 2000000 in
theorem bld_str (B b : Nat) (l : List UInt8) (s : ByteArray) (w : World) (h : IsBld B b l w) (hBw : B ≤ w.heap.size) (hl : l.length + s.size ≤ 20000000) :
    Calls Tryz.prog 33 #[.pointer (some ⟨b, 0, none⟩), .string s] w fun e w' => e = .returned (.tuple #[.int .i64 s.size, .nilIface]) ∧ IsBld B b (l ++ s.data.toList) w' ∧ Below B w w' := by
  obtain ⟨i0, hi, hz0, hz1, hz2⟩ := info_parts infoByteB
  have hbl : (Lib.byteCells l).length = l.length := Lib.byteCells_length _
  have hap : Lib.byteCells (l ++ s.data.toList) = Lib.byteCells l ++ Lib.strCells s := Lib.byteCells_append _ _
  unfold IsBld at h ⊢
  rw [hap]
  generalize Lib.byteCells l = bs at h hbl ⊢
  clear hap
  go_enter Tryz.func33, Tryz.ntmps33
  go_wp2_with (go_at_call 47; refine (bld_check B b bs _ h).mono ?_)
  rintro e w1 ⟨rfl, h1, hb1⟩
  obtain ⟨hB, v, hbk, hown, hne⟩ := h1
  have c0 : w1.cell? ⟨b, 0, none⟩ = some (.pointer (some ⟨b, 0, none⟩)) := by rw [Lib.cell_of_heap hbk]; rfl
  have c1 : w1.cell? ⟨b, 1, none⟩ = some v := by rw [Lib.cell_of_heap hbk]; rfl
  go_wp2_with (at_builtin; refine Lib.wpList_append_own_string _ rfl _ _ 56 9 rfl B 5 i0 Tryz.underlying56 Tryz.underlying9 hi hz0 hz1 hz2 _ _ _ rfl hown s rfl ?c3 ?c4 ?c5 ?_)
  case c3 => unfold maxLen; omega
  case c4 => omega
  case c5 => have := hb1.size; omega
  intro v' w2 hown' hgrow _
  rw [← hbl] at hown'
  have hlt : b < w1.heap.size := by
    rcases Nat.lt_or_ge b w1.heap.size with h' | h'
    · exact h'
    · simp [Array.getElem?_eq_none h'] at hbk
  have hb2 : w2.heap[b]? = some (.cells #[.pointer (some ⟨b, 0, none⟩), v] 58 (0, 0)) := by
    rw [hgrow.block b hlt (fun e => hne e.symm)]
    exact hbk
  have d0 : w2.cell? ⟨b, 0, none⟩ = some (.pointer (some ⟨b, 0, none⟩)) := by rw [Lib.cell_of_heap hb2]; rfl
  have d1 : w2.cell? ⟨b, 1, none⟩ = some v := by rw [Lib.cell_of_heap hb2]; rfl
  have f1 : w2.frozen? ⟨b, 1, none⟩ = false := Lib.frozen_of_heap hb2 1
  obtain ⟨ao, n', cap, rfl⟩ : ∃ ao n' cap, v' = .slice ao n' cap := by
    rcases hown'.2 with ⟨hv, _⟩ | ⟨g, cap, cur, hv, _⟩
    · exact ⟨_, _, _, hv⟩
    · exact ⟨_, _, _, hv⟩
  go_wp2
  go_ret2
  refine ⟨rfl, ?_, ?_⟩
  · exact .inr (Lib.BuilderAt.put (T := 58) (e := 5) hB hb2 (bs' := bs ++ Lib.strCells s) (by simpa [Lib.strCells_length] using hown') (by decide))
  · exact (hb1.grown hgrow (by have := hb1.size; omega) (fun k hk => (hown.lt k hk).1)).setCell (p := ⟨b, 1, none⟩) hB _
theorem bld_string (B b : Nat) (bs : List UInt8) (w : World) (h : IsBld B b bs w) (hB : B ≤ w.heap.size) :
    Calls Tryz.prog 35 #[.pointer (some ⟨b, 0, none⟩)] w fun e w' => e = .returned (.string ⟨bs.toArray⟩) ∧ Below B w w' := Any.Builder_String_any Tryz.layXT bldExtraT B b bs w h hB
end Go.Proofs.YtmmijmhdbpldpaaGreatDoor
