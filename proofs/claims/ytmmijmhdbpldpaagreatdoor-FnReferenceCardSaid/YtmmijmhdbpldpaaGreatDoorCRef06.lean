/- Texts of this proof, joined: The loop of (*parseState).inline: a text is read, each sign that asks for a parser by this one's contract. (Its frame is printed by wip/gen_inl.py.), The top block of the stack is closed: what it builds goes to the one below it, The block starters that decline a line: headings. -/
import Derived.Test.YtmmijmhdbpldpaaGreatDoorCRef04
import Derived.Test.YtmmijmhdbpldpaaGreatDoorCRef05
import Derived.Test.YtmmijmhdbpldpaaGreatDoorCRef01
import Derived.Test.YtmmijmhdbpldpaaGreatDoorCRef02
import Derived.Test.YtmmijmhdbpldpaaGreatDoorCRef03
import Derived.Deep.RegionLaw
import Derived.Deep.AppendLies
/- The loop of (*parseState).inline: a text is read, each sign that asks for a parser by this one's contract. (Its frame is printed by wip/gen_inl.py.) -/






namespace Go.Proofs.YtmmijmhdbpldpaaGreatDoor
open Go.RowKit
/-- The parser that a character asks for, and what is bound in it. -/
def parF (o : Opt) (g : Nat) (c : Int) : Option (FuncId × Array Value) :=
  if c = 92 then some (65, #[])
  else if c = 96 then some (67, #[.pointer (some ⟨g, 12, none⟩)])
  else if c = 60 then some (68, #[])
  else if c = 91 then some (69, #[])
  else if c = 33 then some (70, #[])
  else if c = 95 ∨ c = 42 then some (71, #[])
  else if c = 46 then (if o.dots then some (72, #[]) else none)
  else if c = 45 then (if o.dashes then some (73, #[]) else none)
  else if c = 34 ∨ c = 39 then (if o.quotes then some (71, #[]) else none)
  else if c = 126 then (if o.del then some (71, #[]) else none)
  else if c = 10 then some (74, #[])
  else if c = 38 then some (75, #[])
  else if c = 58 then (if o.emoji then some (76, #[]) else none)
  else none
def zeroBack : List Value := List.replicate 80 (.int .i64 0) ++ [.bool false]
@[reducible] def tkAt (c : Int) (tk : Bool) : Bool := tk || decide (c = 96)
@[reducible] def bkAt (c : Int) (tk : Bool) (bk : List Value) : List Value := if c = 96 ∧ tk = false then zeroBack else bk
@[reducible] def psAt (r : PSr) (s : ByteArray) (c : Bool) (bk : List Value) : PSr := { r with s := s, corner := c, back := bk }
/-- What a parser leaves. -/
def ParP (B g : Nat) (r : PSr) (s : ByteArray) (J : Nat → Nat → Bool → List Value → List Kind → Prop) (i em : Nat) (tk : Bool) (ks : List Kind) (w : World) (e : Ending) (w' : World) : Prop :=
  ∃ c bk, InS B g (psAt r s c bk) em ks w' ∧ Mod (fun k => k = g ∨ B ≤ k) w w' ∧
    ((∃ x st en, e = .returned (.tuple #[x, st, en, .bool false]) ∧ J (i + 1) em tk bk ks) ∨
     (∃ (v : Value) (k : Kind) (st en : Nat), e = .returned (.tuple #[v, .int .i64 st, .int .i64 en, .bool true]) ∧ IsItem w' B v k ∧ k.Sure ∧ em ≤ st ∧ st ≤ s.size ∧ i < en ∧ st ≤ en ∧ en ≤ s.size ∧ J en en tk bk (ks ++ pieceK s em st ++ [k])))
/-- How a text is read: J holds ahead of each sign, Fin of the whole list. -/
structure InlH (o : Opt) (B g : Nat) (r : PSr) (s : ByteArray) (w : World) (J : Nat → Nat → Bool → List Value → List Kind → Prop) (Fin : List Kind → Prop) : Prop where
  start : J 0 0 false r.back []
  fin : ∀ em tk bk ks, J s.size em tk bk ks → Fin (ks ++ pieceK s em s.size)
  quiet : ∀ i em tk bk ks, J i em tk bk ks → em ≤ i → i < s.size → parF o g (bt s i) = none → J (i + 1) em tk bk ks
  tick : ∀ i em tk bk ks, J i em tk bk ks → em ≤ i → i < s.size → bt s i = 96 → tk = false → ∀ c W, InS B g (psAt r s c bk) em ks W → Calls Tryz.prog 66 #[.pointer (some ⟨g, 12, none⟩)] W fun e w' => e = .returned (.tuple #[]) ∧ InS B g (psAt r s c zeroBack) em ks w' ∧ Mod (fun k => k = g) W w'
  call : ∀ i em tk bk ks f rv, J i em tk bk ks → em ≤ i → i < s.size → parF o g (bt s i) = some (f, rv) → ∀ c W, InS B g (psAt r s c (bkAt (bt s i) tk bk)) em ks W → Mod (fun k => k = g ∨ B ≤ k) w W →
    Calls Tryz.prog f (rv ++ #[.pointer (some ⟨g, 0, none⟩), .string s, .int .i64 i]) W (ParP B g r s J i em (tkAt (bt s i) tk) ks W)
/-- What is known at the loop's head. -/
def InlR (B g : Nat) (r : PSr) (s : ByteArray) (J : Nat → Nat → Bool → List Value → List Kind → Prop) (w : World) (i : Nat) (tk : Bool) (wr : World) : Prop :=
  ∃ em c bk ks, i ≤ s.size ∧ em ≤ i ∧ ks.length ≤ 2 * em ∧ (∀ k ∈ ks, k.Sure) ∧ InS B g (psAt r s c bk) em ks wr ∧ J i em tk bk ks ∧ Mod (fun k => k = g ∨ B ≤ k) w wr
/-- What is known behind the switch. -/
def SwR (o : Opt) (B g : Nat) (r : PSr) (s : ByteArray) (i em : Nat) (tk : Bool) (c : Bool) (bk : List Value) (ks : List Kind) (wr : World) (tk2 : Bool) (fv : Value) (wx : World) : Prop :=
  (parF o g (bt s i) = none ∧ fv = .nilFunc ∧ tk2 = tk ∧ wx = wr) ∨
  (∃ f rv, parF o g (bt s i) = some (f, rv) ∧ fv = .func (Fn.func f) rv #[] ∧ tk2 = tkAt (bt s i) tk ∧ InS B g (psAt r s c (bkAt (bt s i) tk bk)) em ks wx ∧ Mod (fun k => k = g) wr wx)
def nthV : List Value → Nat → Value
  | [], _ => undef
  | a :: _, 0 => a
  | _ :: l, n + 1 => nthV l n
@[reducible] def inlFrame (g : Nat) (s : ByteArray) (tk : Bool) (i : Int) (U : Nat → Value) : Act := { tmps := #[.pointer (some ⟨g, 0, none⟩), .string s, U 2, U 3, .slice none 0 0, .slice none 0 0, .int .i64 0, .bool tk, .int .i64 i, U 9, U 10, U 11, U 12, U 13, U 14, U 15, undef, undef, undef, undef, undef, U 21, U 22, U 23, U 24, U 25, U 26, U 27, U 28, U 29, U 30, U 31, U 32, U 33, U 34, U 35, U 36, U 37, U 38, U 39, U 40, U 41, U 42, U 43, U 44, U 45, U 46, U 47, U 48, U 49, U 50, U 51, U 52, U 53, U 54, U 55, U 56, U 57, U 58, U 59, U 60, U 61, U 62, U 63, U 64, U 65, U 66, U 67, U 68, U 69, U 70, U 71, U 72, U 73, U 74, U 75, U 76, U 77, U 78, U 79, U 80, U 81, U 82, U 83, U 84, U 85, U 86, U 87, U 88, U 89, U 90, U 91, U 92, U 93, U 94, U 95, U 96, U 97, U 98, U 99, U 100, U 101, U 102, U 103, U 104, U 105, U 106, U 107, U 108, U 109, U 110, U 111, U 112, U 113, U 114, U 115, U 116, U 117, U 118, U 119, U 120, U 121, U 122, U 123, U 124, U 125, U 126, U 127, U 128, U 129, U 130, U 131, U 132, U 133, U 134, undef, undef, undef, undef, undef, undef, undef, undef, U 143, U 144, U 145, U 146, U 147, U 148, U 149, U 150, U 151, U 152, U 153, U 154, U 155, U 156, U 157, U 158, U 159, U 160, U 161, U 162, U 163, U 164, U 165, undef, undef, undef, undef, undef, undef, undef, undef, undef, undef, undef, undef, undef, undef, undef, undef, undef, undef, undef, undef, undef, undef, undef, undef, undef, undef, undef, undef, undef, undef, undef, undef, undef, undef, undef, undef, undef, undef, undef, undef, undef, undef, undef, undef, undef, undef, undef, undef, undef, undef, undef, undef, undef, undef, undef, undef, undef, undef, undef, undef, undef, undef, undef, undef, undef, undef, undef, undef, undef, undef, undef, undef, undef, undef, undef, undef, undef, undef, undef, undef, undef, undef, undef, undef, undef, undef, undef, undef, undef, undef, undef, undef, undef, undef, undef, undef, undef, undef, undef, undef, undef, undef, undef, undef, undef, undef, undef, undef, undef, undef, undef, undef, undef, undef, undef, undef, undef, undef, undef, undef, undef, undef, undef, undef, undef, undef, undef, U 293, U 294, undef, undef, undef, undef, undef, undef, undef, undef, undef, undef, undef, undef, undef, undef, undef, undef, undef, undef, undef, undef, undef, undef, undef, undef, undef, undef, undef, undef, undef, undef, undef, undef, undef, undef, undef, undef, undef, undef, undef, undef], defers := [] }
def inlList (g : Nat) (s : ByteArray) (tk : Bool) (i : Int) (U : Nat → Value) : List Value := [.pointer (some ⟨g, 0, none⟩), .string s, U 2, U 3, .slice none 0 0, .slice none 0 0, .int .i64 0, .bool tk, .int .i64 i, U 9, U 10, U 11, U 12, U 13, U 14, U 15, undef, undef, undef, undef, undef, U 21, U 22, U 23, U 24, U 25, U 26, U 27, U 28, U 29, U 30, U 31, U 32, U 33, U 34, U 35, U 36, U 37, U 38, U 39, U 40, U 41, U 42, U 43, U 44, U 45, U 46, U 47, U 48, U 49, U 50, U 51, U 52, U 53, U 54, U 55, U 56, U 57, U 58, U 59, U 60, U 61, U 62, U 63, U 64, U 65, U 66, U 67, U 68, U 69, U 70, U 71, U 72, U 73, U 74, U 75, U 76, U 77, U 78, U 79, U 80, U 81, U 82, U 83, U 84, U 85, U 86, U 87, U 88, U 89, U 90, U 91, U 92, U 93, U 94, U 95, U 96, U 97, U 98, U 99, U 100, U 101, U 102, U 103, U 104, U 105, U 106, U 107, U 108, U 109, U 110, U 111, U 112, U 113, U 114, U 115, U 116, U 117, U 118, U 119, U 120, U 121, U 122, U 123, U 124, U 125, U 126, U 127, U 128, U 129, U 130, U 131, U 132, U 133, U 134, undef, undef, undef, undef, undef, undef, undef, undef, U 143, U 144, U 145, U 146, U 147, U 148, U 149, U 150, U 151, U 152, U 153, U 154, U 155, U 156, U 157, U 158, U 159, U 160, U 161, U 162, U 163, U 164, U 165, undef, undef, undef, undef, undef, undef, undef, undef, undef, undef, undef, undef, undef, undef, undef, undef, undef, undef, undef, undef, undef, undef, undef, undef, undef, undef, undef, undef, undef, undef, undef, undef, undef, undef, undef, undef, undef, undef, undef, undef, undef, undef, undef, undef, undef, undef, undef, undef, undef, undef, undef, undef, undef, undef, undef, undef, undef, undef, undef, undef, undef, undef, undef, undef, undef, undef, undef, undef, undef, undef, undef, undef, undef, undef, undef, undef, undef, undef, undef, undef, undef, undef, undef, undef, undef, undef, undef, undef, undef, undef, undef, undef, undef, undef, undef, undef, undef, undef, undef, undef, undef, undef, undef, undef, undef, undef, undef, undef, undef, undef, undef, undef, undef, undef, undef, undef, undef, undef, undef, undef, undef, undef, undef, undef, undef, undef, undef, U 293, U 294, undef, undef, undef, undef, undef, undef, undef, undef, undef, undef, undef, undef, undef, undef, undef, undef, undef, undef, undef, undef, undef, undef, undef, undef, undef, undef, undef, undef, undef, undef, undef, undef, undef, undef, undef, undef, undef, undef, undef, undef]
theorem frame_eq {g : Nat} {s : ByteArray} {tk : Bool} {i : Int} (L : List Value) (h : inlList g s tk i (nthV L) = L) : ({ tmps := L.toArray, defers := [] } : Act) = inlFrame g s tk i (nthV L) := by
  have : inlFrame g s tk i (nthV L) = { tmps := (inlList g s tk i (nthV L)).toArray, defers := [] } := rfl
  rw [this, h]
def InlI (B g : Nat) (r : PSr) (s : ByteArray) (J : Nat → Nat → Bool → List Value → List Kind → Prop) (w : World) (a : Act) (wr : World) : Prop := ∃ (i : Nat) (tk : Bool) (U : Nat → Value), InlR B g r s J w i tk wr ∧ a = inlFrame g s tk i U
def InlC2 (g : Nat) (s : ByteArray) (i : Nat) (R : Bool → Value → World → Prop) (a : Act) (wx : World) : Prop := ∃ (tk : Bool) (U : Nat → Value), R tk (U 9) wx ∧ a = inlFrame g s tk i U
theorem parF_enters {o : Opt} {g : Nat} {c : Int} {f : FuncId} {rv : Array Value} (h : parF o g c = some (f, rv)) : ∀ args W, (callFunc f args).run Tryz.prog W = .ok (.enter f args) W := by
  intro args W
  unfold parF at h
  by_cases h0 : c = 92
  · rw [if_pos h0] at h
    cases h
    exact Go.Proofs.enters_of Tryz.func65 (by kernel_rfl) rfl args W
  rw [if_neg h0] at h
  by_cases h1 : c = 96
  · rw [if_pos h1] at h
    cases h
    exact Go.Proofs.enters_of Tryz.func67 (by kernel_rfl) rfl args W
  rw [if_neg h1] at h
  by_cases h2 : c = 60
  · rw [if_pos h2] at h
    cases h
    exact Go.Proofs.enters_of Tryz.func68 (by kernel_rfl) rfl args W
  rw [if_neg h2] at h
  by_cases h3 : c = 91
  · rw [if_pos h3] at h
    cases h
    exact Go.Proofs.enters_of Tryz.func69 (by kernel_rfl) rfl args W
  rw [if_neg h3] at h
  by_cases h4 : c = 33
  · rw [if_pos h4] at h
    cases h
    exact Go.Proofs.enters_of Tryz.func70 (by kernel_rfl) rfl args W
  rw [if_neg h4] at h
  by_cases h5 : c = 95 ∨ c = 42
  · rw [if_pos h5] at h
    cases h
    exact Go.Proofs.enters_of Tryz.func71 (by kernel_rfl) rfl args W
  rw [if_neg h5] at h
  by_cases h6 : c = 46
  · rw [if_pos h6] at h
    by_cases k : o.dots = true
    · rw [if_pos k] at h
      cases h
      exact Go.Proofs.enters_of Tryz.func72 (by kernel_rfl) rfl args W
    · rw [if_neg k] at h
      cases h
  rw [if_neg h6] at h
  by_cases h7 : c = 45
  · rw [if_pos h7] at h
    by_cases k : o.dashes = true
    · rw [if_pos k] at h
      cases h
      exact Go.Proofs.enters_of Tryz.func73 (by kernel_rfl) rfl args W
    · rw [if_neg k] at h
      cases h
  rw [if_neg h7] at h
  by_cases h8 : c = 34 ∨ c = 39
  · rw [if_pos h8] at h
    by_cases k : o.quotes = true
    · rw [if_pos k] at h
      cases h
      exact Go.Proofs.enters_of Tryz.func71 (by kernel_rfl) rfl args W
    · rw [if_neg k] at h
      cases h
  rw [if_neg h8] at h
  by_cases h9 : c = 126
  · rw [if_pos h9] at h
    by_cases k : o.del = true
    · rw [if_pos k] at h
      cases h
      exact Go.Proofs.enters_of Tryz.func71 (by kernel_rfl) rfl args W
    · rw [if_neg k] at h
      cases h
  rw [if_neg h9] at h
  by_cases h10 : c = 10
  · rw [if_pos h10] at h
    cases h
    exact Go.Proofs.enters_of Tryz.func74 (by kernel_rfl) rfl args W
  rw [if_neg h10] at h
  by_cases h11 : c = 38
  · rw [if_pos h11] at h
    cases h
    exact Go.Proofs.enters_of Tryz.func75 (by kernel_rfl) rfl args W
  rw [if_neg h11] at h
  by_cases h12 : c = 58
  · rw [if_pos h12] at h
    by_cases k : o.emoji = true
    · rw [if_pos k] at h
      cases h
      exact Go.Proofs.enters_of Tryz.func76 (by kernel_rfl) rfl args W
    · rw [if_neg k] at h
      cases h
  rw [if_neg h12] at h
  cases h
/-- What the reading of a text leaves: the list, with neighbouring plain texts as one. -/
theorem plainK_sure (l : List UInt8) : (plainK l).Sure := ⟨plainK_ok l, fun h => by rw [plainOf_plain] at h; cases h⟩
set_option maxRecDepth 20000 in
set_option maxHeartbeats 16000000 in
theorem inline_loop (o : Opt) (g : Nat) (r : PSr) (s0 s : ByteArray) (w : World) (J : Nat → Nat → Bool → List Value → List Kind → Prop) (Fin : List Kind → Prop) (hps : IsPS w g r) (hpar : Blk w r.parser 77 o.parser) (hne : r.parser ≠ g) (out : List UInt8)
    (hs0 : s0.size ≤ 100000) (hs : s = ⟨(trimR (trimL s0.data.toList)).toArray⟩) (hsz : s.size ≤ 100000) (H : InlH o w.heap.size g r s w J Fin) (hfin : ∀ ks, Fin ks → (∀ k ∈ ks, k.Sure) → ks ≠ [] ∧ (ks.filterMap plainOf).flatten.length ≤ 1000000 ∧ AutP o w.heap.size g r out (mergeA [] ks)) :
    Calls Tryz.prog 56 #[.pointer (some ⟨g, 0, none⟩), .string s0] w (InlPost g r out w) := by
  obtain ⟨is0, his0, hsz0, hsz1, hsz2⟩ := info_parts infoInl
  have HH := hid H
  have HPS := hid hps
  have HPAR := hid hpar
  have HFIN := hid hfin
  have hgl := hps.lt
  have hpl := hpar.lt
  have fq := hps.free
  have c7 := hps.c7
  have c8 := hps.c8
  have c9 := hps.c9
  have hT : Calls Tryz.prog 64 #[.string s0] w fun e w' => e = .returned (.string s) ∧ w = w' := by rw [hs]; exact trimST_any s0 w hs0
  have HT := hid hT
  clear hT hs
  have hgB : g < w.heap.size := hgl
  clear H hps hpar hfin
  have hin0 : Hid (InS w.heap.size g (psAt r s r.corner r.back) 0 [] (World.setCell (World.setCell (World.setCell w ⟨g, 7, none⟩ (.string s)) ⟨g, 9, none⟩ (.slice none 0 0)) ⟨g, 8, none⟩ (.int .i64 0))) := hid ⟨Sl.nil, [], ((HPS.out.set7 s).set9 none 0 0).set8 0, World.ownsRow_nil _ _ _ _, rfl, IsItems.nil _ _⟩
  have hm0 : Hid (Mod (fun k => k = g ∨ w.heap.size ≤ k) w (World.setCell (World.setCell (World.setCell w ⟨g, 7, none⟩ (.string s)) ⟨g, 9, none⟩ (.slice none 0 0)) ⟨g, 8, none⟩ (.int .i64 0))) := hid ((((Mod.refl _ w).setCell (p := ⟨g, 7, none⟩) (.inl (.inl rfl)) _).setCell (p := ⟨g, 9, none⟩) (.inl (.inl rfl)) _).setCell (p := ⟨g, 8, none⟩) (.inl (.inl rfl)) _)
  go_enter Tryz.func56, Tryz.ntmps56
  go_wp2_with (first | (go_at_call 64; refine HT.out.mono ?_; rintro e w' ⟨rfl, rfl⟩))
  generalize World.setCell (World.setCell (World.setCell w ⟨g, 7, none⟩ (.string s)) ⟨g, 9, none⟩ (.slice none 0 0)) ⟨g, 8, none⟩ (.int .i64 0) = w1 at hin0 hm0 ⊢
  clear fq c7 c8 c9
  refine wp_loop (InlI w.heap.size g r s J w) (fun a _ => s.size - (intOf (a.tmps.getD 8 undef)).toNat) ?_ ?_
  · exact ⟨0, false, nthV _, ⟨0, r.corner, r.back, [], Nat.zero_le _, Nat.le_refl _, Nat.le_refl _, (fun k hk => by cases hk), hin0.out, HH.out.start, hm0.out⟩, frame_eq _ (by kernel_rfl)⟩
  · clear hin0 hm0
    rintro a0 wr ⟨i, tk, U, ⟨em, c, bk, ks, hi, hem, hkl, hsu, hin, hj, hm⟩, rfl⟩
    try dsimp only
    have HIN := hid hin
    have HJ := hid hj
    have HM := hid hm
    have HSU := hid hsu
    clear hin hj hm hsu
    by_cases hlt : i < s.size
    · have hb := get_bt s
      obtain ⟨l, vs, hps1, _, _, _⟩ := HIN.out
      have c0 := hps1.c0
      dsimp only [psAt] at c0
      have hpar1 : Blk wr r.parser 77 o.parser := HPAR.out.mod HM.out (by omega)
      go_upto_block 2 with fail
      refine wp_cut (InlC2 g s i (SwR o w.heap.size g r s i em tk c bk ks wr)) ?_ ?_
      · clear c0 hpar1 hps1
        rintro a2 wx ⟨tk2, U2, hcut, rfl⟩
        try dsimp only
        rcases hcut with ⟨hpf, h9, rfl, rfl⟩ | ⟨f, rv, hpf, h9, rfl, hin5, hm5⟩
        · dsimp only [inlFrame]
          rw [h9]
          have HJ2 := hid (HH.out.quiet i em tk2 bk ks HJ.out hem hlt hpf)
          clear h9 hpf
          have hnn : ∀ W, (Go.binOp BinOp.neq 130 Value.nilFunc Value.nilFunc).run Tryz.prog W = .ok (.bool false) W := fun W => by kernel_rfl
          by_cases z93 : bt s i = 93
          · go_wp2_with fail
            refine ⟨⟨i + 1, tk2, nthV _, ⟨em, c, bk, ks, hlt, by omega, hkl, HSU.out, HIN.out, HJ2.out, HM.out⟩, frame_eq _ (by kernel_rfl)⟩, ?_⟩
            simp [intOf]; omega
          · have b93 : (bt s i == 93) = false := by simpa using z93
            go_wp2_with fail
            refine ⟨⟨i + 1, tk2, nthV _, ⟨em, c, bk, ks, hlt, by omega, hkl, HSU.out, HIN.out, HJ2.out, HM.out⟩, frame_eq _ (by kernel_rfl)⟩, ?_⟩
            simp [intOf]; omega
        · dsimp only [inlFrame]
          rw [h9]
          have hmx : Mod (fun k => k = g ∨ w.heap.size ≤ k) w wx := HM.out.trans hm5 (fun k _ e => .inl e)
          have HC := hid (HH.out.call i em tk bk ks f rv HJ.out hem hlt hpf c wx hin5 hmx)
          have HMX := hid hmx
          clear h9 hin5 hm5 hmx
          generalize tkAt (bt s i) tk = tk3 at HC ⊢
          have hent := parF_enters hpf
          have hnn : ∀ W, (Go.binOp BinOp.neq 130 (Value.func (Fn.func f) rv #[]) Value.nilFunc).run Tryz.prog W = .ok (.bool true) W := fun W => by kernel_rfl
          go_wp2_with fail
          refine HC.out.mono ?_
          rintro e w6 ⟨c6, bk6, hin6, hm6, hcase⟩
          have HIN6 := hid hin6
          have HM6 := hid (HMX.out.trans hm6 (fun _ _ h => h))
          clear hin6 hm6 HC
          rcases hcase with ⟨x, st, en, rfl, hj6⟩ | ⟨v, k, st, en, rfl, hit, hks, q1, q2, q3, q4, q5, hj6⟩
          · have HJ6 := hid hj6
            clear hj6
            by_cases z93 : bt s i = 93
            · go_wp2_with fail
              refine ⟨⟨i + 1, _, nthV _, ⟨em, c6, bk6, ks, hlt, by omega, hkl, HSU.out, HIN6.out, HJ6.out, HM6.out⟩, frame_eq _ (by kernel_rfl)⟩, ?_⟩
              simp [intOf]; omega
            · have b93 : (bt s i == 93) = false := by simpa using z93
              go_wp2_with fail
              refine ⟨⟨i + 1, _, nthV _, ⟨em, c6, bk6, ks, hlt, by omega, hkl, HSU.out, HIN6.out, HJ6.out, HM6.out⟩, frame_eq _ (by kernel_rfl)⟩, ?_⟩
              simp [intOf]; omega
          · obtain ⟨ib, rfl, hib, hibB⟩ := hit
            have HJ6 := hid hj6
            have HKS := hid hks
            have hBw6 : w.heap.size ≤ w6.heap.size := HM6.out.size
            have HE := hid (emit_any w.heap.size g (psAt r s c6 bk6) em st ks w6 hgB hBw6 HIN6.out (fun k hk => (HSU.out k hk).1) q1 q2 (by omega))
            have HIB := hid (show IsItem w6 w.heap.size (.iface k.T (.pointer (some ⟨ib, 0, none⟩))) k from ⟨ib, rfl, hib, hibB⟩)
            have ta := hks.1.open_ (some ⟨ib, 0, none⟩)
            clear hj6 hks hib
            go_wp2_with fail
            refine HE.out.mono ?_
            rintro e w7 ⟨rfl, hin7, hm7, hit7⟩
            have HIT7 := hid (hit7 _ k HKS.out.1 HIB.out)
            have HM7 := hid (HM6.out.trans hm7 (fun _ _ h => h))
            have hpk : (pieceK s em st).length ≤ 1 := by unfold pieceK; split <;> simp
            have hkl7 : (ks ++ pieceK s em st).length ≤ 2 * em + 1 := by rw [List.length_append]; omega
            have HSU7 : Hid (∀ k ∈ ks ++ pieceK s em st, k.Sure) := hid (fun k hk => by
              rcases List.mem_append.1 hk with h | h
              · exact HSU.out k h
              · unfold pieceK at h
                split at h
                · simp only [List.mem_cons, List.not_mem_nil, or_false] at h
                  subst h
                  exact plainK_sure _
                · cases h)
            obtain ⟨l7, vs7, hps7, hrow7, hln7, hits7⟩ := hin7
            have c9 := hps7.c9
            have f7 := hps7.free
            have HPS7 := hid hps7
            have HROW7 := hid hrow7
            have HITS7 := hid hits7
            have HLN7 := hid hln7
            have hn7 : l7.n ≤ 300000 := by rw [hln7]; omega
            clear hm7 hit7 hps7 hrow7 hits7 hln7 HE HIN6 HIB HMX
            go_wp2_with (at_builtin; refine wpList_append_lies _ rfl (.tmp 147) (.tmp 149) 88 (by rfl) w.heap.size 132 is0 _ 1 16 Tryz.underlying88 his0 hsz0 hsz1 hsz2 rfl (by decide) (.slice l7.a l7.n l7.c) l7.n vs7 (by rfl) (HROW7.out.alloc _) ⟨w7.heap.size, 0, none⟩ 1 1 [.iface k.T (.pointer (some ⟨ib, 0, none⟩))] (by rfl) rfl (World.news_of_block (heap_alloc_new _ _)) (by intro v hv; simp at hv; subst hv; rfl) (by omega) (by unfold maxLen; omega) (by omega) (by have := HM7.out.size; simp; omega) (w7.heap.size + 1) (by simp) ?_; intro g2 cap2 w8 hown8 hgr8 hat8 hlt8; have hp8 := Blk.grown (Blk.alloc HPS7.out (.cells #[.iface k.T (.pointer (some ⟨ib, 0, none⟩))] 132)) hgr8 (own_ne HROW7.out HPS7.out (by decide)); have q9 := IsPS.c9 hp8; have f8 := Blk.free hp8)
            have hpush := InS.push (r := psAt r s c6 bk6) (em := st) HPS7.out HROW7.out HLN7.out HITS7.out (fun q hq => (HSU7.out q hq).1) HKS.out.1 HIT7.out hown8 hgr8
            have HPU := hid hpush.1
            have HPM := hid (HM7.out.trans hpush.2 (S := fun k => k = g ∨ w.heap.size ≤ k) (fun q _ e => by
              rcases e with e | e
              · exact .inl e
              · exact .inr (ownBase HROW7.out e)))
            clear hpush hown8 hgr8 hat8 hlt8 hp8 q9 f8 c9 f7
            generalize World.setCell w8 ⟨g, 9, none⟩ _ = w9 at HPU HPM ⊢
            have HSU9 : Hid (∀ q ∈ ks ++ pieceK s em st ++ [k], q.Sure) := hid (fun q hq => by
              rcases List.mem_append.1 hq with h | h
              · exact HSU7.out q h
              · simp only [List.mem_cons, List.not_mem_nil, or_false] at h
                subst h
                exact HKS.out)
            have HSK := hid (skipI_any w.heap.size g (psAt r s c6 bk6) st en (ks ++ pieceK s em st ++ [k]) w9 HPU.out (fun q hq => (HSU9.out q hq).1))
            go_wp2_with fail
            refine HSK.out.mono ?_
            rintro e w10 ⟨rfl, hin10, hm10⟩
            have HI10 := hid hin10
            have HM10 := hid (HPM.out.trans hm10 (S := fun k => k = g ∨ w.heap.size ≤ k) (fun q _ e => .inl e))
            clear hin10 hm10
            go_wp2_with fail
            refine ⟨⟨en, tk3, nthV _, ⟨en, c6, bk6, ks ++ pieceK s em st ++ [k], q5, Nat.le_refl _, by rw [List.length_append, List.length_cons, List.length_nil]; omega, HSU9.out, HI10.out, HJ6.out, HM10.out⟩, frame_eq _ (by kernel_rfl)⟩, ?_⟩
            simp [intOf]; omega
      · intro _ _ _ _
        have hother : ∀ z, bt s i = z → ¬ z = 96 → InS w.heap.size g (psAt r s c (bkAt (bt s i) tk bk)) em ks wr := fun z hz h => by
          unfold bkAt
          rw [if_neg (by rw [hz]; omega)]
          exact HIN.out
        have HO := hid hother
        clear hother
        have p1 : wr.cell? ⟨r.parser, 1, none⟩ = some (.bool o.del) := hpar1.at_ 1 rfl
        have p6 : wr.cell? ⟨r.parser, 6, none⟩ = some (.bool o.emoji) := hpar1.at_ 6 rfl
        have p7 : wr.cell? ⟨r.parser, 7, none⟩ = some (.bool o.dots) := hpar1.at_ 7 rfl
        have p8 : wr.cell? ⟨r.parser, 8, none⟩ = some (.bool o.dashes) := hpar1.at_ 8 rfl
        have p9 : wr.cell? ⟨r.parser, 9, none⟩ = some (.bool o.quotes) := hpar1.at_ 9 rfl
        clear hpar1 hps1
        by_cases z0 : bt s i = 92
        · have hpf : parF o g (bt s i) = some (65, #[]) := by simp [parF, z0]
          go_wp2_with fail
          refine Met.intro ?_
          go_step
          exact ⟨tk, nthV _, .inr ⟨_, _, hpf, rfl, by simp [tkAt, z0], HO.out _ z0 (by omega), Mod.refl _ _⟩, frame_eq _ (by kernel_rfl)⟩
        by_cases z1 : bt s i = 96
        · cases tk with
          | true =>
            go_wp2_with fail
            refine Met.intro ?_
            go_step
            exact ⟨true, nthV _, .inr ⟨67, #[.pointer (some ⟨g, 12, none⟩)], by simp [parF, z1], rfl, by simp [tkAt], by unfold bkAt; rw [if_neg (by simp)]; exact HIN.out, Mod.refl _ _⟩, frame_eq _ (by kernel_rfl)⟩
          | false =>
            have HTK := hid (HH.out.tick i em false bk ks HJ.out hem hlt z1 rfl c wr HIN.out)
            go_wp2_with fail
            refine HTK.out.mono ?_
            rintro e w5 ⟨rfl, hin5, hm5⟩
            have HI5 := hid hin5
            have HM5 := hid hm5
            clear hin5 hm5
            go_wp2_with fail
            refine Met.intro ?_
            go_step
            exact ⟨true, nthV _, .inr ⟨67, #[.pointer (some ⟨g, 12, none⟩)], by simp [parF, z1], rfl, by simp [tkAt, z1], by unfold bkAt; rw [if_pos ⟨z1, rfl⟩]; exact HI5.out, HM5.out⟩, frame_eq _ (by kernel_rfl)⟩
        by_cases z2 : bt s i = 60
        · have hpf : parF o g (bt s i) = some (68, #[]) := by simp [parF, z2]
          go_wp2_with fail
          refine Met.intro ?_
          go_step
          exact ⟨tk, nthV _, .inr ⟨_, _, hpf, rfl, by simp [tkAt, z2], HO.out _ z2 (by omega), Mod.refl _ _⟩, frame_eq _ (by kernel_rfl)⟩
        by_cases z3 : bt s i = 91
        · have hpf : parF o g (bt s i) = some (69, #[]) := by simp [parF, z3]
          go_wp2_with fail
          refine Met.intro ?_
          go_step
          exact ⟨tk, nthV _, .inr ⟨_, _, hpf, rfl, by simp [tkAt, z3], HO.out _ z3 (by omega), Mod.refl _ _⟩, frame_eq _ (by kernel_rfl)⟩
        by_cases z4 : bt s i = 33
        · have hpf : parF o g (bt s i) = some (70, #[]) := by simp [parF, z4]
          go_wp2_with fail
          refine Met.intro ?_
          go_step
          exact ⟨tk, nthV _, .inr ⟨_, _, hpf, rfl, by simp [tkAt, z4], HO.out _ z4 (by omega), Mod.refl _ _⟩, frame_eq _ (by kernel_rfl)⟩
        by_cases z5 : bt s i = 95
        · have hpf : parF o g (bt s i) = some (71, #[]) := by simp [parF, z5]
          go_wp2_with fail
          refine Met.intro ?_
          go_step
          exact ⟨tk, nthV _, .inr ⟨_, _, hpf, rfl, by simp [tkAt, z5], HO.out _ z5 (by omega), Mod.refl _ _⟩, frame_eq _ (by kernel_rfl)⟩
        by_cases z6 : bt s i = 42
        · have hpf : parF o g (bt s i) = some (71, #[]) := by simp [parF, z6]
          go_wp2_with fail
          refine Met.intro ?_
          go_step
          exact ⟨tk, nthV _, .inr ⟨_, _, hpf, rfl, by simp [tkAt, z6], HO.out _ z6 (by omega), Mod.refl _ _⟩, frame_eq _ (by kernel_rfl)⟩
        by_cases z7 : bt s i = 46
        · cases hd : o.dots with
          | true =>
            have hpf : parF o g (bt s i) = some (72, #[]) := by simp [parF, z7, hd]
            rw [hd] at p7
            go_wp2_with fail
            refine Met.intro ?_
            go_step
            exact ⟨tk, nthV _, .inr ⟨_, _, hpf, rfl, by simp [tkAt, z7], HO.out _ z7 (by omega), Mod.refl _ _⟩, frame_eq _ (by kernel_rfl)⟩
          | false =>
            have hpf : parF o g (bt s i) = none := by simp [parF, z7, hd]
            rw [hd] at p7
            go_wp2_with fail
            refine Met.intro ?_
            go_step
            exact ⟨tk, nthV _, .inl ⟨hpf, rfl, rfl, rfl⟩, frame_eq _ (by kernel_rfl)⟩
        by_cases z8 : bt s i = 45
        · cases hd : o.dashes with
          | true =>
            have hpf : parF o g (bt s i) = some (73, #[]) := by simp [parF, z8, hd]
            rw [hd] at p8
            go_wp2_with fail
            refine Met.intro ?_
            go_step
            exact ⟨tk, nthV _, .inr ⟨_, _, hpf, rfl, by simp [tkAt, z8], HO.out _ z8 (by omega), Mod.refl _ _⟩, frame_eq _ (by kernel_rfl)⟩
          | false =>
            have hpf : parF o g (bt s i) = none := by simp [parF, z8, hd]
            rw [hd] at p8
            go_wp2_with fail
            refine Met.intro ?_
            go_step
            exact ⟨tk, nthV _, .inl ⟨hpf, rfl, rfl, rfl⟩, frame_eq _ (by kernel_rfl)⟩
        by_cases z9 : bt s i = 34
        · cases hd : o.quotes with
          | true =>
            have hpf : parF o g (bt s i) = some (71, #[]) := by simp [parF, z9, hd]
            rw [hd] at p9
            go_wp2_with fail
            refine Met.intro ?_
            go_step
            exact ⟨tk, nthV _, .inr ⟨_, _, hpf, rfl, by simp [tkAt, z9], HO.out _ z9 (by omega), Mod.refl _ _⟩, frame_eq _ (by kernel_rfl)⟩
          | false =>
            have hpf : parF o g (bt s i) = none := by simp [parF, z9, hd]
            rw [hd] at p9
            go_wp2_with fail
            refine Met.intro ?_
            go_step
            exact ⟨tk, nthV _, .inl ⟨hpf, rfl, rfl, rfl⟩, frame_eq _ (by kernel_rfl)⟩
        by_cases z10 : bt s i = 39
        · cases hd : o.quotes with
          | true =>
            have hpf : parF o g (bt s i) = some (71, #[]) := by simp [parF, z10, hd]
            rw [hd] at p9
            go_wp2_with fail
            refine Met.intro ?_
            go_step
            exact ⟨tk, nthV _, .inr ⟨_, _, hpf, rfl, by simp [tkAt, z10], HO.out _ z10 (by omega), Mod.refl _ _⟩, frame_eq _ (by kernel_rfl)⟩
          | false =>
            have hpf : parF o g (bt s i) = none := by simp [parF, z10, hd]
            rw [hd] at p9
            go_wp2_with fail
            refine Met.intro ?_
            go_step
            exact ⟨tk, nthV _, .inl ⟨hpf, rfl, rfl, rfl⟩, frame_eq _ (by kernel_rfl)⟩
        by_cases z11 : bt s i = 126
        · cases hd : o.del with
          | true =>
            have hpf : parF o g (bt s i) = some (71, #[]) := by simp [parF, z11, hd]
            rw [hd] at p1
            go_wp2_with fail
            refine Met.intro ?_
            go_step
            exact ⟨tk, nthV _, .inr ⟨_, _, hpf, rfl, by simp [tkAt, z11], HO.out _ z11 (by omega), Mod.refl _ _⟩, frame_eq _ (by kernel_rfl)⟩
          | false =>
            have hpf : parF o g (bt s i) = none := by simp [parF, z11, hd]
            rw [hd] at p1
            go_wp2_with fail
            refine Met.intro ?_
            go_step
            exact ⟨tk, nthV _, .inl ⟨hpf, rfl, rfl, rfl⟩, frame_eq _ (by kernel_rfl)⟩
        by_cases z12 : bt s i = 10
        · have hpf : parF o g (bt s i) = some (74, #[]) := by simp [parF, z12]
          go_wp2_with fail
          refine Met.intro ?_
          go_step
          exact ⟨tk, nthV _, .inr ⟨_, _, hpf, rfl, by simp [tkAt, z12], HO.out _ z12 (by omega), Mod.refl _ _⟩, frame_eq _ (by kernel_rfl)⟩
        by_cases z13 : bt s i = 38
        · have hpf : parF o g (bt s i) = some (75, #[]) := by simp [parF, z13]
          go_wp2_with fail
          refine Met.intro ?_
          go_step
          exact ⟨tk, nthV _, .inr ⟨_, _, hpf, rfl, by simp [tkAt, z13], HO.out _ z13 (by omega), Mod.refl _ _⟩, frame_eq _ (by kernel_rfl)⟩
        by_cases z14 : bt s i = 58
        · cases hd : o.emoji with
          | true =>
            have hpf : parF o g (bt s i) = some (76, #[]) := by simp [parF, z14, hd]
            rw [hd] at p6
            go_wp2_with fail
            refine Met.intro ?_
            go_step
            exact ⟨tk, nthV _, .inr ⟨_, _, hpf, rfl, by simp [tkAt, z14], HO.out _ z14 (by omega), Mod.refl _ _⟩, frame_eq _ (by kernel_rfl)⟩
          | false =>
            have hpf : parF o g (bt s i) = none := by simp [parF, z14, hd]
            rw [hd] at p6
            go_wp2_with fail
            refine Met.intro ?_
            go_step
            exact ⟨tk, nthV _, .inl ⟨hpf, rfl, rfl, rfl⟩, frame_eq _ (by kernel_rfl)⟩
        have b0 : (bt s i == 92) = false := by simpa using z0
        have b1 : (bt s i == 96) = false := by simpa using z1
        have b2 : (bt s i == 60) = false := by simpa using z2
        have b3 : (bt s i == 91) = false := by simpa using z3
        have b4 : (bt s i == 33) = false := by simpa using z4
        have b5 : (bt s i == 95) = false := by simpa using z5
        have b6 : (bt s i == 42) = false := by simpa using z6
        have b7 : (bt s i == 46) = false := by simpa using z7
        have b8 : (bt s i == 45) = false := by simpa using z8
        have b9 : (bt s i == 34) = false := by simpa using z9
        have b10 : (bt s i == 39) = false := by simpa using z10
        have b11 : (bt s i == 126) = false := by simpa using z11
        have b12 : (bt s i == 10) = false := by simpa using z12
        have b13 : (bt s i == 38) = false := by simpa using z13
        have b14 : (bt s i == 58) = false := by simpa using z14
        have hpf : parF o g (bt s i) = none := by simp [parF, z0, z1, z2, z3, z4, z5, z6, z7, z8, z9, z10, z11, z12, z13, z14]
        go_wp2_with fail
        refine Met.intro ?_
        go_step
        exact ⟨tk, nthV _, .inl ⟨hpf, rfl, rfl, rfl⟩, frame_eq _ (by kernel_rfl)⟩
    · obtain rfl : i = s.size := by omega
      have HF := hid (HH.out.fin em tk bk ks HJ.out)
      have HE := hid (emit_any w.heap.size g (psAt r s c bk) em s.size ks wr hgB HM.out.size HIN.out (fun k hk => (HSU.out k hk).1) hem (Nat.le_refl _) (by omega))
      clear HJ HIN
      go_wp2_with fail
      refine HE.out.mono ?_
      rintro e w2 ⟨rfl, ⟨l2, vs2, hps2, hrow2, hln2, hits2⟩, hm2, _⟩
      have hpk : (pieceK s em s.size).length ≤ 1 := by unfold pieceK; split <;> simp
      have HSU2 : Hid (∀ k ∈ ks ++ pieceK s em s.size, k.Sure) := hid (fun k hk => by
        rcases List.mem_append.1 hk with h | h
        · exact HSU.out k h
        · unfold pieceK at h
          split at h
          · simp only [List.mem_cons, List.not_mem_nil, or_false] at h
            subst h
            exact plainK_sure _
          · cases h)
      have hkl2 : (ks ++ pieceK s em s.size).length ≤ 2 * em + 1 := by rw [List.length_append]; omega
      obtain ⟨hne2, hL2, hA2⟩ := HFIN.out _ HF.out HSU2.out
      have hpos2 : 0 < (ks ++ pieceK s em s.size).length := List.length_pos_iff.2 hne2
      generalize ks ++ pieceK s em s.size = ks2 at hln2 hits2 HSU2 hkl2 hne2 hL2 hpos2 HF hA2
      have HA2 := hid hA2
      clear hA2
      have HM2 := hid (HM.out.trans hm2 (fun _ _ h => h))
      have c9 := hps2.c9
      have f2 := hps2.free
      have HPS2 := hid hps2
      have HROW2 := hid hrow2
      have HITS2 := hid hits2
      have hn2 : l2.n ≤ 300000 := by omega
      have h02 : 0 < l2.n := by omega
      have HLN2 := hid hln2
      clear hm2 hps2 hrow2 hits2 HE HM hln2 hkl2
      go_wp2_with fail
      go_region_law (first
        | (go_simp; go_at_call 81; refine (emph_flat w.heap.size g l2 vs2 ks2 (World.drew w2) HM2.out.size (World.ownsRow.drewN HROW2.out 1) HITS2.out (fun k hk => (HSU2.out k hk).1) (by omega) h02).mono ?_; rintro e w3 ⟨rfl, hb3⟩; have q9 := IsPS.c9 (IsPS.below (w := World.drew w2) HPS2.out hb3); have f3 := IsPS.free (IsPS.below (w := World.drew w2) HPS2.out hb3)))
      all_goals
        have hr3 : w3.ownsRow w.heap.size 132 1 l2.v l2.n vs2 := own_mod (w := World.drew w2) HROW2.out (Mod.below' (S := fun _ => False) hb3) (fun _ _ x => x)
        have hi3 : IsItems w3 w.heap.size vs2 ks2 := IsItems.mod (w := World.drew w2) HITS2.out (Mod.below' (S := fun _ => False) hb3) (fun _ _ _ _ _ _ x => x)
        have hp3 : IsPS w3 g _ := IsPS.below (w := World.drew w2) HPS2.out hb3
        have hm3 : Mod (fun k => k = g ∨ w.heap.size ≤ k) w w3 := (HM2.out.drew : Mod _ w (World.drew w2)).trans (Mod.below' (a := World.drew w2) (S := fun _ => False) hb3) (fun _ _ x => False.elim x)
        have hp4 := hid (IsPS.set9 hp3 l2.a l2.n l2.c)
        have hr4 := hid (own_far hr3 (p := ⟨g, 9, none⟩) (own_ne hr3 hp3 (by decide)) (.slice l2.a l2.n l2.c))
        have hi4 := hid (hi3.mod (S := fun k => k = g) ((Mod.refl (fun k => k = g) w3).setCell (p := ⟨g, 9, none⟩) (.inl rfl) (.slice l2.a l2.n l2.c)) (fun k hk b cs hb _ e => by subst e; exact Blk.ne_ hb hp3 (HSU2.out k hk).1.ps rfl))
        have hm4 := hid (hm3.setCell (p := ⟨g, 9, none⟩) (.inl (.inl rfl)) (.slice l2.a l2.n l2.c))
        clear hr3 hi3 hp3 hm3 q9 f3 hb3 HROW2 HITS2 HPS2 HM2 c9 f2
        generalize World.setCell w3 ⟨g, 9, none⟩ _ = w4 at hp4 hr4 hi4 hm4 ⊢
        have c9 := hp4.out.c9
        have f4 := hp4.out.free
        have HMP := hid (mergePlain_any w.heap.size g l2 vs2 ks2 w4 hm4.out.size hr4.out hi4.out HSU2.out (by omega) h02 hL2)
        go_wp2_with fail
        refine HMP.out.mono ?_
        rintro e w5 ⟨l5, vs5, rfl, hr5, hn5, hi5, hm5⟩
        have hb4 : ∀ k ∈ mergeA [] ks2, k.Ok := fun k hk => by
          rcases mergeA_mem _ _ k hk with h | ⟨l, rfl⟩
          · exact (HSU2.out k h).1
          · exact plainK_ok l
        have hp5 : IsPS w5 g _ := hp4.out.mod hm5 (fun e => own_ne hr4.out hp4.out (by decide) e)
        have hm6 : Mod (fun k => k = g ∨ w.heap.size ≤ k) w w5 := hm4.out.trans hm5 (fun k _ e => .inr (ownBase hr4.out e))
        have hp7 := hid (IsPS.set9 hp5 l5.a l5.n l5.c)
        have hr7 := hid (own_far hr5 (p := ⟨g, 9, none⟩) (own_ne hr5 hp5 (by decide)) (.slice l5.a l5.n l5.c))
        have hi7 := hid (hi5.mod (S := fun k => k = g) ((Mod.refl (fun k => k = g) w5).setCell (p := ⟨g, 9, none⟩) (.inl rfl) (.slice l5.a l5.n l5.c)) (fun k hk b cs hb _ e => by subst e; exact Blk.ne_ hb hp5 (hb4 k hk).ps rfl))
        have hm7 := hid (hm6.setCell (p := ⟨g, 9, none⟩) (.inl (.inl rfl)) (.slice l5.a l5.n l5.c))
        have q9 := hp5.c9
        have f5 := hp5.free
        have HN5 := hid hn5
        have hl5 : l5.n ≤ 1000000 := by
          have h1 := mergeA_len [] ks2
          have h2 : (flushK []).length = 0 := rfl
          have h3 := HLN2.out
          omega
        clear c9 f4 hr5 hi5 hm5 hp5 hm6 hp4 hr4 hi4 hm4 HMP hn5
        go_wp2_with fail
        generalize World.setCell w5 ⟨g, 9, none⟩ _ = w7 at hp7 hr7 hi7 hm7 ⊢
        clear q9 f5
        have q9 := hp7.out.c9
        have f7 := hp7.out.free
        have hpar7 : Blk w7 r.parser 77 o.parser := HPAR.out.mod hm7.out (by omega)
        have HAT := hid (HA2.out _ l5 vs5 w7 (by rfl) hm7.out.size hp7.out hpar7 hr7.out HN5.out hi7.out hl5)
        clear hpar7 HA2
        go_wp2_with fail
        refine HAT.out.mono ?_
        rintro e w8 ⟨l8, vs8, outs, rfl, hr8, hn8, hi8, ho8, hb8⟩
        have hp8 := hp7.out.below hb8
        have hm8 := hm7.out.trans (Mod.below' (S := fun _ => False) hb8) (fun _ _ x => False.elim x)
        have hp9 := hid (IsPS.set9 hp8 l8.a l8.n l8.c)
        have hr9 := hid (own_far hr8 (p := ⟨g, 9, none⟩) (own_ne hr8 hp8 (by decide)) (.slice l8.a l8.n l8.c))
        have hi9 := hid (hi8.mod (S := fun k => k = g) ((Mod.refl (fun k => k = g) w8).setCell (p := ⟨g, 9, none⟩) (.inl rfl) (.slice l8.a l8.n l8.c)) (fun k ty cs hb _ ht _ e => by subst e; exact Blk.ne_ hb hp8 ht rfl))
        have hm9 := hid (hm8.setCell (p := ⟨g, 9, none⟩) (.inl (.inl rfl)) (.slice l8.a l8.n l8.c))
        have HO8 := hid ho8
        have HN8 := hid hn8
        clear q9 f7
        have q9 := hp8.c9
        have f8 := hp8.free
        clear hp7 hr7 hi7 hm7 HAT hr8 hi8 ho8 hn8 hb8 hm8 hp8
        go_wp2_with fail
        generalize World.setCell w8 ⟨g, 9, none⟩ _ = w9 at hp9 hr9 hi9 hm9 ⊢
        clear q9 f8
        have q9 := hp9.out.c9
        go_wp2_with fail
        go_ret
        exact ⟨l8, vs8, outs, c, _, s, bk, rfl, hp9.out, hr9.out, HN8.out, hi9.out, HO8.out, hm9.out.mono (fun k hk e => by
          rcases e with e | e
          · exact e
          · omega)⟩
end Go.Proofs.YtmmijmhdbpldpaaGreatDoor
/- The top block of the stack is closed: what it builds goes to the one below it. -/

namespace Go.Proofs.YtmmijmhdbpldpaaGreatDoor
open Go.RowKit
theorem own_front {w : World} {B : Nat} {e : TypeId} {size n m cap : Nat} {a : Addr} {xs ys : List Value} (h : w.ownsRow B e size (.slice (some a) n cap) n (xs ++ ys)) (hx : xs.length = m * size) (hm : m ≤ n) : w.ownsRow B e size (.slice (some a) m cap) m xs := by
  refine ⟨hx, .inr ?_⟩
  rcases h.2 with ⟨h0, _⟩ | ⟨g', cap', cur, h0, h1, h2, h3, h4, h5, h6⟩
  · simp at h0
  · simp only [Value.slice.injEq, Option.some.injEq] at h0
    obtain ⟨rfl, _, rfl⟩ := h0
    refine ⟨g', cap, cur, rfl, h1, h2, by omega, h4, h5, ?_⟩
    have e1 : (cur.toList.take (n * size)).take (m * size) = (xs ++ ys).take (m * size) := by rw [h6]
    rw [List.take_take, Nat.min_eq_left (Nat.mul_le_mul_right _ hm)] at e1
    rw [e1, ← hx]
    exact List.take_left' rfl
theorem IsStack.front {w : World} {B sb n cap : Nat} {es fs : List Ent} (h : IsStack w B ⟨some ⟨sb, 0, none⟩, n, cap⟩ (es ++ fs)) : IsStack w B ⟨some ⟨sb, 0, none⟩, es.length, cap⟩ es := by
  refine ⟨rfl, ?_⟩
  have h2 := h.2
  have hn : n = (es ++ fs).length := h.1
  subst hn
  rw [List.flatMap_append] at h2
  exact own_front h2 (ents_len es) (by simp)
/-- What the top block's build hands back, and what it leaves. -/
def BuildP (B g : Nat) (r r' : PSr) (es : List Ent) (e1 e0 : Ent) (bs : List Value) (u : TypeId) (Q : Nat → World → Prop) (e : Ending) (w' : World) : Prop :=
  ∃ k, e = .returned (.iface u (.pointer (some ⟨k, 0, none⟩))) ∧ IsPS w' g r' ∧ r'.stack = r.stack ∧ IsStack w' B r.stack (es ++ [e1] ++ [e0]) ∧ w'.ownsRow B 69 1 e1.inner.v e1.inner.n bs ∧ B ≤ w'.heap.size ∧ Q k w'
def CloseP (B g : Nat) (r r' : PSr) (es : List Ent) (e1 : Ent) (bs : List Value) (u : TypeId) (Q : Nat → World → Prop) (e : Ending) (w' : World) : Prop :=
  ∃ k w1 v st, e = .returned (.iface u (.pointer (some ⟨k, 0, none⟩))) ∧ Q k w1 ∧ IsPS w' g { r' with stack := st } ∧ IsStack w' B st (es ++ [{ e1 with inner := v }]) ∧ st.v.ownBlock = r.stack.v.ownBlock ∧
    v.n = e1.inner.n + 1 ∧ w'.ownsRow B 69 1 v.v v.n (bs ++ [.iface u (.pointer (some ⟨k, 0, none⟩))]) ∧ Mod (fun k => k = g ∨ some k = r.stack.v.ownBlock ∨ some k = e1.inner.v.ownBlock) w1 w'
set_option maxRecDepth 20000 in
set_option maxHeartbeats 4000000 in
theorem close_gen (B g : Nat) (r r' : PSr) (es : List Ent) (e1 e0 : Ent) (bs : List Value) (u : TypeId) (Q : Nat → World → Prop) (f : FuncId) (x : Value) (w : World) (hps : IsPS w g r) (hst : IsStack w B r.stack (es ++ [e1] ++ [e0])) (hn : es.length ≤ 1000000) (hm : e1.inner.n ≤ 1000000)
    (hmeth : ∀ W, (method 475 e0.bt e0.bv "pub-paratext/pub/rscmarkdown.build").run Tryz.prog W = .ok (f, x) W) (hent : ∀ args W, (callFunc f args).run Tryz.prog W = .ok (.enter f args) W)
    (hta : ∀ p W, (Instr.typeAssert (.iface u (.pointer p)) 69 111 true).run Tryz.prog W = .ok (.tuple #[.pointer none, .bool false]) W)
    (hbuild : ∀ n, Calls Tryz.prog f #[x, .iface 116 (.pointer (some ⟨g, 0, none⟩))] (w.drewN n) (BuildP B g r r' es e1 e0 bs u Q)) :
    Calls Tryz.prog 63 #[.pointer (some ⟨g, 0, none⟩)] w (CloseP B g r r' es e1 bs u Q) := by
  obtain ⟨sb, cap, hv, hcap, hfr, hob, hsb, hBs, k0, k1, k2, k3⟩ := hst.top
  have c4 := hps.c4
  rw [hv] at c4
  have HV := hid hv
  have HOB := hid hob
  have HBU := hid hbuild
  clear hv hob hbuild
  simp only [List.length_append, List.length_cons, List.length_nil, Nat.zero_add] at k0 k1 k2 k3 hcap c4
  obtain ⟨i0, hi, hz0, hz1, hz2⟩ := info_parts infoBlock
  go_enter Tryz.func63, Tryz.ntmps63
  go_wp2_with fail
  go_quiet (fail)
  go_wp2_with fail
  refine (HBU.out nq).mono ?_
  rintro e w1 ⟨k, rfl, hps1, hst9, hst1, hin1, hB1, hq⟩
  have f1 := hps1.free
  have d4 := hps1.c4
  have hgl := hps1.lt
  rw [hst9, HV.out] at d4
  have hst1' := hst1
  rw [HV.out] at hst1'
  have hst2 := IsStack.front hst1'
  simp only [List.length_append, List.length_cons, List.length_nil, Nat.zero_add] at hst2
  obtain ⟨cs1, hcs1⟩ := IsStack.blk hst1'
  have hgs : g ≠ sb := Blk.ne_ hps1 hcs1 (by decide)
  have hnb1 : some sb ≠ (Value.slice e1.inner.a e1.inner.n e1.inner.c).ownBlock := own_ne hin1 hcs1 (by decide)
  have hsb1 := Blk.lt hcs1
  obtain ⟨sb3, cap3, hv3, hcap3, hfr3, hob3, hsb3, hBs3, q0, q1, q2, q3⟩ := hst2.top
  simp only [Sl.mk.injEq, Option.some.injEq, Addr.mk.injEq] at hv3
  obtain ⟨⟨rfl, _⟩, _, rfl⟩ := hv3
  have HST9 := hid hst9
  have HST2 := hid hst2
  have HIN1 := hid hin1
  have HPS1 := hid hps1
  have HQ := hid hq
  have HCS1 := hid hcs1
  clear hst9 hst1 hst1' hst2 hin1 hps1 hq hcs1 k0 k1 k2 k3 hfr hob3
  go_wp2_with fail
  go_region
  have hps2 : Hid (IsPS (World.drew _) g { r' with stack := ⟨some ⟨sb, 0, none⟩, es.length + 1, cap⟩ }) := hid ((HPS1.out.set4 (some ⟨sb, 0, none⟩) (es.length + 1) cap).drew)
  have hst3 : Hid (IsStack (World.drew _) B ⟨some ⟨sb, 0, none⟩, es.length + 1, cap⟩ (es ++ [e1])) := hid ((HST2.out.far (p := ⟨g, 4, none⟩) (by rw [show (Sl.mk (some ⟨sb, 0, none⟩) (es.length + 1) cap).v.ownBlock = some sb from rfl]; simpa using hgs) (.slice (some ⟨sb, 0, none⟩) (es.length + 1) cap)).drew)
  have hin2 : Hid (World.ownsRow (World.drew _) B 69 1 (.slice e1.inner.a e1.inner.n e1.inner.c) e1.inner.n bs) := hid (World.ownsRow.drewN (own_far HIN1.out (p := ⟨g, 4, none⟩) (own_ne HIN1.out HPS1.out (by decide)) (.slice (some ⟨sb, 0, none⟩) (es.length + 1) cap)) 1)
  have hm2 : Hid (Mod (fun k => k = g) w1 (World.drew _)) := hid (((Mod.refl (fun k => k = g) w1).setCell (p := ⟨g, 4, none⟩) (.inl rfl) (.slice (some ⟨sb, 0, none⟩) (es.length + 1) cap)).drew)
  clear q0 q1 q2 q3 d4 f1
  generalize World.drew _ = wa at hps2 hst3 hin2 hm2 ⊢
  have d4 := hps2.out.c4
  obtain ⟨sb', cap', hv', hcap', hfr', hob', hsb', hBs', q0, q1, q2, q3⟩ := hst3.out.top
  simp only [Sl.mk.injEq, Option.some.injEq, Addr.mk.injEq] at hv'
  obtain ⟨⟨rfl, _⟩, _, rfl⟩ := hv'
  have HOB2 := hid hob'
  clear hob' q0 q2 q3
  go_wp2_with fail
  go_quiet (fail)
  have hcl : ∀ j u', ([.iface u (.pointer (some ⟨k, 0, none⟩))] : List Value)[j]? = some u' → ((wa.drewN nq).alloc (.cells #[.iface u (.pointer (some ⟨k, 0, none⟩))] 69)).cell? ((⟨wa.heap.size, 0, none⟩ : Addr).add j) = some u' := by
    intro j u' hj
    cases j with
    | zero => rw [Addr.add, if_pos rfl]; exact ((Blk.new (wa.drewN nq) 69 #[.iface u (.pointer (some ⟨k, 0, none⟩))]).cell 0).trans hj
    | succ j => simp at hj
  have HCL := hid hcl
  clear hcl
  go_wp2_with (at_builtin; refine wpList_append_own_at _ rfl (.tmp 106) (.tmp 108) 119 rfl B 69 i0 _ 1 16 Tryz.underlying119 hi hz0 hz1 hz2 rfl (by decide) (.slice e1.inner.a e1.inner.n e1.inner.c) e1.inner.n bs rfl (World.ownsRow.alloc (World.ownsRow.drewN hin2.out nq) _) ⟨wa.heap.size, 0, none⟩ 1 1 [.iface u (.pointer (some ⟨k, 0, none⟩))] rfl rfl HCL.out ?_ ?_ ?_ ?_ ?_)
  · intro v hv; simp at hv; subst hv; rfl
  · unfold maxLen; omega
  · omega
  · simp; exact Nat.le_succ_of_le (Nat.le_trans hB1 hm2.out.size)
  · intro v' w2 hown hgr hnil hat
    have hnb : some sb ≠ (Value.slice e1.inner.a e1.inner.n e1.inner.c).ownBlock := hnb1
    have hps3 : IsPS w2 g { r' with stack := ⟨some ⟨sb, 0, none⟩, es.length + 1, cap⟩ } := Blk.grown ((hps2.out.drewN nq).alloc _) hgr (own_ne hin2.out hps2.out (by decide))
    have hm3 : Mod (fun k => some k = e1.inner.v.ownBlock) wa w2 := (((Mod.refl _ wa).drewN nq).alloc _).grown hgr (fun k hk => .inl hk.symm)
    have hst4 : IsStack w2 B ⟨some ⟨sb, 0, none⟩, es.length + 1, cap⟩ (es ++ [e1]) := hst3.out.mod hm3 (fun k hk e => by rw [HOB2.out] at hk; cases hk; exact hnb e)
    obtain ⟨g2, cap2, rfl, hc2⟩ : ∃ g2 cap2, v' = .slice (some ⟨g2, 0, none⟩) (e1.inner.n + 1) cap2 ∧ e1.inner.n + 1 ≤ cap2 := by
      rcases hown.2 with ⟨h1, h2⟩ | ⟨g2, cap2, cur, h1, _, _, h2, _⟩
      · exact absurd h2 (by omega)
      · exact ⟨g2, cap2, h1, h2⟩
    obtain ⟨_, _, hvx, _, hfrx, _, _, _, _, y1, _, _⟩ := hst4.top
    simp only [Sl.mk.injEq, Option.some.injEq, Addr.mk.injEq] at hvx
    obtain ⟨⟨rfl, _⟩, _, rfl⟩ := hvx
    have hszw : w1.heap.size ≤ wa.heap.size := hm2.out.size
    have hg2 : sb ≠ g2 := by
      rintro rfl
      rcases hat with h | h
      · exact hnb h
      · have : sb = wa.heap.size + 1 := by simpa [Value.ownBlock] using h
        omega
    have hg2' : some g2 = e1.inner.v.ownBlock ∨ w1.heap.size ≤ g2 := by
      rcases hat with h | h
      · exact .inl h
      · have : g2 = wa.heap.size + 1 := by simpa [Value.ownBlock] using h
        exact .inr (by omega)
    have HO := hid hown
    have HM := hid hm3
    have HST := hid hst4
    have HP3 := hid hps3
    have HG := hid hg2'
    clear hown hgr hat hm3 hst4 hps3 hg2' q1 d4
    go_wp2_with fail
    go_ret
    refine ⟨k, w1, ⟨some ⟨g2, 0, none⟩, e1.inner.n + 1, cap2⟩, ⟨some ⟨sb, 0, none⟩, es.length + 1, cap⟩, rfl, HQ.out, HP3.out.far hgs _, ⟨?_, ?_⟩, ?_, rfl, ?_, ?_⟩
    · simp
    · have s0 := HST.out.2
      rw [show (es ++ [e1]).length = es.length + 1 by simp] at s0
      have s1 := (s0.stored (es.length * 4 + 1) (.slice (some ⟨g2, 0, none⟩) (e1.inner.n + 1) cap2)).1
      rw [List.flatMap_append] at s1 ⊢
      simp only [List.flatMap_cons, List.flatMap_nil, List.append_nil, Ent.cells, List.length_append, List.length_cons, List.length_nil] at s1 ⊢
      rw [set_inner _ _ _ _ _ _ _ (ents_len es)] at s1
      exact s1
    · rw [HOB.out]; rfl
    · refine own_far HO.out ?_ _
      simpa [Value.ownBlock] using hg2
    · have m0 : Mod (fun k => k = g ∨ some k = r.stack.v.ownBlock ∨ some k = e1.inner.v.ownBlock) w1 w2 := (hm2.out.mono (fun k _ h => .inl h)).trans HM.out (fun k _ h => .inr (.inr h))
      refine m0.setCell (.inl (.inr (.inl ?_))) _
      rw [HOB.out]
end Go.Proofs.YtmmijmhdbpldpaaGreatDoor
/- The block starters that decline a line: headings. -/

namespace Go.Proofs.YtmmijmhdbpldpaaGreatDoor
open Go.RowKit
set_option maxHeartbeats 1600000 in
theorem newATX_no (g i : Nat) (tb nl : Int) (s : ByteArray) (w : World) (hs : s.size ≤ 140737488355328) (hi : i ≤ s.size) (ht : ∀ k, bt s k ≠ 9) (hq : ∀ k, i ≤ k → k ≤ i + 3 → bt s k ≠ 35) :
    Calls Tryz.prog 86 #[.pointer (some ⟨g, 0, none⟩), lnV i tb s nl] w fun e w' => e = .returned (.tuple #[lnV i tb s nl, .bool false]) ∧ Below w.heap.size w w' := by
  have HT := hid ht
  have HQ := hid hq
  clear ht hq
  go_enter Tryz.func86, Tryz.ntmps86
  go_wp2_with fail
  refine (trimHeading_no _ i _ tb nl s _ (Blk.alloc (Blk.new' (by simp)) _) hs hi HT.out HQ.out).mono ?_
  rintro e w1 ⟨rfl, hb⟩
  have hm2 := Mod.below' (S := fun _ => False) hb
  have hbox : IsLn w1 w.heap.size i tb s nl := (Blk.alloc (Blk.alloc (Blk.alloc (Blk.new' rfl) _) _) _ : Blk _ w.heap.size 104 (lnC i tb s nl)).mod (S := fun _ => False) hm2 (fun h => h)
  have hres : Blk w1 (w.heap.size + 1) 104 #[.int .i64 0, .int .i64 0, .int .i64 0, .string ⟨#[]⟩, .int .u8 0] := (Blk.alloc (Blk.alloc (Blk.new' (by simp)) _) _ : Blk _ (w.heap.size + 1) 104 #[.int .i64 0, .int .i64 0, .int .i64 0, .string ⟨#[]⟩, .int .u8 0]).mod (S := fun _ => False) hm2 (fun h => h)
  have hbel : Below w.heap.size w w1 := (((((Below.refl _ _).alloc (Nat.le_refl _) _).alloc (by simp) _).alloc (by simp; omega) _).alloc (by simp; omega) _).trans (hb.mono (by simp; omega))
  clear hb hm2
  have c0 := hbox.c0
  have c1 := hbox.c1
  have c2 := hbox.c2
  have c3 := hbox.c3
  have c4 := hbox.c4
  have r0 := hres.at_ 0 rfl
  have r1 := hres.at_ 1 rfl
  have r2 := hres.at_ 2 rfl
  have r3 := hres.at_ 3 rfl
  have r4 := hres.at_ 4 rfl
  have fr := hres.free
  have HR := hid hres
  have HB := hid hbel
  clear hbox hres hbel
  unfold lnV
  go_wp2_with fail
  have hln : Hid (IsLn _ (w.heap.size + 1) i tb s nl) := hid (ln_store HR.out i tb nl s)
  have hb2 : Hid (Below w.heap.size w _) := hid (((((HB.out.setCell (p := ⟨w.heap.size + 1, 0, none⟩) (by simp) (.int .i64 0)).setCell (p := ⟨w.heap.size + 1, 1, none⟩) (by simp) (.int .i64 i)).setCell (p := ⟨w.heap.size + 1, 2, none⟩) (by simp) (.int .i64 tb)).setCell (p := ⟨w.heap.size + 1, 3, none⟩) (by simp) (.string s)).setCell (p := ⟨w.heap.size + 1, 4, none⟩) (by simp) (.int .u8 nl))
  generalize World.setCell _ ⟨w.heap.size + 1, 4, none⟩ _ = wy at hln hb2 ⊢
  clear c0 c1 c2 c3 c4 r0 r1 r2 r3 r4 fr
  have k0 := hln.out.c0
  have k1 := hln.out.c1
  have k2 := hln.out.c2
  have k3 := hln.out.c3
  have k4 := hln.out.c4
  refine bodyPost_ret (by simp [results, Tryz.results86, go_sem, k0, k1, k2, k3, k4]; try rfl) rfl ?_
  exact ⟨rfl, hb2.out⟩
end Go.Proofs.YtmmijmhdbpldpaaGreatDoor
/- The stack's top: what comes next, and whether it is a paragraph. -/


namespace Go.Proofs.YtmmijmhdbpldpaaGreatDoor
open Go.RowKit
set_option maxHeartbeats 800000 in
theorem nextB_top (g : Nat) (r : PSr) (w : World) (hps : IsPS w g r) (hd : r.lineDepth = (r.stack.n : Int) - 1) (hn : r.stack.n ≤ 1000000) :
    Calls Tryz.prog 133 #[.pointer (some ⟨g, 0, none⟩)] w fun e w' => e = .returned .nilIface ∧ ∃ n, w' = w.drewN n := by
  have c4 := hps.c4
  have c5 := hps.c5
  rw [hd] at c5
  clear hd
  go_enter Tryz.func133, Tryz.ntmps133
  go_wp2
  go_quiet (fail)
  go_wp2
  go_ret
  exact ⟨rfl, _, rfl⟩
theorem ta_root_para (p : Option Addr) (w : World) : (Instr.typeAssert (.iface 98 (.pointer p)) 118 162 true).run Tryz.prog w = .ok (.tuple #[.pointer none, .bool false]) w := by kernel_rfl
set_option maxHeartbeats 1600000 in
theorem para_top (B g : Nat) (r : PSr) (es : List Ent) (e0 : Ent) (p : Option Addr) (w : World) (hps : IsPS w g r) (hst : IsStack w B r.stack (es ++ [e0])) (hn : es.length ≤ 1000000) (hb : e0.bt = 98) (hb2 : e0.bv = .pointer p) :
    Calls Tryz.prog 93 #[.pointer (some ⟨g, 0, none⟩)] w fun e w' => e = .returned (.pointer none) ∧ ∃ n, w' = w.drewN n := by
  obtain ⟨sb, cap, hv, hcap, hfr, hob, hsb, hBs, k0, k1, k2, k3⟩ := hst.top
  have c4 := hps.c4
  rw [hv] at c4
  rw [hb, hb2] at k0
  have ta := ta_root_para p
  have HV := hid hv
  have HOB := hid hob
  clear hv hob
  go_enter Tryz.func93, Tryz.ntmps93
  go_wp2
  go_quiet (fail)
  go_wp2
  go_ret
  exact ⟨rfl, _, rfl⟩
end Go.Proofs.YtmmijmhdbpldpaaGreatDoor
/- A line that nothing else takes begins a paragraph. -/







namespace Go.Proofs.YtmmijmhdbpldpaaGreatDoor
open Go.RowKit
theorem infoStrP : (Tryz.prog.info? 9).map (fun i => (i.zero, i.size, i.bytes)) = some (some (.string ⟨#[]⟩), 1, 16) := by kernel_rfl
def parE (pb : Nat) (sl el : Int) : Ent := ⟨162, .pointer (some ⟨pb, 0, none⟩), Sl.nil, sl, el⟩
/-- A builder of a paragraph, and its lines. -/
def IsPara (w : World) (B pb : Nat) (v : Sl) (ls : List Value) : Prop := Blk w pb 166 #[v.v, .pointer none] ∧ w.ownsRow B 9 1 v.v v.n ls ∧ B ≤ pb
theorem IsPara.lnKept {base B pb : Nat} {w w' : World} {v : Sl} {ls : List Value} (h : IsPara w B pb v ls) (hk : LnKept base w w') : IsPara w' B pb v ls := ⟨h.1.lnKept hk (by decide), own_lnKept h.2.1 hk (by decide), h.2.2⟩
theorem IsPara.far {B pb : Nat} {w : World} {v : Sl} {ls : List Value} (h : IsPara w B pb v ls) {p : Addr} {t : TypeId} {cs : Array Value} (hp : Blk w p.block t cs) (h1 : t ≠ 166) (h2 : t ≠ 9) (u : Value) : IsPara (w.setCell p u) B pb v ls :=
  ⟨h.1.far (Blk.ne_ h.1 hp h1.symm) u, own_far h.2.1 (own_ne h.2.1 hp h2.symm) u, h.2.2⟩
set_option maxHeartbeats 400000 in
theorem trimSS_any (g : Nat) (text : ByteArray) (i : Nat) (w : World) (hi : i ≤ text.size) (hs : text.size ≤ 140737488355328)
    (h1 : w.cell? ⟨g, 1, none⟩ = some (.int .i64 i)) (h3 : w.cell? ⟨g, 3, none⟩ = some (.string text)) :
    Calls Tryz.prog 94 #[.pointer (some ⟨g, 0, none⟩)] w fun e w' => e = .returned (.string ⟨(trimL (text.data.toList.drop i)).toArray⟩) ∧ ∃ n, w' = w.drewN n := by
  go_enter Tryz.func94, Tryz.ntmps94
  go_wp2
  go_quiet ((go_at_call 84; exact quiet_left (trimLeft_any _ _ (by simp; omega))))
  go_wp2
  go_ret
  exact ⟨ret_str (by rw [Lib.extract_data, List.take_of_length_le (by rw [List.length_drop, ← Lib.size_eq]; omega)]), _, rfl⟩
def NewParaP (B g : Nat) (r : PSr) (e0 : Ent) (txt : List UInt8) (w w' : World) : Prop :=
  ∃ st pb v, IsPS w' g { r with stack := st } ∧ IsStack w' B st ([] ++ [e0] ++ [parE pb r.lineno r.lineno]) ∧ IsPara w' B pb v [lineV txt] ∧ v.n = 1 ∧
    (∀ k, st.v.ownBlock = some k → r.stack.v.ownBlock = some k ∨ w.heap.size ≤ k) ∧ Mod (fun k => k = g ∨ some k = r.stack.v.ownBlock) w w'
set_option maxRecDepth 20000 in
set_option maxHeartbeats 4000000 in
theorem newPara_yes (B g : Nat) (r : PSr) (e0 : Ent) (p : Option Addr) (i : Nat) (nl : Int) (tbl : Bool) (s : ByteArray) (w : World) (hB : B ≤ w.heap.size) (hps : IsPS w g r) (hst : IsStack w B r.stack ([] ++ [e0])) (hd : r.lineDepth = 0) (hb1 : e0.bt = 98) (hb2 : e0.bv = .pointer p)
    (hs : s.size ≤ 1000000) (hi : i ≤ s.size) (htb : w.cell? ⟨r.parser, 5, none⟩ = some (.bool tbl)) :
    Calls Tryz.prog 62 #[.pointer (some ⟨g, 0, none⟩), lnV i 0 s nl] w fun e w' => e = .returned (.tuple #[lnV 0 0 ⟨#[]⟩ 0, .bool true]) ∧ NewParaP B g r e0 (trimL (s.data.toList.drop i)) w w' := by
  obtain ⟨is0, his, hsz0, hsz1, hsz2⟩ := info_parts infoStrP
  have hps0 := hps
  have HPS := hid hps
  have HST := hid hst
  have HD := hid hd
  have HTB := hid htb
  clear hps hst hd htb
  go_enter Tryz.func62, Tryz.ntmps62
  go_wp2_with fail
  refine (para_top B g r [] e0 p _ ((HPS.out.alloc _).alloc _) ((HST.out.alloc _).alloc _) (by simp) hb1 hb2).mono ?_
  rintro e w1 ⟨rfl, n1, rfl⟩
  go_wp2_with fail
  have hpA : Hid (IsPS (World.drewN _ n1) g r) := hid (((HPS.out.alloc (.cells #[.int .i64 0, .int .i64 i, .int .i64 0, .string s, .int .u8 nl] 104)).alloc (.cells #[.int .i64 0, .int .i64 0, .int .i64 0, .string ⟨#[]⟩, .int .u8 0] 104)).drewN n1)
  have hsA : Hid (IsStack (World.drewN _ n1) B r.stack ([] ++ [e0])) := hid (((HST.out.alloc (.cells #[.int .i64 0, .int .i64 i, .int .i64 0, .string s, .int .u8 nl] 104)).alloc (.cells #[.int .i64 0, .int .i64 0, .int .i64 0, .string ⟨#[]⟩, .int .u8 0] 104)).drewN n1)
  have hlA : Hid (IsLn (World.drewN _ n1) w.heap.size i 0 s nl) := hid (Blk.drewN (Blk.alloc (Blk.new w 104 #[.int .i64 0, .int .i64 i, .int .i64 0, .string s, .int .u8 nl]) (.cells #[.int .i64 0, .int .i64 0, .int .i64 0, .string ⟨#[]⟩, .int .u8 0] 104)) n1)
  have hrA : Hid (Blk (World.drewN _ n1) (w.heap.size + 1) 104 #[.int .i64 0, .int .i64 0, .int .i64 0, .string ⟨#[]⟩, .int .u8 0]) := hid (Blk.drewN (Blk.new' (w := World.alloc w (.cells #[.int .i64 0, .int .i64 i, .int .i64 0, .string s, .int .u8 nl] 104)) (by simp)) n1)
  have hbA : Hid (Below w.heap.size w (World.drewN _ n1)) := hid (below_drewN (((Below.refl _ w).alloc (Nat.le_refl _) (.cells #[.int .i64 0, .int .i64 i, .int .i64 0, .string s, .int .u8 nl] 104)).alloc (by simp) (.cells #[.int .i64 0, .int .i64 0, .int .i64 0, .string ⟨#[]⟩, .int .u8 0] 104)) n1)
  have htA : Hid (World.cell? (World.drewN _ n1) ⟨r.parser, 5, none⟩ = some (.bool tbl)) := hid ((hbA.out.cell (World.block_lt_of_cell? w _ HTB.out)).trans HTB.out)
  generalize World.drewN _ n1 = wa at hpA hsA hlA hrA hbA htA ⊢
  have c4 := hpA.out.c4
  have c5 := hpA.out.c5
  have c0 := hpA.out.c0
  rw [HD.out] at c5
  go_quiet (fail)
  go_wp2_with fail
  refine (trimSS_any w.heap.size s i _ hi (by omega) ?_ ?_).mono ?_
  · exact hlA.out.c1
  · exact hlA.out.c3
  rintro e w2 ⟨rfl, n2, rfl⟩
  generalize htx : trimL (s.data.toList.drop i) = txt
  rw [World.drewN_drewN]
  generalize nq + n2 = q
  have htA2 : wa.cell? ⟨r.parser, 5, none⟩ = some (.bool tbl) := htA.out
  clear c4 c5
  go_wp2_with fail
  cases tbl
  all_goals
    go_quiet (fail)
    rw [World.drewN_drewN]
    generalize q + nq = q2
    have hpB : Hid (IsPS (World.drewN wa q2) g r) := hid (hpA.out.drewN _)
    have hsB : Hid (IsStack (World.drewN wa q2) B r.stack ([] ++ [e0])) := hid (hsA.out.drewN _)
    have hrB : Hid (Blk (World.drewN wa q2) (w.heap.size + 1) 104 #[.int .i64 0, .int .i64 0, .int .i64 0, .string ⟨#[]⟩, .int .u8 0]) := hid (Blk.drewN hrA.out _)
    have hbB : Hid (Below w.heap.size w (World.drewN wa q2)) := hid (below_drewN hbA.out _)
    clear htA2 c0 hpA hsA hlA hrA hbA htA
    generalize World.drewN wa q2 = wb at hpB hsB hrB hbB ⊢
    go_wp2_with fail
    refine (addBlock_top B g r ([] ++ [e0]) _ _ _ (by have := hbB.out.size; simp; omega) (hpB.out.alloc _) (hsB.out.alloc _) (by rw [HD.out]; rfl) (by simp)).mono ?_
    rintro e w3 ⟨rfl, st, hps3, hst3, hown3, hm3⟩
    have hpar3 : Blk w3 wb.heap.size 166 #[.slice none 0 0, .pointer none] := (Blk.new wb 166 #[.slice none 0 0, .pointer none]).mod hm3 (fun h => Or.elim h (fun e => by have := hpB.out.lt; omega) (fun e => by have := ownLt hsB.out.2 e; omega))
    have hr3 : Blk w3 (w.heap.size + 1) 104 #[.int .i64 0, .int .i64 0, .int .i64 0, .string ⟨#[]⟩, .int .u8 0] := (Blk.alloc hrB.out _).mod hm3 (fun h => Or.elim h (Blk.ne_ hrB.out hpB.out (by decide)) (own_ne hsB.out.2 hrB.out (by decide)))
    have hmA : Mod (fun k => k = g ∨ some k = r.stack.v.ownBlock) w w3 := ((Mod.below' hbB.out).alloc _).trans hm3 (fun _ _ h => h)
    have HP3 := hid hps3
    have HS3 := hid hst3
    have HO3 := hid hown3
    have HF3 := hid hpar3
    have HR3 := hid hr3
    have HMA := hid hmA
    have hz3 : wb.heap.size < w3.heap.size := hpar3.lt
    have hzb := hbB.out.size
    have hl1 : w.heap.size + 1 < wb.heap.size := hrB.out.lt
    have hl2 : ¬ wb.heap.size = w.heap.size + 1 := by omega
    have hl3 : ¬ w.heap.size + 1 = wb.heap.size := by omega
    clear hps3 hst3 hown3 hm3 hpar3 hr3 hmA hpB hsB hrB hbB
    have p0 := HF3.out.at_ 0 rfl
    have fp := HF3.out.free
    have hB3 : B ≤ w3.heap.size := by omega
    go_wp2_with (at_builtin; refine wpList_append_lies _ rfl (.tmp 168) (.tmp 170) 33 (by rfl) B 9 is0 _ 1 16 Tryz.underlying33 his hsz0 hsz1 hsz2 rfl (by decide) (.slice none 0 0) 0 [] (by rfl) (World.ownsRow_nil _ _ _ _) ⟨w3.heap.size, 0, none⟩ 1 1 [.string ⟨txt.toArray⟩] (by rfl) rfl (World.news_of_block (heap_alloc_new _ _)) (by intro v hv; simp at hv; subst hv; rfl) (by omega) (by unfold maxLen; omega) (by omega) (by simp; omega) (w3.heap.size + 1) (by simp) ?_
                 intro g2 cap2 w4 hown4 hgr4 hat4 hlt4
                 have hp4 : Blk w4 wb.heap.size 166 #[.slice none 0 0, .pointer none] := Blk.grown (Blk.alloc HF3.out _) hgr4 (by simp [Value.ownBlock])
                 have q1 := hp4.at_ 0 rfl
                 have fq := hp4.free
                 have hr4 : Blk w4 (w.heap.size + 1) 104 #[.int .i64 0, .int .i64 0, .int .i64 0, .string ⟨#[]⟩, .int .u8 0] := Blk.grown (Blk.alloc HR3.out _) hgr4 (by simp [Value.ownBlock])
                 have r0 := hr4.at_ 0 rfl
                 have r1 := hr4.at_ 1 rfl
                 have r2 := hr4.at_ 2 rfl
                 have r3 := hr4.at_ 3 rfl
                 have r4 := hr4.at_ 4 rfl
                 have fr := hr4.free)
    have m4 : Mod (fun _ => False) w3 w4 := Mod.grown ((Mod.refl _ w3).alloc _) hgr4 (fun k hk => by simp [Value.ownBlock] at hk)
    have hps5 := (HP3.out.mod m4 (fun h => h)).far (p := ⟨wb.heap.size, 0, none⟩) (Blk.ne_ HP3.out HF3.out (by decide)) (.slice (some ⟨g2, 0, none⟩) 1 cap2)
    have hst5 := (HS3.out.mod m4 (fun _ _ h => h)).far (p := ⟨wb.heap.size, 0, none⟩) (own_ne HS3.out.2 HF3.out (by decide)) (.slice (some ⟨g2, 0, none⟩) 1 cap2)
    have hr5 := hr4.far (p := ⟨wb.heap.size, 0, none⟩) (Blk.ne_ HR3.out HF3.out (by decide)) (.slice (some ⟨g2, 0, none⟩) 1 cap2)
    have hpar5 : Blk (w4.setCell ⟨wb.heap.size, 0, none⟩ (.slice (some ⟨g2, 0, none⟩) 1 cap2)) wb.heap.size 166 #[.slice (some ⟨g2, 0, none⟩) 1 cap2, .pointer none] := by simpa using Blk.set_ hp4 0 (.slice (some ⟨g2, 0, none⟩) 1 cap2)
    have hown5 := own_far hown4 (p := ⟨wb.heap.size, 0, none⟩) (own_ne hown4 hp4 (by decide)) (.slice (some ⟨g2, 0, none⟩) 1 cap2)
    have m5 := (m4.mono (S' := fun k => k = wb.heap.size) (fun _ _ h => h.elim)).setCell (p := ⟨wb.heap.size, 0, none⟩) (.inl rfl) (.slice (some ⟨g2, 0, none⟩) 1 cap2)
    have HP5 := hid hps5
    have HS5 := hid hst5
    have HR5 := hid hr5
    have HPR5 := hid hpar5
    have HO5 := hid hown5
    have HM5 := hid m5
    clear m4 hps5 hst5 hr5 hpar5 hown5 m5 hown4 hgr4 hat4 hlt4 hp4 q1 fq r0 r1 r2 r3 r4 fr hr4
    generalize World.setCell w4 ⟨wb.heap.size, 0, none⟩ _ = wc at HP5 HS5 HR5 HPR5 HO5 HM5 ⊢
    have hln := hid (line_zero HR5.out)
    have hmy : Hid (Mod (fun k => k = w.heap.size + 1) wc _) := hid ((((((Mod.refl (fun k => k = w.heap.size + 1) wc).setCell (p := ⟨w.heap.size + 1, 0, none⟩) (.inl rfl) (.int .i64 0)).setCell (p := ⟨w.heap.size + 1, 1, none⟩) (.inl rfl) (.int .i64 0)).setCell (p := ⟨w.heap.size + 1, 2, none⟩) (.inl rfl) (.int .i64 0)).setCell (p := ⟨w.heap.size + 1, 3, none⟩) (.inl rfl) (.string ⟨#[]⟩)).setCell (p := ⟨w.heap.size + 1, 4, none⟩) (.inl rfl) (.int .u8 0))
    generalize World.setCell _ ⟨w.heap.size + 1, 4, none⟩ _ = wy at hln hmy ⊢
    have hl4 := hln.out
    have k0 := hl4.at_ 0 rfl
    have k1 := hl4.at_ 1 rfl
    have k2 := hl4.at_ 2 rfl
    have k3 := hl4.at_ 3 rfl
    have k4 := hl4.at_ 4 rfl
    clear hl4
    refine bodyPost_ret (by simp [results, Tryz.results62, go_sem, k0, k1, k2, k3, k4]; try rfl) rfl ?_
    have hmf : Mod (fun k => k = g ∨ some k = r.stack.v.ownBlock) w wy := (HMA.out.trans HM5.out (fun k hk e => by omega)).trans hmy.out (fun k hk e => by omega)
    refine ⟨rfl, ?_⟩
    rw [htx]
    refine ⟨st, wb.heap.size, ⟨some ⟨g2, 0, none⟩, 1, cap2⟩, HP5.out.mod hmy.out (Blk.ne_ HP5.out HR5.out (by decide)), HS5.out.mod hmy.out (fun k hk e => own_ne HS5.out.2 HR5.out (by decide) (by rw [hk, e])), ⟨HPR5.out.mod hmy.out (Blk.ne_ HPR5.out HR5.out (by decide)), own_mod HO5.out hmy.out (fun k hk e => own_ne HO5.out HR5.out (by decide) (by rw [hk, e])), by omega⟩, rfl, ?_, hmf⟩
    intro k hk
    rcases HO3.out k hk with h | h
    · exact .inl h
    · exact .inr (by simp at h; omega)
end Go.Proofs.YtmmijmhdbpldpaaGreatDoor
