/- Texts of this proof, joined: The loop of (*parseState).inline over a text that ends with the bracket of a link or an image: what stands ahead is the link's text. (Its frame is printed by wip/gen_inll.py.). -/
import Derived.Test.YtmmijmhdbpldpaaGreatDoorCRef06
import Derived.Test.YtmmijmhdbpldpaaGreatDoorCRef10
/- The loop of (*parseState).inline over a text that ends with the bracket of a link or an image: what stands ahead is the link's text. (Its frame is printed by wip/gen_inll.py.) -/


namespace Go.Proofs.YtmmijmhdbpldpaaGreatDoor
open Go.RowKit
theorem Kind.Ok.notOpen {k : Kind} (h : k.Ok) (w : World) : k.T ≠ 134 := fun e => by
  have h1 := h.open_ none w
  rw [e, show (Instr.typeAssert (.iface 134 (.pointer none)) 132 134 true).run Tryz.prog w = .ok (.tuple #[.pointer none, .bool true]) w from by kernel_rfl] at h1
  simp at h1
/-- The sign of a link, and that of an image. -/
@[reducible] def opL (img : Bool) : List UInt8 := if img then [33, 91] else [91]
/-- A block of another type than that of the openings' row, and of links. -/
def Apart (k : Kind) : Prop := k.tb ≠ 3 ∧ k.tb ≠ 144
theorem openK_apart (l : List UInt8) (j : Nat) : Apart (openK l j) := ⟨(by decide : (139 : Nat) ≠ 3), (by decide : (139 : Nat) ≠ 144)⟩
theorem plainK_apart (l : List UInt8) : Apart (plainK l) := ⟨(by decide : (137 : Nat) ≠ 3), (by decide : (137 : Nat) ≠ 144)⟩
/-- A part of the list while a text is read. -/
def OkL (k : Kind) : Prop := Apart k ∧ (k.Sure ∨ ∃ img j, k = openK (opL img) j)
theorem OkL.fit {k : Kind} (h : OkL k) : k.Fit := by
  rcases h.2 with h | ⟨img, j, rfl⟩
  · exact h.1.fit
  · exact openK_fit _ _
theorem OkL.emk {k : Kind} (h : OkL k) (w : World) : EmK k := by
  rcases h.2 with h | ⟨img, j, rfl⟩
  · exact .inr ⟨h.1.notOpen w, h.1⟩
  · exact .inl rfl
theorem okL_piece {ks : List Kind} (s : ByteArray) (em i : Nat) (h : ∀ k ∈ ks, OkL k) : ∀ k ∈ ks ++ pieceK s em i, OkL k := fun k hk => by
  rcases List.mem_append.1 hk with h1 | h1
  · exact h k h1
  · unfold pieceK at h1
    split at h1
    · simp only [List.mem_cons, List.not_mem_nil, or_false] at h1
      subst h1
      exact ⟨plainK_apart _, .inl (plainK_sure _)⟩
    · cases h1
theorem InS.below {B g : Nat} {r : PSr} {em : Nat} {ks : List Kind} {w w' : World} (h : InS B g r em ks w) (hbel : Below w.heap.size w w') : InS B g r em ks w' := by
  obtain ⟨l, vs, hps1, hrow1, hln1, hit1⟩ := h
  exact ⟨l, vs, hps1.below hbel, own_mod hrow1 (Mod.below' (S := fun _ => False) hbel) (fun _ _ x => x), hln1, hit1.mod (S := fun _ => False) (Mod.below' hbel) (fun _ _ _ _ _ _ x => x)⟩
theorem KeepT.below {w w' : World} (hbel : Below w.heap.size w w') : KeepT w w' := KeepT.of (Mod.below' (S := fun _ => False) hbel) (fun _ _ _ _ _ _ x => x)
/-- The link or the image itself. -/
@[reducible] def lnT (img : Bool) : TypeId := if img then 146 else 140
@[reducible] def lnkK (img : Bool) (d : Sl) (u : ByteArray) (lc : Bool) : Kind := ⟨lnT img, 144, [d.v, .string u, .string ⟨#[]⟩, .int .u8 0, .bool lc]⟩
@[reducible] def lkiV (img : Bool) (b : Nat) : Value := .iface (lnT img) (.pointer (some ⟨b, 0, none⟩))
theorem lnkK_plainOf (img : Bool) (d : Sl) (u : ByteArray) (lc : Bool) : plainOf (lnkK img d u lc) = none := by
  unfold plainOf
  cases img
  · exact if_neg (fun h => absurd h.1 (by decide : ¬ (140 : Nat) = 156))
  · exact if_neg (fun h => absurd h.1 (by decide : ¬ (146 : Nat) = 156))
set_option maxRecDepth 20000 in
theorem lnkK_sure (img : Bool) (d : Sl) (u : ByteArray) (lc : Bool) : (lnkK img d u lc).Sure := by
  refine ⟨⟨(by decide : (144 : Nat) ≠ 95), (by decide : (144 : Nat) ≠ 132), (by decide : (144 : Nat) ≠ 110), ?_, ?_⟩, ?_⟩
  · cases img <;> exact fun _ _ => by kernel_rfl
  · cases img <;> exact fun _ _ => by kernel_rfl
  · cases img <;> exact fun _ _ _ => by kernel_rfl
theorem infoInt : (Tryz.prog.info? 3).map (fun i => (i.zero, i.size, i.bytes)) = some (some (.int .i64 0), 1, 8) := by kernel_rfl
abbrev JL := Nat → Nat → Bool → List Value → List Kind → List Nat → Prop
/-- What a parser leaves, while links are being read. -/
def ParL (B g : Nat) (r : PSr) (s : ByteArray) (J : JL) (i em : Nat) (tk : Bool) (ks : List Kind) (ops : List Nat) (w : World) (e : Ending) (w' : World) : Prop :=
  ∃ bk, InS B g (psAt r s false bk) em ks w' ∧ Mod (fun k => k = g ∨ B ≤ k) w w' ∧ KeepT w w' ∧
    ((∃ x st en, e = .returned (.tuple #[x, st, en, .bool false]) ∧ J (i + 1) em tk bk ks ops) ∨
     (∃ (v : Value) (k : Kind) (st en : Nat), e = .returned (.tuple #[v, .int .i64 st, .int .i64 en, .bool true]) ∧ IsItem w' B v k ∧ Apart k ∧ em ≤ st ∧ st ≤ s.size ∧ i < en ∧ st ≤ en ∧ en ≤ s.size ∧
       ((k.Sure ∧ J en en tk bk (ks ++ pieceK s em st ++ [k]) ops) ∨ (∃ img j, k = openK (opL img) j ∧ J en en tk bk (ks ++ pieceK s em st ++ [k]) (ops ++ [(ks ++ pieceK s em st).length])))))
/-- What closing a link leaves. -/
def CloP (B g : Nat) (r : PSr) (s : ByteArray) (J : JL) (Fin : Bool → ByteArray → List Kind → Prop) (i em : Nat) (tk : Bool) (bk : List Value) (ks : List Kind) (ops : List Nat) (oi : Nat) (img : Bool) (w : World) (e : Ending) (w' : World) : Prop :=
  InS B g (psAt r s false bk) em ks w' ∧ Mod (fun k => k = g ∨ B ≤ k) w w' ∧ KeepT w w' ∧
    ((e = .returned (.tuple #[.pointer none, .int .i64 0, .bool false]) ∧ J (i + 1) em tk bk ks ops) ∨
     (∃ b u, e = .returned (.tuple #[.pointer (some ⟨b, 0, none⟩), .int .i64 s.size, .bool true]) ∧ Blk w' b 144 #[.slice none 0 0, .string u, .string ⟨#[]⟩, .int .u8 0, .bool false] ∧ B ≤ b ∧ oi = 0 ∧ (1 < (ks ++ pieceK s em i).length ∧ (ks ++ pieceK s em i).length ≤ 1000) ∧
       (∀ W, Calls Tryz.prog 80 #[.string u] W fun e w2 => ∃ x, e = .returned (.bool x) ∧ Below W.heap.size W w2) ∧ Fin img u ((ks ++ pieceK s em i).tail.map emK)))
/-- How a text is read: J holds ahead of each sign; at its end a link closes. -/
structure InlHL (o : Opt) (B g : Nat) (r : PSr) (s : ByteArray) (w : World) (J : JL) (Fin : Bool → ByteArray → List Kind → Prop) : Prop where
  start : J 0 0 false r.back [] []
  more : ∀ em tk bk ks ops, ¬ J s.size em tk bk ks ops
  quiet : ∀ i em tk bk ks ops, J i em tk bk ks ops → em ≤ i → i < s.size → parF o g (bt s i) = none → (bt s i ≠ 93 ∨ ops = []) → J (i + 1) em tk bk ks ops
  tick : ∀ i em tk bk ks ops, J i em tk bk ks ops → i < s.size → bt s i ≠ 96
  call : ∀ i em tk bk ks ops f rv, J i em tk bk ks ops → em ≤ i → i < s.size → parF o g (bt s i) = some (f, rv) → ∀ W, InS B g (psAt r s false bk) em ks W → Mod (fun k => k = g ∨ B ≤ k) w W →
    Calls Tryz.prog f (rv ++ #[.pointer (some ⟨g, 0, none⟩), .string s, .int .i64 i]) W (ParL B g r s J i em tk ks ops W)
  close : ∀ i em tk bk ks ops oi, J i em tk bk ks (ops ++ [oi]) → em ≤ i → i < s.size → bt s i = 93 → ∀ img j ob W, ks[oi]? = some (openK (opL img) j) → InS B g (psAt r s false bk) em ks W → Mod (fun k => k = g ∨ B ≤ k) w W → Blk W ob 139 #[lineV (opL img), .int .i64 j] →
    Calls Tryz.prog 79 #[.pointer (some ⟨g, 0, none⟩), .string s, .int .i64 i, .pointer (some ⟨ob, 0, none⟩)] W (CloP B g r s J Fin i em tk bk ks ops oi img W)
/-- What is known at the loop's head while no link has been closed. -/
def InlRA (B g : Nat) (r : PSr) (s : ByteArray) (J : JL) (w : World) (i : Nat) (tk : Bool) (os : Sl) (wr : World) : Prop :=
  ∃ em bk ks ops, i ≤ s.size ∧ em ≤ i ∧ ks.length ≤ 2 * em ∧ (∀ k ∈ ks, OkL k) ∧ InS B g (psAt r s false bk) em ks wr ∧ J i em tk bk ks ops ∧ Mod (fun k => k = g ∨ B ≤ k) w wr ∧
    wr.ownsRow B 3 1 os.v os.n (ops.map fun (x : Nat) => Value.int .i64 x) ∧ ops.length ≤ ks.length ∧ (∀ oi ∈ ops, ∃ img j, ks[oi]? = some (openK (opL img) j))
/-- What is known behind the link. -/
def InlRB (B g : Nat) (r : PSr) (s : ByteArray) (Fin : Bool → ByteArray → List Kind → Prop) (w : World) (wr : World) : Prop :=
  ∃ c bk lb cap b base img u lc iks d ys, IsPS wr g { psAt r s c bk with emitted := s.size, list := ⟨some ⟨lb, 0, none⟩, 1, cap⟩ } ∧ wr.ownsRow B 132 1 (.slice (some ⟨lb, 0, none⟩) 1 cap) 1 [lkiV img b] ∧ IsLinkG wr b base d u lc ys ∧ B ≤ b ∧ lb < base ∧ IsItems wr B ys iks ∧ (∀ k ∈ iks, k.Fit) ∧ d.n = iks.length ∧ 0 < d.n ∧ Fin img u iks ∧ Mod (fun k => k = g ∨ B ≤ k) w wr
def nthV2 : List Value → Nat → Value := nthV
@[reducible] def lFrame (g : Nat) (s : ByteArray) (oa : Option Addr) (on oc : Nat) (lo : Int) (tk : Bool) (i : Int) (U : Nat → Value) : Act := { tmps := #[.pointer (some ⟨g, 0, none⟩), .string s, U 2, U 3, U 4, .slice oa on oc, .int .i64 lo, .bool tk, .int .i64 i, U 9, U 10, U 11, U 12, U 13, U 14, U 15, U 16, U 17, U 18, U 19, U 20, U 21, U 22, U 23, U 24, U 25, U 26, U 27, U 28, U 29, U 30, U 31, U 32, U 33, U 34, U 35, U 36, U 37, U 38, U 39, U 40, U 41, U 42, U 43, U 44, U 45, U 46, U 47, U 48, U 49, U 50, U 51, U 52, U 53, U 54, U 55, U 56, U 57, U 58, U 59, U 60, U 61, U 62, U 63, U 64, U 65, U 66, U 67, U 68, U 69, U 70, U 71, U 72, U 73, U 74, U 75, U 76, U 77, U 78, U 79, U 80, U 81, U 82, U 83, U 84, U 85, U 86, U 87, U 88, U 89, U 90, U 91, U 92, U 93, U 94, U 95, U 96, U 97, U 98, U 99, U 100, U 101, U 102, U 103, U 104, U 105, U 106, U 107, U 108, U 109, U 110, U 111, U 112, U 113, U 114, U 115, U 116, U 117, U 118, U 119, U 120, U 121, U 122, U 123, U 124, U 125, U 126, U 127, U 128, U 129, U 130, U 131, U 132, U 133, U 134, U 135, U 136, U 137, U 138, U 139, U 140, U 141, U 142, U 143, U 144, U 145, U 146, U 147, U 148, U 149, U 150, U 151, U 152, U 153, U 154, U 155, U 156, U 157, U 158, U 159, U 160, U 161, U 162, U 163, U 164, U 165, U 166, U 167, U 168, U 169, U 170, U 171, U 172, U 173, U 174, U 175, U 176, U 177, U 178, U 179, U 180, U 181, U 182, U 183, U 184, U 185, U 186, U 187, U 188, U 189, U 190, U 191, U 192, U 193, U 194, U 195, U 196, U 197, U 198, U 199, U 200, U 201, U 202, U 203, U 204, U 205, U 206, U 207, U 208, U 209, U 210, U 211, U 212, U 213, U 214, U 215, U 216, U 217, U 218, U 219, U 220, U 221, U 222, U 223, U 224, U 225, U 226, U 227, U 228, U 229, U 230, U 231, U 232, U 233, U 234, U 235, U 236, U 237, U 238, U 239, U 240, U 241, U 242, U 243, U 244, U 245, U 246, U 247, U 248, U 249, U 250, U 251, U 252, U 253, U 254, U 255, U 256, U 257, U 258, U 259, U 260, U 261, U 262, U 263, U 264, U 265, U 266, U 267, U 268, U 269, U 270, U 271, U 272, U 273, U 274, U 275, U 276, U 277, U 278, U 279, U 280, U 281, U 282, U 283, U 284, U 285, U 286, U 287, U 288, U 289, U 290, U 291, U 292, U 293, U 294, U 295, U 296, U 297, U 298, U 299, U 300, U 301, U 302, U 303, U 304, U 305, U 306, U 307, U 308, U 309, U 310, U 311, U 312, U 313, U 314, U 315, U 316, U 317, U 318, U 319, U 320, U 321, U 322, U 323, U 324, U 325, U 326, U 327, U 328, U 329, U 330, U 331, U 332, U 333, U 334], defers := [] }
def lList (g : Nat) (s : ByteArray) (oa : Option Addr) (on oc : Nat) (lo : Int) (tk : Bool) (i : Int) (U : Nat → Value) : List Value := [.pointer (some ⟨g, 0, none⟩), .string s, U 2, U 3, U 4, .slice oa on oc, .int .i64 lo, .bool tk, .int .i64 i, U 9, U 10, U 11, U 12, U 13, U 14, U 15, U 16, U 17, U 18, U 19, U 20, U 21, U 22, U 23, U 24, U 25, U 26, U 27, U 28, U 29, U 30, U 31, U 32, U 33, U 34, U 35, U 36, U 37, U 38, U 39, U 40, U 41, U 42, U 43, U 44, U 45, U 46, U 47, U 48, U 49, U 50, U 51, U 52, U 53, U 54, U 55, U 56, U 57, U 58, U 59, U 60, U 61, U 62, U 63, U 64, U 65, U 66, U 67, U 68, U 69, U 70, U 71, U 72, U 73, U 74, U 75, U 76, U 77, U 78, U 79, U 80, U 81, U 82, U 83, U 84, U 85, U 86, U 87, U 88, U 89, U 90, U 91, U 92, U 93, U 94, U 95, U 96, U 97, U 98, U 99, U 100, U 101, U 102, U 103, U 104, U 105, U 106, U 107, U 108, U 109, U 110, U 111, U 112, U 113, U 114, U 115, U 116, U 117, U 118, U 119, U 120, U 121, U 122, U 123, U 124, U 125, U 126, U 127, U 128, U 129, U 130, U 131, U 132, U 133, U 134, U 135, U 136, U 137, U 138, U 139, U 140, U 141, U 142, U 143, U 144, U 145, U 146, U 147, U 148, U 149, U 150, U 151, U 152, U 153, U 154, U 155, U 156, U 157, U 158, U 159, U 160, U 161, U 162, U 163, U 164, U 165, U 166, U 167, U 168, U 169, U 170, U 171, U 172, U 173, U 174, U 175, U 176, U 177, U 178, U 179, U 180, U 181, U 182, U 183, U 184, U 185, U 186, U 187, U 188, U 189, U 190, U 191, U 192, U 193, U 194, U 195, U 196, U 197, U 198, U 199, U 200, U 201, U 202, U 203, U 204, U 205, U 206, U 207, U 208, U 209, U 210, U 211, U 212, U 213, U 214, U 215, U 216, U 217, U 218, U 219, U 220, U 221, U 222, U 223, U 224, U 225, U 226, U 227, U 228, U 229, U 230, U 231, U 232, U 233, U 234, U 235, U 236, U 237, U 238, U 239, U 240, U 241, U 242, U 243, U 244, U 245, U 246, U 247, U 248, U 249, U 250, U 251, U 252, U 253, U 254, U 255, U 256, U 257, U 258, U 259, U 260, U 261, U 262, U 263, U 264, U 265, U 266, U 267, U 268, U 269, U 270, U 271, U 272, U 273, U 274, U 275, U 276, U 277, U 278, U 279, U 280, U 281, U 282, U 283, U 284, U 285, U 286, U 287, U 288, U 289, U 290, U 291, U 292, U 293, U 294, U 295, U 296, U 297, U 298, U 299, U 300, U 301, U 302, U 303, U 304, U 305, U 306, U 307, U 308, U 309, U 310, U 311, U 312, U 313, U 314, U 315, U 316, U 317, U 318, U 319, U 320, U 321, U 322, U 323, U 324, U 325, U 326, U 327, U 328, U 329, U 330, U 331, U 332, U 333, U 334]
theorem lFrame_eq {g : Nat} {s : ByteArray} {oa : Option Addr} {on oc : Nat} {lo : Int} {tk : Bool} {i : Int} (L : List Value) (h : lList g s oa on oc lo tk i (nthV L) = L) : ({ tmps := L.toArray, defers := [] } : Act) = lFrame g s oa on oc lo tk i (nthV L) := by
  have : lFrame g s oa on oc lo tk i (nthV L) = { tmps := (lList g s oa on oc lo tk i (nthV L)).toArray, defers := [] } := rfl
  rw [this, h]
/-- The loop's invariant. -/
def InlIL (B g : Nat) (r : PSr) (s : ByteArray) (J : JL) (Fin : Bool → ByteArray → List Kind → Prop) (w : World) (a : Act) (wr : World) : Prop := ∃ (i : Nat) (tk : Bool) (os : Sl) (lo : Int) (U : Nat → Value), ((lo = 0 ∧ InlRA B g r s J w i tk os wr) ∨ (i = s.size ∧ InlRB B g r s Fin w wr)) ∧ a = lFrame g s os.a os.n os.c lo tk i U
/-- Behind the switch. -/
def SwL (o : Opt) (g : Nat) (s : ByteArray) (i : Nat) (tk : Bool) (wr : World) (tk2 : Bool) (fv : Value) (wx : World) : Prop :=
  wx = wr ∧ tk2 = tk ∧ ((parF o g (bt s i) = none ∧ fv = .nilFunc) ∨ (∃ f rv, parF o g (bt s i) = some (f, rv) ∧ fv = .func (Fn.func f) rv #[]))
def InlCL (g : Nat) (s : ByteArray) (os : Sl) (i : Nat) (R : Bool → Value → World → Prop) (a : Act) (wx : World) : Prop := ∃ (tk : Bool) (U : Nat → Value), R tk (U 9) wx ∧ a = lFrame g s os.a os.n os.c 0 tk i U
theorem own_pop {w : World} {B n c : Nat} {e : TypeId} {a : Option Addr} {xs : List Value} {x : Value} (h : w.ownsRow B e 1 (.slice a (n + 1) c) (n + 1) (xs ++ [x])) : w.ownsRow B e 1 (.slice a n c) n xs := by
  obtain ⟨h1, h2⟩ := h
  have hl : xs.length = n := by simp at h1; omega
  refine ⟨by simpa using hl, .inr ?_⟩
  rcases h2 with ⟨_, h0⟩ | ⟨g, cap, cur, h3, h4, h5, h6, h7, h8, h9⟩
  · omega
  · simp only [Value.slice.injEq] at h3
    obtain ⟨rfl, _, rfl⟩ := h3
    refine ⟨g, _, cur, rfl, h4, h5, by omega, h7, h8, ?_⟩
    have h10 : cur.toList.take (n + 1) = xs ++ [x] := by simpa using h9
    have h11 := congrArg (List.take n) h10
    rw [List.take_take, Nat.min_eq_left (by omega), List.take_left' hl] at h11
    rw [Nat.mul_one]
    exact h11
theorem own_head {w : World} {B n c lb : Nat} {e : TypeId} {vs : List Value} (h : w.ownsRow B e 1 (.slice (some ⟨lb, 0, none⟩) n c) n vs) (h0 : 0 < n) (v : Value) : (w.setCell ⟨lb, 0, none⟩ v).ownsRow B e 1 (.slice (some ⟨lb, 0, none⟩) 1 c) 1 [v] := by
  obtain ⟨hl, h1⟩ := h
  rcases h1 with ⟨_, h2⟩ | ⟨g, cap, cur, h3, hb, hh, h4, h5, h6, h7⟩
  · omega
  · simp only [Value.slice.injEq, Option.some.injEq, Addr.mk.injEq] at h3
    obtain ⟨⟨rfl, _⟩, _, rfl⟩ := h3
    have hb2 : Blk (w.setCell ⟨lb, 0, none⟩ v) lb e (cur.setIfInBounds 0 v) := Blk.set_ (show Blk w lb e cur from hh) 0 v
    refine ⟨rfl, .inr ⟨lb, c, _, rfl, hb, hb2, by omega, h5, by simpa using h6, ?_⟩⟩
    obtain ⟨l⟩ := cur
    cases l with
    | nil => simp at h6; omega
    | cons x l => simp
theorem InS.corner {B g : Nat} {r : PSr} {s : ByteArray} {c : Bool} {bk : List Value} {em : Nat} {ks : List Kind} {w : World} (h : InS B g (psAt r s c bk) em ks w) (hok : ∀ k ∈ ks, k.Fit) (c2 : Bool) : InS B g (psAt r s c2 bk) em ks (w.setCell ⟨g, 6, none⟩ (.bool c2)) := by
  obtain ⟨l, vs, hps, hrow, hln, hits⟩ := h
  refine ⟨l, vs, hps.set6 c2, own_far hrow (p := ⟨g, 6, none⟩) (own_ne hrow hps (by decide)) _, hln, ?_⟩
  exact hits.mod (S := fun k => k = g) ((Mod.refl (fun k => k = g) w).setCell (p := ⟨g, 6, none⟩) (.inl rfl) _) (fun k hk b cs hb _ e => by subst e; exact Blk.ne_ hb hps (hok k hk).ps rfl)
theorem skip_ps (g : Nat) (r : PSr) (i : Nat) (w : World) (hps : IsPS w g r) :
    Calls Tryz.prog 78 #[.pointer (some ⟨g, 0, none⟩), .int .i64 i] w fun e w' => e = .returned (.tuple #[]) ∧ w' = w.setCell ⟨g, 8, none⟩ (.int .i64 i) := by
  have c8 := hps.c8
  have fq := hps.free
  clear hps
  go_enter Tryz.func78, Tryz.ntmps78
  go_wp2_with fail
  go_end0
  exact ⟨rfl, rfl⟩
theorem opL_bt0 (img : Bool) : bt ⟨(opL img).toArray⟩ 0 = if img then 33 else 91 := by cases img <;> rfl
/-- A goal at which the walk stands still. -/
def Stp (P : Prop) : Prop := P
theorem Stp.mk {P : Prop} (h : Stp P) : P := h
theorem slot_piece (s : ByteArray) (em i : Nat) : (pieceK s em i).length ≤ 1 := by unfold pieceK; split <;> simp
set_option maxRecDepth 20000 in
set_option maxHeartbeats 32000000 in
theorem inline_link (o : Opt) (g : Nat) (r : PSr) (s0 s : ByteArray) (w : World) (J : JL) (Fin : Bool → ByteArray → List Kind → Prop) (hps : IsPS w g r) (hpar : Blk w r.parser 77 o.parser) (hne : r.parser ≠ g) (hcor : r.corner = false) (ha : o.auto_ = false) (out : List UInt8)
    (hs0 : s0.size ≤ 100000) (hs : s = ⟨(trimR (trimL s0.data.toList)).toArray⟩) (hsz : s.size ≤ 100000) (H : InlHL o w.heap.size g r s w J Fin)
    (hfin : ∀ img u iks, Fin img u iks → iks.length ≤ 1000 ∧ ∀ W b base d lc ys, IsLinkG W b base d u lc ys → w.heap.size ≤ b → w.heap.size ≤ base → IsItems W w.heap.size ys iks → d.n = iks.length → 0 < d.n → ItemS w.heap.size W (lkiV img b) out) :
    Calls Tryz.prog 56 #[.pointer (some ⟨g, 0, none⟩), .string s0] w (InlPost g r out w) := by
  obtain ⟨is0, his0, hsz0, hsz1, hsz2⟩ := info_parts infoInl
  obtain ⟨it0, hit0, htz0, htz1, htz2⟩ := info_parts infoInt
  have HH := hid H
  have HPS := hid hps
  have HPAR := hid hpar
  have HFIN := hid hfin
  have hgl := hps.lt
  have hpl := hpar.lt
  have fq := hps.free
  have c7 := hps.c7
  have c8 := hps.c8
  have c9 := hps.c9
  have hT : Calls Tryz.prog 64 #[.string s0] w fun e w' => e = .returned (.string s) ∧ w = w' := by rw [hs]; exact trimST_any s0 w hs0
  have HT := hid hT
  clear hT hs
  have hgB : g < w.heap.size := hgl
  clear H hps hpar hfin
  have hin0 : Hid (InS w.heap.size g (psAt r s false r.back) 0 [] (World.setCell (World.setCell (World.setCell w ⟨g, 7, none⟩ (.string s)) ⟨g, 9, none⟩ (.slice none 0 0)) ⟨g, 8, none⟩ (.int .i64 0))) := hid ⟨Sl.nil, [], by rw [← hcor]; exact ((HPS.out.set7 s).set9 none 0 0).set8 0, World.ownsRow_nil _ _ _ _, rfl, IsItems.nil _ _⟩
  have hm0 : Hid (Mod (fun k => k = g ∨ w.heap.size ≤ k) w (World.setCell (World.setCell (World.setCell w ⟨g, 7, none⟩ (.string s)) ⟨g, 9, none⟩ (.slice none 0 0)) ⟨g, 8, none⟩ (.int .i64 0))) := hid ((((Mod.refl _ w).setCell (p := ⟨g, 7, none⟩) (.inl (.inl rfl)) _).setCell (p := ⟨g, 9, none⟩) (.inl (.inl rfl)) _).setCell (p := ⟨g, 8, none⟩) (.inl (.inl rfl)) _)
  go_enter Tryz.func56, Tryz.ntmps56
  go_wp2_with (first | (go_at_call 64; refine HT.out.mono ?_; rintro e w' ⟨rfl, rfl⟩))
  generalize World.setCell (World.setCell (World.setCell w ⟨g, 7, none⟩ (.string s)) ⟨g, 9, none⟩ (.slice none 0 0)) ⟨g, 8, none⟩ (.int .i64 0) = w1 at hin0 hm0 ⊢
  clear fq c7 c8 c9
  refine wp_loop (InlIL w.heap.size g r s J Fin w) (fun a _ => s.size - (intOf (a.tmps.getD 8 undef)).toNat) ?_ ?_
  · exact ⟨0, false, Sl.nil, 0, nthV _, .inl ⟨rfl, 0, r.back, [], [], Nat.zero_le _, Nat.le_refl _, Nat.le_refl _, (fun k hk => by cases hk), hin0.out, HH.out.start, hm0.out, World.ownsRow_nil _ _ _ _, Nat.le_refl _, (fun oi h => by cases h)⟩, lFrame_eq _ (by kernel_rfl)⟩
  · clear hin0 hm0
    rintro a0 wr ⟨i, tk, ⟨oa, on, oc⟩, lo, U, hcase, rfl⟩
    try dsimp only
    rcases hcase with ⟨rfl, em, bk, ks, ops, hi, hem, hkl, hok, hin, hj, hm, hop, hol, hoa⟩ | ⟨rfl, c, bk, lb, cap, b, base, img, u, lc, iks, d, ys, hpb, hrb, hlk, hbB, hlb, hits, hft, hdn, hd0, hF, hm⟩
    · have hlt : i < s.size := by
        rcases Nat.lt_or_ge i s.size with h | h
        · exact h
        · exfalso
          obtain rfl : i = s.size := by omega
          exact HH.out.more _ _ _ _ _ hj
      have HIN := hid hin
      have HJ := hid hj
      have HM := hid hm
      have HOK := hid hok
      have HOP := hid hop
      have HOA := hid hoa
      clear hin hj hm hok hop hoa
      have hb := get_bt s
      obtain ⟨l, vs, hps1, _, _, _⟩ := id HIN.out
      have c0 := hps1.c0
      dsimp only [psAt] at c0
      have hpar1 : Blk wr r.parser 77 o.parser := HPAR.out.mod HM.out (by omega)
      go_upto_block 2 with fail
      refine wp_cut (InlCL g s ⟨oa, on, oc⟩ i (SwL o g s i tk wr)) ?_ ?_
      · clear c0 hpar1 hps1
        rintro a2 wx ⟨tk2, U2, ⟨rfl, rfl, hcut⟩, rfl⟩
        try dsimp only
        rcases hcut with ⟨hpf, h9⟩ | ⟨f, rv, hpf, h9⟩
        · dsimp only [lFrame]
          rw [h9]
          have hnn : ∀ W, (Go.binOp BinOp.neq 130 Value.nilFunc Value.nilFunc).run Tryz.prog W = .ok (.bool false) W := fun W => by kernel_rfl
          by_cases z93 : bt s i = 93
          · rcases List.eq_nil_or_concat ops with hops | ⟨ops', oi, hops⟩
            · subst hops
              have HJ2 := hid (HH.out.quiet i em tk2 bk ks [] HJ.out hem hlt hpf (.inr rfl))
              obtain rfl : on = 0 := by have := HOP.out.1; simp at this; exact this.symm
              clear h9 hpf
              go_wp2_with fail
              refine ⟨⟨i + 1, tk2, ⟨oa, 0, oc⟩, 0, nthV _, .inl ⟨rfl, em, bk, ks, [], hlt, by omega, hkl, HOK.out, HIN.out, HJ2.out, HM.out, HOP.out, hol, HOA.out⟩, lFrame_eq _ (by kernel_rfl)⟩, ?_⟩
              simp [intOf]; omega
            · rw [List.concat_eq_append] at hops
              subst hops
              have hon : on = ops'.length + 1 := by have := HOP.out.1; simp at this; omega
              subst hon
              obtain ⟨img, j, hki⟩ := HOA.out oi (List.mem_append_right _ (List.mem_singleton.2 rfl))
              obtain ⟨ob, csO, hoe, hobB, _, hncO, _, hcO, _⟩ := row_blk HOP.out (Nat.succ_pos _)
              have hoc1 : ops'.length ≤ oc := Nat.le_of_succ_le hncO
              subst hoe
              have co : wx.cell? ⟨ob, ops'.length, none⟩ = some (.int .i64 oi) := by rw [hobB.cell, hcO _ (Nat.lt_succ_self _), List.map_append, List.getElem?_append_right (by simp)]; simp
              obtain ⟨l1, vs1, hps1, hrow1, hln1, hits1⟩ := id HIN.out
              have hoi : oi < ks.length := (List.getElem?_eq_some_iff.1 hki).1
              obtain ⟨la, ln, lcp⟩ := l1
              dsimp only at hrow1 hln1
              subst hln1
              obtain ⟨lb, csL, hle, hlbB, hBlb, hnc, hcs, hcL, hvl⟩ := row_blk (n := ks.length) hrow1 (Nat.lt_of_le_of_lt (Nat.zero_le _) hoi)
              subst hle
              have hov : oi < vs1.length := by rw [hvl]; exact hoi
              obtain ⟨pb, hpv, hpblk, hpB⟩ := hits1.2 oi _ _ (List.getElem?_eq_getElem hov) hki
              have cl : wx.cell? ⟨lb, oi, none⟩ = some (.iface 134 (.pointer (some ⟨pb, 0, none⟩))) := by rw [hlbB.cell, hcL _ hoi, List.getElem?_eq_getElem hov, hpv]
              have c9 : wx.cell? ⟨g, 9, none⟩ = some (.slice (some ⟨lb, 0, none⟩) ks.length lcp) := hps1.c9
              have d0 : wx.cell? ⟨pb, 0, none⟩ = some (.string ⟨(opL img).toArray⟩) := hpblk.at_ 0 rfl
              have d1 : wx.cell? ⟨pb, 1, none⟩ = some (.int .i64 j) := hpblk.at_ 1 rfl
              have hbo := get_bt ⟨(opL img).toArray⟩
              have hb0 := opL_bt0 img
              have hosz : 0 < (ByteArray.mk (opL img).toArray).size := by cases img <;> decide
              have HPB := hid hpblk
              have hcap : lcp ≤ 9223372036854775807 := row_cap (n := ks.length) hrow1 (Nat.lt_of_le_of_lt (Nat.zero_le _) hoi)
              have hcapO : oc ≤ 9223372036854775807 := row_cap HOP.out (Nat.succ_pos _)
              have HCL := hid (HH.out.close i em tk2 bk ks ops' oi HJ.out hem hlt z93 img j pb wx hki HIN.out HM.out hpblk)
              have hol' : ops'.length + 1 ≤ ks.length := by have := hol; rw [List.length_append] at this; exact this
              clear hps1 hrow1 hits1 hlbB hcL hobB hcO hpblk hpv hvl hcs h9 hpf
              have ta : ∀ W, (Instr.typeAssert (.iface 134 (.pointer (some ⟨pb, 0, none⟩))) 132 134 false).run Tryz.prog W = .ok (.pointer (some ⟨pb, 0, none⟩)) W := fun W => by kernel_rfl
              cases img with
              | true =>
                rw [if_pos rfl] at hb0
                go_wp2_with fail
                refine HCL.out.mono ?_
                rintro e w6 ⟨hin6, hm6, hk6, hcase⟩
                have HIN6 := hid hin6
                have HM6 := hid (HM.out.trans hm6 (fun _ _ h => h))
                have HOP6 := hid (hk6.own HOP.out (by decide) (by decide))
                have HPB6 := hid (hk6 _ _ _ HPB.out (by decide) (by decide))
                clear hin6 hm6 hk6 HCL co cl c9 d0 d1
                rcases hcase with ⟨rfl, hj6⟩ | ⟨b, u, rfl, hbl, hbB, rfl, hpl, hlcor, hF⟩
                · have HJ6 := hid hj6
                  clear hj6
                  go_wp2_with fail
                  refine ⟨⟨i + 1, tk2, ⟨some ⟨ob, 0, none⟩, ops'.length, oc⟩, 0, nthV _, .inl ⟨rfl, em, bk, ks, ops', hlt, by omega, hkl, HOK.out, HIN6.out, HJ6.out, HM6.out, own_pop (by simpa only [List.map_append, List.map_cons, List.map_nil] using HOP6.out), by omega, fun oi h => HOA.out oi (List.mem_append_left _ h)⟩, lFrame_eq _ (by kernel_rfl)⟩, ?_⟩
                  simp [intOf]; omega
                · have HBL := hid hbl
                  have HF := hid hF
                  have HLC := hid hlcor
                  have x4 : w6.cell? ⟨b, 4, none⟩ = some (.bool false) := hbl.at_ 4 rfl
                  have x1 : w6.cell? ⟨b, 1, none⟩ = some (.string u) := hbl.at_ 1 rfl
                  have hbz := hbl.lt
                  obtain ⟨l6, vs6, hps6, _⟩ := id HIN6.out
                  have c6c : w6.cell? ⟨g, 6, none⟩ = some (.bool false) := hps6.c6
                  have f6 := hps6.free
                  have HPG := hid hps6
                  clear hbl hF hlcor hps6
                  go_wp2_with fail
                  refine (HLC.out _).mono ?_
                  rintro e w6b ⟨xc, rfl, hb6b⟩
                  have HPG2 := hid (HPG.out.below hb6b)
                  have f6b := HPG2.out.free
                  have c6d : w6b.cell? ⟨g, 6, none⟩ = some (.bool false) := HPG2.out.c6
                  have hin6b := HIN6.out.below hb6b
                  have hpb6b := HPB6.out.mod (S := fun _ => False) (Mod.below' hb6b) (fun x => x)
                  have hbl6b := HBL.out.mod (S := fun _ => False) (Mod.below' hb6b) (fun x => x)
                  have hm6b := HM6.out.trans (Mod.below' (S := fun _ => False) hb6b) (fun _ _ x => False.elim x)
                  have HIN7 := hid (hin6b.corner (fun k hk => (HOK.out k hk).fit) xc)
                  have HM7 := hid (hm6b.setCell (p := ⟨g, 6, none⟩) (.inl (.inl rfl)) (.bool xc))
                  have HPB7 := hid (hpb6b.far (p := ⟨g, 6, none⟩) (Blk.ne_ hpb6b HPG2.out (by decide)) (.bool xc))
                  have HBL7 := hid (hbl6b.far (p := ⟨g, 6, none⟩) (Blk.ne_ hbl6b HPG2.out (by decide)) (.bool xc))
                  clear hb6b hin6b hpb6b hbl6b hm6b
                  go_wp2_with fail
                  generalize World.setCell w6b ⟨g, 6, none⟩ _ = w7 at HIN7 HM7 HPB7 HBL7 ⊢
                  clear x4 x1 c6c c6d f6b HIN6 HM6 HPB6 HBL HPG HPG2 HOP6
                  have HE := hid (emit_anyF w.heap.size g (psAt r s xc bk) em i ks w7 hgB HM7.out.size HIN7.out (fun k hk => (HOK.out k hk).fit) hem (Nat.le_of_lt hlt) (by omega))
                  clear HIN7
                  go_wp2_with fail
                  refine HE.out.mono ?_
                  rintro e w8 ⟨rfl, hin8, hm8, hk8⟩
                  have HOK8 : Hid (∀ k ∈ ks ++ pieceK s em i, OkL k) := hid (okL_piece s em i HOK.out)
                  have hpb8 := hk8 _ _ _ HPB7.out (by decide) (by decide)
                  have hbl8 := hk8 _ _ _ HBL7.out (by decide) (by decide)
                  have hm8' := HM7.out.trans hm8 (fun _ _ h => h)
                  obtain ⟨⟨la8, ln8, lc8⟩, vs8, hps8, hrow8, hln8, hits8⟩ := hin8
                  dsimp only at hrow8 hln8
                  obtain ⟨m, hmk⟩ : ∃ m, (ks ++ pieceK s em i).length = m + 1 := ⟨(ks ++ pieceK s em i).length - 1, by have := hpl.1; omega⟩
                  have hm1 : 1 ≤ m := by have := hpl.1; omega
                  have hm2 : m ≤ 1000 := by have := hpl.2; omega
                  rw [hmk] at hln8
                  subst hln8
                  obtain ⟨lb8, cs8, hle8, hlb8, hB8, hnc8, hcs8, hcl8, hvl8⟩ := row_blk hrow8 (Nat.succ_pos m)
                  subst hle8
                  have hcap8 := row_cap hrow8 (Nat.succ_pos m)
                  have c9 : w8.cell? ⟨g, 9, none⟩ = some (.slice (some ⟨lb8, 0, none⟩) (m + 1) lc8) := hps8.c9
                  have hti : IsItems w8 w.heap.size vs8.tail (ks ++ pieceK s em i).tail := ⟨by rw [List.length_tail, List.length_tail, hits8.1], fun jj v k hv hk => by
                    rw [List.getElem?_tail] at hv hk
                    exact hits8.2 _ v k hv hk⟩
                  have HEO := hid (emph_open w.heap.size g lb8 1 m (lc8 - 1) vs8.tail (ks ++ pieceK s em i).tail w8 (fun jj v hv => by
                    rw [List.getElem?_tail] at hv
                    have hjj := (List.getElem?_eq_some_iff.1 hv).1
                    rw [hlb8.cell, hcl8 _ (by omega), Nat.add_comm 1 jj]
                    exact hv) (by rw [List.length_tail, hvl8]; rfl) hti hlb8.lt (fun k hk => (HOK8.out k (List.mem_of_mem_tail hk)).emk w8) (by omega))
                  clear HE hm8 hk8 hcl8 hcs8 hits8
                  go_wp2_with fail
                  refine HEO.out.mono ?_
                  rintro e w9 ⟨d, rfl, hd9, hb9⟩
                  have hz8 := hb9.size
                  have hgl8 := hps8.lt
                  have hbl9 := hbl8.mod (S := fun _ => False) (Mod.below' hb9) (fun x => x)
                  have hpb9 := hpb8.mod (S := fun _ => False) (Mod.below' hb9) (fun x => x)
                  have hps9 := hps8.below hb9
                  have hrow9 := own_mod hrow8 (Mod.below' (S := fun _ => False) hb9) (fun _ _ x => x)
                  have hit9 : IsItems w9 w.heap.size (vs8.tail.map emV) ((ks ++ pieceK s em i).tail.map emK) := emItems (hti.mod (S := fun _ => False) (Mod.below' hb9) (fun _ _ _ _ _ _ x => x))
                  have hm9 : Mod (fun k => k = g ∨ w.heap.size ≤ k) w w9 := hm8'.trans (Mod.below' (S := fun _ => False) hb9) (fun _ _ x => False.elim x)
                  have HFT : Hid (∀ k ∈ (ks ++ pieceK s em i).tail.map emK, k.Fit ∧ k.tb ≠ 144) := hid (fun k hk => by
                    obtain ⟨k1, hk1, rfl⟩ := List.mem_map.1 hk
                    have h1 := HOK8.out k1 (List.mem_of_mem_tail hk1)
                    rw [emK]
                    split
                    · exact ⟨⟨h1.fit.ps, h1.fit.row⟩, h1.1.2⟩
                    · exact ⟨h1.fit, h1.1.2⟩)
                  have hlg : g ≠ lb8 := Blk.ne_ hps9 ((show Blk w9 lb8 132 _ from hlb8.mod (S := fun _ => False) (Mod.below' hb9) (fun x => x))) (by decide)
                  have hlb9 := hlb8.mod (S := fun _ => False) (Mod.below' hb9) (fun x => x)
                  have hblb : b ≠ lb8 := Blk.ne_ hbl9 hlb9 (by decide)
                  have hpbl : pb ≠ lb8 := Blk.ne_ hpb9 hlb9 (by decide)
                  have hgb : g ≠ b := Blk.ne_ hps9 hbl9 (by decide)
                  have hpbb : pb ≠ b := Blk.ne_ hpb9 hbl9 (by decide)
                  have hpbg : pb ≠ g := Blk.ne_ hpb9 hps9 (by decide)
                  have hlbz := hlb8.lt
                  have hbl10 := hbl9.set_ 0 (.slice d.a m d.c)
                  have hpb10 := hpb9.far (p := ⟨b, 0, none⟩) hpbb (.slice d.a m d.c)
                  have hps10 := hps9.far (p := ⟨b, 0, none⟩) hgb (.slice d.a m d.c)
                  have hrow10 := own_far hrow9 (p := ⟨b, 0, none⟩) (own_ne hrow9 hbl9 (by decide)) (.slice d.a m d.c)
                  have hd10 := own_far hd9 (p := ⟨b, 0, none⟩) (own_ne hd9 hbl9 (by decide)) (.slice d.a m d.c)
                  have hit10 := hit9.mod (S := fun k => k = b) ((Mod.refl (fun k => k = b) w9).setCell (p := ⟨b, 0, none⟩) (.inl rfl) (.slice d.a m d.c)) (fun k hk bb cs hb _ e => by subst e; exact Blk.ne_ hb hbl9 (HFT.out k hk).2 rfl)
                  have hm10 := hm9.setCell (p := ⟨b, 0, none⟩) (.inl (.inr hbB)) (.slice d.a m d.c)
                  have fb9 := hbl9.free
                  have x0 : w9.cell? ⟨b, 0, none⟩ = some (.slice none 0 0) := hbl9.at_ 0 rfl
                  have hbl10' : Blk (w9.setCell ⟨b, 0, none⟩ (.slice d.a m d.c)) b 144 #[(Sl.mk d.a m d.c).v, .string u, .string ⟨#[]⟩, .int .u8 0, .bool false] := hbl10
                  clear hbl10
                  generalize hw10 : World.setCell w9 ⟨b, 0, none⟩ (.slice d.a m d.c) = w10 at hbl10' hpb10 hps10 hrow10 hd10 hit10 hm10
                  have c9a : w10.cell? ⟨g, 9, none⟩ = some (.slice (some ⟨lb8, 0, none⟩) (m + 1) lc8) := hps10.c9
                  have d0a : w10.cell? ⟨pb, 0, none⟩ = some (.string ⟨(opL true).toArray⟩) := hpb10.at_ 0 rfl
                  obtain ⟨lbx, csx, hlex, hlb10, _, _, _, hcjx, hvlx⟩ := row_blk hrow10 (Nat.succ_pos m)
                  obtain rfl : lb8 = lbx := by simpa using hlex
                  have fl10 := hlb10.free
                  obtain ⟨y, hy⟩ : ∃ y, w10.cell? ⟨lb8, 0, none⟩ = some y := ⟨vs8[0]'(by omega), by rw [hlb10.cell, hcjx 0 (Nat.succ_pos m)]; exact List.getElem?_eq_getElem _⟩
                  have hrow11 := own_head hrow10 (Nat.succ_pos m) (Value.iface 146 (.pointer (some ⟨b, 0, none⟩)))
                  have hps11 := hps10.far (p := ⟨lb8, 0, none⟩) hlg (Value.iface 146 (.pointer (some ⟨b, 0, none⟩)))
                  have hpb11 := hpb10.far (p := ⟨lb8, 0, none⟩) hpbl (Value.iface 146 (.pointer (some ⟨b, 0, none⟩)))
                  have hbl11 := hbl10'.far (p := ⟨lb8, 0, none⟩) hblb (Value.iface 146 (.pointer (some ⟨b, 0, none⟩)))
                  have hd11 := own_far hd10 (p := ⟨lb8, 0, none⟩) (fun e => by have h1 : w8.heap.size ≤ lb8 := ownBase hd10 e; omega) (Value.iface 146 (.pointer (some ⟨b, 0, none⟩)))
                  have hit11 := hit10.mod (S := fun k => k = lb8) ((Mod.refl (fun k => k = lb8) w10).setCell (p := ⟨lb8, 0, none⟩) (.inl rfl) (Value.iface 146 (.pointer (some ⟨b, 0, none⟩)))) (fun k hk bb cs hb _ e => by subst e; exact Blk.ne_ hb hlb10 (HFT.out k hk).1.row rfl)
                  have hm11 := hm10.setCell (p := ⟨lb8, 0, none⟩) (.inl (.inr hB8)) (Value.iface 146 (.pointer (some ⟨b, 0, none⟩)))
                  generalize hw11 : World.setCell w10 ⟨lb8, 0, none⟩ (Value.iface 146 (.pointer (some ⟨b, 0, none⟩))) = w11 at hrow11 hps11 hpb11 hbl11 hd11 hit11 hm11
                  have c9b : w11.cell? ⟨g, 9, none⟩ = some (.slice (some ⟨lb8, 0, none⟩) (m + 1) lc8) := hps11.c9
                  have f11 := hps11.free
                  have hps12 := hps11.set9 (some ⟨lb8, 0, none⟩) 1 lc8
                  have hrow12 := own_far hrow11 (p := ⟨g, 9, none⟩) (own_ne hrow11 hps11 (by decide)) (.slice (some ⟨lb8, 0, none⟩) 1 lc8)
                  have hpb12 := hpb11.far (p := ⟨g, 9, none⟩) hpbg (.slice (some ⟨lb8, 0, none⟩) 1 lc8)
                  have hbl12 := hbl11.far (p := ⟨g, 9, none⟩) (fun e => hgb e.symm) (.slice (some ⟨lb8, 0, none⟩) 1 lc8)
                  have hd12 := own_far hd11 (p := ⟨g, 9, none⟩) (own_ne hd11 hps11 (by decide)) (.slice (some ⟨lb8, 0, none⟩) 1 lc8)
                  have hit12 := hit11.mod (S := fun k => k = g) ((Mod.refl (fun k => k = g) w11).setCell (p := ⟨g, 9, none⟩) (.inl rfl) (.slice (some ⟨lb8, 0, none⟩) 1 lc8)) (fun k hk bb cs hb _ e => by subst e; exact Blk.ne_ hb hps11 (HFT.out k hk).1.ps rfl)
                  have hm12 := hm11.setCell (p := ⟨g, 9, none⟩) (.inl (.inl rfl)) (.slice (some ⟨lb8, 0, none⟩) 1 lc8)
                  generalize hw12 : World.setCell w11 ⟨g, 9, none⟩ (.slice (some ⟨lb8, 0, none⟩) 1 lc8) = w12 at hps12 hrow12 hpb12 hbl12 hd12 hit12 hm12
                  have HPS12 := hid hps12
                  have HROW12 := hid hrow12
                  have HPB12 := hid hpb12
                  have HBL12 := hid hbl12
                  have HD12 := hid hd12
                  have HIT12 := hid hit12
                  have HM12 := hid hm12
                  have HW12 := hid hw12
                  clear hps12 hrow12 hpb12 hbl12 hd12 hit12 hm12 hrow11 hps11 hpb11 hbl11 hd11 hit11 hm11 hbl10' hpb10 hps10 hrow10 hd10 hit10 hm10 hlb10 hlex hcjx hvlx hbl9 hpb9 hps9 hrow9 hd9 hit9 hm9 hbl8 hpb8 hps8 hrow8 hti hm8' hlb8 hlb9 HEO c9 hb9 HPB7 HBL7 HM7 hw12
                  subst hw11
                  subst hw10
                  go_wp2_with fail
                  rw [HW12.out]
                  clear x0 fb9 c9a d0a fl10 hy y c9b f11 HW12
                  refine (skip_ps g _ s.size w12 HPS12.out).mono ?_
                  rintro e w13 ⟨rfl, hw13⟩
                  have HPS13 := hid (show IsPS w13 g _ from by rw [hw13]; exact HPS12.out.set8 s.size)
                  have HROW13 := hid (show w13.ownsRow w.heap.size 132 1 (.slice (some ⟨lb8, 0, none⟩) 1 lc8) 1 [lkiV true b] from by rw [hw13]; exact own_far HROW12.out (p := ⟨g, 8, none⟩) (own_ne HROW12.out HPS12.out (by decide)) _)
                  have hpb13 : Blk w13 pb 139 #[lineV (opL true), .int .i64 j] := by rw [hw13]; exact HPB12.out.far (p := ⟨g, 8, none⟩) hpbg _
                  have HBL13 := hid (show Blk w13 b 144 #[(Sl.mk d.a m d.c).v, .string u, .string ⟨#[]⟩, .int .u8 0, .bool false] from by rw [hw13]; exact HBL12.out.far (p := ⟨g, 8, none⟩) (fun e => hgb e.symm) _)
                  have HD13 := hid (show w13.ownsRow w8.heap.size 132 1 (Sl.mk d.a m d.c).v m (vs8.tail.map emV) from by rw [hw13]; exact own_far HD12.out (p := ⟨g, 8, none⟩) (own_ne HD12.out HPS12.out (by decide)) _)
                  have HIT13 := hid (show IsItems w13 w.heap.size (vs8.tail.map emV) ((ks ++ pieceK s em i).tail.map emK) from by rw [hw13]; exact HIT12.out.mod (S := fun k => k = g) ((Mod.refl (fun k => k = g) w12).setCell (p := ⟨g, 8, none⟩) (.inl rfl) _) (fun k hk bb cs hb _ e => by subst e; exact Blk.ne_ hb HPS12.out (HFT.out k hk).1.ps rfl))
                  have HM13 := hid (show Mod (fun k => k = g ∨ w.heap.size ≤ k) w w13 from by rw [hw13]; exact HM12.out.setCell (p := ⟨g, 8, none⟩) (.inl (.inl rfl)) _)
                  have d0 : w13.cell? ⟨pb, 0, none⟩ = some (.string ⟨(opL true).toArray⟩) := hpb13.at_ 0 rfl
                  have d1 : w13.cell? ⟨pb, 1, none⟩ = some (.int .i64 j) := hpb13.at_ 1 rfl
                  clear hw13 HPS12 HROW12 HPB12 HBL12 HD12 HIT12 HM12 hpb13
                  go_wp2_with fail
                  refine ⟨⟨s.size, tk2, ⟨some ⟨ob, 0, none⟩, ops'.length, oc⟩, 0, nthV _, .inr ⟨rfl, xc, bk, lb8, lc8, b, w8.heap.size, true, u, false, (ks ++ pieceK s em i).tail.map emK, ⟨d.a, m, d.c⟩, vs8.tail.map emV, HPS13.out, HROW13.out, ⟨HBL13.out, HD13.out⟩, hbB, hlbz, HIT13.out, (fun k hk => (HFT.out k hk).1), by rw [List.length_map, List.length_tail, hmk]; rfl, (by show 0 < m; omega), HF.out, HM13.out⟩, lFrame_eq _ (by kernel_rfl)⟩, ?_⟩
                  simp [intOf]; omega
              | false =>
                rw [if_neg (by decide)] at hb0
                go_wp2_with fail
                refine HCL.out.mono ?_
                rintro e w6 ⟨hin6, hm6, hk6, hcase⟩
                have HIN6 := hid hin6
                have HM6 := hid (HM.out.trans hm6 (fun _ _ h => h))
                have HOP6 := hid (hk6.own HOP.out (by decide) (by decide))
                have HPB6 := hid (hk6 _ _ _ HPB.out (by decide) (by decide))
                clear hin6 hm6 hk6 HCL co cl c9 d0 d1
                rcases hcase with ⟨rfl, hj6⟩ | ⟨b, u, rfl, hbl, hbB, rfl, hpl, hlcor, hF⟩
                · have HJ6 := hid hj6
                  clear hj6
                  go_wp2_with fail
                  refine ⟨⟨i + 1, tk2, ⟨some ⟨ob, 0, none⟩, ops'.length, oc⟩, 0, nthV _, .inl ⟨rfl, em, bk, ks, ops', hlt, by omega, hkl, HOK.out, HIN6.out, HJ6.out, HM6.out, own_pop (by simpa only [List.map_append, List.map_cons, List.map_nil] using HOP6.out), by omega, fun oi h => HOA.out oi (List.mem_append_left _ h)⟩, lFrame_eq _ (by kernel_rfl)⟩, ?_⟩
                  simp [intOf]; omega
                · have HBL := hid hbl
                  have HF := hid hF
                  have HLC := hid hlcor
                  have x4 : w6.cell? ⟨b, 4, none⟩ = some (.bool false) := hbl.at_ 4 rfl
                  have x1 : w6.cell? ⟨b, 1, none⟩ = some (.string u) := hbl.at_ 1 rfl
                  have hbz := hbl.lt
                  obtain ⟨l6, vs6, hps6, _⟩ := id HIN6.out
                  have c6c : w6.cell? ⟨g, 6, none⟩ = some (.bool false) := hps6.c6
                  have f6 := hps6.free
                  have HPG := hid hps6
                  clear hbl hF hlcor hps6
                  go_wp2_with fail
                  refine (HLC.out _).mono ?_
                  rintro e w6b ⟨xc, rfl, hb6b⟩
                  have HPG2 := hid (HPG.out.below hb6b)
                  have f6b := HPG2.out.free
                  have c6d : w6b.cell? ⟨g, 6, none⟩ = some (.bool false) := HPG2.out.c6
                  have hin6b := HIN6.out.below hb6b
                  have hpb6b := HPB6.out.mod (S := fun _ => False) (Mod.below' hb6b) (fun x => x)
                  have hbl6b := HBL.out.mod (S := fun _ => False) (Mod.below' hb6b) (fun x => x)
                  have hm6b := HM6.out.trans (Mod.below' (S := fun _ => False) hb6b) (fun _ _ x => False.elim x)
                  have HIN7 := hid (hin6b.corner (fun k hk => (HOK.out k hk).fit) xc)
                  have HM7 := hid (hm6b.setCell (p := ⟨g, 6, none⟩) (.inl (.inl rfl)) (.bool xc))
                  have HPB7 := hid (hpb6b.far (p := ⟨g, 6, none⟩) (Blk.ne_ hpb6b HPG2.out (by decide)) (.bool xc))
                  have HBL7 := hid (hbl6b.far (p := ⟨g, 6, none⟩) (Blk.ne_ hbl6b HPG2.out (by decide)) (.bool xc))
                  clear hb6b hin6b hpb6b hbl6b hm6b
                  go_wp2_with fail
                  generalize World.setCell w6b ⟨g, 6, none⟩ _ = w7 at HIN7 HM7 HPB7 HBL7 ⊢
                  clear x4 x1 c6c c6d f6b HIN6 HM6 HPB6 HBL HPG HPG2 HOP6
                  have HE := hid (emit_anyF w.heap.size g (psAt r s xc bk) em i ks w7 hgB HM7.out.size HIN7.out (fun k hk => (HOK.out k hk).fit) hem (Nat.le_of_lt hlt) (by omega))
                  clear HIN7
                  go_wp2_with fail
                  refine HE.out.mono ?_
                  rintro e w8 ⟨rfl, hin8, hm8, hk8⟩
                  have HOK8 : Hid (∀ k ∈ ks ++ pieceK s em i, OkL k) := hid (okL_piece s em i HOK.out)
                  have hpb8 := hk8 _ _ _ HPB7.out (by decide) (by decide)
                  have hbl8 := hk8 _ _ _ HBL7.out (by decide) (by decide)
                  have hm8' := HM7.out.trans hm8 (fun _ _ h => h)
                  obtain ⟨⟨la8, ln8, lc8⟩, vs8, hps8, hrow8, hln8, hits8⟩ := hin8
                  dsimp only at hrow8 hln8
                  obtain ⟨m, hmk⟩ : ∃ m, (ks ++ pieceK s em i).length = m + 1 := ⟨(ks ++ pieceK s em i).length - 1, by have := hpl.1; omega⟩
                  have hm1 : 1 ≤ m := by have := hpl.1; omega
                  have hm2 : m ≤ 1000 := by have := hpl.2; omega
                  rw [hmk] at hln8
                  subst hln8
                  obtain ⟨lb8, cs8, hle8, hlb8, hB8, hnc8, hcs8, hcl8, hvl8⟩ := row_blk hrow8 (Nat.succ_pos m)
                  subst hle8
                  have hcap8 := row_cap hrow8 (Nat.succ_pos m)
                  have c9 : w8.cell? ⟨g, 9, none⟩ = some (.slice (some ⟨lb8, 0, none⟩) (m + 1) lc8) := hps8.c9
                  have hti : IsItems w8 w.heap.size vs8.tail (ks ++ pieceK s em i).tail := ⟨by rw [List.length_tail, List.length_tail, hits8.1], fun jj v k hv hk => by
                    rw [List.getElem?_tail] at hv hk
                    exact hits8.2 _ v k hv hk⟩
                  have HEO := hid (emph_open w.heap.size g lb8 1 m (lc8 - 1) vs8.tail (ks ++ pieceK s em i).tail w8 (fun jj v hv => by
                    rw [List.getElem?_tail] at hv
                    have hjj := (List.getElem?_eq_some_iff.1 hv).1
                    rw [hlb8.cell, hcl8 _ (by omega), Nat.add_comm 1 jj]
                    exact hv) (by rw [List.length_tail, hvl8]; rfl) hti hlb8.lt (fun k hk => (HOK8.out k (List.mem_of_mem_tail hk)).emk w8) (by omega))
                  clear HE hm8 hk8 hcl8 hcs8 hits8
                  go_wp2_with fail
                  refine HEO.out.mono ?_
                  rintro e w9 ⟨d, rfl, hd9, hb9⟩
                  have hz8 := hb9.size
                  have hgl8 := hps8.lt
                  have hbl9 := hbl8.mod (S := fun _ => False) (Mod.below' hb9) (fun x => x)
                  have hpb9 := hpb8.mod (S := fun _ => False) (Mod.below' hb9) (fun x => x)
                  have hps9 := hps8.below hb9
                  have hrow9 := own_mod hrow8 (Mod.below' (S := fun _ => False) hb9) (fun _ _ x => x)
                  have hit9 : IsItems w9 w.heap.size (vs8.tail.map emV) ((ks ++ pieceK s em i).tail.map emK) := emItems (hti.mod (S := fun _ => False) (Mod.below' hb9) (fun _ _ _ _ _ _ x => x))
                  have hm9 : Mod (fun k => k = g ∨ w.heap.size ≤ k) w w9 := hm8'.trans (Mod.below' (S := fun _ => False) hb9) (fun _ _ x => False.elim x)
                  have HFT : Hid (∀ k ∈ (ks ++ pieceK s em i).tail.map emK, k.Fit ∧ k.tb ≠ 144) := hid (fun k hk => by
                    obtain ⟨k1, hk1, rfl⟩ := List.mem_map.1 hk
                    have h1 := HOK8.out k1 (List.mem_of_mem_tail hk1)
                    rw [emK]
                    split
                    · exact ⟨⟨h1.fit.ps, h1.fit.row⟩, h1.1.2⟩
                    · exact ⟨h1.fit, h1.1.2⟩)
                  have hlg : g ≠ lb8 := Blk.ne_ hps9 ((show Blk w9 lb8 132 _ from hlb8.mod (S := fun _ => False) (Mod.below' hb9) (fun x => x))) (by decide)
                  have hlb9 := hlb8.mod (S := fun _ => False) (Mod.below' hb9) (fun x => x)
                  have hblb : b ≠ lb8 := Blk.ne_ hbl9 hlb9 (by decide)
                  have hpbl : pb ≠ lb8 := Blk.ne_ hpb9 hlb9 (by decide)
                  have hgb : g ≠ b := Blk.ne_ hps9 hbl9 (by decide)
                  have hpbb : pb ≠ b := Blk.ne_ hpb9 hbl9 (by decide)
                  have hpbg : pb ≠ g := Blk.ne_ hpb9 hps9 (by decide)
                  have hlbz := hlb8.lt
                  have hbl10 := hbl9.set_ 0 (.slice d.a m d.c)
                  have hpb10 := hpb9.far (p := ⟨b, 0, none⟩) hpbb (.slice d.a m d.c)
                  have hps10 := hps9.far (p := ⟨b, 0, none⟩) hgb (.slice d.a m d.c)
                  have hrow10 := own_far hrow9 (p := ⟨b, 0, none⟩) (own_ne hrow9 hbl9 (by decide)) (.slice d.a m d.c)
                  have hd10 := own_far hd9 (p := ⟨b, 0, none⟩) (own_ne hd9 hbl9 (by decide)) (.slice d.a m d.c)
                  have hit10 := hit9.mod (S := fun k => k = b) ((Mod.refl (fun k => k = b) w9).setCell (p := ⟨b, 0, none⟩) (.inl rfl) (.slice d.a m d.c)) (fun k hk bb cs hb _ e => by subst e; exact Blk.ne_ hb hbl9 (HFT.out k hk).2 rfl)
                  have hm10 := hm9.setCell (p := ⟨b, 0, none⟩) (.inl (.inr hbB)) (.slice d.a m d.c)
                  have fb9 := hbl9.free
                  have x0 : w9.cell? ⟨b, 0, none⟩ = some (.slice none 0 0) := hbl9.at_ 0 rfl
                  have hbl10' : Blk (w9.setCell ⟨b, 0, none⟩ (.slice d.a m d.c)) b 144 #[(Sl.mk d.a m d.c).v, .string u, .string ⟨#[]⟩, .int .u8 0, .bool false] := hbl10
                  clear hbl10
                  generalize hw10 : World.setCell w9 ⟨b, 0, none⟩ (.slice d.a m d.c) = w10 at hbl10' hpb10 hps10 hrow10 hd10 hit10 hm10
                  have c9a : w10.cell? ⟨g, 9, none⟩ = some (.slice (some ⟨lb8, 0, none⟩) (m + 1) lc8) := hps10.c9
                  have d0a : w10.cell? ⟨pb, 0, none⟩ = some (.string ⟨(opL false).toArray⟩) := hpb10.at_ 0 rfl
                  obtain ⟨lbx, csx, hlex, hlb10, _, _, _, hcjx, hvlx⟩ := row_blk hrow10 (Nat.succ_pos m)
                  obtain rfl : lb8 = lbx := by simpa using hlex
                  have fl10 := hlb10.free
                  obtain ⟨y, hy⟩ : ∃ y, w10.cell? ⟨lb8, 0, none⟩ = some y := ⟨vs8[0]'(by omega), by rw [hlb10.cell, hcjx 0 (Nat.succ_pos m)]; exact List.getElem?_eq_getElem _⟩
                  have hrow11 := own_head hrow10 (Nat.succ_pos m) (Value.iface 140 (.pointer (some ⟨b, 0, none⟩)))
                  have hps11 := hps10.far (p := ⟨lb8, 0, none⟩) hlg (Value.iface 140 (.pointer (some ⟨b, 0, none⟩)))
                  have hpb11 := hpb10.far (p := ⟨lb8, 0, none⟩) hpbl (Value.iface 140 (.pointer (some ⟨b, 0, none⟩)))
                  have hbl11 := hbl10'.far (p := ⟨lb8, 0, none⟩) hblb (Value.iface 140 (.pointer (some ⟨b, 0, none⟩)))
                  have hd11 := own_far hd10 (p := ⟨lb8, 0, none⟩) (fun e => by have h1 : w8.heap.size ≤ lb8 := ownBase hd10 e; omega) (Value.iface 140 (.pointer (some ⟨b, 0, none⟩)))
                  have hit11 := hit10.mod (S := fun k => k = lb8) ((Mod.refl (fun k => k = lb8) w10).setCell (p := ⟨lb8, 0, none⟩) (.inl rfl) (Value.iface 140 (.pointer (some ⟨b, 0, none⟩)))) (fun k hk bb cs hb _ e => by subst e; exact Blk.ne_ hb hlb10 (HFT.out k hk).1.row rfl)
                  have hm11 := hm10.setCell (p := ⟨lb8, 0, none⟩) (.inl (.inr hB8)) (Value.iface 140 (.pointer (some ⟨b, 0, none⟩)))
                  generalize hw11 : World.setCell w10 ⟨lb8, 0, none⟩ (Value.iface 140 (.pointer (some ⟨b, 0, none⟩))) = w11 at hrow11 hps11 hpb11 hbl11 hd11 hit11 hm11
                  have c9b : w11.cell? ⟨g, 9, none⟩ = some (.slice (some ⟨lb8, 0, none⟩) (m + 1) lc8) := hps11.c9
                  have f11 := hps11.free
                  have hps12 := hps11.set9 (some ⟨lb8, 0, none⟩) 1 lc8
                  have hrow12 := own_far hrow11 (p := ⟨g, 9, none⟩) (own_ne hrow11 hps11 (by decide)) (.slice (some ⟨lb8, 0, none⟩) 1 lc8)
                  have hpb12 := hpb11.far (p := ⟨g, 9, none⟩) hpbg (.slice (some ⟨lb8, 0, none⟩) 1 lc8)
                  have hbl12 := hbl11.far (p := ⟨g, 9, none⟩) (fun e => hgb e.symm) (.slice (some ⟨lb8, 0, none⟩) 1 lc8)
                  have hd12 := own_far hd11 (p := ⟨g, 9, none⟩) (own_ne hd11 hps11 (by decide)) (.slice (some ⟨lb8, 0, none⟩) 1 lc8)
                  have hit12 := hit11.mod (S := fun k => k = g) ((Mod.refl (fun k => k = g) w11).setCell (p := ⟨g, 9, none⟩) (.inl rfl) (.slice (some ⟨lb8, 0, none⟩) 1 lc8)) (fun k hk bb cs hb _ e => by subst e; exact Blk.ne_ hb hps11 (HFT.out k hk).1.ps rfl)
                  have hm12 := hm11.setCell (p := ⟨g, 9, none⟩) (.inl (.inl rfl)) (.slice (some ⟨lb8, 0, none⟩) 1 lc8)
                  generalize hw12 : World.setCell w11 ⟨g, 9, none⟩ (.slice (some ⟨lb8, 0, none⟩) 1 lc8) = w12 at hps12 hrow12 hpb12 hbl12 hd12 hit12 hm12
                  have HPS12 := hid hps12
                  have HROW12 := hid hrow12
                  have HPB12 := hid hpb12
                  have HBL12 := hid hbl12
                  have HD12 := hid hd12
                  have HIT12 := hid hit12
                  have HM12 := hid hm12
                  have HW12 := hid hw12
                  clear hps12 hrow12 hpb12 hbl12 hd12 hit12 hm12 hrow11 hps11 hpb11 hbl11 hd11 hit11 hm11 hbl10' hpb10 hps10 hrow10 hd10 hit10 hm10 hlb10 hlex hcjx hvlx hbl9 hpb9 hps9 hrow9 hd9 hit9 hm9 hbl8 hpb8 hps8 hrow8 hti hm8' hlb8 hlb9 HEO c9 hb9 HPB7 HBL7 HM7 hw12
                  subst hw11
                  subst hw10
                  go_wp2_with fail
                  rw [HW12.out]
                  clear x0 fb9 c9a d0a fl10 hy y c9b f11 HW12
                  refine (skip_ps g _ s.size w12 HPS12.out).mono ?_
                  rintro e w13 ⟨rfl, hw13⟩
                  have HPS13 := hid (show IsPS w13 g _ from by rw [hw13]; exact HPS12.out.set8 s.size)
                  have HROW13 := hid (show w13.ownsRow w.heap.size 132 1 (.slice (some ⟨lb8, 0, none⟩) 1 lc8) 1 [lkiV false b] from by rw [hw13]; exact own_far HROW12.out (p := ⟨g, 8, none⟩) (own_ne HROW12.out HPS12.out (by decide)) _)
                  have hpb13 : Blk w13 pb 139 #[lineV (opL false), .int .i64 j] := by rw [hw13]; exact HPB12.out.far (p := ⟨g, 8, none⟩) hpbg _
                  have HBL13 := hid (show Blk w13 b 144 #[(Sl.mk d.a m d.c).v, .string u, .string ⟨#[]⟩, .int .u8 0, .bool false] from by rw [hw13]; exact HBL12.out.far (p := ⟨g, 8, none⟩) (fun e => hgb e.symm) _)
                  have HD13 := hid (show w13.ownsRow w8.heap.size 132 1 (Sl.mk d.a m d.c).v m (vs8.tail.map emV) from by rw [hw13]; exact own_far HD12.out (p := ⟨g, 8, none⟩) (own_ne HD12.out HPS12.out (by decide)) _)
                  have HIT13 := hid (show IsItems w13 w.heap.size (vs8.tail.map emV) ((ks ++ pieceK s em i).tail.map emK) from by rw [hw13]; exact HIT12.out.mod (S := fun k => k = g) ((Mod.refl (fun k => k = g) w12).setCell (p := ⟨g, 8, none⟩) (.inl rfl) _) (fun k hk bb cs hb _ e => by subst e; exact Blk.ne_ hb HPS12.out (HFT.out k hk).1.ps rfl))
                  have HM13 := hid (show Mod (fun k => k = g ∨ w.heap.size ≤ k) w w13 from by rw [hw13]; exact HM12.out.setCell (p := ⟨g, 8, none⟩) (.inl (.inl rfl)) _)
                  have d0 : w13.cell? ⟨pb, 0, none⟩ = some (.string ⟨(opL false).toArray⟩) := hpb13.at_ 0 rfl
                  have d1 : w13.cell? ⟨pb, 1, none⟩ = some (.int .i64 j) := hpb13.at_ 1 rfl
                  clear hw13 HPS12 HROW12 HPB12 HBL12 HD12 HIT12 HM12 hpb13
                  go_wp2_with fail
                  refine ⟨⟨s.size, tk2, ⟨some ⟨ob, 0, none⟩, ops'.length, oc⟩, j, nthV _, .inr ⟨rfl, xc, bk, lb8, lc8, b, w8.heap.size, false, u, false, (ks ++ pieceK s em i).tail.map emK, ⟨d.a, m, d.c⟩, vs8.tail.map emV, HPS13.out, HROW13.out, ⟨HBL13.out, HD13.out⟩, hbB, hlbz, HIT13.out, (fun k hk => (HFT.out k hk).1), by rw [List.length_map, List.length_tail, hmk]; rfl, (by show 0 < m; omega), HF.out, HM13.out⟩, lFrame_eq _ (by kernel_rfl)⟩, ?_⟩
                  simp [intOf]; omega
          · have b93 : (bt s i == 93) = false := by simpa using z93
            have HJ2 := hid (HH.out.quiet i em tk2 bk ks ops HJ.out hem hlt hpf (.inl z93))
            clear h9 hpf
            go_wp2_with fail
            refine ⟨⟨i + 1, tk2, ⟨oa, on, oc⟩, 0, nthV _, .inl ⟨rfl, em, bk, ks, ops, hlt, by omega, hkl, HOK.out, HIN.out, HJ2.out, HM.out, HOP.out, hol, HOA.out⟩, lFrame_eq _ (by kernel_rfl)⟩, ?_⟩
            simp [intOf]; omega
        · dsimp only [lFrame]
          rw [h9]
          have b93 : (bt s i == 93) = false := by
            rw [beq_eq_false_iff_ne]
            intro e
            rw [e, show parF o g 93 = none from by simp [parF]] at hpf
            cases hpf
          have HC := hid (HH.out.call i em tk2 bk ks ops f rv HJ.out hem hlt hpf wx HIN.out HM.out)
          clear h9
          have hent := parF_enters hpf
          have hnn : ∀ W, (Go.binOp BinOp.neq 130 (Value.func (Fn.func f) rv #[]) Value.nilFunc).run Tryz.prog W = .ok (.bool true) W := fun W => by kernel_rfl
          go_wp2_with fail
          refine HC.out.mono ?_
          rintro e w6 ⟨bk6, hin6, hm6, hk6, hcase⟩
          have HIN6 := hid hin6
          have HM6 := hid (HM.out.trans hm6 (fun _ _ h => h))
          have HOP6 := hid (hk6.own HOP.out (by decide) (by decide))
          clear hin6 hm6 hk6 HC
          rcases hcase with ⟨x, st, en, rfl, hj6⟩ | ⟨v, k, st, en, rfl, hit, q0, q1, q2, q3, q4, q5, hcase⟩
          · have HJ6 := hid hj6
            clear hj6
            go_wp2_with fail
            refine ⟨⟨i + 1, tk2, ⟨oa, on, oc⟩, 0, nthV _, .inl ⟨rfl, em, bk6, ks, ops, hlt, by omega, hkl, HOK.out, HIN6.out, HJ6.out, HM6.out, HOP6.out, hol, HOA.out⟩, lFrame_eq _ (by kernel_rfl)⟩, ?_⟩
            simp [intOf]; omega
          · have hfit : k.Fit := by
              rcases hcase with ⟨h, _⟩ | ⟨im, j, h, _⟩
              · exact h.1.fit
              · rw [h]; exact openK_fit _ _
            have hokk : OkL k := by
              rcases hcase with ⟨h, _⟩ | ⟨im, j, h, _⟩
              · exact ⟨q0, .inl h⟩
              · exact ⟨q0, .inr ⟨im, j, h⟩⟩
            obtain ⟨ib, rfl, hib, hibB⟩ := hit
            have HIB := hid (show IsItem w6 w.heap.size (.iface k.T (.pointer (some ⟨ib, 0, none⟩))) k from ⟨ib, rfl, hib, hibB⟩)
            have hBw6 : w.heap.size ≤ w6.heap.size := HM6.out.size
            have HE := hid (emit_anyF w.heap.size g (psAt r s false bk6) em st ks w6 hgB hBw6 HIN6.out (fun k hk => (HOK.out k hk).fit) q1 q2 (by omega))
            clear hib
            have hpk := slot_piece s em st
            have hkl7 : (ks ++ pieceK s em st).length ≤ 2 * em + 1 := by rw [List.length_append]; omega
            have HOK7 : Hid (∀ k ∈ ks ++ pieceK s em st, OkL k) := hid (okL_piece s em st HOK.out)
            have HOK9 : Hid (∀ q ∈ ks ++ pieceK s em st ++ [k], OkL q) := hid (fun q hq => by
              rcases List.mem_append.1 hq with h | h
              · exact HOK7.out q h
              · simp only [List.mem_cons, List.not_mem_nil, or_false] at h
                subst h
                exact hokk)
            have HOA9 : Hid (∀ oi ∈ ops, ∃ img j, (ks ++ pieceK s em st ++ [k])[oi]? = some (openK (opL img) j)) := hid (fun oi h => by
              obtain ⟨im, j, e⟩ := HOA.out oi h
              have hl := (List.getElem?_eq_some_iff.1 e).1
              exact ⟨im, j, by rw [List.append_assoc, List.getElem?_append_left hl]; exact e⟩)
            rcases hcase with ⟨hks, hj6⟩ | ⟨im, j, rfl, hj6⟩
            · have HJ6 := hid hj6
              have ta := hks.1.open_ (some ⟨ib, 0, none⟩)
              clear hj6 hks
              go_wp2_with fail
              refine HE.out.mono ?_
              rintro e w7 ⟨rfl, hin7, hm7, hkt7⟩
              have HOP7 := hid (hkt7.own HOP6.out (by decide) (by decide))
              have HIT7 := hid (hkt7.item hfit HIB.out)
              have HM7 := hid (HM6.out.trans hm7 (fun _ _ h => h))
              obtain ⟨l7, vs7, hps7, hrow7, hln7, hits7⟩ := hin7
              have c9 := hps7.c9
              have f7 := hps7.free
              have HPS7 := hid hps7
              have HROW7 := hid hrow7
              have HITS7 := hid hits7
              have HLN7 := hid hln7
              have hn7 : l7.n ≤ 300000 := by rw [hln7]; omega
              clear hm7 hkt7 hps7 hrow7 hits7 hln7 HE HIN6 HIB
              go_wp2_with (at_builtin; refine wpList_append_lies _ rfl (.tmp 147) (.tmp 149) 88 (by rfl) w.heap.size 132 is0 _ 1 16 Tryz.underlying88 his0 hsz0 hsz1 hsz2 rfl (by decide) (.slice l7.a l7.n l7.c) l7.n vs7 (by rfl) (HROW7.out.alloc _) ⟨w7.heap.size, 0, none⟩ 1 1 [.iface k.T (.pointer (some ⟨ib, 0, none⟩))] (by rfl) rfl (World.news_of_block (heap_alloc_new _ _)) (by intro v hv; simp at hv; subst hv; rfl) (by omega) (by unfold maxLen; omega) (by omega) (by have := HM7.out.size; simp; omega) (w7.heap.size + 1) (by simp) ?_; intro g2 cap2 w8 hown8 hgr8 hat8 hlt8; have hp8 := Blk.grown (Blk.alloc HPS7.out (.cells #[.iface k.T (.pointer (some ⟨ib, 0, none⟩))] 132)) hgr8 (own_ne HROW7.out HPS7.out (by decide)); have q9 := IsPS.c9 hp8; have f8 := Blk.free hp8)
              have hpush := InS.pushF (r := psAt r s false bk6) (em := st) HPS7.out HROW7.out HLN7.out HITS7.out (fun q hq => (HOK7.out q hq).fit) hfit HIT7.out hown8 hgr8
              have HPU := hid hpush.1
              have HPM := hid (HM7.out.trans hpush.2 (S := fun k => k = g ∨ w.heap.size ≤ k) (fun q _ e => by
                rcases e with e | e
                · exact .inl e
                · exact .inr (ownBase HROW7.out e)))
              have HOP9 := hid (own_mod HOP7.out hpush.2 (fun q hq e => by
                rcases e with e | e
                · subst e; exact own_ne HOP7.out HPS7.out (by decide) hq.symm
                · exact ownApart HOP7.out HROW7.out (by decide) hq e.symm))
              clear hpush hown8 hgr8 hat8 hlt8 hp8 q9 f8 c9 f7
              generalize World.setCell w8 ⟨g, 9, none⟩ _ = w9 at HPU HPM HOP9 ⊢
              have HSK := hid (skipI_anyF w.heap.size g (psAt r s false bk6) st en (ks ++ pieceK s em st ++ [k]) w9 HPU.out (fun q hq => (HOK9.out q hq).fit))
              go_wp2_with fail
              refine HSK.out.mono ?_
              rintro e w10 ⟨rfl, hin10, hm10⟩
              have HOP10 := hid (own_mod HOP9.out hm10 (fun q hq e => by subst e; obtain ⟨_, _, hpsq, _⟩ := HPU.out; exact own_ne HOP9.out hpsq (by decide) hq.symm))
              have HI10 := hid hin10
              have HM10 := hid (HPM.out.trans hm10 (S := fun k => k = g ∨ w.heap.size ≤ k) (fun q _ e => .inl e))
              clear hin10 hm10
              go_wp2_with fail
              refine ⟨⟨en, tk2, ⟨oa, on, oc⟩, 0, nthV _, .inl ⟨rfl, en, bk6, ks ++ pieceK s em st ++ [k], ops, q5, Nat.le_refl _, by rw [List.length_append, List.length_cons, List.length_nil]; omega, HOK9.out, HI10.out, HJ6.out, HM10.out, HOP10.out, by rw [List.length_append, List.length_append]; omega, HOA9.out⟩, lFrame_eq _ (by kernel_rfl)⟩, ?_⟩
              simp [intOf]; omega
            · have HJ6 := hid hj6
              have ta2 : ∀ W, (Instr.typeAssert (.iface 134 (.pointer (some ⟨ib, 0, none⟩))) 132 134 true).run Tryz.prog W = .ok (.tuple #[.pointer (some ⟨ib, 0, none⟩), .bool true]) W := fun W => by kernel_rfl
              clear hj6
              go_wp2_with fail
              refine HE.out.mono ?_
              rintro e w7 ⟨rfl, hin7, hm7, hkt7⟩
              have HOP7 := hid (hkt7.own HOP6.out (by decide) (by decide))
              have HIT7 := hid (hkt7.item hfit HIB.out)
              have HM7 := hid (HM6.out.trans hm7 (fun _ _ h => h))
              obtain ⟨l7, vs7, hps7, hrow7, hln7, hits7⟩ := hin7
              have c9 := hps7.c9
              have f7 := hps7.free
              have HPS7 := hid hps7
              have HROW7 := hid hrow7
              have HITS7 := hid hits7
              have HLN7 := hid hln7
              have hn7 : l7.n ≤ 300000 := by rw [hln7]; omega
              clear hm7 hkt7 hps7 hrow7 hits7 hln7 HE HIN6 HIB
              have hon7 : on = ops.length := by have := HOP7.out.1; simp at this; omega
              subst hon7
              have hon8 : ops.length ≤ 300000 := by omega
              go_wp2_with (at_builtin; refine wpList_append_lies _ rfl (.tmp 135) (.tmp 141) 129 (by rfl) w.heap.size 3 it0 _ 1 8 Tryz.underlying129 hit0 htz0 htz1 htz2 rfl (by decide) (.slice oa ops.length oc) ops.length (ops.map fun (x : Nat) => Value.int .i64 x) (by rfl) (World.ownsRow.alloc HOP7.out _) ⟨w7.heap.size, 0, none⟩ 1 1 [.int .i64 l7.n] (by rfl) rfl (World.news_of_block (heap_alloc_new _ _)) (by intro v hv; simp at hv; subst hv; rfl) (by omega) (by unfold maxLen; omega) (by omega) (by have := HM7.out.size; simp; omega) (w7.heap.size + 1) (by simp) ?_; intro g1 cap1 w8a howna hgra hata hlta; have hpa := Blk.grown (Blk.alloc HPS7.out (.cells #[.int .i64 l7.n] 3)) hgra (own_ne HOP7.out HPS7.out (by decide)); have c9a := IsPS.c9 hpa; refine Stp.mk ?_)
              have hma : Mod (fun k => some k = (Value.slice oa ops.length oc).ownBlock) w7 w8a := Mod.grown ((Mod.refl _ w7).alloc _) hgra (fun k hk => .inl hk.symm)
              have hrowa : w8a.ownsRow w.heap.size 132 1 l7.v l7.n vs7 := own_mod HROW7.out hma (fun q hq e => ownApart HROW7.out HOP7.out (by decide) hq e.symm)
              have hitsa : IsItems w8a w.heap.size vs7 (ks ++ pieceK s em st) := HITS7.out.mod hma (fun k hk b cs hb _ e => own_ne HOP7.out hb (HOK7.out k hk).1.1.symm e)
              have hita : IsItem w8a w.heap.size (.iface (openK (opL im) j).T (.pointer (some ⟨ib, 0, none⟩))) (openK (opL im) j) := HIT7.out.mod hma (fun b cs hb _ e => own_ne HOP7.out hb (show (3 : Nat) ≠ 139 from by decide) e)
              have HM8 := hid (HM7.out.trans hma (S := fun k => k = g ∨ w.heap.size ≤ k) (fun q _ e => .inr (ownBase HOP7.out e)))
              have HOPA := hid (show w8a.ownsRow w.heap.size 3 1 (.slice (some ⟨g1, 0, none⟩) (ops.length + 1) cap1) (ops.length + 1) ((ops ++ [(ks ++ pieceK s em st).length]).map fun (x : Nat) => Value.int .i64 x) from by rw [List.map_append, ← HLN7.out]; exact howna)
              have HPSA := hid (show IsPS w8a g { psAt r s false bk6 with emitted := (st : Int), list := l7 } from hpa)
              have HROWA := hid hrowa
              have HITSA := hid hitsa
              have HITA := hid hita
              have fa := HPSA.out.free
              clear hpa howna hgra hata hlta hma hrowa hitsa hita c9 f7 HPS7 HROW7 HITS7 HIT7
              unfold Stp
              go_wp2_with (at_builtin; refine wpList_append_lies _ rfl (.tmp 147) (.tmp 149) 88 (by rfl) w.heap.size 132 is0 _ 1 16 Tryz.underlying88 his0 hsz0 hsz1 hsz2 rfl (by decide) (.slice l7.a l7.n l7.c) l7.n vs7 (by rfl) (HROWA.out.alloc _) ⟨w8a.heap.size, 0, none⟩ 1 1 [.iface (openK (opL im) j).T (.pointer (some ⟨ib, 0, none⟩))] (by rfl) rfl (World.news_of_block (heap_alloc_new _ _)) (by intro v hv; simp at hv; subst hv; rfl) (by omega) (by unfold maxLen; omega) (by omega) (by have := HM8.out.size; simp; omega) (w8a.heap.size + 1) (by simp) ?_; intro g2 cap2 w8 hown8 hgr8 hat8 hlt8; have hp8 := Blk.grown (Blk.alloc HPSA.out (.cells #[.iface (openK (opL im) j).T (.pointer (some ⟨ib, 0, none⟩))] 132)) hgr8 (own_ne HROWA.out HPSA.out (by decide)); have q9 := IsPS.c9 hp8; have f8 := Blk.free hp8)
              have hpush := InS.pushF (r := psAt r s false bk6) (em := st) HPSA.out HROWA.out HLN7.out HITSA.out (fun q hq => (HOK7.out q hq).fit) hfit HITA.out hown8 hgr8
              have HPU := hid hpush.1
              have HPM := hid (HM8.out.trans hpush.2 (S := fun k => k = g ∨ w.heap.size ≤ k) (fun q _ e => by
                rcases e with e | e
                · exact .inl e
                · exact .inr (ownBase HROWA.out e)))
              have HOP9 := hid (own_mod HOPA.out hpush.2 (fun q hq e => by
                rcases e with e | e
                · subst e; exact own_ne HOPA.out HPSA.out (by decide) hq.symm
                · exact ownApart HOPA.out HROWA.out (by decide) hq e.symm))
              clear hpush hown8 hgr8 hat8 hlt8 hp8 q9 f8 fa
              generalize World.setCell w8 ⟨g, 9, none⟩ _ = w9 at HPU HPM HOP9 ⊢
              have HSK := hid (skipI_anyF w.heap.size g (psAt r s false bk6) st en (ks ++ pieceK s em st ++ [openK (opL im) j]) w9 HPU.out (fun q hq => (HOK9.out q hq).fit))
              go_wp2_with fail
              refine HSK.out.mono ?_
              rintro e w10 ⟨rfl, hin10, hm10⟩
              have HOP10 := hid (own_mod HOP9.out hm10 (fun q hq e => by subst e; obtain ⟨_, _, hpsq, _⟩ := HPU.out; exact own_ne HOP9.out hpsq (by decide) hq.symm))
              have HI10 := hid hin10
              have HM10 := hid (HPM.out.trans hm10 (S := fun k => k = g ∨ w.heap.size ≤ k) (fun q _ e => .inl e))
              clear hin10 hm10
              go_wp2_with fail
              refine ⟨⟨en, tk2, ⟨some ⟨g1, 0, none⟩, ops.length + 1, cap1⟩, 0, nthV _, .inl ⟨rfl, en, bk6, ks ++ pieceK s em st ++ [openK (opL im) j], ops ++ [(ks ++ pieceK s em st).length], q5, Nat.le_refl _, by rw [List.length_append, List.length_cons, List.length_nil]; omega, HOK9.out, HI10.out, HJ6.out, HM10.out, HOP10.out, by simp only [List.length_append, List.length_cons, List.length_nil]; omega, fun oi h => by
                rcases List.mem_append.1 h with h | h
                · exact HOA9.out oi h
                · simp only [List.mem_cons, List.not_mem_nil, or_false] at h
                  exact ⟨im, j, by rw [h, List.getElem?_append_right (Nat.le_refl _), Nat.sub_self]; rfl⟩⟩, lFrame_eq _ (by kernel_rfl)⟩, ?_⟩
              simp [intOf]; omega
      · intro _ _ _ _

        have p1 : wr.cell? ⟨r.parser, 1, none⟩ = some (.bool o.del) := hpar1.at_ 1 rfl
        have p6 : wr.cell? ⟨r.parser, 6, none⟩ = some (.bool o.emoji) := hpar1.at_ 6 rfl
        have p7 : wr.cell? ⟨r.parser, 7, none⟩ = some (.bool o.dots) := hpar1.at_ 7 rfl
        have p8 : wr.cell? ⟨r.parser, 8, none⟩ = some (.bool o.dashes) := hpar1.at_ 8 rfl
        have p9 : wr.cell? ⟨r.parser, 9, none⟩ = some (.bool o.quotes) := hpar1.at_ 9 rfl
        clear hpar1 hps1
        by_cases z0 : bt s i = 92
        · have hpf : parF o g (bt s i) = some (65, #[]) := by simp [parF, z0]
          go_wp2_with fail
          refine Met.intro ?_
          go_step
          exact ⟨tk, nthV _, ⟨rfl, rfl, .inr ⟨_, _, hpf, rfl⟩⟩, lFrame_eq _ (by kernel_rfl)⟩
        have z1 := HH.out.tick i em tk bk ks ops HJ.out hlt
        by_cases z2 : bt s i = 60
        · have hpf : parF o g (bt s i) = some (68, #[]) := by simp [parF, z2]
          go_wp2_with fail
          refine Met.intro ?_
          go_step
          exact ⟨tk, nthV _, ⟨rfl, rfl, .inr ⟨_, _, hpf, rfl⟩⟩, lFrame_eq _ (by kernel_rfl)⟩
        by_cases z3 : bt s i = 91
        · have hpf : parF o g (bt s i) = some (69, #[]) := by simp [parF, z3]
          go_wp2_with fail
          refine Met.intro ?_
          go_step
          exact ⟨tk, nthV _, ⟨rfl, rfl, .inr ⟨_, _, hpf, rfl⟩⟩, lFrame_eq _ (by kernel_rfl)⟩
        by_cases z4 : bt s i = 33
        · have hpf : parF o g (bt s i) = some (70, #[]) := by simp [parF, z4]
          go_wp2_with fail
          refine Met.intro ?_
          go_step
          exact ⟨tk, nthV _, ⟨rfl, rfl, .inr ⟨_, _, hpf, rfl⟩⟩, lFrame_eq _ (by kernel_rfl)⟩
        by_cases z5 : bt s i = 95
        · have hpf : parF o g (bt s i) = some (71, #[]) := by simp [parF, z5]
          go_wp2_with fail
          refine Met.intro ?_
          go_step
          exact ⟨tk, nthV _, ⟨rfl, rfl, .inr ⟨_, _, hpf, rfl⟩⟩, lFrame_eq _ (by kernel_rfl)⟩
        by_cases z6 : bt s i = 42
        · have hpf : parF o g (bt s i) = some (71, #[]) := by simp [parF, z6]
          go_wp2_with fail
          refine Met.intro ?_
          go_step
          exact ⟨tk, nthV _, ⟨rfl, rfl, .inr ⟨_, _, hpf, rfl⟩⟩, lFrame_eq _ (by kernel_rfl)⟩
        by_cases z7 : bt s i = 46
        · cases hd : o.dots with
          | true =>
            have hpf : parF o g (bt s i) = some (72, #[]) := by simp [parF, z7, hd]
            rw [hd] at p7
            go_wp2_with fail
            refine Met.intro ?_
            go_step
            exact ⟨tk, nthV _, ⟨rfl, rfl, .inr ⟨_, _, hpf, rfl⟩⟩, lFrame_eq _ (by kernel_rfl)⟩
          | false =>
            have hpf : parF o g (bt s i) = none := by simp [parF, z7, hd]
            rw [hd] at p7
            go_wp2_with fail
            refine Met.intro ?_
            go_step
            exact ⟨tk, nthV _, ⟨rfl, rfl, .inl ⟨hpf, rfl⟩⟩, lFrame_eq _ (by kernel_rfl)⟩
        by_cases z8 : bt s i = 45
        · cases hd : o.dashes with
          | true =>
            have hpf : parF o g (bt s i) = some (73, #[]) := by simp [parF, z8, hd]
            rw [hd] at p8
            go_wp2_with fail
            refine Met.intro ?_
            go_step
            exact ⟨tk, nthV _, ⟨rfl, rfl, .inr ⟨_, _, hpf, rfl⟩⟩, lFrame_eq _ (by kernel_rfl)⟩
          | false =>
            have hpf : parF o g (bt s i) = none := by simp [parF, z8, hd]
            rw [hd] at p8
            go_wp2_with fail
            refine Met.intro ?_
            go_step
            exact ⟨tk, nthV _, ⟨rfl, rfl, .inl ⟨hpf, rfl⟩⟩, lFrame_eq _ (by kernel_rfl)⟩
        by_cases z9 : bt s i = 34
        · cases hd : o.quotes with
          | true =>
            have hpf : parF o g (bt s i) = some (71, #[]) := by simp [parF, z9, hd]
            rw [hd] at p9
            go_wp2_with fail
            refine Met.intro ?_
            go_step
            exact ⟨tk, nthV _, ⟨rfl, rfl, .inr ⟨_, _, hpf, rfl⟩⟩, lFrame_eq _ (by kernel_rfl)⟩
          | false =>
            have hpf : parF o g (bt s i) = none := by simp [parF, z9, hd]
            rw [hd] at p9
            go_wp2_with fail
            refine Met.intro ?_
            go_step
            exact ⟨tk, nthV _, ⟨rfl, rfl, .inl ⟨hpf, rfl⟩⟩, lFrame_eq _ (by kernel_rfl)⟩
        by_cases z10 : bt s i = 39
        · cases hd : o.quotes with
          | true =>
            have hpf : parF o g (bt s i) = some (71, #[]) := by simp [parF, z10, hd]
            rw [hd] at p9
            go_wp2_with fail
            refine Met.intro ?_
            go_step
            exact ⟨tk, nthV _, ⟨rfl, rfl, .inr ⟨_, _, hpf, rfl⟩⟩, lFrame_eq _ (by kernel_rfl)⟩
          | false =>
            have hpf : parF o g (bt s i) = none := by simp [parF, z10, hd]
            rw [hd] at p9
            go_wp2_with fail
            refine Met.intro ?_
            go_step
            exact ⟨tk, nthV _, ⟨rfl, rfl, .inl ⟨hpf, rfl⟩⟩, lFrame_eq _ (by kernel_rfl)⟩
        by_cases z11 : bt s i = 126
        · cases hd : o.del with
          | true =>
            have hpf : parF o g (bt s i) = some (71, #[]) := by simp [parF, z11, hd]
            rw [hd] at p1
            go_wp2_with fail
            refine Met.intro ?_
            go_step
            exact ⟨tk, nthV _, ⟨rfl, rfl, .inr ⟨_, _, hpf, rfl⟩⟩, lFrame_eq _ (by kernel_rfl)⟩
          | false =>
            have hpf : parF o g (bt s i) = none := by simp [parF, z11, hd]
            rw [hd] at p1
            go_wp2_with fail
            refine Met.intro ?_
            go_step
            exact ⟨tk, nthV _, ⟨rfl, rfl, .inl ⟨hpf, rfl⟩⟩, lFrame_eq _ (by kernel_rfl)⟩
        by_cases z12 : bt s i = 10
        · have hpf : parF o g (bt s i) = some (74, #[]) := by simp [parF, z12]
          go_wp2_with fail
          refine Met.intro ?_
          go_step
          exact ⟨tk, nthV _, ⟨rfl, rfl, .inr ⟨_, _, hpf, rfl⟩⟩, lFrame_eq _ (by kernel_rfl)⟩
        by_cases z13 : bt s i = 38
        · have hpf : parF o g (bt s i) = some (75, #[]) := by simp [parF, z13]
          go_wp2_with fail
          refine Met.intro ?_
          go_step
          exact ⟨tk, nthV _, ⟨rfl, rfl, .inr ⟨_, _, hpf, rfl⟩⟩, lFrame_eq _ (by kernel_rfl)⟩
        by_cases z14 : bt s i = 58
        · cases hd : o.emoji with
          | true =>
            have hpf : parF o g (bt s i) = some (76, #[]) := by simp [parF, z14, hd]
            rw [hd] at p6
            go_wp2_with fail
            refine Met.intro ?_
            go_step
            exact ⟨tk, nthV _, ⟨rfl, rfl, .inr ⟨_, _, hpf, rfl⟩⟩, lFrame_eq _ (by kernel_rfl)⟩
          | false =>
            have hpf : parF o g (bt s i) = none := by simp [parF, z14, hd]
            rw [hd] at p6
            go_wp2_with fail
            refine Met.intro ?_
            go_step
            exact ⟨tk, nthV _, ⟨rfl, rfl, .inl ⟨hpf, rfl⟩⟩, lFrame_eq _ (by kernel_rfl)⟩
        have b0 : (bt s i == 92) = false := by simpa using z0
        have b1 : (bt s i == 96) = false := by simpa using z1
        have b2 : (bt s i == 60) = false := by simpa using z2
        have b3 : (bt s i == 91) = false := by simpa using z3
        have b4 : (bt s i == 33) = false := by simpa using z4
        have b5 : (bt s i == 95) = false := by simpa using z5
        have b6 : (bt s i == 42) = false := by simpa using z6
        have b7 : (bt s i == 46) = false := by simpa using z7
        have b8 : (bt s i == 45) = false := by simpa using z8
        have b9 : (bt s i == 34) = false := by simpa using z9
        have b10 : (bt s i == 39) = false := by simpa using z10
        have b11 : (bt s i == 126) = false := by simpa using z11
        have b12 : (bt s i == 10) = false := by simpa using z12
        have b13 : (bt s i == 38) = false := by simpa using z13
        have b14 : (bt s i == 58) = false := by simpa using z14
        have hpf : parF o g (bt s i) = none := by simp [parF, z0, z1, z2, z3, z4, z5, z6, z7, z8, z9, z10, z11, z12, z13, z14]
        go_wp2_with fail
        refine Met.intro ?_
        go_step
        exact ⟨tk, nthV _, ⟨rfl, rfl, .inl ⟨hpf, rfl⟩⟩, lFrame_eq _ (by kernel_rfl)⟩
    · have HE := hid (emit_none g { psAt r s c bk with emitted := s.size, list := ⟨some ⟨lb, 0, none⟩, 1, cap⟩ } s.size wr hpb rfl)
      obtain ⟨hik, hIS⟩ := HFIN.out _ _ _ hF
      have HIS := hid hIS
      have hbz : wr.heap.size ≥ w.heap.size := hm.size
      have HITS2 : Hid (IsItems wr w.heap.size [lkiV img b] [lnkK img d u lc]) := hid ((IsItems.nil wr w.heap.size).snoc (v := lkiV img b) (k := lnkK img d u lc) ⟨b, rfl, hlk.1, hbB⟩)
      have HSU2 : Hid (∀ k ∈ [lnkK img d u lc], k.Sure) := hid (fun k hk => by
        simp only [List.mem_cons, List.not_mem_nil, or_false] at hk
        subst hk
        exact lnkK_sure img d u lc)
      have HMG := hid (show mergeA [] [lnkK img d u lc] = [lnkK img d u lc] from by rw [mergeA_other _ _ _ (lnkK_plainOf img d u lc)]; rfl)
      have HROW2 : Hid (wr.ownsRow w.heap.size 132 1 (Sl.mk (some ⟨lb, 0, none⟩) 1 cap).v 1 [lkiV img b]) := hid hrb
      have hlb0 := ownBase (k := lb) hrb rfl
      have c9 := hpb.c9
      have f2 := hpb.free
      have HPS2 := hid hpb
      have HDR := hid hlk.2
      have HIY := hid hits
      have HFT := hid hft
      have HM := hid hm
      have HKK : Hid (∀ (W : World) (b' : Nat), W.ownsRow base 132 1 d.v d.n ys → IsItems W w.heap.size ys iks → Blk W b' (lnkK img d u lc).tb (lnkK img d u lc).cs.toArray → w.heap.size ≤ b' → ItemS w.heap.size W (.iface (lnkK img d u lc).T (.pointer (some ⟨b', 0, none⟩))) out) := hid (fun W b' h1 h2 h3 h4 => HIS.out W b' base d lc ys ⟨h3, h1⟩ h4 (by omega) h2 hdn hd0)
      clear hIS hlk hrb hpb hits hF hm hft
      have HPO := hid (lnkK_plainOf img d u lc)
      generalize lnkK img d u lc = kk at HITS2 HSU2 HMG HKK HPO
      go_wp2_with fail
      refine HE.out.mono ?_
      rintro e w2 ⟨rfl, rfl⟩
      go_wp2_with fail
      go_region_law (first
        | (go_simp; go_at_call 81; refine (emph_flat w.heap.size g ⟨some ⟨lb, 0, none⟩, 1, cap⟩ [lkiV img b] [kk] (World.drew wr) HM.out.size (World.ownsRow.drewN HROW2.out 1) HITS2.out (fun k hk => (HSU2.out k hk).1) (by show 1 ≤ 1000000; omega) (by show 0 < 1; omega)).mono ?_; rintro e w3 ⟨rfl, hb3⟩; have q9 := IsPS.c9 (IsPS.below (w := World.drew wr) HPS2.out hb3); have f3 := IsPS.free (IsPS.below (w := World.drew wr) HPS2.out hb3)))
      all_goals
        have hr3 : w3.ownsRow w.heap.size 132 1 (Sl.mk (some ⟨lb, 0, none⟩) 1 cap).v 1 [lkiV img b] := own_mod (w := World.drew wr) HROW2.out (Mod.below' (S := fun _ => False) hb3) (fun _ _ x => x)
        have hd3 : w3.ownsRow base 132 1 d.v d.n ys := own_mod (w := World.drew wr) HDR.out (Mod.below' (S := fun _ => False) hb3) (fun _ _ x => x)
        have hy3 : IsItems w3 w.heap.size ys iks := IsItems.mod (w := World.drew wr) HIY.out (Mod.below' (S := fun _ => False) hb3) (fun _ _ _ _ _ _ x => x)
        have hi3 : IsItems w3 w.heap.size [lkiV img b] [kk] := IsItems.mod (w := World.drew wr) HITS2.out (Mod.below' (S := fun _ => False) hb3) (fun _ _ _ _ _ _ x => x)
        have hp3 : IsPS w3 g _ := IsPS.below (w := World.drew wr) HPS2.out hb3
        have hm3 : Mod (fun k => k = g ∨ w.heap.size ≤ k) w w3 := (HM.out.drew : Mod _ w (World.drew wr)).trans (Mod.below' (a := World.drew wr) (S := fun _ => False) hb3) (fun _ _ x => False.elim x)
        have hp4 := hid (IsPS.set9 hp3 (some ⟨lb, 0, none⟩) 1 cap)
        have hmg : Mod (fun k => k = g) w3 (w3.setCell ⟨g, 9, none⟩ (.slice (some ⟨lb, 0, none⟩) 1 cap)) := (Mod.refl (fun k => k = g) w3).setCell (p := ⟨g, 9, none⟩) (.inl rfl) _
        have hr4 := hid (own_far hr3 (p := ⟨g, 9, none⟩) (own_ne hr3 hp3 (by decide)) (.slice (some ⟨lb, 0, none⟩) 1 cap))
        have hd4 := hid (own_far hd3 (p := ⟨g, 9, none⟩) (own_ne hd3 hp3 (by decide)) (.slice (some ⟨lb, 0, none⟩) 1 cap))
        have hy4 := hid (hy3.mod hmg (fun k hk b cs hb _ e => by subst e; exact Blk.ne_ hb hp3 (HFT.out k hk).ps rfl))
        have hi4 := hid (hi3.mod hmg (fun k hk b cs hb _ e => by subst e; exact Blk.ne_ hb hp3 (HSU2.out k hk).1.ps rfl))
        have hm4 := hid (hm3.setCell (p := ⟨g, 9, none⟩) (.inl (.inl rfl)) (.slice (some ⟨lb, 0, none⟩) 1 cap))
        clear hr3 hi3 hp3 hm3 q9 f3 hb3 HROW2 HITS2 HPS2 HM c9 f2 hd3 hy3 hmg HDR HIY
        generalize World.setCell w3 ⟨g, 9, none⟩ _ = w4 at hp4 hr4 hi4 hm4 hd4 hy4 ⊢
        have c9 := hp4.out.c9
        have f4 := hp4.out.free
        have HMP := hid (mergePlain_any w.heap.size g ⟨some ⟨lb, 0, none⟩, 1, cap⟩ [lkiV img b] [kk] w4 hm4.out.size hr4.out hi4.out HSU2.out (by show 1 ≤ 1000000; omega) (by show 0 < 1; omega) (by rw [List.filterMap_cons, HPO.out]; exact Nat.zero_le _))
        go_wp2_with fail
        refine HMP.out.mono ?_
        rintro e w5 ⟨l5, vs5, rfl, hr5, hn5, hi5, hm5⟩
        rw [HMG.out] at hn5 hi5
        obtain ⟨la5, ln5, lc5⟩ := l5
        obtain rfl : ln5 = 1 := hn5
        have hS : ∀ k, some k = (Sl.mk (some ⟨lb, 0, none⟩) 1 cap).v.ownBlock → k = lb := fun k e => Option.some.inj e
        have hp5 : IsPS w5 g _ := hp4.out.mod hm5 (fun e => own_ne hr4.out hp4.out (by decide) e)
        have hd5 : w5.ownsRow base 132 1 d.v d.n ys := own_mod hd4.out hm5 (fun k hk e => by have h1 := ownBase hd4.out hk.symm; have h2 := hS k e; omega)
        have hy5 : IsItems w5 w.heap.size ys iks := hy4.out.mod hm5 (fun k hk b cs hb _ e => own_ne hr4.out hb (HFT.out k hk).row.symm e)
        have hm6 : Mod (fun k => k = g ∨ w.heap.size ≤ k) w w5 := hm4.out.trans hm5 (fun k _ e => .inr (ownBase hr4.out e))
        have hmg : Mod (fun k => k = g) w5 (w5.setCell ⟨g, 9, none⟩ (.slice la5 1 lc5)) := (Mod.refl (fun k => k = g) w5).setCell (p := ⟨g, 9, none⟩) (.inl rfl) _
        have hp7 := hid (IsPS.set9 hp5 la5 1 lc5)
        have hr7 := hid (own_far hr5 (p := ⟨g, 9, none⟩) (own_ne hr5 hp5 (by decide)) (.slice la5 1 lc5))
        have hd7 := hid (own_far hd5 (p := ⟨g, 9, none⟩) (own_ne hd5 hp5 (by decide)) (.slice la5 1 lc5))
        have hy7 := hid (hy5.mod hmg (fun k hk b cs hb _ e => by subst e; exact Blk.ne_ hb hp5 (HFT.out k hk).ps rfl))
        have hi7 := hid (hi5.mod hmg (fun k hk b cs hb _ e => by subst e; exact Blk.ne_ hb hp5 (HSU2.out k hk).1.ps rfl))
        have hm7 := hid (hm6.setCell (p := ⟨g, 9, none⟩) (.inl (.inl rfl)) (.slice la5 1 lc5))
        have q9 := hp5.c9
        have f5 := hp5.free
        clear c9 f4 hr5 hi5 hm5 hp5 hm6 hp4 hr4 hi4 hm4 HMP hd4 hy4 hd5 hy5 hmg
        go_wp2_with fail
        generalize World.setCell w5 ⟨g, 9, none⟩ _ = w7 at hp7 hr7 hi7 hm7 hd7 hy7 ⊢
        clear q9 f5
        have q9 := hp7.out.c9
        have f7 := hp7.out.free
        have hpar7 : Blk w7 r.parser 77 o.parser := HPAR.out.mod hm7.out (by omega)
        have HAT : Hid (Calls Tryz.prog 83 #[.pointer (some ⟨g, 0, none⟩), .slice la5 1 lc5] w7 fun e w' => e = .returned (.slice la5 1 lc5) ∧ w' = w7) := hid ((autoText_no g { psAt r s c bk with emitted := s.size, list := ⟨la5, 1, lc5⟩ } o ⟨la5, 1, lc5⟩ w7 hp7.out hpar7 ha).mono (fun e w' h => ⟨h.1, h.2.symm⟩))
        clear hpar7
        go_wp2_with fail
        refine HAT.out.mono ?_
        rintro e w8 ⟨rfl, hw8⟩
        subst w8
        have hmg : Mod (fun k => k = g) w7 (w7.setCell ⟨g, 9, none⟩ (.slice la5 1 lc5)) := (Mod.refl (fun k => k = g) w7).setCell (p := ⟨g, 9, none⟩) (.inl rfl) _
        have hp9 := hid (IsPS.set9 hp7.out la5 1 lc5)
        have hr9 := hid (own_far hr7.out (p := ⟨g, 9, none⟩) (own_ne hr7.out hp7.out (by decide)) (.slice la5 1 lc5))
        have hd9 := hid (own_far hd7.out (p := ⟨g, 9, none⟩) (own_ne hd7.out hp7.out (by decide)) (.slice la5 1 lc5))
        have hy9 := hid (hy7.out.mod hmg (fun k hk b cs hb _ e => by subst e; exact Blk.ne_ hb hp7.out (HFT.out k hk).ps rfl))
        have hi9 := hid (hi7.out.mod hmg (fun k hk b cs hb _ e => by subst e; exact Blk.ne_ hb hp7.out (HSU2.out k hk).1.ps rfl))
        have hm9 := hid (hm7.out.setCell (p := ⟨g, 9, none⟩) (.inl (.inl rfl)) (.slice la5 1 lc5))
        clear hp7 hr7 hi7 hm7 HAT hd7 hy7 hmg
        go_wp2_with fail
        generalize World.setCell w7 ⟨g, 9, none⟩ _ = w9 at hp9 hr9 hi9 hm9 hd9 hy9 ⊢
        clear q9 f7
        have q9 := hp9.out.c9
        go_wp2_with fail
        go_ret
        refine ⟨⟨la5, 1, lc5⟩, vs5, [out], c, _, s, bk, rfl, hp9.out, hr9.out, (by show 1 ≤ 1000000; omega), ⟨?_, fun i v x hv hx => ?_⟩, by simp, hm9.out.mono (fun k hk e => by
          rcases e with e | e
          · exact e
          · omega)⟩
        · have := hi9.out.1
          simpa using this.symm
        · have hv0 : i = 0 := by have := (List.getElem?_eq_some_iff.1 hx).1; simp at this; exact this
          subst hv0
          simp only [List.getElem?_cons_zero, Option.some.injEq] at hx
          subst hx
          obtain ⟨b', rfl, hb', hB'⟩ := hi9.out.2 0 v kk hv rfl
          exact HKK.out _ b' hd9.out hy9.out hb' hB'
end Go.Proofs.YtmmijmhdbpldpaaGreatDoor
