/- Texts of this proof, joined: A parse, whatever its lines do, Options and the parser that they make, Blank lines alone. -/
import Derived.Test.YtpojmloeadodhaaGreatDoorCCp01
import Derived.Test.YtpojmloeadodhaaGreatDoorProg
import Derived.Carry
import Derived.ChangeSame
import Derived.Deep.OwnShut
import Derived.Deep.DeepHandedRow
import Derived.Deep.DeepWitnessRowRef
import Derived.Lib.LaidIn
import Derived.ProofKit
import Derived.OpenShut
import Derived.SizedLaws
import Derived.ChangeSlices
import Derived.OwnWalk
import Derived.Lib.Bytealg
import Derived.Laws.IdiomStrings
import Derived.Deep.AppendLies
/- A parse, whatever its lines do. -/

namespace Go.Proofs.YtpojmloeadodhaaGreatDoor
open Go.RowKit
/-- A parseState as a parse begins. -/
def ps0 (pb : Nat) : PSr := ⟨pb, none, none, 0, Sl.nil, -1, false, ⟨#[]⟩, 0, Sl.nil, Sl.nil, Sl.nil, List.replicate 80 (.int .i64 0) ++ [.bool false]⟩
theorem zero_ps (pb : Nat) : (Tryz.zeroCells77.setIfInBounds 0 (.pointer (some ⟨pb, 0, none⟩))).setIfInBounds 5 (.int .i64 (-1)) = (ps0 pb).cells.toArray := by kernel_rfl
structure ParseH (pb g : Nat) (ta : Option Addr) (m : Nat) (Inv : List UInt8 → Nat → World → Prop) (Fin : Nat → World → Prop) (L : Nat) : Prop where
  line : ∀ l n w, Inv l n w → l ≠ [] → l.length ≤ L → (∃ r, IsPS w g r ∧ r.lineno = n) ∧ n + l.length ≤ 1000000 ∧
    Calls Tryz.prog 39 #[.pointer (some ⟨g, 0, none⟩), .agg #[.int .i64 0, .int .i64 0, .int .i64 0, .string ⟨(nextLine l).1.toArray⟩, .int .u8 (nextLine l).2.1]] (w.setCell ⟨g, 3, none⟩ (.int .i64 ((n : Int) + 1)))
      (fun e w' => e = .returned (.tuple #[]) ∧ Inv (nextLine l).2.2 (n + 1) w')
  drew : ∀ l n w k, Inv l n w → Inv l n (w.drewN k)
  trim : ∀ n w, Inv [] n w → Calls Tryz.prog 40 #[.pointer (some ⟨g, 0, none⟩), .int .i64 0] w (fun e w' => e = .returned (.tuple #[]) ∧ Fin 0 w')
  at_ : ∀ k w, Fin k w → m ≤ 1000000 ∧ ∃ r c, IsPS w g r ∧ r.texts = ⟨ta, m, c⟩ ∧ w.cell? ⟨pb, 2, none⟩ = some (.bool false)
  text : ∀ k w, Fin k w → k < m → ∃ ab ao tb raw, ta = some ⟨ab, ao, none⟩ ∧ w.cell? ⟨ab, ao + k, none⟩ = some (.pointer (some ⟨tb, 0, none⟩)) ∧ w.cell? ⟨tb, 3, none⟩ = some (.string raw) ∧
    Calls Tryz.prog 41 #[.pointer (some ⟨g, 0, none⟩), .string raw] w (fun e w' => ∃ a n c, e = .returned (.slice a n c) ∧ (∃ v, w'.cell? ⟨tb, 2, none⟩ = some v) ∧ w'.frozen? ⟨tb, 2, none⟩ = false ∧ Fin (k + 1) (w'.setCell ⟨tb, 2, none⟩ (.slice a n c)))

def ParseP (g m : Nat) (Fin : Nat → World → Prop) (e : Ending) (w' : World) : Prop := ∃ r k, e = .returned (.tuple #[.pointer r.root, .bool r.corner]) ∧ IsPS w' g r ∧ ∃ w0, Fin m w0 ∧ w' = w0.drewN k

def strLen : Value → Nat | .string s => s.size | _ => 0
def LoopR (Inv : List UInt8 → Nat → World → Prop) (L : Nat) (t : Value) (wr : World) : Prop := ∃ l n, t = .string ⟨l.toArray⟩ ∧ l.length ≤ L ∧ Inv l n wr
def TextR (Fin : Nat → World → Prop) (m : Nat) (i : Value) (wr : World) : Prop := ∃ k : Nat, k ≤ m ∧ i = .int .i64 k ∧ Fin k wr
def CutR (l : List UInt8) (wr : World) (t ln nl : Value) (wx : World) : Prop := t = .string ⟨(nextLine l).2.2.toArray⟩ ∧ ln = .string ⟨(nextLine l).1.toArray⟩ ∧ nl = .int .u8 (nextLine l).2.1 ∧ ∃ k, wx = wr.drewN k
set_option maxRecDepth 20000 in
set_option maxHeartbeats 4000000 in
theorem parse_gen (pb : Nat) (l0 : List UInt8) (w : World) (ta : Option Addr) (m : Nat) (Inv : List UInt8 → Nat → World → Prop) (Fin : Nat → World → Prop) (hl : l0.length ≤ 1000000)
    (hno : idxB 0 l0 = -1)
    (H : ParseH pb w.heap.size ta m Inv Fin l0.length)
    (h0 : ∀ w' bn, IsPS w' w.heap.size (ps0 pb) → Below w.heap.size w w' →
      Calls Tryz.prog 37 #[.pointer (some ⟨w.heap.size, 0, none⟩), .iface 81 (.pointer (some ⟨bn, 0, none⟩))] w' (fun e w1 => e = .returned (.tuple #[]) ∧ Inv l0 0 w1)) :
    Calls Tryz.prog 33 #[.pointer (some ⟨pb, 0, none⟩), .string ⟨l0.toArray⟩] w (ParseP w.heap.size m Fin) := by
  have HH := hid H
  have H0 := hid h0
  clear H h0
  have hno' : (0 ≤ idxB 0 l0) = False := by rw [hno]; simp
  go_enter Tryz.func33, Tryz.ntmps33
  go_wp2_with (first | (go_at_call 35; refine (zzContains1 ⟨l0.toArray⟩ 0 _ (bsz (by omega))).mono ?_; rintro e w' ⟨rfl, rfl⟩))
  go_wp2_with fail
  refine (H0.out _ (w.heap.size + 1) ?_ ?_).mono ?_
  · rw [zero_ps]; exact Blk.alloc (Blk.new _ _ _) _
  · exact ((Below.refl _ _).alloc (Nat.le_refl _) _).alloc (by simp) _
  rintro e w1 ⟨rfl, hinv⟩
  have HI := hid hinv
  clear hinv
  go_wp2_with fail
  go_loopw [1] (fun t wr => LoopR Inv l0.length t wr) (fun t _ => strLen t)
  case atStart => exact ⟨l0, 0, rfl, Nat.le_refl _, HI.out⟩
  case round =>
    obtain ⟨l, n, rfl, hll, hinv⟩ := hrel
    have HV := hid hinv
    clear hinv
    by_cases hnil : l = []
    · subst hnil
      go_wp2_with (go_at_call 40; refine (HH.out.trim n wr HV.out).mono ?_; rintro e w2 ⟨rfl, hfin⟩; have HF := hid hfin; clear hfin; obtain ⟨hm, r, c, hps, htx, hpar⟩ := HH.out.at_ 0 w2 HF.out; have c11 := hps.c11; rw [htx] at c11; have HTX := hid htx; clear htx)
      go_loopw [83] (fun i wr => TextR Fin m i wr) (fun i _ => m - (intOf i).toNat)
      case atStart => exact ⟨0, Nat.zero_le _, rfl, HF.out⟩
      case round =>
        clear c11 hpar hps
        obtain ⟨k, hk, rfl, hfin⟩ := hrel
        obtain ⟨_, r1, c1, hps1, htx1, hpar1⟩ := HH.out.at_ k wr hfin
        have HF1 := hid hfin
        have HT1 := hid htx1
        clear hfin htx1
        by_cases hkm : k < m
        · obtain ⟨ab, ao, tb, raw, hta, ca, cb, hc⟩ := HH.out.text k wr HF1.out hkm
          subst hta
          have HC := hid hc
          clear hc
          go_wp2_with (go_at_call 41; refine HC.out.mono ?_; rintro e w3 ⟨a3, n3, c3, rfl, ⟨v3, cv3⟩, fv3, hfin3⟩; have HF3 := hid hfin3; clear hfin3)
          go_roundw
          case rel => exact ⟨k + 1, by omega, by go_num, HF3.out⟩
          case measure => simp [intOf]; omega
        · obtain rfl : k = m := by omega
          have c1 := hps1.c1
          have c6 := hps1.c6
          have c0 := hps1.c0
          have HP1 := hid hps1
          clear hps1
          go_wp2
          go_quiet (fail)
          go_wp2
          go_ret2
          exact ⟨r1, _, rfl, HP1.out.drewN _, _, HF1.out, rfl⟩
    · have hne : l.isEmpty = false := by cases l with | nil => exact absurd rfl hnil | cons a b => rfl
      have HNIL := hid hnil
      clear hnil
      go_upto_block 2 with (first | (go_at_call 38; refine (zzIndex1 ⟨l.toArray⟩ _ _ (bsz (by omega))).mono ?_; rintro e w' ⟨rfl, rfl⟩))
      have bi := idxB_lt l 10
      have bj := idxB_lt l 13
      have NL := hid (show nextLine l = _ from rfl)
      go_cut [1, 7, 10] (fun t ln nl wx => CutR l wr t ln nl wx)
      case first =>
        by_cases h1 : 0 ≤ idxB 13 l
        · by_cases h2 : idxB 10 l < 0
          · have HN := hid (show nextLine l = (l.take (idxB 13 l).toNat, 13, l.drop ((idxB 13 l).toNat + 1)) by unfold nextLine; rw [if_pos ⟨h1, .inl h2⟩, if_neg (by omega)])
            have h3 : ¬ idxB 10 l = idxB 13 l + 1 := by omega
            go_wp2
            go_meet
            case rel => exact ⟨by rw [HN.out, show (idxB 13 l + 1).toNat = (idxB 13 l).toNat + 1 from by omega, ex_from], by rw [HN.out, ex_to], by rw [HN.out]; rfl, 0, rfl⟩
          · by_cases h3 : idxB 13 l < idxB 10 l
            · by_cases h4 : idxB 10 l = idxB 13 l + 1
              · have HN := hid (show nextLine l = (l.take (idxB 13 l).toNat, 23, l.drop ((idxB 13 l).toNat + 2)) by unfold nextLine; rw [if_pos ⟨h1, .inr h3⟩, if_pos h4])
                have H4 := hid h4
                have h5 : (idxB 10 l == idxB 13 l + 1) = true := by simpa using h4
                clear h4
                have h6 : idxB 13 l + 2 ≤ l.length := by have := H4.out; omega
                go_wp2
                go_meet
                case rel => exact ⟨by rw [HN.out, show (idxB 13 l + 2).toNat = (idxB 13 l).toNat + 2 from by omega, ex_from], by rw [HN.out, ex_to], by rw [HN.out]; rfl, 0, rfl⟩
              · have HN := hid (show nextLine l = (l.take (idxB 13 l).toNat, 13, l.drop ((idxB 13 l).toNat + 1)) by unfold nextLine; rw [if_pos ⟨h1, .inr h3⟩, if_neg h4])
                go_wp2
                go_meet
                case rel => exact ⟨by rw [HN.out, show (idxB 13 l + 1).toNat = (idxB 13 l).toNat + 1 from by omega, ex_from], by rw [HN.out, ex_to], by rw [HN.out]; rfl, 0, rfl⟩
            · have HN := hid (show nextLine l = (l.take (idxB 10 l).toNat, 10, l.drop ((idxB 10 l).toNat + 1)) by unfold nextLine; rw [if_neg (by omega), if_pos (by omega)])
              go_wp2
              go_quiet (fail)
              go_wp2
              go_meet
              case rel => exact ⟨by rw [HN.out, show (idxB 10 l + 1).toNat = (idxB 10 l).toNat + 1 from by omega, ex_from], by rw [HN.out, ex_to], by rw [HN.out]; rfl, _, rfl⟩
        · by_cases h2 : 0 ≤ idxB 10 l
          · have HN := hid (show nextLine l = (l.take (idxB 10 l).toNat, 10, l.drop ((idxB 10 l).toNat + 1)) by unfold nextLine; rw [if_neg (by omega), if_pos h2])
            go_wp2
            go_quiet (fail)
            go_wp2
            go_meet
            case rel => exact ⟨by rw [HN.out, show (idxB 10 l + 1).toNat = (idxB 10 l).toNat + 1 from by omega, ex_from], by rw [HN.out, ex_to], by rw [HN.out]; rfl, _, rfl⟩
          · have HN := hid (show nextLine l = (l, 0, []) by unfold nextLine; rw [if_neg (by omega), if_neg h2])
            go_wp2
            go_meet
            case rel => exact ⟨by rw [HN.out], by rw [HN.out], by rw [HN.out]; rfl, 0, rfl⟩
      case rest =>
        obtain ⟨rfl, rfl, rfl, k, rfl⟩ := hcut
        obtain ⟨⟨r, hps, hln⟩, hb, hc⟩ := HH.out.line l n _ (HH.out.drew l n wr k HV.out) HNIL.out (by omega)
        have c3 := hps.c3
        rw [hln] at c3
        have f1 := hps.free
        have HC := hid hc
        have NR := nextLine_rest l HNIL.out
        clear hc hln
        go_wp2_with (go_at_call 39; refine HC.out.mono ?_; rintro e w2 ⟨rfl, hinv2⟩; have HI2 := hid hinv2; clear hinv2)
        go_roundw
        case rel => exact ⟨_, n + 1, rfl, by omega, HI2.out⟩
        case measure => show (nextLine l).2.2.toArray.size < l.toArray.size; simpa using NR

end Go.Proofs.YtpojmloeadodhaaGreatDoor
/- Options and the parser that they make. -/


namespace Go.Proofs.YtpojmloeadodhaaGreatDoor
open Go.RowKit
/-- Options, as the program's structure holds them. -/
structure Opt where
  del : Bool
  tasks : Bool
  auto_ : Bool
  autoHTTP : Bool
  tables : Bool
  dots : Bool
  dashes : Bool
  quotes : Bool
  headID : Bool
  emoji : Bool
def Opt.v (o : Opt) : Value := .agg #[.bool o.del, .bool o.tasks, .bool o.auto_, .bool o.autoHTTP, .bool o.tables, .bool o.dots, .bool o.dashes, .bool o.quotes, .bool o.headID, .bool o.emoji]
/-- The cells of a Parser with these options. -/
def Opt.parser (o : Opt) : Array Value := #[.bool o.headID, .bool o.del, .bool o.tasks, .bool o.auto_, .bool o.autoHTTP, .bool o.tables, .bool o.emoji, .bool o.dots, .bool o.dashes, .bool o.quotes]
def plainO : Opt := ⟨false, false, false, false, false, false, false, false, false, false⟩

set_option maxRecDepth 20000 in
set_option maxHeartbeats 800000 in
theorem parser_any (o : Opt) (w : World) : Calls Tryz.prog 28 #[o.v] w fun e w' => ∃ g, e = .returned (.pointer (some ⟨g, 0, none⟩)) ∧ w.heap.size ≤ g ∧ Blk w' g 64 o.parser ∧ Below w.heap.size w w' := by
  obtain ⟨o0, o1, o2, o3, o4, o5, o6, o7, o8, o9⟩ := o
  unfold Opt.v
  dsimp only
  go_enter Tryz.func28, Tryz.ntmps28
  go_wp2
  go_ret
  exact ⟨_, rfl, by simp, by simpa [Opt.parser] using Blk.new (w.alloc (.cells #[.bool o0, .bool o1, .bool o2, .bool o3, .bool o4, .bool o5, .bool o6, .bool o7, .bool o8, .bool o9] 28)) 64 #[.bool o8, .bool o0, .bool o1, .bool o2, .bool o3, .bool o4, .bool o9, .bool o5, .bool o6, .bool o7], ((Below.refl _ _).alloc (Nat.le_refl _) _).alloc (by simp) _⟩

set_option maxRecDepth 20000 in
theorem plain_any (w : World) : Calls Tryz.prog 13 #[] w fun e w' => e = .returned plainO.v ∧ Below w.heap.size w w' := by
  go_enter Tryz.func13, Tryz.ntmps13
  go_wp2
  go_returns
  exact ⟨rfl, (Below.refl _ _).alloc (Nat.le_refl _) _⟩



end Go.Proofs.YtpojmloeadodhaaGreatDoor
/- Blank lines alone. -/


namespace Go.Proofs.YtpojmloeadodhaaGreatDoor
open Go.RowKit
set_option maxRecDepth 20000 in
set_option maxHeartbeats 1600000 in
/-- A blank line while only the root is open. -/
theorem addLine_blank (g : Nat) (r : PSr) (text : ByteArray) (nl : Nat) (w : World) (hps : IsPS w g r) (hn : r.stack.n = 1) (hs : text.size ≤ 1000000) (hbl : (trimL text.data.toList).isEmpty = true) :
    Calls Tryz.prog 39 #[.pointer (some ⟨g, 0, none⟩), .agg #[.int .i64 0, .int .i64 0, .int .i64 0, .string text, .int .u8 nl]] w fun e w' => e = .returned (.tuple #[]) ∧ IsPS w' g { r with lineDepth := 0 } ∧ Mod (fun k => k = g) w w' := by
  have hg := hps.lt
  have c5 := hps.c5
  have c4 := hps.c4
  rw [hn] at c4
  have f1 := hps.free
  have hgn : ¬ g = w.heap.size := by omega
  go_enter Tryz.func39, Tryz.ntmps39
  go_wp2_with fail
  go_step3
  go_wp2_with fail
  refine wp_loop_rounds 1 ?_
  rw [rounds_succ]
  go_wp2_with fail
  go_quiet (fail)
  go_wp2_with fail
  refine (isBlank_any w.heap.size text 0 _ (Nat.zero_le _) (by omega) (by simp [go_sem]) (by simp [go_sem])).mono ?_
  rintro e w1 ⟨rfl, n, rfl⟩
  go_wp2_with fail
  refine (trimStack_none g { r with lineDepth := 0 } _ _ (by exact (hps.set5 0).alloc _) (by simp [hn])).mono ?_
  rintro e w1 ⟨rfl, rfl⟩
  go_wp2_with fail
  all_goals (try rw [Exit.noGoto_ret])
  go_returns
  refine ⟨rfl, (hps.set5 0).alloc _, ?_⟩
  exact ((((Mod.refl (fun k => k = g) w).setCell (.inl rfl) _).alloc _).drewN _)

theorem dropWhile_nil (p : UInt8 → Bool) : ∀ l : List UInt8, (∀ c ∈ l, p c = true) → l.dropWhile p = [] := by
  intro l
  induction l with
  | nil => intro _; rfl
  | cons a l ih =>
    intro h
    have := h a (List.mem_cons_self ..)
    simp only [List.dropWhile_cons, this, if_true]
    exact ih (fun c hc => h c (List.mem_cons_of_mem _ hc))
/-- What is known of a parse of blanks: the parseState and the stack with the root alone. -/
def BlankInv (pb g : Nat) (w0 : World) (L : Nat) (l : List UInt8) (n : Nat) (w : World) : Prop :=
  (∀ c ∈ l, c = 32 ∨ c = 9 ∨ c = 10 ∨ c = 13) ∧ n + l.length ≤ L ∧ Below g w0 w ∧ ∃ d st a, IsPS w g { ps0 pb with lineno := n, lineDepth := d, stack := st } ∧ IsStack w (g + 1) st ([] ++ [⟨81, .pointer a, Sl.nil, 0, 0⟩])
def BlankFin (pb g : Nat) (w0 : World) (k : Nat) (w : World) : Prop :=
  k = 0 ∧ Below g w0 w ∧ ∃ d st n ln, g < d ∧ IsPS w g { ps0 pb with lineno := n, lineDepth := ln, stack := st, root := some ⟨d, 0, none⟩ } ∧ Blk w d 340 #[.int .i64 0, .int .i64 0, .slice none 0 0, .map none]

theorem nextLine_sub (l : List UInt8) : (∀ c ∈ (nextLine l).1, c ∈ l) ∧ (∀ c ∈ (nextLine l).2.2, c ∈ l) := by
  unfold nextLine
  split
  · split <;> exact ⟨fun c h => List.mem_of_mem_take h, fun c h => List.mem_of_mem_drop h⟩
  · split
    · exact ⟨fun c h => List.mem_of_mem_take h, fun c h => List.mem_of_mem_drop h⟩
    · exact ⟨fun c h => h, fun c h => by simp at h⟩

theorem idxB_not (l : List UInt8) (c : UInt8) (h : c ∉ l) : idxB c l = -1 := by
  refine idxB_none l c l.length (fun j hj h' => h (List.mem_of_getElem? h')) (Nat.le_refl _)
theorem take_idx_not (l : List UInt8) (c : UInt8) (n : Nat) (h : (n : Int) ≤ idxB c l ∨ idxB c l < 0) : c ∉ l.take n := by
  intro hm
  obtain ⟨j, hj, e⟩ := List.getElem_of_mem hm
  rw [List.length_take] at hj
  rw [List.getElem_take] at e
  have hc : c ∈ l := e ▸ List.getElem_mem _
  unfold idxB at h
  cases hf : l.findIdx? (fun x => x == c) with
  | none =>
    rw [List.findIdx?_eq_none_iff] at hf
    have := hf c hc
    simp at this
  | some k =>
    rw [hf] at h
    simp only at h
    rw [List.findIdx?_eq_some_iff_getElem] at hf
    obtain ⟨_, _, h3⟩ := hf
    have := h3 j (by omega)
    rw [e] at this
    simp at this
theorem nextLine_len (l : List UInt8) : (nextLine l).1.length ≤ l.length := by
  unfold nextLine
  split
  · split <;> (simp only [List.length_take]; omega)
  · split
    · simp only [List.length_take]; omega
    · exact Nat.le_refl _
theorem nextLine_not (l : List UInt8) : 10 ∉ (nextLine l).1 ∧ 13 ∉ (nextLine l).1 := by
  have h1 := idxB_lt l 10
  have h2 := idxB_lt l 13
  unfold nextLine
  split
  · split
    all_goals exact ⟨take_idx_not _ _ _ (by omega), take_idx_not _ _ _ (by omega)⟩
  · split
    · exact ⟨take_idx_not _ _ _ (by omega), take_idx_not _ _ _ (by omega)⟩
    · have a := take_idx_not l 10 l.length (by omega)
      have b := take_idx_not l 13 l.length (by omega)
      rw [List.take_length] at a b
      exact ⟨a, b⟩

theorem blankH (pb g : Nat) (w0 : World) (L : Nat) (hL : L ≤ 1000000) (hpb : pb < g) (hp : w0.cell? ⟨pb, 2, none⟩ = some (.bool false)) : ParseH pb g none 0 (BlankInv pb g w0 L) (BlankFin pb g w0) L where
  line := by
    intro l n w ⟨hl, hn, hb, d, st, a, hps, hst⟩ hne hll
    refine ⟨⟨_, hps, rfl⟩, by omega, ?_⟩
    have hst' := hst
    obtain ⟨hsn, _⟩ := hst
    have hsub := nextLine_sub l
    have hnot := nextLine_not l
    have hr := nextLine_rest l hne
    refine (addLine_blank g { ps0 pb with lineno := (n : Int) + 1, lineDepth := d, stack := st } ⟨(nextLine l).1.toArray⟩ (nextLine l).2.1 _ (hps.set3 _) (by simpa using hsn) (bsz (by have := nextLine_len l; omega)) ?_).mono ?_
    · show (trimL ((nextLine l).1.toArray.toList)).isEmpty = true
      rw [List.isEmpty_iff, trimL]
      refine dropWhile_nil _ _ ?_
      intro c hc
      have hc' : c ∈ (nextLine l).1 := by simpa using hc
      rcases hl c (hsub.1 c hc') with h | h | h | h
      · rw [h]; rfl
      · rw [h]; rfl
      · exact absurd (h ▸ hc') hnot.1
      · exact absurd (h ▸ hc') hnot.2
    · rintro e w' ⟨rfl, hps', hm⟩
      refine ⟨rfl, fun c hc => hl c (hsub.2 c hc), by omega, ?_, 0, st, a, ?_, ?_⟩
      · exact (hb.setCell (p := ⟨g, 3, none⟩) (Nat.le_refl _) _).trans (hm.toBelow (B := g) (by simp; exact Nat.le_of_lt hps.lt) (fun k hk e => by omega))
      · have e : (((n + 1 : Nat)) : Int) = (n : Int) + 1 := by omega
        rw [e]; exact hps'
      · obtain ⟨sb, cap, hv, _, _, hob, _, hBs, _⟩ := hst'.top
        exact (hst'.far (p := ⟨g, 3, none⟩) (by rw [hob]; simp; omega) _).mod hm (fun k hk e => by rw [hob] at hk; cases hk; omega)
  drew := by
    intro l n w k ⟨hl, hn, hb, d, st, a, hps, hst⟩
    exact ⟨hl, hn, below_drewN hb k, d, st, a, hps.drewN k, hst.drewN k⟩
  trim := by
    intro n w ⟨hl, hn, hb, d, st, a, hps, hst⟩
    refine (trimRoot_any (g + 1) g _ a Sl.nil 0 0 w hps hst).mono ?_
    rintro e w' ⟨rfl, d', st', hd, hps', hblk, hm⟩
    refine ⟨rfl, rfl, ?_, d', st', n, d, by have := hps.lt; omega, hps', hblk⟩
    exact hb.trans (hm.toBelow (B := g) (Nat.le_of_lt hps.lt) (fun k hk e => by omega))
  at_ := by
    intro k w ⟨hk, hb, d, st, n, ln, hd, hps, hblk⟩
    refine ⟨by omega, _, 0, hps, rfl, ?_⟩
    rw [hb.cell (by exact hpb)]; exact hp
  text := by
    intro k w _ hk
    omega

def ParseBlankP (w : World) (e : Ending) (w' : World) : Prop := ∃ d, e = .returned (.tuple #[.pointer (some ⟨d, 0, none⟩), .bool false]) ∧ w.heap.size ≤ d ∧ Blk w' d 340 #[.int .i64 0, .int .i64 0, .slice none 0 0, .map none] ∧ Below w.heap.size w w'
theorem parse_blank (pb : Nat) (l : List UInt8) (w : World) (hl : ∀ c ∈ l, c = 32 ∨ c = 9 ∨ c = 10 ∨ c = 13) (hlen : l.length ≤ 1000000) (hp : w.cell? ⟨pb, 2, none⟩ = some (.bool false)) :
    Calls Tryz.prog 33 #[.pointer (some ⟨pb, 0, none⟩), .string ⟨l.toArray⟩] w (ParseBlankP w) := by
  have hpb : pb < w.heap.size := World.block_lt_of_cell? w _ hp
  refine (parse_gen pb l w none 0 (BlankInv pb w.heap.size w l.length) (BlankFin pb w.heap.size w) hlen (idxB_not l 0 (fun h => by rcases hl 0 h with h | h | h | h <;> cases h)) (blankH pb w.heap.size w l.length hlen hpb hp) ?_).mono ?_
  · intro w' bn hps hb
    refine (addBlock_top (w.heap.size + 1) w.heap.size (ps0 pb) [] w' 81 (.pointer (some ⟨bn, 0, none⟩)) hps.lt hps ⟨rfl, World.ownsRow_nil _ _ _ _⟩ rfl (by simp)).mono ?_
    rintro e w1 ⟨rfl, v, hps1, hst, _, hm⟩
    refine ⟨rfl, hl, by omega, ?_, -1, v, some ⟨bn, 0, none⟩, hps1, hst⟩
    exact hb.trans (hm.toBelow (B := w.heap.size) hb.size (fun k hk e => by
      rcases e with e | e
      · omega
      · simp [ps0, Sl.nil, Value.ownBlock] at e))
  · rintro e w' ⟨r, k, rfl, hps, w0, ⟨_, hb, d, st, n, ln, hd, hps0, hblk⟩, rfl⟩
    have h1 := hps.c1
    have h2 := hps0.c1
    have h3 := hps.c6
    have h4 := hps0.c6
    rw [show (w0.drewN k).cell? ⟨w.heap.size, 1, none⟩ = w0.cell? ⟨w.heap.size, 1, none⟩ from rfl, h2] at h1
    rw [show (w0.drewN k).cell? ⟨w.heap.size, 6, none⟩ = w0.cell? ⟨w.heap.size, 6, none⟩ from rfl, h4] at h3
    simp only [Option.some.injEq, Value.pointer.injEq, Value.bool.injEq] at h1 h3
    rw [← h1, ← h3]
    exact ⟨d, rfl, Nat.le_of_lt hd, hblk, below_drewN hb k⟩

set_option maxRecDepth 20000 in
theorem Parse_blank (pb : Nat) (l : List UInt8) (w : World) (hl : ∀ c ∈ l, c = 32 ∨ c = 9 ∨ c = 10 ∨ c = 13) (hlen : l.length ≤ 1000000) (hp : w.cell? ⟨pb, 2, none⟩ = some (.bool false)) :
    Calls Tryz.prog 29 #[.pointer (some ⟨pb, 0, none⟩), .string ⟨l.toArray⟩] w fun e w' => ∃ d, e = .returned (.pointer (some ⟨d, 0, none⟩)) ∧ w.heap.size ≤ d ∧ Blk w' d 340 #[.int .i64 0, .int .i64 0, .slice none 0 0, .map none] ∧ Below w.heap.size w w' := by
  go_enter Tryz.func29, Tryz.ntmps29
  go_wp2_with (go_at_call 33; refine (parse_blank pb l w hl hlen hp).mono ?_; rintro e w1 ⟨d, rfl, hd, hblk, hb⟩)
  go_ret
  exact ⟨d, rfl, hd, hblk, hb⟩

set_option maxRecDepth 20000 in
set_option maxHeartbeats 800000 in
theorem docHTML_empty (d b : Nat) (w : World) (hblk : Blk w d 340 #[.int .i64 0, .int .i64 0, .slice none 0 0, .map none]) :
    Calls Tryz.prog 235 #[.pointer (some ⟨d, 0, none⟩), .pointer (some ⟨b, 0, none⟩)] w fun e w' => e = .returned (.tuple #[]) ∧ w = w' := by
  have c2 : w.cell? ⟨d, 2, none⟩ = some (.slice none 0 0) := by rw [hblk.cell]; rfl
  go_enter Tryz.func235, Tryz.ntmps235
  go_wp2
  go_rounds 1
  go_end0
  exact ⟨rfl, rfl⟩

theorem conv_nil (w : World) : (convert 51 9 (.slice none 0 0)).run Tryz.prog w = .ok (.string ⟨#[]⟩) w := by kernel_rfl
set_option maxRecDepth 20000 in
set_option maxHeartbeats 800000 in
theorem bufString_empty (b : Nat) (w : World) (h0 : w.cell? ⟨b, 0, none⟩ = some (.slice none 0 0)) (h1 : w.cell? ⟨b, 1, none⟩ = some (.int .i64 0)) :
    Calls Tryz.prog 32 #[.pointer (some ⟨b, 0, none⟩)] w fun e w' => e = .returned (.string ⟨#[]⟩) ∧ ∃ n, w' = w.drewN n := by
  have kc := conv_nil
  go_enter Tryz.func32, Tryz.ntmps32
  go_wp2
  go_quiet (fail)
  go_wp2
  go_ret
  exact ⟨rfl, _, rfl⟩

set_option maxRecDepth 20000 in
set_option maxHeartbeats 800000 in
theorem toHTML_empty (d : Nat) (w : World) (hblk : Blk w d 340 #[.int .i64 0, .int .i64 0, .slice none 0 0, .map none]) :
    Calls Tryz.prog 27 #[.iface 47 (.pointer (some ⟨d, 0, none⟩))] w fun e w' => e = .returned (.string ⟨#[]⟩) ∧ Below w.heap.size w w' := by
  have hd := hblk.lt
  go_enter Tryz.func27, Tryz.ntmps27
  go_wp2_with (first | (go_at_call 235; refine (docHTML_empty d w.heap.size _ (Blk.alloc hblk _)).mono ?_; rintro e w' ⟨rfl, rfl⟩))
  refine (bufString_empty w.heap.size _ (by simp [go_sem]) (by simp [go_sem])).mono ?_
  rintro e w1 ⟨rfl, n, rfl⟩
  go_wp2_with fail
  go_ret
  exact ⟨rfl, below_drewN ((Below.refl _ _).alloc (Nat.le_refl _) _) n⟩

set_option maxRecDepth 20000 in
theorem HTML_blank (l : List UInt8) (w : World) (hl : ∀ c ∈ l, c = 32 ∨ c = 9 ∨ c = 10 ∨ c = 13) (hlen : l.length ≤ 1000000) :
    Calls Tryz.prog 12 #[plainO.v, .string ⟨l.toArray⟩] w fun e w' => e = .returned (.string ⟨#[]⟩) ∧ Below w.heap.size w w' := by
  have hv : plainO.v = .agg #[.bool false, .bool false, .bool false, .bool false, .bool false, .bool false, .bool false, .bool false, .bool false, .bool false] := rfl
  rw [hv]
  have HL := hid hl
  clear hl
  go_enter Tryz.func12, Tryz.ntmps12
  go_wp2_with fail
  refine (parser_any plainO _).mono ?_
  rintro e w1 ⟨g, rfl, hg, hblk, hb⟩
  have HB := hid hb
  have HBL := hid hblk
  have hp : w1.cell? ⟨g, 2, none⟩ = some (.bool false) := by rw [hblk.cell]; rfl
  clear hblk hb
  go_wp2_with fail
  refine (Parse_blank g l _ HL.out hlen hp).mono ?_
  rintro e w2 ⟨d, rfl, hd, hblk2, hb2⟩
  have HB2 := hid hb2
  clear hb2
  go_wp2_with fail
  refine (toHTML_empty d _ hblk2).mono ?_
  rintro e w3 ⟨rfl, hb3⟩
  have HB3 := hid hb3
  clear hb3
  go_wp2_with fail
  go_ret
  exact ⟨rfl, ((((Below.refl _ _).alloc (Nat.le_refl _) _).trans (HB.out.mono (by simp))).trans (HB2.out.mono (Nat.le_trans (by simp) HB.out.size))).trans (HB3.out.mono (Nat.le_trans (Nat.le_trans (by simp) HB.out.size) HB2.out.size))⟩

end Go.Proofs.YtpojmloeadodhaaGreatDoor
/- The texts of the law FnBreak, in plain Lean: what a thematic break's line holds. -/


namespace Go.Proofs.YtpojmloeadodhaaGreatDoor
open Go.RowKit
theorem cat_lists (l m : List UInt8) : (ByteArray.mk l.toArray) ++ (ByteArray.mk m.toArray) = ⟨(l ++ m).toArray⟩ := by
  apply ByteArray.ext
  simp [ByteArray.data_append]
theorem bt_list (l : List UInt8) (k : Nat) : bt ⟨l.toArray⟩ k = match l[k]? with
    | some c => (c.toNat : Int)
    | none => 0 := by
  unfold bt
  by_cases h : k < l.length
  · rw [dif_pos (by simpa [ByteArray.size] using h), List.getElem?_eq_getElem h]
    rfl
  · rw [dif_neg (by simpa [ByteArray.size] using h), List.getElem?_eq_none (by omega)]
/-- A line made of up to j spaces, then i signs c with spaces behind them. -/
def BrkL (c : UInt8) (j i : Nat) (l : List UInt8) : Prop :=
  ∃ r, l = List.replicate j 32 ++ r ∧ (∀ x ∈ r, x = c ∨ x = 32) ∧ r.count c = i ∧ (i ≠ 0 → r.head? = some c) ∧ r.length ≤ 5 * i
/-- The same, where a sign has just been laid. -/
def BrkM (c : UInt8) (j i : Nat) (l : List UInt8) : Prop :=
  ∃ r, l = List.replicate j 32 ++ r ∧ (∀ x ∈ r, x = c ∨ x = 32) ∧ r.count c = i + 1 ∧ r.head? = some c ∧ r.length ≤ 5 * i + 1
theorem while_nil (p : UInt8 → Bool) : ∀ l : List UInt8, l.dropWhile p = [] → ∀ x ∈ l, p x = true := by
  intro l
  induction l with
  | nil => intro _ x hx; cases hx
  | cons a l ih =>
    intro h x hx
    rw [List.dropWhile_cons] at h
    by_cases ha : p a = true
    · rw [if_pos ha] at h
      rcases List.mem_cons.1 hx with e | e
      · rw [e]; exact ha
      · exact ih h x e
    · rw [if_neg ha] at h
      cases h
theorem brk_zero (c : UInt8) (j : Nat) : BrkL c j 0 (List.replicate j 32) := ⟨[], by simp, by simp, by simp, by simp, by simp⟩
theorem brk_sign {c : UInt8} {j i : Nat} {l : List UInt8} (h : BrkL c j i l) : BrkM c j i (l ++ [c]) := by
  obtain ⟨r, rfl, h1, h2, h3, h4⟩ := h
  refine ⟨r ++ [c], by simp, ?_, by simp [h2], ?_, by simp; omega⟩
  · intro x hx
    rcases List.mem_append.1 hx with hx | hx
    · exact h1 x hx
    · simp at hx; exact .inl hx
  · cases r with
    | nil => rfl
    | cons a r =>
      have hi : i ≠ 0 := by
        intro h0
        subst h0
        have := h4
        simp at this
      simpa using h3 hi
theorem brk_done {c : UInt8} {j i : Nat} {l : List UInt8} (h : BrkM c j i l) (hc : c ≠ 32) (n : Nat) (hn : n ≤ 4) : BrkL c j (i + 1) (l ++ List.replicate n 32) := by
  obtain ⟨r, rfl, h1, h2, h3, h4⟩ := h
  refine ⟨r ++ List.replicate n 32, by simp, ?_, ?_, ?_, by simp; omega⟩
  · intro x hx
    rcases List.mem_append.1 hx with hx | hx
    · exact h1 x hx
    · exact .inr (List.eq_of_mem_replicate hx)
  · rw [List.count_append, h2, List.count_replicate]
    simp [Ne.symm hc]
  · intro _
    cases r with
    | nil => simp at h3
    | cons a r => simpa using h3
theorem cnt_list (c : UInt8) (p r : List UInt8) : ∀ m, m ≤ r.length → cntB ⟨(p ++ r).toArray⟩ (c.toNat : Int) p.length (p.length + m) = (r.take m).count c := by
  intro m
  induction m with
  | zero => intro _; rw [Nat.add_zero, cntB_self]; simp
  | succ m ih =>
    intro h
    rw [← Nat.add_assoc]
    show cntB _ _ _ (p.length + m) + _ = _
    rw [ih (by omega), List.take_add_one, List.count_append, List.getElem?_eq_getElem (by omega : m < r.length)]
    congr 1
    have hb : bt ⟨(p ++ r).toArray⟩ (p.length + m) = ((r[m]'(by omega)).toNat : Int) := by
      rw [bt_list, List.getElem?_append_right (by omega), show p.length + m - p.length = m from by omega, List.getElem?_eq_getElem (by omega : m < r.length)]
    rw [hb]
    by_cases he : r[m] = c
    · rw [if_pos ⟨by omega, by rw [he]⟩]
      simp [he]
    · rw [if_neg (fun x => he (UInt8.toNat_inj.1 (by have := x.2; omega)))]
      simp [he]
/-- What the functions ask of such a line. -/
structure HRLine (l : List UInt8) (j : Nat) (c : Int) : Prop where
  j3 : j ≤ 3
  sp : ∀ k, 0 ≤ k → k < j → bt ⟨l.toArray⟩ k = 32
  js : j < (ByteArray.mk l.toArray).size
  at_ : bt ⟨l.toArray⟩ j = c
  cc : c = 42 ∨ c = 45 ∨ c = 95
  all : ∀ k, j ≤ k → k < (ByteArray.mk l.toArray).size → bt ⟨l.toArray⟩ k = c ∨ bt ⟨l.toArray⟩ k = 32
  three : 3 ≤ cntB ⟨l.toArray⟩ c j (ByteArray.mk l.toArray).size
theorem brk_line {c : UInt8} {j i : Nat} {l : List UInt8} (h : BrkL c j i l) (hj : j ≤ 3) (hc : c = 42 ∨ c = 45 ∨ c = 95) (hi : 3 ≤ i) : HRLine l j (c.toNat : Int) := by
  obtain ⟨r, rfl, h1, h2, h3, h4⟩ := h
  have h3' := h3 (by omega)
  have hr : 0 < r.length := by cases r with
    | nil => simp at h3'
    | cons a r => simp
  have hsz : (ByteArray.mk (List.replicate j 32 ++ r).toArray).size = j + r.length := by simp [ByteArray.size]
  have hbr : ∀ k (hk : k < r.length), bt ⟨(List.replicate j 32 ++ r).toArray⟩ (j + k) = (r[k].toNat : Int) := by
    intro k hk
    rw [bt_list, List.getElem?_append_right (by simp), List.length_replicate, show j + k - j = k from by omega, List.getElem?_eq_getElem hk]
  refine ⟨hj, ?_, by omega, ?_, ?_, ?_, ?_⟩
  · intro k _ hk
    rw [bt_list, List.getElem?_append_left (by simpa using hk), List.getElem?_replicate, if_pos hk]
    rfl
  · have := hbr 0 hr
    rw [Nat.add_zero] at this
    rw [this]
    cases r with
    | nil => simp at hr
    | cons a r => simp at h3'; simp [h3']
  · rcases hc with rfl | rfl | rfl
    · exact .inl rfl
    · exact .inr (.inl rfl)
    · exact .inr (.inr rfl)
  · intro k hk hs
    rw [hsz] at hs
    obtain ⟨m, rfl⟩ : ∃ m, k = j + m := ⟨k - j, by omega⟩
    rw [hbr m (by omega)]
    rcases h1 (r[m]'(by omega)) (List.getElem_mem _) with e | e
    · exact .inl (by rw [e])
    · exact .inr (by rw [e]; rfl)
  · have := cnt_list c (List.replicate j 32) r r.length (Nat.le_refl _)
    rw [List.length_replicate, List.take_length, h2] at this
    rw [hsz, this]
    exact hi
namespace HRLine
variable {l : List UInt8} {j : Nat} {c : Int}
theorem mem (h : HRLine l j c) : ∀ x ∈ l, (x.toNat : Int) = c ∨ (x.toNat : Int) = 32 := by
  intro x hx
  obtain ⟨k, hk, rfl⟩ := List.getElem_of_mem hx
  have hb : bt ⟨l.toArray⟩ k = (l[k].toNat : Int) := by rw [bt_list, List.getElem?_eq_getElem hk]
  rw [← hb]
  rcases Nat.lt_or_ge k j with h1 | h1
  · exact .inr (h.sp k (Nat.zero_le _) h1)
  · exact h.all k h1 (by simpa [ByteArray.size] using hk)
theorem not_ (h : HRLine l j c) (x : UInt8) (hx : x ≠ 42 ∧ x ≠ 45 ∧ x ≠ 95 ∧ x ≠ 32) : x ∉ l := by
  intro hm
  obtain ⟨a, b, d, e⟩ := hx
  rcases h.mem x hm with h1 | h1
  · rcases h.cc with h2 | h2 | h2
    · exact a (UInt8.toNat_inj.1 (by simp; omega))
    · exact b (UInt8.toNat_inj.1 (by simp; omega))
    · exact d (UInt8.toNat_inj.1 (by simp; omega))
  · exact e (UInt8.toNat_inj.1 (by simp; omega))
theorem bt_not (h : HRLine l j c) (x : Int) (hx : x ≠ 42 ∧ x ≠ 45 ∧ x ≠ 95 ∧ x ≠ 32 ∧ x ≠ 0) (k : Nat) : bt ⟨l.toArray⟩ k ≠ x := by
  rw [bt_list]
  obtain ⟨a, b, d, e, f⟩ := hx
  cases hk : l[k]? with
  | none => exact fun h => f h.symm
  | some y =>
    have hm : y ∈ l := List.mem_of_getElem? hk
    intro (h0 : (y.toNat : Int) = x)
    rcases h.mem y hm with h1 | h1
    · rcases h.cc with h2 | h2 | h2 <;> omega
    · omega
theorem next (h : HRLine l j c) : nextLine l = (l, 0, []) := by
  unfold nextLine
  rw [idxB_not l 13 (h.not_ 13 (by decide)), idxB_not l 10 (h.not_ 10 (by decide))]
  rfl
theorem ink (h : HRLine l j c) : (trimL l).isEmpty = false := by
  have hj : j < l.length := by have := h.js; simpa [ByteArray.size] using this
  have hb : bt ⟨l.toArray⟩ j = (l[j].toNat : Int) := by rw [bt_list, List.getElem?_eq_getElem hj]
  have h0 := h.at_
  rw [hb] at h0
  cases he : (trimL l).isEmpty with
  | false => rfl
  | true =>
    rw [List.isEmpty_iff, trimL] at he
    have hst := while_nil _ _ he l[j] (List.getElem_mem _)
    rw [isST_not (by rcases h.cc with h | h | h <;> omega) (by rcases h.cc with h | h | h <;> omega)] at hst
    cases hst
end HRLine
end Go.Proofs.YtpojmloeadodhaaGreatDoor
/- What every law's row has in common: the arguments read behind the call as they did; a slice of bytes as a list. -/












namespace Go.Proofs.YtpojmloeadodhaaGreatDoor
open Go.RowKit Go.ChangeShapes Go.WideShapes Go.ChangeAt
/-- A slice whose cells are the bytes l. -/
def BytesAt (w : World) (A : Option Addr) (l : List UInt8) : Prop :=
  ∀ j (h : j < l.length), ∃ ad, A = some ad ∧ ad.block < w.heap.size ∧ w.cell? (ad.add j) = some (.int .u8 (l[j].toNat : Int))
theorem addr_block (a : Addr) (i : Nat) : (a.add i).block = a.block := by unfold Addr.add; split <;> rfl
theorem BytesAt.below {w w' : World} {A : Option Addr} {l : List UInt8} (h : BytesAt w A l) (hb : Below w.heap.size w w') : BytesAt w' A l := fun j hj => by
  obtain ⟨ad, e, hlt, hc⟩ := h j hj
  exact ⟨ad, e, Nat.lt_of_lt_of_le hlt hb.size, (hb.cell (p := ad.add j) (by rw [addr_block]; exact hlt)).trans hc⟩
theorem laidOut : laidOutB Tryz.prog = true := by kernel_rfl
theorem own : ownKnob Tryz.prog.godebug = none := by kernel_rfl
section
variable {H : Type} {enc : TypeId × Value → H}
/-- All arguments at once: below the heap's old size nothing has turned. -/
theorem args_below {P : Program} (hl : laidOutB P = true) {W W' : World} (hb : Below W.heap.size W W') : ∀ {ts : List TypeId} {vs : List Value} {ds : List (DataW H)} {ps : List MemPlace},
    (∀ t ∈ ts, P.readableRec t = true ∧ t < P.types.size) → DataW.TrodAll enc P W 0 (fun _ => true) true ts vs ds ps → (∀ p ∈ ps, p.block < W.heap.size) → ∀ sp : Nat → Bool, (∀ p ∈ ps, sp p.block = true) → DataW.TrodAll enc P W' 0 sp true ts vs ds ps
  | [], [], [], _, _, h, _, sp, _ => by
    obtain ⟨_, _, rfl⟩ := trodAll_nil h
    exact trodAll_mk0
  | t :: ts, vs, ds, ps, ht, h, hlt, sp, hsp => by
    obtain ⟨v, vs', d, ds', p, q, rfl, rfl, rfl, h0, r⟩ := trodAll_cons h
    have h1 := ht t (List.mem_cons_self ..)
    exact trodAll_cons_mk (WideElems.Trod_stays hl h1.1 h1.2 h0 (fun x hx => hb.same (hlt x (List.mem_append_left _ hx))) (fun x hx => hsp x (List.mem_append_left _ hx)))
      (args_below hl hb (fun u hu => ht u (List.mem_cons_of_mem _ hu)) r (fun x hx => hlt x (List.mem_append_right _ hx)) sp (fun x hx => hsp x (List.mem_append_right _ hx)))
/-- A slice of bytes, nil or not, as a list. -/
theorem open_bytes {P : Program} {t e : TypeId} (ht : P.underlying t = some (.slice e)) (he : P.underlying e = some (.int .u8)) (hc : P.cellsOf e = 1) {W : World} {base : Nat} {v : Value} {d : DataW H} {ps : List MemPlace}
    (hval : Value.okWide P W .any base t v) (h : DataW.Trod enc P W 0 (fun _ => true) true t v d ps) : ∃ A l c, v = .slice A l.length c ∧ BytesAt W A l ∧ l.length ≤ maxLen := by
  obtain ⟨a0, len, cap, rfl⟩ := okWide_slice ht hval
  obtain ⟨fuel, hf⟩ := h
  rcases open_ints ht he hc hf with ⟨hcs, _⟩ | ⟨a, len', cap', zs, hcs, _, hl, hm, hz, _, hcell, hwz⟩
  · simp [Value.cells] at hcs
    obtain ⟨rfl, rfl, rfl⟩ := hcs
    exact ⟨none, [], 0, rfl, fun j hj => absurd hj (by simp), Nat.zero_le _⟩
  · simp [Value.cells] at hcs
    obtain ⟨rfl, rfl, rfl⟩ := hcs
    simp only [if_true] at hz
    have hll : ((zs.take len).map fun n => UInt8.ofNat n.toNat).length = len := by simp; omega
    refine ⟨some a, (zs.take len).map fun n => UInt8.ofNat n.toNat, cap, by rw [hll], fun j hj => ?_, by rw [hll]; omega⟩
    have hj' : j < len := by omega
    have hj2 : j < zs.length := by omega
    have h1 := hcell j hj2
    have h2 := hwz (zs[j]) (List.getElem_mem hj2)
    have h3 : 0 ≤ zs[j] ∧ zs[j] ≤ 255 := by simpa [Lit.wf, IntKind.min, IntKind.max, IntKind.bits, IntKind.signed] using h2
    have hb := World.block_lt_of_cell? W _ h1
    rw [addr_block] at hb
    refine ⟨a, rfl, hb, ?_⟩
    rw [h1]
    have e1 : zs.getD j 0 = zs[j] := by simp [List.getD, hj2]
    rw [e1]
    congr 2
    simp only [List.getElem_map, List.getElem_take]
    have h4 : (zs[j]).toNat < 256 := by omega
    rw [UInt8.toNat_ofNat_of_lt' (show (zs[j]).toNat < UInt8.size from h4)]
    omega
/-- The law's post from its walk: true is returned, and below the old heap nothing has turned. -/
theorem post_true {F : Func} {s : ChangeSpec} {W W' : World} {args : Array Value} {ds gs : List (DataW H)} {before : List MemPlace} {p q : List MemPlace}
    (hW : DataW.Whole enc Tryz.prog F.params.toList s.vars false W args.toList ds gs before) (hA : DataW.TrodAll enc Tryz.prog W 0 (fun _ => true) true F.params.toList args.toList ds p) (hq : before = p ++ q)
    (hv : s.vars = []) (hgs : gs = []) (hq0 : q = []) (hr : F.resultTypes = #[4]) (hfn : s.fn H ds = { results := [.lit (.bool true)], args := ds })
    (ht : ∀ t ∈ F.params.toList, Tryz.prog.readableRec t = true ∧ t < Tryz.prog.types.size) (hb : Below W.heap.size W W') : s.post enc Tryz.prog F false true false false W args (.bool true) W' := by
  subst hgs hq0
  rw [List.append_nil] at hq
  subst hq
  have hlt : ∀ x ∈ before, x.block < W.heap.size := fun x hx => hW.lt x hx
  refine ⟨ds, [], before, [], before, [], hW, ?_, ?_, ?_, hb.frame _, fun h => by cases h⟩
  · rw [List.append_nil, hfn, hr]
    exact trodAll_mk1 (shut_bool Tryz.underlying4 _)
  · rw [List.append_nil, hfn]
    exact args_below laidOut hb ht hA hlt _ (fun x hx => by simpa using hlt x hx)
  · rw [List.append_nil, hfn, hv]
    rfl
end
end Go.Proofs.YtpojmloeadodhaaGreatDoor
/- What is owned: where it lies. -/

namespace Go.Proofs.YtpojmloeadodhaaGreatDoor
open Go.RowKit
theorem ownLt {w : World} {base : Nat} {e : TypeId} {size n : Nat} {v : Value} {xs : List Value} (h : w.ownsRow base e size v n xs) {k : Nat} (hk : some k = v.ownBlock) : k < w.heap.size := by
  rcases h.2 with ⟨rfl, _⟩ | ⟨g', cap, cur, rfl, hb, hh, _⟩
  · simp [Value.ownBlock] at hk
  · simp only [Value.ownBlock, Option.some.injEq] at hk
    subst hk
    exact Blk.lt (t := e) hh
theorem ownBase {w : World} {base : Nat} {e : TypeId} {size n : Nat} {v : Value} {xs : List Value} (h : w.ownsRow base e size v n xs) {k : Nat} (hk : some k = v.ownBlock) : base ≤ k := by
  rcases h.2 with ⟨rfl, _⟩ | ⟨g', cap, cur, rfl, hb, _⟩
  · simp [Value.ownBlock] at hk
  · simp only [Value.ownBlock, Option.some.injEq] at hk
    omega
theorem ownApart {w : World} {base base2 : Nat} {e e2 : TypeId} {size size2 n n2 : Nat} {v v2 : Value} {xs ys : List Value} (h : w.ownsRow base e size v n xs) (h2 : w.ownsRow base2 e2 size2 v2 n2 ys) (hne : e ≠ e2) {k : Nat} (hk : v.ownBlock = some k) : v2.ownBlock ≠ some k := by
  intro hk2
  rcases h.2 with ⟨rfl, _⟩ | ⟨g', cap, cur, rfl, _, hh, _⟩
  · simp [Value.ownBlock] at hk
  · rcases h2.2 with ⟨rfl, _⟩ | ⟨g2, cap2, cur2, rfl, _, hh2, _⟩
    · simp [Value.ownBlock] at hk2
    · simp only [Value.ownBlock, Option.some.injEq] at hk hk2
      subst hk
      subst hk2
      exact Blk.ne_ (t := e) hh hh2 hne rfl
end Go.Proofs.YtpojmloeadodhaaGreatDoor
/- Small functions that several laws call: a byte in a text, a text some times, the alphabet without a byte. -/







namespace Go.Proofs.YtpojmloeadodhaaGreatDoor
open Go.RowKit
/-- A truth value is returned, which, where it is true, says P; the world is as it was. -/
def BoolF (P : Prop) (w : World) (e : Ending) (w' : World) : Prop := (∃ b, e = .returned (.bool b) ∧ (b = true → P)) ∧ w = w'
theorem BoolF.no {P : Prop} (w : World) : BoolF P w (.returned (.bool false)) w := ⟨⟨_, rfl, fun h => by cases h⟩, rfl⟩
theorem BoolF.yes {P : Prop} (w : World) (h : P) : BoolF P w (.returned (.bool true)) w := ⟨⟨_, rfl, fun _ => h⟩, rfl⟩
theorem indexByte_mem (l : List UInt8) (c : UInt8) : (c ∈ l → 0 ≤ Lib.indexByte l c) ∧ (c ∉ l → Lib.indexByte l c = -1) := by
  induction l with
  | nil => exact ⟨fun h => (by cases h), fun _ => rfl⟩
  | cons a t ih =>
    unfold Lib.indexByte
    by_cases hac : a = c
    · subst hac
      exact ⟨fun _ => by simp, fun h => absurd (List.mem_cons_self ..) h⟩
    · have hb : (a == c) = false := by simpa using hac
      rw [hb]
      simp only [Bool.false_eq_true, if_false]
      by_cases hm : c ∈ t
      · have h1 := ih.1 hm
        refine ⟨fun _ => ?_, fun h => absurd (List.mem_cons_of_mem _ hm) h⟩
        have : (Lib.indexByte t c == -1) = false := by simp; omega
        rw [this]
        simp
        omega
      · have h1 := ih.2 hm
        refine ⟨fun h => ?_, fun _ => by rw [h1]; rfl⟩
        rcases List.mem_cons.1 h with e | e
        · exact absurd e.symm hac
        · exact absurd e hm
set_option maxRecDepth 100000 in
set_option maxHeartbeats 1000000 in
theorem indexByte_any (s : ByteArray) (c : Int) (w : World) :
    Calls Tryz.prog 34 #[.string s, .int .u8 c] w fun e w' => e = .returned (.int .i64 (Lib.indexByte s.data.toList c.toNat.toUInt8)) ∧ w = w' := by
  go_enter Tryz.func34, Tryz.ntmps34
  go_wp2
  rw [run_callFunc_extern Tryz.func68 (by kernel_rfl) (by kernel_rfl) (by kernel_rfl) (e := Extern.BytealgIndexByte.indexByte) (by kernel_rfl), Lib.run_indexByteString]
  simp only [Result.andThen]
  rw [Oper.upon_value]
  go_wp2
  go_ret
  exact ⟨rfl, rfl⟩
/-- A text of at most m bytes of an alphabet. -/
def OnlyP (l al : List UInt8) (m : Nat) : Prop := l.length ≤ m ∧ ∀ c ∈ l, c ∈ al
def OnlyR (l al : List UInt8) (t14 : Value) : Prop := ∃ k : Nat, k ≤ l.length ∧ t14 = .int .i64 k ∧ ∀ c ∈ l.take k, c ∈ al
set_option maxHeartbeats 800000 in
theorem only_any (l al : List UInt8) (m : Nat) (w : World) (_ : m ≤ 1000000) (_ : l.length ≤ 9223372036854775807) :
    Calls Tryz.prog 31 #[.string ⟨l.toArray⟩, .string ⟨al.toArray⟩, .int .i64 m] w (BoolF (OnlyP l al m) w) := by
  have hz : (ByteArray.mk l.toArray).size = l.length := List.size_toArray ..
  have hbt := hid (fun (k : Nat) (h : k < l.length) => (by rw [bt_list, List.getElem?_eq_getElem h] : bt ⟨l.toArray⟩ k = ((l[k]'h).toNat : Int)))
  have HZ := hid hz
  generalize hs : (ByteArray.mk l.toArray) = s at hz hbt HZ ⊢
  have hb := get_bt s
  clear hs
  by_cases hlm : l.length ≤ m
  · have hlm2 : s.size ≤ m := by omega
    have hd : decide (m < s.size) = false := by simp; omega
    clear hz
    go_enter Tryz.func31, Tryz.ntmps31
    go_wp2_with fail
    go_loop [14] (fun t14 => OnlyR l al t14) (fun t14 => l.length - (intOf t14).toNat)
    case atStart => exact ⟨0, Nat.zero_le _, rfl, by simp⟩
    case round =>
      obtain ⟨k, hk, rfl, hin⟩ := hrel
      have HIN := hid hin
      clear hin
      by_cases hlt : k < l.length
      · have hks : k < s.size := by have := HZ.out; omega
        have hck := hid (hbt.out k hlt)
        have hu8 : Hid ((bt s k).toNat.toUInt8 = l[k]'hlt) := hid (by rw [hck.out]; simp)
        have htk := hid (show l.take (k + 1) = l.take k ++ [l[k]'hlt] by rw [List.take_add_one, List.getElem?_eq_getElem hlt]; rfl)
        have hmem := hid (indexByte_mem al (l[k]'hlt))
        generalize l[k]'hlt = c at hck hu8 htk hmem
        go_wp2_with fail
        refine (indexByte_any ⟨al.toArray⟩ (bt s k) w).mono ?_
        rintro e w' ⟨rfl, rfl⟩
        rw [hu8.out]
        by_cases hc : c ∈ al
        · have h0 := hmem.out.1 hc
          have h1 : ¬ Lib.indexByte al c < 0 := by omega
          go_wp2_with fail
          go_round
          case rel => exact ⟨k + 1, by omega, by go_num, by rw [htk.out]; intro x hx; rcases List.mem_append.1 hx with hx | hx; (· exact HIN.out x hx); (simp at hx; subst hx; exact hc)⟩
          case measure => simp [intOf]; omega
        · have h0 := hmem.out.2 hc
          have h1 : Lib.indexByte al c < 0 := by omega
          clear h0
          go_wp2_with fail
          go_ret
          exact BoolF.no _
      · obtain rfl : k = l.length := by omega
        have hks : ¬ l.length < s.size := by have := HZ.out; omega
        go_wp2_with fail
        go_ret
        exact BoolF.yes _ ⟨hlm, by have := HIN.out; rwa [List.take_of_length_le (Nat.le_refl _)] at this⟩
  · have hlm2 : m < s.size := by omega
    clear hz
    go_enter Tryz.func31, Tryz.ntmps31
    go_wp2_with fail
    go_ret
    exact BoolF.no _
/-- A sign, so and so often. -/
def repF (k : Nat) (c : UInt8) : ByteArray := ⟨(List.replicate k c).toArray⟩
theorem repF_succ (k : Nat) (c : UInt8) : repF k c ++ (ByteArray.mk #[c]) = repF (k + 1) c := by
  unfold repF
  rw [show (ByteArray.mk #[c]) = ⟨[c].toArray⟩ from rfl, cat_lists, List.replicate_succ']
theorem repF_size (k : Nat) (c : UInt8) : (repF k c).size = k := by simp [repF, ByteArray.size]
set_option maxHeartbeats 400000 in
theorem timesF_any (c : UInt8) (n : Nat) (w : World) (hn : n ≤ 1000) : Calls Tryz.prog 16 #[.string ⟨#[c]⟩, .int .i64 n] w fun e w' => e = .returned (.string (repF n c)) ∧ w = w' := by
  have HC := hid (repF_succ · c)
  go_enter Tryz.func16, Tryz.ntmps16
  go_wp2
  go_loop [5, 7] (fun t5 t7 => ∃ k : Nat, k ≤ n ∧ t7 = .int .i64 k ∧ t5 = .string (repF k c)) (fun _ t7 => n - (intOf t7).toNat)
  case atStart => exact ⟨0, Nat.zero_le _, rfl, rfl⟩
  case round =>
    obtain ⟨k, hk, rfl, rfl⟩ := hrel
    have hz := repF_size k c
    by_cases hlt : k < n
    · go_wp2
      go_round
      case rel => exact ⟨k + 1, by omega, by go_num, by rw [← HC.out]⟩
      case measure => simp [intOf]; omega
    · obtain rfl : k = n := by omega
      go_wp2
      go_ret
      exact ⟨rfl, rfl⟩
end Go.Proofs.YtpojmloeadodhaaGreatDoor
/- The block starters that decline a line. -/

namespace Go.Proofs.YtpojmloeadodhaaGreatDoor
open Go.RowKit
/-- A line's value. -/
@[reducible] def lnV (i : Nat) (tb : Int) (s : ByteArray) (nl : Int) : Value := .agg #[.int .i64 0, .int .i64 i, .int .i64 tb, .string s, .int .u8 nl]
theorem ln_store {w : World} {g : Nat} {a0 a1 a2 a3 a4 : Value} (h : Blk w g 87 #[a0, a1, a2, a3, a4]) (j : Nat) (tb nl : Int) (s : ByteArray) : IsLn (((((w.setCell ⟨g, 0, none⟩ (.int .i64 0)).setCell ⟨g, 1, none⟩ (.int .i64 j)).setCell ⟨g, 2, none⟩ (.int .i64 tb)).setCell ⟨g, 3, none⟩ (.string s)).setCell ⟨g, 4, none⟩ (.int .u8 nl)) g j tb s nl := by
  have h' := (((((Blk.set_ h 0 (.int .i64 0)).set_ 1 (.int .i64 j)).set_ 2 (.int .i64 tb)).set_ 3 (.string s)).set_ 4 (.int .u8 nl))
  simpa [lnC, IsLn] using h'
set_option maxHeartbeats 1600000 in
theorem trimQuote_no (i : Nat) (tb nl : Int) (s : ByteArray) (w : World) (hs : s.size ≤ 140737488355328) (hi : i ≤ s.size) (ht : ∀ k, bt s k ≠ 9) (hq : ∀ k, i ≤ k → k ≤ i + 3 → bt s k ≠ 62) :
    Calls Tryz.prog 111 #[lnV i tb s nl] w fun e w' => e = .returned (.tuple #[lnV i tb s nl, .bool false]) ∧ Below w.heap.size w w' := by
  have HT := hid ht
  have HQ := hid hq
  clear ht hq
  go_enter Tryz.func111, Tryz.ntmps111
  go_wp2_with fail
  refine (trimSp_any _ i 0 3 false tb nl s _ (Blk.new' (by simp)) hs hi HT.out (by omega) (by omega)).mono ?_
  rintro e w1 ⟨j, h1, h2, h3, h4, h5, h6, hm⟩
  rcases h6 with ⟨rfl, _, hln⟩ | ⟨_, hbad, _⟩
  · have HLN := hid hln
    have HM := hid hm
    clear hln hm h4 h5
    go_wp2_with fail
    refine (trim_no _ j _ tb nl s _ HLN.out hs (.inr (HQ.out j h1 h2))).mono ?_
    rintro e w2 ⟨rfl, n2, rfl⟩
    have hm2 := HM.out.drewN n2
    have hbox : IsLn (w1.drewN n2) w.heap.size i tb s nl := (Blk.alloc (Blk.alloc (Blk.new' rfl) _) _ : Blk _ w.heap.size 87 (lnC i tb s nl)).mod hm2 (by show ¬ (w.heap.size = w.heap.size + 1 + 1); omega)
    have hres : Blk (w1.drewN n2) (w.heap.size + 1) 87 #[.int .i64 0, .int .i64 0, .int .i64 0, .string ⟨#[]⟩, .int .u8 0] := (Blk.alloc (Blk.new' (by simp)) _ : Blk _ (w.heap.size + 1) 87 #[.int .i64 0, .int .i64 0, .int .i64 0, .string ⟨#[]⟩, .int .u8 0]).mod hm2 (by show ¬ (w.heap.size + 1 = w.heap.size + 1 + 1); omega)
    have hbel : Below w.heap.size w (w1.drewN n2) := below_drewN (((((Below.refl _ _).alloc (Nat.le_refl _) _).alloc (by simp) _).alloc (by simp; omega) _).trans (Mod.toBelow HM.out (by simp; omega) (fun k hk h => by omega))) n2
    clear HM HLN hm2
    generalize w1.drewN n2 = wa at hbox hres hbel ⊢
    have c0 := hbox.c0
    have c1 := hbox.c1
    have c2 := hbox.c2
    have c3 := hbox.c3
    have c4 := hbox.c4
    have r0 := hres.at_ 0 rfl
    have r1 := hres.at_ 1 rfl
    have r2 := hres.at_ 2 rfl
    have r3 := hres.at_ 3 rfl
    have r4 := hres.at_ 4 rfl
    have fr := hres.free
    have HR := hid hres
    have HB := hid hbel
    clear hbox hres hbel
    go_wp2_with fail
    have hln := hid (ln_store HR.out i tb nl s)
    have hb2 : Hid (Below w.heap.size w _) := hid (((((HB.out.setCell (p := ⟨w.heap.size + 1, 0, none⟩) (by simp) (.int .i64 0)).setCell (p := ⟨w.heap.size + 1, 1, none⟩) (by simp) (.int .i64 i)).setCell (p := ⟨w.heap.size + 1, 2, none⟩) (by simp) (.int .i64 tb)).setCell (p := ⟨w.heap.size + 1, 3, none⟩) (by simp) (.string s)).setCell (p := ⟨w.heap.size + 1, 4, none⟩) (by simp) (.int .u8 nl))
    generalize World.setCell _ ⟨w.heap.size + 1, 4, none⟩ _ = wy at hln hb2 ⊢
    clear c0 c1 c2 c3 c4 r0 r1 r2 r3 r4 fr
    have k0 := hln.out.c0
    have k1 := hln.out.c1
    have k2 := hln.out.c2
    have k3 := hln.out.c3
    have k4 := hln.out.c4
    refine bodyPost_ret (by simp [results, Tryz.results111, go_sem, k0, k1, k2, k3, k4]; try rfl) rfl ?_
    exact ⟨rfl, hb2.out⟩
  · omega
set_option maxHeartbeats 1600000 in
theorem newQuote_no (g i : Nat) (tb nl : Int) (s : ByteArray) (w : World) (hs : s.size ≤ 140737488355328) (hi : i ≤ s.size) (ht : ∀ k, bt s k ≠ 9) (hq : ∀ k, i ≤ k → k ≤ i + 3 → bt s k ≠ 62) :
    Calls Tryz.prog 70 #[.pointer (some ⟨g, 0, none⟩), lnV i tb s nl] w fun e w' => e = .returned (.tuple #[lnV i tb s nl, .bool false]) ∧ Below w.heap.size w w' := by
  have HT := hid ht
  have HQ := hid hq
  clear ht hq
  go_enter Tryz.func70, Tryz.ntmps70
  go_wp2_with fail
  refine (trimQuote_no i tb nl s _ hs hi HT.out HQ.out).mono ?_
  rintro e w1 ⟨rfl, hb⟩
  have hm2 := Mod.below' (S := fun _ => False) hb
  have hbox : IsLn w1 w.heap.size i tb s nl := (Blk.alloc (Blk.new' rfl) _ : Blk _ w.heap.size 87 (lnC i tb s nl)).mod (S := fun _ => False) hm2 (fun h => h)
  have hres : Blk w1 (w.heap.size + 1) 87 #[.int .i64 0, .int .i64 0, .int .i64 0, .string ⟨#[]⟩, .int .u8 0] := (Blk.new' (by simp) : Blk _ (w.heap.size + 1) 87 #[.int .i64 0, .int .i64 0, .int .i64 0, .string ⟨#[]⟩, .int .u8 0]).mod (S := fun _ => False) hm2 (fun h => h)
  have hbel : Below w.heap.size w w1 := (((Below.refl _ _).alloc (Nat.le_refl _) _).alloc (by simp) _).trans (hb.mono (by simp; omega))
  have hl1 := Blk.lt hbox
  have hl2 := Blk.lt hres
  clear hb hm2
  have c0 := hbox.c0
  have c1 := hbox.c1
  have c2 := hbox.c2
  have c3 := hbox.c3
  have c4 := hbox.c4
  have r0 := hres.at_ 0 rfl
  have r1 := hres.at_ 1 rfl
  have r2 := hres.at_ 2 rfl
  have r3 := hres.at_ 3 rfl
  have r4 := hres.at_ 4 rfl
  have fr := hres.free
  have HR := hid hres
  have HB := hid hbel
  clear hbox hres hbel
  unfold lnV
  go_wp2_with fail
  have hln : Hid (IsLn _ (w.heap.size + 1) i tb s nl) := hid (Blk.alloc (ln_store HR.out i tb nl s) (.cells #[.int .i64 0, .int .i64 i, .int .i64 tb, .string s, .int .u8 nl] 87))
  have hb2 : Hid (Below w.heap.size w _) := hid ((((((HB.out.setCell (p := ⟨w.heap.size + 1, 0, none⟩) (by simp) (.int .i64 0)).setCell (p := ⟨w.heap.size + 1, 1, none⟩) (by simp) (.int .i64 i)).setCell (p := ⟨w.heap.size + 1, 2, none⟩) (by simp) (.int .i64 tb)).setCell (p := ⟨w.heap.size + 1, 3, none⟩) (by simp) (.string s)).setCell (p := ⟨w.heap.size + 1, 4, none⟩) (by simp) (.int .u8 nl)).alloc (by simp; omega) (.cells #[.int .i64 0, .int .i64 i, .int .i64 tb, .string s, .int .u8 nl] 87))
  generalize World.alloc _ _ = wy at hln hb2 ⊢
  clear c0 c1 c2 c3 c4 r0 r1 r2 r3 r4 fr
  have k0 := hln.out.c0
  have k1 := hln.out.c1
  have k2 := hln.out.c2
  have k3 := hln.out.c3
  have k4 := hln.out.c4
  refine bodyPost_ret (by simp [results, Tryz.results70, go_sem, k0, k1, k2, k3, k4]; try rfl) rfl ?_
  exact ⟨rfl, hb2.out⟩
set_option maxHeartbeats 1600000 in
theorem trimHeading_no (g i n : Nat) (tb nl : Int) (s : ByteArray) (w : World) (h : IsLn w g i tb s nl) (hs : s.size ≤ 140737488355328) (hi : i ≤ s.size) (ht : ∀ k, bt s k ≠ 9) (hq : ∀ k, i ≤ k → k ≤ i + 3 → bt s k ≠ 35) :
    Calls Tryz.prog 112 #[.pointer (some ⟨g, 0, none⟩), .pointer (some ⟨n, 0, none⟩)] w fun e w' => e = .returned (.bool false) ∧ Below w.heap.size w w' := by
  have h0 := h.c0
  have h1 := h.c1
  have h2 := h.c2
  have h3 := h.c3
  have h4 := h.c4
  have HT := hid ht
  have HQ := hid hq
  clear ht hq h
  go_enter Tryz.func112, Tryz.ntmps112
  go_wp2_with fail
  refine (trimSp_any _ i 0 3 false tb nl s _ (Blk.new' (by simp)) hs hi HT.out (by omega) (by omega)).mono ?_
  rintro e w1 ⟨j, a1, a2, a3, a4, a5, a6, hm⟩
  rcases a6 with ⟨rfl, _, hln⟩ | ⟨_, hbad, _⟩
  · have HLN := hid hln
    have HM := hid hm
    clear hln hm a4 a5
    go_wp2_with fail
    refine (trim_no _ j _ tb nl s _ HLN.out hs (.inr (HQ.out j a1 a2))).mono ?_
    rintro e w2 ⟨rfl, n2, rfl⟩
    go_wp2_with fail
    go_ret
    exact ⟨rfl, below_drewN (((Below.refl _ _).alloc (Nat.le_refl _) _).trans (Mod.toBelow HM.out (by simp) (fun k hk h => by omega))) n2⟩
  · omega
end Go.Proofs.YtpojmloeadodhaaGreatDoor
/- A block that is done goes to the top of the stack; a thematic break is such a block. -/



namespace Go.Proofs.YtpojmloeadodhaaGreatDoor
open Go.RowKit
set_option maxHeartbeats 800000 in
theorem string_any (g i : Nat) (tb nl : Int) (s : ByteArray) (w : World) (h : IsLn w g i tb s nl) (_ : s.size ≤ 140737488355328) (_ : i ≤ s.size) :
    Calls Tryz.prog 113 #[.pointer (some ⟨g, 0, none⟩)] w fun e w' => e = .returned (.string (s.extract i s.size)) ∧ ∃ n, w' = w.drewN n := by
  have h0 := h.c0
  have h1 := h.c1
  have h3 := h.c3
  clear h
  go_enter Tryz.func113, Tryz.ntmps113
  go_wp2
  go_quiet (fail)
  go_wp2
  go_ret
  exact ⟨rfl, _, rfl⟩
theorem infoBlock : (Tryz.prog.info? 55).map (fun i => (i.zero, i.size, i.bytes)) = some (some .nilIface, 1, 16) := by kernel_rfl
theorem IsStack.blk {w : World} {B sb n cap : Nat} {es : List Ent} (h : IsStack w B ⟨some ⟨sb, 0, none⟩, n, cap⟩ es) : ∃ cs, Blk w sb 102 cs := by
  rcases h.2.2 with ⟨h0, _⟩ | ⟨g', cap', cur, h0, _, hh, _⟩
  · simp [Sl.v] at h0
  · simp only [Sl.v, Value.slice.injEq, Option.some.injEq, Addr.mk.injEq] at h0
    obtain ⟨⟨rfl, _⟩, _⟩ := h0
    exact ⟨_, hh⟩
theorem set_inner (l : List Value) (n : Nat) (a b c d b' : Value) (h : l.length = n) : (l ++ [a, b, c, d]).set (n + 1) b' = l ++ [a, b', c, d] := by
  subst h
  rw [List.set_append_right _ _ (by omega)]
  simp
def DoneP (B g : Nat) (r : PSr) (es : List Ent) (e0 : Ent) (bs : List Value) (y : Value) (w w' : World) : Prop :=
  ∃ v : Sl, v.n = e0.inner.n + 1 ∧ IsPS w' g r ∧ IsStack w' B r.stack (es ++ [{ e0 with inner := v }]) ∧ w'.ownsRow B 55 1 v.v v.n (bs ++ [y]) ∧ Mod (fun k => some k = r.stack.v.ownBlock ∨ some k = e0.inner.v.ownBlock) w w'
set_option maxRecDepth 20000 in
set_option maxHeartbeats 1600000 in
theorem doneBlock_top (B g : Nat) (r : PSr) (es : List Ent) (e0 : Ent) (w : World) (u : TypeId) (x : Value) (bs : List Value) (hB : B ≤ w.heap.size) (hps : IsPS w g r) (hst : IsStack w B r.stack (es ++ [e0])) (hd : r.lineDepth = es.length) (hn : es.length ≤ 1000000)
    (hin : w.ownsRow B 55 1 e0.inner.v e0.inner.n bs) (hm : e0.inner.n ≤ 1000000) :
    Calls Tryz.prog 118 #[.pointer (some ⟨g, 0, none⟩), .iface u x] w fun e w' => e = .returned (.tuple #[]) ∧ DoneP B g r es e0 bs (.iface u x) w w' := by
  obtain ⟨sb, cap, hv, hcap, hfr, hob, hsb, hBs, k0, k1, k2, k3⟩ := hst.top
  have c4 := hps.c4
  have c5 := hps.c5
  rw [hv] at c4
  rw [hd] at c5
  have HTN := hid (show (es.length : Int) + 1 = r.stack.n by rw [hv]; simp)
  have HV := hid hv
  have HOB := hid hob
  clear hv hob hd
  obtain ⟨i0, hi, hz0, hz1, hz2⟩ := info_parts infoBlock
  have HIN := hid hin
  clear hin
  go_enter Tryz.func118, Tryz.ntmps118
  go_wp2_with fail
  refine (trimStack_none g r w _ hps HTN.out).mono ?_
  rintro e w1 ⟨rfl, rfl⟩
  go_wp2_with fail
  go_quiet (fail)
  have hcl : ∀ j u', ([.iface u x] : List Value)[j]? = some u' → ((w.drewN nq).alloc (.cells #[.iface u x] 55)).cell? ((⟨w.heap.size, 0, none⟩ : Addr).add j) = some u' := by
    intro j u' hj
    cases j with
    | zero => rw [Addr.add, if_pos rfl]; exact ((Blk.new (w.drewN nq) 55 #[.iface u x]).cell 0).trans hj
    | succ j => simp at hj
  have HCL := hid hcl
  clear hcl
  go_wp2_with (at_builtin; refine wpList_append_own_at _ rfl (.tmp 27) (.tmp 29) 100 rfl B 55 i0 _ 1 16 Tryz.underlying100 hi hz0 hz1 hz2 rfl (by decide) (.slice e0.inner.a e0.inner.n e0.inner.c) e0.inner.n bs rfl (World.ownsRow.alloc (World.ownsRow.drewN HIN.out nq) _) ⟨w.heap.size, 0, none⟩ 1 1 [.iface u x] rfl rfl HCL.out ?_ ?_ ?_ ?_ ?_)
  · intro v hv; simp at hv; subst hv; rfl
  · unfold maxLen; omega
  · omega
  · simp; omega
  · intro v' w1 hown hgr hnil hat
    obtain ⟨cs, hcs⟩ := IsStack.blk (HV.out ▸ hst)
    have hnb : some sb ≠ (Value.slice e0.inner.a e0.inner.n e0.inner.c).ownBlock := own_ne HIN.out hcs (by decide)
    have hps1 : IsPS w1 g r := Blk.grown ((hps.drewN nq).alloc _) hgr (own_ne HIN.out hps (by decide))
    have hm1 : Mod (fun k => some k = e0.inner.v.ownBlock) w w1 := (((Mod.refl _ w).drewN nq).alloc _).grown hgr (fun k hk => .inl hk.symm)
    have hst1 : IsStack w1 B r.stack (es ++ [e0]) := hst.mod hm1 (fun k hk e => by rw [HOB.out] at hk; cases hk; exact hnb e)
    obtain ⟨sb', cap', hv', hcap', hfr', hob', hsb', hBs', q0, q1, q2, q3⟩ := hst1.top
    have hvv := hv'.symm.trans HV.out
    simp only [Sl.mk.injEq, Option.some.injEq, Addr.mk.injEq] at hvv
    obtain ⟨⟨rfl, _⟩, _, rfl⟩ := hvv
    have hsg : g ≠ sb' := Blk.ne_ hps hcs (by decide)
    obtain ⟨g2, cap2, rfl, hc2⟩ : ∃ g2 cap2, v' = .slice (some ⟨g2, 0, none⟩) (e0.inner.n + 1) cap2 ∧ e0.inner.n + 1 ≤ cap2 := by
      rcases hown.2 with ⟨h1, h2⟩ | ⟨g2, cap2, cur, h1, _, _, h2, _⟩
      · exact absurd h2 (by omega)
      · exact ⟨g2, cap2, h1, h2⟩
    have hg2 : sb' ≠ g2 := by
      rintro rfl
      rcases hat with h | h
      · exact hnb h
      · have : sb' = w.heap.size + 1 := by simpa [Value.ownBlock] using h
        omega
    have hg2' : some g2 = e0.inner.v.ownBlock ∨ w.heap.size ≤ g2 := by
      rcases hat with h | h
      · exact .inl h
      · have : g2 = w.heap.size + 1 := by simpa [Value.ownBlock] using h
        exact .inr (by omega)
    have HO := hid hown
    have HM := hid hm1
    have HST := hid hst1
    have HPS := hid hps1
    have HC := hid hcs
    have HG := hid hg2'
    clear hown hgr hat hm1 hst1 hps1 hcs hg2' k0 k1 k2 k3 hfr hv' hob'
    go_wp2
    go_end0
    refine ⟨rfl, ⟨some ⟨g2, 0, none⟩, e0.inner.n + 1, cap2⟩, rfl, HPS.out.far hsg _, ⟨?_, ?_⟩, ?_, ?_⟩
    · simp [HV.out]
    · have s0 := HST.out.2
      rw [HV.out, show (es ++ [e0]).length = es.length + 1 by simp] at s0
      rw [HV.out]
      have s1 := (s0.stored (es.length * 4 + 1) (.slice (some ⟨g2, 0, none⟩) (e0.inner.n + 1) cap2)).1
      rw [List.flatMap_append] at s1 ⊢
      simp only [List.flatMap_cons, List.flatMap_nil, List.append_nil, Ent.cells, List.length_append, List.length_cons, List.length_nil] at s1 ⊢
      rw [set_inner _ _ _ _ _ _ _ (ents_len es)] at s1
      exact s1
    · refine own_far HO.out ?_ _
      simpa [Value.ownBlock] using hg2
    · refine (HM.out.mono (fun k _ h => .inr h)).setCell (.inl (.inl ?_)) _
      rw [HOB.out]
theorem line_zero {w : World} {g : Nat} {a0 a1 a2 a3 a4 : Value} (h : Blk w g 87 #[a0, a1, a2, a3, a4]) : Blk (((((w.setCell ⟨g, 0, none⟩ (.int .i64 0)).setCell ⟨g, 1, none⟩ (.int .i64 0)).setCell ⟨g, 2, none⟩ (.int .i64 0)).setCell ⟨g, 3, none⟩ (.string ⟨#[]⟩)).setCell ⟨g, 4, none⟩ (.int .u8 0)) g 87 #[.int .i64 0, .int .i64 0, .int .i64 0, .string ⟨#[]⟩, .int .u8 0] := by
  have h' := (((((Blk.set_ h 0 (.int .i64 0)).set_ 1 (.int .i64 0)).set_ 2 (.int .i64 0)).set_ 3 (.string ⟨#[]⟩)).set_ 4 (.int .u8 0))
  simpa using h'
def HRP (B g : Nat) (r : PSr) (es : List Ent) (e0 : Ent) (bs : List Value) (raw : ByteArray) (w : World) (w' : World) : Prop :=
  ∃ t, w.heap.size ≤ t ∧ Blk w' t 226 #[.int .i64 r.lineno, .int .i64 r.lineno, .string raw] ∧ DoneP B g r es e0 bs (.iface 224 (.pointer (some ⟨t, 0, none⟩))) w w'
end Go.Proofs.YtpojmloeadodhaaGreatDoor
