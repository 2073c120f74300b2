/- PROVED: for every printable text of at most 200 bytes without a run of just n backquotes, it stands as it is in a code span between two runs of n backquotes (the law FnCodeSpan returns true). -/
import Derived.Test.YtgdnbidjdiohkaaGreatDoorCSpan02
import Derived.Test.YtgdnbidjdiohkaaGreatDoorCards
import Derived.Test.YtgdnbidjdiohkaaGreatDoorTie
import Derived.Stop.LaidErr
import Derived.Test.YtgdnbidjdiohkaaGreatDoorCSpan09
import Derived.ChangeMaps5
/- Arguments of a law that are bytes. -/

namespace Go.Proofs.YtgdnbidjdiohkaaGreatDoor
open Go.RowKit Go.ChangeShapes Go.WideShapes Go.ChangeAt
/-- A byte, as a number below 256. -/
theorem open_byte {H : Type} {enc : TypeId × Value → H} {P : Program} {t : TypeId} (ht : P.underlying t = some (.int .u8)) {W : World} {base : Nat} {v : Value} {d : DataW H} {ps : List MemPlace}
    (hval : Value.okWide P W .any base t v) (h : DataW.Trod enc P W 0 (fun _ => true) true t v d ps) : ∃ n : Nat, v = .int .u8 n ∧ n < 256 := by
  obtain ⟨z, rfl, _, _, hw⟩ := open_int ht hval h
  have h3 : 0 ≤ z ∧ z ≤ 255 := by simpa [Lit.wf, IntKind.min, IntKind.max, IntKind.bits, IntKind.signed] using hw
  obtain ⟨n, rfl⟩ := Int.eq_ofNat_of_zero_le h3.1
  exact ⟨n, rfl, by omega⟩
end Go.Proofs.YtgdnbidjdiohkaaGreatDoor
/- The witness's world, for every law: the settled world, the eight listed variables holding what their initialisers lay. -/




namespace Go.Proofs.YtgdnbidjdiohkaaGreatDoor
open Go.RowKit Go.ChangeShapes Go.WideShapes Go.ChangeAt Go.Lib
/-- The cells of a datum of plain parts. -/
def flat1 : DataW Unit → List Value
  | .lit (.int k n) => [.int k n]
  | .lit (.string s) => [.string ⟨s.toArray⟩]
  | _ => []
def flat2 : DataW Unit → List Value
  | .agg ds => ds.flatMap flat1
  | d => flat1 d
def flat3 : DataW Unit → List Value
  | .agg ds => ds.flatMap flat2
  | d => flat2 d
noncomputable def laidWorld (os : Os) : World :=
  let N := (World.settled Tryz.prog os).heap.size
  let w0 := World.holding Tryz.prog os ⟨#[
    .cells #[.string ⟨#[105, 110, 118, 97, 108, 105, 100, 32, 115, 121, 110, 116, 97, 120]⟩] 310,
    .cells #[.string ⟨#[118, 97, 108, 117, 101, 32, 111, 117, 116, 32, 111, 102, 32, 114, 97, 110, 103, 101]⟩] 310], #[], []⟩
  let put (h : Array Obj) (g : Nat) (cs : Array Value) : Array Obj := h.modify g fun
    | .cells _ t frozen => .cells cs t frozen
    | o => o
  let h1 := put w0.heap 1 (flat3 Rows.laid_pub_paratext_pub_rscmarkdown_htmlEntities).toArray
  let h2 := put h1 2 (flat3 Rows.laid_unicode_utf8_first).toArray
  let h3 := put h2 3 (flat3 Rows.laid_unicode_utf8_acceptRanges).toArray
  let h4 := put h3 4 #[.iface 308 (.pointer (some ⟨N, 0, none⟩))]
  let h5 := put h4 5 #[.iface 308 (.pointer (some ⟨N + 1, 0, none⟩))]
  let h6 := put h5 6 (flat3 Rows.laid_internal_strconv_uint64pow10).toArray
  let h7 := put h6 7 (flat3 Rows.laid_math_bits_deBruijn32tab).toArray
  let h8 := put h7 8 (flat3 Rows.laid_math_bits_deBruijn64tab).toArray
  { w0 with heap := h8 }
noncomputable abbrev N0 : Nat := (World.settled Tryz.prog default).heap.size
set_option maxRecDepth 1000000 in
theorem laid_met (os : Os) (args : Array Value) : laidMet Tryz.prog Rows.fnKeptRow.laid ((laidWorld os).forCall (fun _ _ => 0) ⟨#[], args, []⟩).memory :=
  (LaidIn.of_run [1, 2, 3, 4, 5, 6, 7, 8, N0, N0 + 1] 8 (by kernel_rfl) (by kernel_rfl) (by kernel_rfl) (by kernel_rfl)).met
end Go.Proofs.YtgdnbidjdiohkaaGreatDoor
/- The closed facts that the row of FnCodeSpan asks of the program. -/


namespace Go.Proofs.YtgdnbidjdiohkaaGreatDoor.fnCodeSpan
open Go.ChangeShapes Go.WideShapes Go.ChangeAt Go.RowKit
set_option maxHeartbeats 8000000 in
set_option maxRecDepth 100000 in
theorem closed : joinedFacts Tryz.prog 6 Tryz.f6 (OpenSpec.ofChange Rows.fnCodeSpanSpec).bare Rows.fnCodeSpanRow = true := by
  unfold joinedFacts
  simp only [Bool.and_eq_true]
  repeat' (refine And.intro ?_ ?_)
  all_goals (as_aux_lemma => kernel_rfl)
theorem inst : Tryz.f6.isInstance Tryz.prog Rows.fnCodeSpanRow.origin Rows.fnCodeSpanRow.targs := of_decide_eq_true (by kernel_rfl)
theorem wrap : Tryz.f6.isWrapper Tryz.prog Rows.fnCodeSpanRow.wrapper Rows.fnCodeSpanRow.mainSum := by unfold Func.isWrapper; rw [if_neg (of_decide_eq_false (by kernel_rfl))]; exact ⟨rfl, rfl⟩
theorem looks : true = Tryz.prog.looks [] := by kernel_rfl
theorem named : Tryz.prog.funcNamed "pub-paratext/laws.FnCodeSpan" = some 6 := by kernel_rfl
theorem noStand0 : Tryz.prog.wantsStandIn 9 = false := by kernel_rfl
theorem read0 : Tryz.prog.readableRec 9 = true := by kernel_rfl
theorem lt0 : 9 < Tryz.prog.types.size := of_decide_eq_true (by kernel_rfl)
theorem noStand1 : Tryz.prog.wantsStandIn 3 = false := by kernel_rfl
theorem read1 : Tryz.prog.readableRec 3 = true := by kernel_rfl
theorem lt1 : 3 < Tryz.prog.types.size := of_decide_eq_true (by kernel_rfl)
end Go.Proofs.YtgdnbidjdiohkaaGreatDoor.fnCodeSpan
/- The closed facts that the card of FnCodeSpan asks of the program. -/


namespace Go.Proofs.YtgdnbidjdiohkaaGreatDoor.fnCodeSpan
open Go.ChangeShapes Go.WideShapes Go.ChangeAt Go.RowKit
theorem goes : false = Rows.fnCodeSpanRow.goesBy Tryz.pinned.checked.prog := by kernel_rfl
theorem wfBy : Rows.fnCodeSpanRow.wfByText (OpenSpec.ofChange Rows.fnCodeSpanSpec) = true := by kernel_rfl
theorem mainIs : Tryz.pinned.checked.prog.mainIs = some ((true, "1c089371cf4daa9d137093f1aff20c71e809b37cbb8b543fcd0dbc148f91c5e6").1, (true, "1c089371cf4daa9d137093f1aff20c71e809b37cbb8b543fcd0dbc148f91c5e6").2.toList) := by kernel_rfl
end Go.Proofs.YtgdnbidjdiohkaaGreatDoor.fnCodeSpan
/- PROVED: for every printable text of at most 200 bytes without a run of just n backquotes, it stands as it is in a code span between two runs of n backquotes (the law FnCodeSpan returns true). -/






namespace Go.Proofs.YtgdnbidjdiohkaaGreatDoor.fnCodeSpan
open Go.ChangeShapes Go.WideShapes Go.ChangeAt Go.RowKit
theorem bytes_back (s : ByteArray) : (⟨s.data.toList.toArray⟩ : ByteArray) = s := by simp
set_option maxRecDepth 100000 in
/-- What the walk gives, for every argument and every world. -/
theorem contract (H : Type) (enc : TypeId × Value → H) (W : World) (base : Nat) (args : Array Value) (ds gs : List (DataW H)) (before : List MemPlace)
    (hval : ∀ (j : Nat) t v, Tryz.f6.params[j]? = some t → args[j]? = some v → Value.okWide Tryz.prog W .any base t v)
    (hW : DataW.Whole enc Tryz.prog Tryz.f6.params.toList Rows.fnCodeSpanSpec.vars false W args.toList ds gs before) :
    Calls Tryz.prog 6 args W fun e W' => ∃ v, e = .returned v ∧ Rows.fnCodeSpanSpec.post enc Tryz.prog Tryz.f6 false true false false W args v W' := by
  have hW' := hW
  obtain ⟨p, q, hA0, hV, rfl, hfz, hnd⟩ := hW
  have hAk := hA0
  have hA : DataW.TrodAll enc Tryz.prog W 0 (fun _ => true) true Tryz.f6.params.toList args.toList ds p := hA0
  rw [Tryz.params6] at hA hval
  obtain ⟨v0, vs0, d0, ds0, p0, q0, hargs0, rfl, rfl, h0, r0⟩ := trodAll_cons hA
  obtain ⟨v1, vs1, d1, ds1, p1, q1, rfl, rfl, rfl, h1, r1⟩ := trodAll_cons r0
  obtain ⟨rfl, rfl, rfl⟩ := trodAll_nil r1
  obtain rfl : args = #[v0, v1] := by cases args; simp_all
  obtain ⟨rfl, rfl⟩ := trodVars_none hV
  obtain ⟨l0, rfl, _, _, hl0⟩ := Go.ChangeMaps.open_string Tryz.underlying9 (hval 0 9 v0 rfl rfl) h0
  have hll0 : l0.data.toList.length ≤ 9223372036854775807 := by
    have : l0.data.toList.length = l0.size := Array.length_toList
    unfold maxLen at hl0
    omega
  obtain ⟨z1, rfl, _, _, _⟩ := open_int Tryz.underlying3 (hval 1 3 v1 rfl rfl) h1
  have hlaw := law_span l0.data.toList z1 W hll0
  rw [bytes_back] at hlaw
  refine hlaw.mono fun e W' ⟨he, hg⟩ => ?_
  subst he
  exact ⟨_, rfl, post_true hW' hAk rfl rfl rfl rfl rfl rfl (by rw [Tryz.params6]; intro t ht; simp at ht; rcases ht with rfl | rfl; (· exact ⟨read0, lt0⟩); exact ⟨read1, lt1⟩) hg⟩

theorem reads (os : Os) {H : Type} (enc : TypeId × Value → H) : ∃ places, DataW.whole enc Tryz.prog ((laidWorld os).forCall (fun _ _ => 0) ⟨#[], #[.string ⟨#[]⟩, .int .i64 0], []⟩).memory Tryz.f6.params.toList Rows.fnCodeSpanSpec.vars false #[Value.string ⟨#[]⟩, Value.int .i64 0].toList 8 = some ([.lit (.string []), .lit (.int .i64 0)], [], places) :=
  ⟨[], by kernel_rfl⟩

set_option maxRecDepth 100000 in
theorem lifted (os : Os) (started : os.Started) (H : Type) (enc : TypeId × Value → H) (F : Stop.Interp) :
    ReturnsInHanded {} Tryz.checked os 6 .any ((OpenSpec.ofChange Rows.fnCodeSpanSpec).preRow enc Tryz.prog Tryz.f6 Rows.fnCodeSpanRow.domain false Rows.fnCodeSpanRow.laid) (((OpenSpec.ofChange Rows.fnCodeSpanSpec).at F).post enc Tryz.prog Tryz.f6 false true false false) := by
  obtain ⟨places, hx⟩ := reads os enc
  refine returnsInHanded_of_row (C := Tryz.checked) (s := OpenSpec.ofChange Rows.fnCodeSpanSpec) own started (by kernel_rfl) Tryz.func6
    (witness_row_atRef (enc := enc) (C := Tryz.checked) false (laidWorld os) #[.string ⟨#[]⟩, .int .i64 0] rfl (by kernel_rfl) (by kernel_rfl) (by kernel_rfl)
      (OpenSpec.preRow_of_cond 8 hx (by kernel_rfl) (fun k hk => by cases hk) (by kernel_rfl) (laid_met os _))) ?_
  intro W base args ds gs before hval hW _ _ _ _ _ _
  exact contract H enc W base args ds gs before hval hW

theorem said : Rows.FnCodeSpanSaid :=
  OpenClaim.holds_of_cond 6 Tryz.f6 rfl rfl rfl rfl rfl rfl rfl ⟨rfl, rfl, rfl, rfl, rfl⟩ rfl rfl rfl rfl rfl named Tryz.func6 closed inst wrap
    (fun os started H enc _ F => by rw [OpenClaim.pre_eq_preRow]; exact lifted os started H enc F)

theorem plain (f : FuncId) (fn : Func) (hf : Tryz.pinned.checked.prog.funcNamed "pub-paratext/laws.FnCodeSpan" = some f) (hfn : Tryz.pinned.checked.prog.funcs[f]? = some fn) :
    true = Tryz.pinned.checked.prog.looks [] ∧ ∀ (j : Nat) t, fn.params[j]? = some t → Tryz.pinned.checked.prog.wantsStandIn t = false := by
  obtain rfl : f = 6 := Option.some.inj (named.symm.trans hf) |>.symm
  obtain rfl : fn = Tryz.f6 := (Option.some.inj (Tryz.func6.symm.trans hfn)).symm
  refine ⟨looks, fun j t ht => ?_⟩
  rw [Tryz.params6] at ht
  have h : t = 9 ∨ t = 3 := by simpa using Array.mem_of_getElem? ht
  rcases h with rfl | rfl
  · exact noStand0
  · exact noStand1

theorem card : Rows.FnCodeSpanCardSaid :=
  Claim7.holds_tied_plain_at .later [] _ _ _ _ said (fun _ h => by cases h) wfBy (fun _ h => by cases h) fnCodeSpan_row_tie rfl ⟨rfl, rfl⟩ mainIs rfl plain goes
end Go.Proofs.YtgdnbidjdiohkaaGreatDoor.fnCodeSpan
