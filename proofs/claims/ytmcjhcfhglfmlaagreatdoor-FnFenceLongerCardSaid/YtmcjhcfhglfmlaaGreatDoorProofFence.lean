/- PROVED: for all arguments, a fenced code block of tildes is closed by a fence at least as long as the one that opened it, and the end of the text closes one too (the law FnFenceLonger returns true). -/
import Derived.Test.YtmcjhcfhglfmlaaGreatDoorLawFence
import Derived.Test.YtmcjhcfhglfmlaaGreatDoorArgs
import Derived.Test.YtmcjhcfhglfmlaaGreatDoorEntLaid
import Derived.ChangeMaps5
import Derived.Test.YtmcjhcfhglfmlaaGreatDoorWorld
import Derived.Test.YtmcjhcfhglfmlaaGreatDoorFactsFence
import Derived.Test.YtmcjhcfhglfmlaaGreatDoorFactsFence2
namespace Go.Proofs.YtmcjhcfhglfmlaaGreatDoor.fnFenceLonger
open Go.ChangeShapes Go.WideShapes Go.ChangeAt Go.RowKit
set_option maxRecDepth 100000 in
/-- What the walk gives, for every argument and every world. -/
theorem contract (H : Type) (enc : TypeId × Value → H) (W : World) (base : Nat) (args : Array Value) (ds gs : List (DataW H)) (before : List MemPlace)
    (hval : ∀ (j : Nat) t v, Tryz.f3.params[j]? = some t → args[j]? = some v → Value.okWide Tryz.prog W .any base t v)
    (hW : DataW.Whole enc Tryz.prog Tryz.f3.params.toList Rows.fnFenceLongerSpec.vars false W args.toList ds gs before) (hent : HasEnt W) :
    Calls Tryz.prog 3 args W fun e W' => ∃ v, e = .returned v ∧ Rows.fnFenceLongerSpec.post enc Tryz.prog Tryz.f3 false true false false W args v W' := by
  have hW' := hW
  obtain ⟨p, q, hA0, hV, rfl, hfz, hnd⟩ := hW
  have hAk := hA0
  have hA : DataW.TrodAll enc Tryz.prog W 0 (fun _ => true) true Tryz.f3.params.toList args.toList ds p := hA0
  rw [Tryz.params3] at hA hval
  obtain ⟨v0, vs0, d0, ds0, p0, q0, hargs0, rfl, rfl, h0, r0⟩ := trodAll_cons hA
  obtain ⟨v1, vs1, d1, ds1, p1, q1, rfl, rfl, rfl, h1, r1⟩ := trodAll_cons r0
  obtain ⟨v2, vs2, d2, ds2, p2, q2, rfl, rfl, rfl, h2, r2⟩ := trodAll_cons r1
  obtain ⟨rfl, rfl, rfl⟩ := trodAll_nil r2
  obtain rfl : args = #[v0, v1, v2] := by cases args; simp_all
  obtain ⟨rfl, rfl⟩ := trodVars_none hV
  obtain ⟨l, rfl, _, _, hl⟩ := Go.ChangeMaps.open_string Tryz.underlying9 (hval 0 9 v0 rfl rfl) h0
  obtain ⟨a, rfl, ha1⟩ := open_byte Tryz.underlying5 (hval 1 5 v1 rfl rfl) h1
  obtain ⟨b, rfl, hb1⟩ := open_byte Tryz.underlying5 (hval 2 5 v2 rfl rfl) h2
  have hll : l.data.toList.length ≤ 9223372036854775807 := by
    have : l.data.toList.length = l.size := Array.length_toList
    unfold maxLen at hl
    omega
  have hlaw := law_fence l.data.toList a b W ha1 hb1 hll hent
  rw [bytes_back] at hlaw
  refine hlaw.mono fun e W' ⟨he, hg⟩ => ?_
  subst he
  exact ⟨_, rfl, post_true hW' hAk rfl rfl rfl rfl rfl rfl (by rw [Tryz.params3]; intro t ht; simp at ht; rcases ht with rfl | rfl; (· exact ⟨readS, ltS⟩); exact ⟨read5, lt5⟩) hg⟩

theorem reads (os : Os) {H : Type} (enc : TypeId × Value → H) : ∃ places, DataW.whole enc Tryz.prog ((laidWorld os).forCall (fun _ _ => 0) ⟨#[], #[.string ⟨#[]⟩, .int .u8 0, .int .u8 0], []⟩).memory Tryz.f3.params.toList Rows.fnFenceLongerSpec.vars false #[Value.string ⟨#[]⟩, Value.int .u8 0, Value.int .u8 0].toList 8 = some ([.lit (.string []), .lit (.int .u8 0), .lit (.int .u8 0)], [], places) :=
  ⟨[], by kernel_rfl⟩

set_option maxRecDepth 100000 in
theorem lifted (os : Os) (started : os.Started) (H : Type) (enc : TypeId × Value → H) (F : Stop.Interp) :
    ReturnsInHanded {} Tryz.checked os 3 .any ((OpenSpec.ofChange Rows.fnFenceLongerSpec).preRow enc Tryz.prog Tryz.f3 Rows.fnFenceLongerRow.domain false Rows.fnFenceLongerRow.laid) (((OpenSpec.ofChange Rows.fnFenceLongerSpec).at F).post enc Tryz.prog Tryz.f3 false true false false) := by
  obtain ⟨places, hx⟩ := reads os enc
  refine returnsInHanded_of_row (C := Tryz.checked) (s := OpenSpec.ofChange Rows.fnFenceLongerSpec) own started (by kernel_rfl) Tryz.func3
    (witness_row_atRef (enc := enc) (C := Tryz.checked) false (laidWorld os) #[.string ⟨#[]⟩, .int .u8 0, .int .u8 0] rfl (by kernel_rfl) (by kernel_rfl) (by kernel_rfl)
      (OpenSpec.preRow_of_cond 8 hx (by kernel_rfl) (fun k hk => by cases hk) (by kernel_rfl) (laid_met os _))) ?_
  intro W base args ds gs before hval hW _ _ _ hL hS _
  exact contract H enc W base args ds gs before hval hW (hasEnt_of_laid (by rfl) hL hS)

theorem said : Rows.FnFenceLongerSaid :=
  OpenClaim.holds_of_cond 3 Tryz.f3 rfl rfl rfl rfl rfl rfl rfl ⟨rfl, rfl, rfl, rfl, rfl⟩ rfl rfl rfl rfl rfl named Tryz.func3 closed inst wrap
    (fun os started H enc _ F => by rw [OpenClaim.pre_eq_preRow]; exact lifted os started H enc F)

theorem plain (f : FuncId) (fn : Func) (hf : Tryz.pinned.checked.prog.funcNamed "pub-paratext/laws.FnFenceLonger" = some f) (hfn : Tryz.pinned.checked.prog.funcs[f]? = some fn) :
    true = Tryz.pinned.checked.prog.looks [] ∧ ∀ (j : Nat) t, fn.params[j]? = some t → Tryz.pinned.checked.prog.wantsStandIn t = false := by
  obtain rfl : f = 3 := Option.some.inj (named.symm.trans hf) |>.symm
  obtain rfl : fn = Tryz.f3 := (Option.some.inj (Tryz.func3.symm.trans hfn)).symm
  refine ⟨looks, fun j t ht => ?_⟩
  rw [Tryz.params3] at ht
  have h : t = 9 ∨ t = 5 := by simpa using Array.mem_of_getElem? ht
  rcases h with rfl | rfl
  · exact noStandS
  · exact noStand5

theorem card : Rows.FnFenceLongerCardSaid :=
  Claim7.holds_tied_plain_at .later [] _ _ _ _ said (fun _ h => by cases h) wfBy (fun _ h => by cases h) fnFenceLonger_row_tie rfl ⟨rfl, rfl⟩ mainIs rfl plain goes
end Go.Proofs.YtmcjhcfhglfmlaaGreatDoor.fnFenceLonger
