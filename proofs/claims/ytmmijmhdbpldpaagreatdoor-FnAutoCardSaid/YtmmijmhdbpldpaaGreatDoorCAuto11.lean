/- PROVED: with automatic links an address among words is a link to itself, and without them it is text (the law FnAuto returns true). -/
import Derived.Test.YtmmijmhdbpldpaaGreatDoorCAuto10
import Derived.Test.YtmmijmhdbpldpaaGreatDoorCAuto09
import Derived.Test.YtmmijmhdbpldpaaGreatDoorCards
import Derived.Test.YtmmijmhdbpldpaaGreatDoorTie
import Derived.Stop.LaidErr
import Derived.ChangeMaps5
/- The walk of the law FnAuto: for all words it returns true. -/

namespace Go.Proofs.YtmmijmhdbpldpaaGreatDoor
open Go.RowKit
theorem http_no {sec : Bool} {a d e p b : List UInt8} (H : HttpL a d e p b) : 10 ∉ httpT sec a d e p b ∧ 13 ∉ httpT sec a d e p b ∧ 0 ∉ httpT sec a d e p b := by
  have key : ∀ c ∈ httpT sec a d e p b, c ≠ 10 ∧ c ≠ 13 ∧ c ≠ 0 := fun c hc => by
    have := httpT_mem H hc
    revert this
    exact (by decide : ∀ c ∈ acs, c ≠ 10 ∧ c ≠ 13 ∧ c ≠ 0) c
  exact ⟨fun h => (key _ h).1 rfl, fun h => (key _ h).2.1 rfl, fun h => (key _ h).2.2 rfl⟩
theorem http_91 {sec : Bool} {a d e p b : List UInt8} (H : HttpL a d e p b) : bt ⟨(httpT sec a d e p b).toArray⟩ 0 ≠ 91 :=
  bt_mem _ 0 (fun z => z ≠ 91) (by decide) (fun c hc => by
    have := httpT_mem H hc
    revert this
    exact (by decide : ∀ c ∈ acs, (c.toNat : Int) ≠ 91) c)
theorem httpO_len {sec : Bool} {a d e p b : List UInt8} (H : HttpL a d e p b) : (httpO sec a d e p b).length ≤ 2000 := by
  have h2 := adrS_len d e p
  have h3 := adrL_len sec d e p
  have h4 := hn_le sec
  have := H.a.len; have := H.d.len; have := H.e.len; have := H.pl; have := H.b.len
  have h5 := esc_len (adrL sec d e p)
  unfold httpO linkOut
  simp only [List.length_append, List.length_cons, List.length_nil]
  omega
theorem HTML_httpA (s : ByteArray) (sec : Bool) (a d e p b : List UInt8) (w : World) (hs : s = ⟨(httpT sec a d e p b).toArray⟩) (H : HttpL a d e p b) :
    Calls Tryz.prog 11 #[.agg #[.bool false, .bool false, .bool true, .bool false, .bool false, .bool false, .bool false, .bool false, .bool false, .bool false], .string s] w fun e' w' => e' = .returned (.string ⟨(paraOut (httpO sec a d e p b)).toArray⟩) ∧ Below w.heap.size w w' := by
  subst hs
  have hl := httpO_len (sec := sec) H
  exact HTML_par autoO (httpT sec a d e p b) _ w (httpT_line H) (http_no H) (http_91 H) (inlC_http H) rfl (by omega)
theorem HTML_httpP (s : ByteArray) (sec : Bool) (a d e p b : List UInt8) (w : World) (hs : s = ⟨(httpT sec a d e p b).toArray⟩) (H : HttpL a d e p b) :
    Calls Tryz.prog 11 #[.agg #[.bool false, .bool false, .bool false, .bool false, .bool false, .bool false, .bool false, .bool false, .bool false, .bool false], .string s] w fun e' w' => e' = .returned (.string ⟨(paraOut (httpT sec a d e p b)).toArray⟩) ∧ Below w.heap.size w w' := by
  subst hs
  have hl := httpT_sz (sec := sec) H
  exact HTML_par plainO (httpT sec a d e p b) _ w (httpT_line H) (http_no H) (http_91 H) (inlC_httpP H) rfl (by omega)
def adrB (sec : Bool) (d e p : List UInt8) : ByteArray := ((((httpB sec ++ ByteArray.mk d.toArray) ++ ByteArray.mk #[46]) ++ ByteArray.mk e.toArray) ++ ByteArray.mk #[47]) ++ ByteArray.mk p.toArray
theorem adrB_is (sec : Bool) (d e p : List UInt8) : adrB sec d e p = ⟨(adrL sec d e p).toArray⟩ := by
  have h : httpB sec = ⟨(httpL sec).toArray⟩ := by cases sec <;> rfl
  unfold adrB adrL adrS
  rw [h, show ByteArray.mk #[46] = ⟨[46].toArray⟩ from rfl, show ByteArray.mk #[47] = ⟨[47].toArray⟩ from rfl]
  simp only [cat_lists]
  simp
theorem http_text (sec : Bool) (a d e p b : List UInt8) : (((ByteArray.mk a.toArray ++ ByteArray.mk #[32]) ++ adrB sec d e p) ++ ByteArray.mk #[32]) ++ ByteArray.mk b.toArray = ⟨(httpT sec a d e p b).toArray⟩ := by
  rw [adrB_is, show ByteArray.mk #[32] = ⟨[32].toArray⟩ from rfl]
  simp only [cat_lists]
  simp [httpT]
theorem http_outA {sec : Bool} {a d e p b : List UInt8} (H : HttpL a d e p b) : (ByteArray.mk (paraOut (httpO sec a d e p b)).toArray) = (((((((ByteArray.mk #[60, 112, 62] ++ ByteArray.mk a.toArray) ++ ByteArray.mk #[32, 60, 97, 32, 104, 114, 101, 102, 61, 34]) ++ adrB sec d e p) ++ ByteArray.mk #[34, 62]) ++ adrB sec d e p) ++ ByteArray.mk #[60, 47, 97, 62, 32]) ++ ByteArray.mk b.toArray) ++ ByteArray.mk #[60, 47, 112, 62, 10] := by
  have he : esc (adrL sec d e p) = adrL sec d e p := acs_esc _ (fun c hc => by
    have := adrL_mem H hc
    revert this
    exact (by decide : ∀ c ∈ wcs ++ [46, 47, 58, 104, 116, 112, 115], c ∈ acs) c)
  rw [adrB_is, show ByteArray.mk #[60, 112, 62] = ⟨[60, 112, 62].toArray⟩ from rfl, show ByteArray.mk #[32, 60, 97, 32, 104, 114, 101, 102, 61, 34] = ⟨[32, 60, 97, 32, 104, 114, 101, 102, 61, 34].toArray⟩ from rfl, show ByteArray.mk #[34, 62] = ⟨[34, 62].toArray⟩ from rfl, show ByteArray.mk #[60, 47, 97, 62, 32] = ⟨[60, 47, 97, 62, 32].toArray⟩ from rfl, show ByteArray.mk #[60, 47, 112, 62, 10] = ⟨[60, 47, 112, 62, 10].toArray⟩ from rfl]
  simp only [cat_lists]
  unfold paraOut httpO linkOut
  rw [he]
  simp
theorem http_outP (sec : Bool) (a d e p b : List UInt8) : (ByteArray.mk (paraOut (httpT sec a d e p b)).toArray) = (ByteArray.mk #[60, 112, 62] ++ ((((ByteArray.mk a.toArray ++ ByteArray.mk #[32]) ++ adrB sec d e p) ++ ByteArray.mk #[32]) ++ ByteArray.mk b.toArray)) ++ ByteArray.mk #[60, 47, 112, 62, 10] := by
  rw [http_text, show ByteArray.mk #[60, 112, 62] = ⟨[60, 112, 62].toArray⟩ from rfl, show ByteArray.mk #[60, 47, 112, 62, 10] = ⟨[60, 47, 112, 62, 10].toArray⟩ from rfl]
  simp only [cat_lists]
  simp [paraOut]
set_option maxRecDepth 20000 in
set_option maxHeartbeats 4000000 in
theorem law_auto (a d e p b : List UInt8) (sec : Bool) (w : World) (la : a.length ≤ 9223372036854775807) (ld : d.length ≤ 9223372036854775807) (le : e.length ≤ 9223372036854775807) (lp : p.length ≤ 9223372036854775807) (lb : b.length ≤ 9223372036854775807) :
    Calls Tryz.prog 3 #[.string ⟨a.toArray⟩, .string ⟨d.toArray⟩, .string ⟨e.toArray⟩, .string ⟨p.toArray⟩, .string ⟨b.toArray⟩, .bool sec] w fun e' w' => e' = .returned (.bool true) ∧ Below w.heap.size w w' := by
  have sa := sz_mk a
  have sd := sz_mk d
  have se := sz_mk e
  have sp := sz_mk p
  have sb := sz_mk b
  by_cases ba : a.length ≤ 2147483647
  · skip
    by_cases bd : d.length ≤ 2147483647
    · skip
      by_cases be : e.length ≤ 2147483647
      · skip
        by_cases bp : p.length ≤ 2147483647
        · skip
          by_cases bb : b.length ≤ 2147483647
          · skip
            have WA := hid (word_any a w la)
            have WD := hid (word_any d w ld)
            have WE := hid (word_any e w le)
            have WB := hid (word_any b w lb)
            have WP := hid (only_any p [97, 98, 47] 20 w (by omega) lp)
            go_enter Tryz.func3, Tryz.ntmps3
            go_wp2_with fail
            refine WA.out.mono ?_
            rintro e1 w1 ⟨⟨q, rfl, hq⟩, rfl⟩
            cases q with
            | false =>
              go_wp2_with fail
              go_ret
              exact ⟨rfl, Below.refl _ _⟩
            | true =>
              have HA := hid (hq rfl)
              clear hq WA
              go_wp2_with fail
              refine WB.out.mono ?_
              rintro e1 w1 ⟨⟨q, rfl, hq⟩, rfl⟩
              cases q with
              | false =>
                go_wp2_with fail
                go_ret
                exact ⟨rfl, Below.refl _ _⟩
              | true =>
                have HB := hid (hq rfl)
                clear hq WB
                go_wp2_with fail
                refine WD.out.mono ?_
                rintro e1 w1 ⟨⟨q, rfl, hq⟩, rfl⟩
                cases q with
                | false =>
                  go_wp2_with fail
                  go_ret
                  exact ⟨rfl, Below.refl _ _⟩
                | true =>
                  have HD := hid (hq rfl)
                  clear hq WD
                  go_wp2_with fail
                  refine WE.out.mono ?_
                  rintro e1 w1 ⟨⟨q, rfl, hq⟩, rfl⟩
                  cases q with
                  | false =>
                    go_wp2_with fail
                    go_ret
                    exact ⟨rfl, Below.refl _ _⟩
                  | true =>
                    have HE := hid (hq rfl)
                    clear hq WE
                    go_wp2_with fail
                    refine WP.out.mono ?_
                    rintro e1 w1 ⟨⟨q, rfl, hq⟩, rfl⟩
                    cases q with
                    | false =>
                      go_wp2_with fail
                      go_ret
                      exact ⟨rfl, Below.refl _ _⟩
                    | true =>
                      have HP := hid (hq rfl)
                      clear hq WP
                      have HM := hid (show HttpL a d e p b from ⟨HA.out, HD.out, HE.out, HP.out.1, HP.out.2, HB.out⟩)
                      have ka := HA.out.len
                      have kd := HD.out.len
                      have ke := HE.out.len
                      have kb := HB.out.len
                      have kp := HP.out.1
                      clear HA HD HE HP HB
                      cases sec with
                      | true =>
                        go_wp2_with fail
                        refine (HTML_httpA _ true a d e p b w (http_text true a d e p b) HM.out).mono ?_
                        rintro e1 w1 ⟨rfl, hb1⟩
                        have HB1 := hid hb1
                        clear hb1
                        rw [http_outA HM.out]
                        unfold adrB httpB
                        simp only [if_true]
                        go_wp2_with fail
                        refine (HTML_httpP _ true a d e p b w1 (http_text true a d e p b) HM.out).mono ?_
                        rintro e2 w2 ⟨rfl, hb2⟩
                        have HB2 := hid (HB1.out.trans (hb2.mono HB1.out.size))
                        clear hb2
                        rw [http_outP]
                        unfold adrB httpB
                        simp only [if_true]
                        go_wp2_with fail
                        go_ret
                        exact ⟨rfl, HB2.out⟩
                      | false =>
                        go_wp2_with fail
                        refine (HTML_httpA _ false a d e p b w (http_text false a d e p b) HM.out).mono ?_
                        rintro e1 w1 ⟨rfl, hb1⟩
                        have HB1 := hid hb1
                        clear hb1
                        rw [http_outA HM.out]
                        unfold adrB httpB
                        simp only [Bool.false_eq_true, if_false]
                        go_wp2_with fail
                        refine (HTML_httpP _ false a d e p b w1 (http_text false a d e p b) HM.out).mono ?_
                        rintro e2 w2 ⟨rfl, hb2⟩
                        have HB2 := hid (HB1.out.trans (hb2.mono HB1.out.size))
                        clear hb2
                        rw [http_outP]
                        unfold adrB httpB
                        simp only [Bool.false_eq_true, if_false]
                        go_wp2_with fail
                        go_ret
                        exact ⟨rfl, HB2.out⟩
          · go_enter Tryz.func3, Tryz.ntmps3
            go_wp2_with fail
            go_ret
            exact ⟨rfl, Below.refl _ _⟩
        · go_enter Tryz.func3, Tryz.ntmps3
          go_wp2_with fail
          go_ret
          exact ⟨rfl, Below.refl _ _⟩
      · go_enter Tryz.func3, Tryz.ntmps3
        go_wp2_with fail
        go_ret
        exact ⟨rfl, Below.refl _ _⟩
    · go_enter Tryz.func3, Tryz.ntmps3
      go_wp2_with fail
      go_ret
      exact ⟨rfl, Below.refl _ _⟩
  · go_enter Tryz.func3, Tryz.ntmps3
    go_wp2_with fail
    go_ret
    exact ⟨rfl, Below.refl _ _⟩
end Go.Proofs.YtmmijmhdbpldpaaGreatDoor
/- Arguments of a law that are bytes. -/

namespace Go.Proofs.YtmmijmhdbpldpaaGreatDoor
open Go.RowKit Go.ChangeShapes Go.WideShapes Go.ChangeAt
/-- A byte, as a number below 256. -/
theorem open_byte {H : Type} {enc : TypeId × Value → H} {P : Program} {t : TypeId} (ht : P.underlying t = some (.int .u8)) {W : World} {base : Nat} {v : Value} {d : DataW H} {ps : List MemPlace}
    (hval : Value.okWide P W .any base t v) (h : DataW.Trod enc P W 0 (fun _ => true) true t v d ps) : ∃ n : Nat, v = .int .u8 n ∧ n < 256 := by
  obtain ⟨z, rfl, _, _, hw⟩ := open_int ht hval h
  have h3 : 0 ≤ z ∧ z ≤ 255 := by simpa [Lit.wf, IntKind.min, IntKind.max, IntKind.bits, IntKind.signed] using hw
  obtain ⟨n, rfl⟩ := Int.eq_ofNat_of_zero_le h3.1
  exact ⟨n, rfl, by omega⟩
end Go.Proofs.YtmmijmhdbpldpaaGreatDoor
/- The witness's world, for every law: the settled world, the eight listed variables holding what their initialisers lay. -/




namespace Go.Proofs.YtmmijmhdbpldpaaGreatDoor
open Go.RowKit Go.ChangeShapes Go.WideShapes Go.ChangeAt Go.Lib
/-- The cells of a datum of plain parts. -/
def flat1 : DataW Unit → List Value
  | .lit (.int k n) => [.int k n]
  | .lit (.string s) => [.string ⟨s.toArray⟩]
  | _ => []
def flat2 : DataW Unit → List Value
  | .agg ds => ds.flatMap flat1
  | d => flat1 d
def flat3 : DataW Unit → List Value
  | .agg ds => ds.flatMap flat2
  | d => flat2 d
noncomputable def laidWorld (os : Os) : World :=
  let N := (World.settled Tryz.prog os).heap.size
  let w0 := World.holding Tryz.prog os ⟨#[
    .cells #[.string ⟨#[105, 110, 118, 97, 108, 105, 100, 32, 115, 121, 110, 116, 97, 120]⟩] 310,
    .cells #[.string ⟨#[118, 97, 108, 117, 101, 32, 111, 117, 116, 32, 111, 102, 32, 114, 97, 110, 103, 101]⟩] 310], #[], []⟩
  let put (h : Array Obj) (g : Nat) (cs : Array Value) : Array Obj := h.modify g fun
    | .cells _ t frozen => .cells cs t frozen
    | o => o
  let h1 := put w0.heap 1 (flat3 Rows.laid_pub_paratext_pub_rscmarkdown_htmlEntities).toArray
  let h2 := put h1 2 (flat3 Rows.laid_unicode_utf8_first).toArray
  let h3 := put h2 3 (flat3 Rows.laid_unicode_utf8_acceptRanges).toArray
  let h4 := put h3 4 #[.iface 308 (.pointer (some ⟨N, 0, none⟩))]
  let h5 := put h4 5 #[.iface 308 (.pointer (some ⟨N + 1, 0, none⟩))]
  let h6 := put h5 6 (flat3 Rows.laid_internal_strconv_uint64pow10).toArray
  let h7 := put h6 7 (flat3 Rows.laid_math_bits_deBruijn32tab).toArray
  let h8 := put h7 8 (flat3 Rows.laid_math_bits_deBruijn64tab).toArray
  { w0 with heap := h8 }
noncomputable abbrev N0 : Nat := (World.settled Tryz.prog default).heap.size
set_option maxRecDepth 1000000 in
theorem laid_met (os : Os) (args : Array Value) : laidMet Tryz.prog Rows.fnAutoRow.laid ((laidWorld os).forCall (fun _ _ => 0) ⟨#[], args, []⟩).memory :=
  (LaidIn.of_run [1, 2, 3, 4, 5, 6, 7, 8, N0, N0 + 1] 8 (by kernel_rfl) (by kernel_rfl) (by kernel_rfl) (by kernel_rfl)).met
end Go.Proofs.YtmmijmhdbpldpaaGreatDoor
/- The closed facts that the row of FnAuto asks of the program. -/


namespace Go.Proofs.YtmmijmhdbpldpaaGreatDoor.fnAuto
open Go.ChangeShapes Go.WideShapes Go.ChangeAt Go.RowKit
set_option maxHeartbeats 8000000 in
set_option maxRecDepth 100000 in
theorem closed : joinedFacts Tryz.prog 3 Tryz.f3 (OpenSpec.ofChange Rows.fnAutoSpec).bare Rows.fnAutoRow = true := by
  unfold joinedFacts
  simp only [Bool.and_eq_true]
  repeat' (refine And.intro ?_ ?_)
  all_goals (as_aux_lemma => kernel_rfl)
theorem inst : Tryz.f3.isInstance Tryz.prog Rows.fnAutoRow.origin Rows.fnAutoRow.targs := of_decide_eq_true (by kernel_rfl)
theorem wrap : Tryz.f3.isWrapper Tryz.prog Rows.fnAutoRow.wrapper Rows.fnAutoRow.mainSum := by unfold Func.isWrapper; rw [if_neg (of_decide_eq_false (by kernel_rfl))]; exact ⟨rfl, rfl⟩
theorem looks : true = Tryz.prog.looks [] := by kernel_rfl
theorem named : Tryz.prog.funcNamed "pub-paratext/laws.FnAuto" = some 3 := by kernel_rfl
theorem noStand0 : Tryz.prog.wantsStandIn 9 = false := by kernel_rfl
theorem read0 : Tryz.prog.readableRec 9 = true := by kernel_rfl
theorem lt0 : 9 < Tryz.prog.types.size := of_decide_eq_true (by kernel_rfl)
theorem noStand1 : Tryz.prog.wantsStandIn 4 = false := by kernel_rfl
theorem read1 : Tryz.prog.readableRec 4 = true := by kernel_rfl
theorem lt1 : 4 < Tryz.prog.types.size := of_decide_eq_true (by kernel_rfl)
end Go.Proofs.YtmmijmhdbpldpaaGreatDoor.fnAuto
/- The closed facts that the card of FnAuto asks of the program. -/


namespace Go.Proofs.YtmmijmhdbpldpaaGreatDoor.fnAuto
open Go.ChangeShapes Go.WideShapes Go.ChangeAt Go.RowKit
theorem goes : false = Rows.fnAutoRow.goesBy Tryz.pinned.checked.prog := by kernel_rfl
theorem wfBy : Rows.fnAutoRow.wfByText (OpenSpec.ofChange Rows.fnAutoSpec) = true := by kernel_rfl
theorem mainIs : Tryz.pinned.checked.prog.mainIs = some ((true, "95e68baec09978130d1dc4d5052b3c4126b0390ccf37554e0a187599024dd8dc").1, (true, "95e68baec09978130d1dc4d5052b3c4126b0390ccf37554e0a187599024dd8dc").2.toList) := by kernel_rfl
end Go.Proofs.YtmmijmhdbpldpaaGreatDoor.fnAuto
/- PROVED: with automatic links an address among words is a link to itself, and without them it is text (the law FnAuto returns true). -/






namespace Go.Proofs.YtmmijmhdbpldpaaGreatDoor.fnAuto
open Go.ChangeShapes Go.WideShapes Go.ChangeAt Go.RowKit
theorem bytes_back (s : ByteArray) : (⟨s.data.toList.toArray⟩ : ByteArray) = s := by simp
set_option maxRecDepth 100000 in
/-- What the walk gives, for every argument and every world. -/
theorem contract (H : Type) (enc : TypeId × Value → H) (W : World) (base : Nat) (args : Array Value) (ds gs : List (DataW H)) (before : List MemPlace)
    (hval : ∀ (j : Nat) t v, Tryz.f3.params[j]? = some t → args[j]? = some v → Value.okWide Tryz.prog W .any base t v)
    (hW : DataW.Whole enc Tryz.prog Tryz.f3.params.toList Rows.fnAutoSpec.vars false W args.toList ds gs before) :
    Calls Tryz.prog 3 args W fun e W' => ∃ v, e = .returned v ∧ Rows.fnAutoSpec.post enc Tryz.prog Tryz.f3 false true false false W args v W' := by
  have hW' := hW
  obtain ⟨p, q, hA0, hV, rfl, hfz, hnd⟩ := hW
  have hAk := hA0
  have hA : DataW.TrodAll enc Tryz.prog W 0 (fun _ => true) true Tryz.f3.params.toList args.toList ds p := hA0
  rw [Tryz.params3] at hA hval
  obtain ⟨v0, vs0, d0, ds0, p0, q0, hargs0, rfl, rfl, h0, r0⟩ := trodAll_cons hA
  obtain ⟨v1, vs1, d1, ds1, p1, q1, rfl, rfl, rfl, h1, r1⟩ := trodAll_cons r0
  obtain ⟨v2, vs2, d2, ds2, p2, q2, rfl, rfl, rfl, h2, r2⟩ := trodAll_cons r1
  obtain ⟨v3, vs3, d3, ds3, p3, q3, rfl, rfl, rfl, h3, r3⟩ := trodAll_cons r2
  obtain ⟨v4, vs4, d4, ds4, p4, q4, rfl, rfl, rfl, h4, r4⟩ := trodAll_cons r3
  obtain ⟨v5, vs5, d5, ds5, p5, q5, rfl, rfl, rfl, h5, r5⟩ := trodAll_cons r4
  obtain ⟨rfl, rfl, rfl⟩ := trodAll_nil r5
  obtain rfl : args = #[v0, v1, v2, v3, v4, v5] := by cases args; simp_all
  obtain ⟨rfl, rfl⟩ := trodVars_none hV
  obtain ⟨l0, rfl, _, _, hl0⟩ := Go.ChangeMaps.open_string Tryz.underlying9 (hval 0 9 v0 rfl rfl) h0
  have hll0 : l0.data.toList.length ≤ 9223372036854775807 := by
    have : l0.data.toList.length = l0.size := Array.length_toList
    unfold maxLen at hl0
    omega
  obtain ⟨l1, rfl, _, _, hl1⟩ := Go.ChangeMaps.open_string Tryz.underlying9 (hval 1 9 v1 rfl rfl) h1
  have hll1 : l1.data.toList.length ≤ 9223372036854775807 := by
    have : l1.data.toList.length = l1.size := Array.length_toList
    unfold maxLen at hl1
    omega
  obtain ⟨l2, rfl, _, _, hl2⟩ := Go.ChangeMaps.open_string Tryz.underlying9 (hval 2 9 v2 rfl rfl) h2
  have hll2 : l2.data.toList.length ≤ 9223372036854775807 := by
    have : l2.data.toList.length = l2.size := Array.length_toList
    unfold maxLen at hl2
    omega
  obtain ⟨l3, rfl, _, _, hl3⟩ := Go.ChangeMaps.open_string Tryz.underlying9 (hval 3 9 v3 rfl rfl) h3
  have hll3 : l3.data.toList.length ≤ 9223372036854775807 := by
    have : l3.data.toList.length = l3.size := Array.length_toList
    unfold maxLen at hl3
    omega
  obtain ⟨l4, rfl, _, _, hl4⟩ := Go.ChangeMaps.open_string Tryz.underlying9 (hval 4 9 v4 rfl rfl) h4
  have hll4 : l4.data.toList.length ≤ 9223372036854775807 := by
    have : l4.data.toList.length = l4.size := Array.length_toList
    unfold maxLen at hl4
    omega
  obtain ⟨b5, rfl, _, _⟩ := open_bool Tryz.underlying4 (hval 5 4 v5 rfl rfl) h5
  have hlaw := law_auto l0.data.toList l1.data.toList l2.data.toList l3.data.toList l4.data.toList b5 W hll0 hll1 hll2 hll3 hll4
  rw [bytes_back, bytes_back, bytes_back, bytes_back, bytes_back] at hlaw
  refine hlaw.mono fun e W' ⟨he, hg⟩ => ?_
  subst he
  exact ⟨_, rfl, post_true hW' hAk rfl rfl rfl rfl rfl rfl (by rw [Tryz.params3]; intro t ht; simp at ht; rcases ht with rfl | rfl; (· exact ⟨read0, lt0⟩); exact ⟨read1, lt1⟩) hg⟩

theorem reads (os : Os) {H : Type} (enc : TypeId × Value → H) : ∃ places, DataW.whole enc Tryz.prog ((laidWorld os).forCall (fun _ _ => 0) ⟨#[], #[.string ⟨#[]⟩, .string ⟨#[]⟩, .string ⟨#[]⟩, .string ⟨#[]⟩, .string ⟨#[]⟩, .bool false], []⟩).memory Tryz.f3.params.toList Rows.fnAutoSpec.vars false #[Value.string ⟨#[]⟩, Value.string ⟨#[]⟩, Value.string ⟨#[]⟩, Value.string ⟨#[]⟩, Value.string ⟨#[]⟩, Value.bool false].toList 8 = some ([.lit (.string []), .lit (.string []), .lit (.string []), .lit (.string []), .lit (.string []), .lit (.bool false)], [], places) :=
  ⟨[], by kernel_rfl⟩

set_option maxRecDepth 100000 in
theorem lifted (os : Os) (started : os.Started) (H : Type) (enc : TypeId × Value → H) (F : Stop.Interp) :
    ReturnsInHanded {} Tryz.checked os 3 .any ((OpenSpec.ofChange Rows.fnAutoSpec).preRow enc Tryz.prog Tryz.f3 Rows.fnAutoRow.domain false Rows.fnAutoRow.laid) (((OpenSpec.ofChange Rows.fnAutoSpec).at F).post enc Tryz.prog Tryz.f3 false true false false) := by
  obtain ⟨places, hx⟩ := reads os enc
  refine returnsInHanded_of_row (C := Tryz.checked) (s := OpenSpec.ofChange Rows.fnAutoSpec) own started (by kernel_rfl) Tryz.func3
    (witness_row_atRef (enc := enc) (C := Tryz.checked) false (laidWorld os) #[.string ⟨#[]⟩, .string ⟨#[]⟩, .string ⟨#[]⟩, .string ⟨#[]⟩, .string ⟨#[]⟩, .bool false] rfl (by kernel_rfl) (by kernel_rfl) (by kernel_rfl)
      (OpenSpec.preRow_of_cond 8 hx (by kernel_rfl) (fun k hk => by cases hk) (by kernel_rfl) (laid_met os _))) ?_
  intro W base args ds gs before hval hW _ _ _ _ _ _
  exact contract H enc W base args ds gs before hval hW

theorem said : Rows.FnAutoSaid :=
  OpenClaim.holds_of_cond 3 Tryz.f3 rfl rfl rfl rfl rfl rfl rfl ⟨rfl, rfl, rfl, rfl, rfl⟩ rfl rfl rfl rfl rfl named Tryz.func3 closed inst wrap
    (fun os started H enc _ F => by rw [OpenClaim.pre_eq_preRow]; exact lifted os started H enc F)

theorem plain (f : FuncId) (fn : Func) (hf : Tryz.pinned.checked.prog.funcNamed "pub-paratext/laws.FnAuto" = some f) (hfn : Tryz.pinned.checked.prog.funcs[f]? = some fn) :
    true = Tryz.pinned.checked.prog.looks [] ∧ ∀ (j : Nat) t, fn.params[j]? = some t → Tryz.pinned.checked.prog.wantsStandIn t = false := by
  obtain rfl : f = 3 := Option.some.inj (named.symm.trans hf) |>.symm
  obtain rfl : fn = Tryz.f3 := (Option.some.inj (Tryz.func3.symm.trans hfn)).symm
  refine ⟨looks, fun j t ht => ?_⟩
  rw [Tryz.params3] at ht
  have h : t = 9 ∨ t = 4 := by simpa using Array.mem_of_getElem? ht
  rcases h with rfl | rfl
  · exact noStand0
  · exact noStand1

theorem card : Rows.FnAutoCardSaid :=
  Claim7.holds_tied_plain_at .later [] _ _ _ _ said (fun _ h => by cases h) wfBy (fun _ h => by cases h) fnAuto_row_tie rfl ⟨rfl, rfl⟩ mainIs rfl plain goes
end Go.Proofs.YtmmijmhdbpldpaaGreatDoor.fnAuto
