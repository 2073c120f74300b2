/- What a row's own condition says of the table of entities: the block of the variable. -/
import Derived.Test.YtmcjhcfhglfmlaaGreatDoorUnesc
import Derived.Test.YtmcjhcfhglfmlaaGreatDoorLaw
import Derived.Test.YtmcjhcfhglfmlaaGreatDoorCards
import Derived.LaidSub
import Derived.Lib.LaidTab
namespace Go.Proofs.YtmcjhcfhglfmlaaGreatDoor
open Go.RowKit Go.ChangeShapes Go.WideShapes Go.ChangeAt Go.Lib
/-- A pair of strings, as cells. -/
def pairCells (z : List UInt8 × List UInt8) : List Value := [.string ⟨z.1.toArray⟩, .string ⟨z.2.toArray⟩]
def pairData {H : Type} (z : List UInt8 × List UInt8) : DataW H := .agg [.lit (.string z.1), .lit (.string z.2)]
theorem chunks2 : ∀ (zs : List (List UInt8 × List UInt8)) (cs : List Value), cs.length = 2 * zs.length → (∀ i z, zs[i]? = some z → (cs.drop (i * 2)).take 2 = pairCells z) → cs = zs.flatMap pairCells
  | [], cs, hl, _ => by simpa using hl
  | z :: zs, [], hl, _ => by simp at hl
  | z :: zs, [c], hl, _ => by simp at hl; omega
  | z :: zs, c :: d :: cs, hl, h => by
    have h0 := h 0 z rfl
    have ih := chunks2 zs cs (by simp at hl; omega) (fun i y hy => by
      have := h (i + 1) y (by simpa using hy)
      rw [show (i + 1) * 2 = i * 2 + 2 from by omega] at this
      simpa using this)
    simp only [List.flatMap_cons, ← ih]
    simp at h0
    rw [← h0]
    rfl
theorem bytes_back (s : ByteArray) : (⟨s.data.toList.toArray⟩ : ByteArray) = s := by simp
theorem trod_pair {H : Type} {enc : TypeId × Value → H} {P : Program} {w : World} {base : Nat} {sp : Nat → Bool} {held : Bool} {fuel : Nat} {e s : TypeId} {cs : List Value} {z : List UInt8 × List UInt8} {p : List MemPlace}
    (he : P.underlying e = some (.array 2 s)) (hs : P.underlying s = some .string) (hcs : P.cellsOf s = 1) (hce : P.cellsOf e = 2)
    (h : DataW.trod enc P w base sp held fuel e cs = some (pairData z, p)) : cs = pairCells z := by
  cases fuel with
  | zero => simp [DataW.trod] at h
  | succ fuel =>
    simp only [DataW.trod, he, hce, hcs, Nat.mul_one] at h
    split at h
    · rename_i hl
      obtain ⟨xs, hm, hx⟩ := Option.map_eq_some_iff.1 h
      have hxs : xs.map (·.1) = [(DataW.lit (.string z.1) : DataW H), .lit (.string z.2)] := by
        have := congrArg Prod.fst hx
        simpa [pairData] using this
      obtain ⟨b0, hb0, hf0⟩ := mapM_at hm 0 0 (by simp)
      obtain ⟨b1, hb1, hf1⟩ := mapM_at hm 1 1 (by simp)
      obtain ⟨s0, hc0, hz0, _⟩ := DataW.trod_string hs hf0
      obtain ⟨s1, hc1, hz1, _⟩ := DataW.trod_string hs hf1
      match cs, hl with
      | [c0, c1], _ =>
        simp at hc0 hc1
        subst hc0 hc1
        have g0 : (xs.map (·.1))[0]? = some b0.1 := by simp [hb0]
        have g1 : (xs.map (·.1))[1]? = some b1.1 := by simp [hb1]
        rw [hxs] at g0 g1
        subst hz0 hz1
        simp at g0 g1
        simp [pairCells, g0, g1]
    · cases h
theorem cells_of_pairs {H : Type} {enc : TypeId × Value → H} {P : Program} {w : World} {base : Nat} {sp : Nat → Bool} {held : Bool} {fuel : Nat} {t e s : TypeId} {n : Nat} {cs : List Value} {zs : List (List UInt8 × List UInt8)} {p : List MemPlace}
    (ht : P.underlying t = some (.array n e)) (he : P.underlying e = some (.array 2 s)) (hs : P.underlying s = some .string) (hcs : P.cellsOf s = 1) (hce : P.cellsOf e = 2) (hct : P.cellsOf t = n * 2)
    (h : DataW.trod enc P w base sp held fuel t cs = some (.agg (zs.map pairData), p)) : cs = zs.flatMap pairCells := by
  cases fuel with
  | zero => simp [DataW.trod] at h
  | succ fuel =>
    simp only [DataW.trod, ht, hce, hct] at h
    split at h
    · rename_i hl
      obtain ⟨xs, hm, hx⟩ := Option.map_eq_some_iff.1 h
      have hxs : xs.map (·.1) = zs.map pairData := by
        have := congrArg Prod.fst hx
        simpa using this
      have hxl : xs.length = n := by simpa using mapM_length hm
      have hzl : zs.length = n := by
        have := congrArg List.length hxs
        simp at this
        omega
      refine chunks2 zs cs (by omega) fun i z hz => ?_
      have hi : i < n := by
        have := (List.getElem?_eq_some_iff.1 hz).1
        omega
      obtain ⟨b, hb, hf⟩ := mapM_at hm i i (by simp [hi])
      have h2 : (xs.map (·.1))[i]? = some b.1 := by simp [hb]
      rw [hxs, List.getElem?_map, hz] at h2
      obtain ⟨b1, b2⟩ := b
      simp only [Option.map_some, Option.some.injEq] at h2
      subst h2
      exact trod_pair he hs hcs hce hf
    · cases h
def entPairs : List (List UInt8 × List UInt8) := [([38, 97, 109, 112, 59], [38]), ([38, 97, 112, 111, 115, 59], [39]), ([38, 99, 111, 112, 121, 59], [194, 169]), ([38, 102, 114, 97, 99, 51, 52, 59], [194, 190]), ([38, 103, 116, 59], [62]), ([38, 104, 101, 108, 108, 105, 112, 59], [226, 128, 166]), ([38, 108, 116, 59], [60]), ([38, 109, 100, 97, 115, 104, 59], [226, 128, 148]), ([38, 110, 98, 115, 112, 59], [194, 160]), ([38, 110, 100, 97, 115, 104, 59], [226, 128, 147]), ([38, 113, 117, 111, 116, 59], [34]), ([38, 114, 101, 103, 59], [194, 174])]
theorem entPairs_cells : (entPairs.flatMap pairCells) = entC.toList := by rfl
theorem entPairs_data : (Rows.laid_pub_paratext_pub_rscmarkdown_htmlEntities : DataW Unit) = .agg (entPairs.map pairData) := by rfl
theorem ent_under : Tryz.prog.underlying 269 = some (.array 12 268) := by kernel_rfl
theorem ent_under2 : Tryz.prog.underlying 268 = some (.array 2 9) := by kernel_rfl
theorem ent_under3 : Tryz.prog.underlying 9 = some .string := by kernel_rfl
theorem ent_cells3 : Tryz.prog.cellsOf 9 = 1 := by kernel_rfl
theorem ent_cells2 : Tryz.prog.cellsOf 268 = 2 := by kernel_rfl
theorem ent_cells : Tryz.prog.cellsOf 269 = 12 * 2 := by kernel_rfl
theorem ent_named : Tryz.prog.globalNamed "pub-paratext/pub/rscmarkdown.htmlEntities" = some 1 := by kernel_rfl
theorem ent_type : (Tryz.prog.globals[1]?).map (·.type) = some 269 := by kernel_rfl
theorem ent_row : ((((begin Tryz.prog (fun _ _ => 0) default).world.heap[1]?).bind Obj.row?).map (·.2)) = some 269 := by kernel_rfl
theorem ent_glob : 1 < Tryz.prog.globals.size := of_decide_eq_true (by kernel_rfl)
/-- The block of the table, out of a list of variables that bears it. -/
theorem hasEnt_of_laid {laid : List (String × DataW Unit)} {W : World}
    (hf : (laid.filter fun x => x.1 == "pub-paratext/pub/rscmarkdown.htmlEntities") = [("pub-paratext/pub/rscmarkdown.htmlEntities", Rows.laid_pub_paratext_pub_rscmarkdown_htmlEntities)])
    (hL : laidMetH Tryz.prog laid W) (hS : W.ShapedOpen Tryz.prog) : HasEnt W := by
  have h0 := hL.filter fun x => x.1 == "pub-paratext/pub/rscmarkdown.htmlEntities"
  rw [hf] at h0
  have h1 : laidMet Tryz.prog [("pub-paratext/pub/rscmarkdown.htmlEntities", Rows.laid_pub_paratext_pub_rscmarkdown_htmlEntities)] W := h0
  clear h0
  obtain ⟨ps, ⟨g', t', cs, fuel, p, q, hg', ht', hvar, hd, _, _⟩, _⟩ := h1
  obtain rfl := Option.some.inj (ent_named.symm.trans hg')
  obtain rfl := Option.some.inj (ent_type.symm.trans ht')
  rw [entPairs_data] at hd
  have hcs := cells_of_pairs ent_under ent_under2 ent_under3 ent_cells3 ent_cells2 ent_cells hd
  rw [entPairs_cells] at hcs
  have hr := ent_row
  obtain ⟨⟨zero, t⟩, hz, ht2⟩ := Option.map_eq_some_iff.1 hr
  simp only at ht2
  subst ht2
  obtain ⟨cs', hw, _⟩ := hS.1 1 zero _ ent_glob hz
  unfold World.var? at hvar
  rw [ent_named] at hvar
  simp only [Option.bind_some, hw, Option.some.injEq] at hvar
  subst hvar
  have : cs' = entC := by
    apply Array.toList_inj.1
    exact hcs
  subst this
  exact hw
end Go.Proofs.YtmcjhcfhglfmlaaGreatDoor
