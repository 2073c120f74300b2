/- Arguments of a law that are bytes. -/
import Derived.Test.YtmcjhcfhglfmlaaGreatDoorLaw
namespace Go.Proofs.YtmcjhcfhglfmlaaGreatDoor
open Go.RowKit Go.ChangeShapes Go.WideShapes Go.ChangeAt
/-- A byte, as a number below 256. -/
theorem open_byte {H : Type} {enc : TypeId × Value → H} {P : Program} {t : TypeId} (ht : P.underlying t = some (.int .u8)) {W : World} {base : Nat} {v : Value} {d : DataW H} {ps : List MemPlace}
    (hval : Value.okWide P W .any base t v) (h : DataW.Trod enc P W 0 (fun _ => true) true t v d ps) : ∃ n : Nat, v = .int .u8 n ∧ n < 256 := by
  obtain ⟨z, rfl, _, _, hw⟩ := open_int ht hval h
  have h3 : 0 ≤ z ∧ z ≤ 255 := by simpa [Lit.wf, IntKind.min, IntKind.max, IntKind.bits, IntKind.signed] using hw
  obtain ⟨n, rfl⟩ := Int.eq_ofNat_of_zero_le h3.1
  exact ⟨n, rfl, by omega⟩
end Go.Proofs.YtmcjhcfhglfmlaaGreatDoor
