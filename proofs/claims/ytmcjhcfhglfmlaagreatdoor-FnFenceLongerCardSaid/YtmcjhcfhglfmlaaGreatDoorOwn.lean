/- What is owned: where it lies. -/
import Derived.Test.YtmcjhcfhglfmlaaGreatDoorBase
namespace Go.Proofs.YtmcjhcfhglfmlaaGreatDoor
open Go.RowKit
theorem ownLt {w : World} {base : Nat} {e : TypeId} {size n : Nat} {v : Value} {xs : List Value} (h : w.ownsRow base e size v n xs) {k : Nat} (hk : some k = v.ownBlock) : k < w.heap.size := by
  rcases h.2 with ⟨rfl, _⟩ | ⟨g', cap, cur, rfl, hb, hh, _⟩
  · simp [Value.ownBlock] at hk
  · simp only [Value.ownBlock, Option.some.injEq] at hk
    subst hk
    exact Blk.lt (t := e) hh
theorem ownBase {w : World} {base : Nat} {e : TypeId} {size n : Nat} {v : Value} {xs : List Value} (h : w.ownsRow base e size v n xs) {k : Nat} (hk : some k = v.ownBlock) : base ≤ k := by
  rcases h.2 with ⟨rfl, _⟩ | ⟨g', cap, cur, rfl, hb, _⟩
  · simp [Value.ownBlock] at hk
  · simp only [Value.ownBlock, Option.some.injEq] at hk
    omega
theorem ownApart {w : World} {base base2 : Nat} {e e2 : TypeId} {size size2 n n2 : Nat} {v v2 : Value} {xs ys : List Value} (h : w.ownsRow base e size v n xs) (h2 : w.ownsRow base2 e2 size2 v2 n2 ys) (hne : e ≠ e2) {k : Nat} (hk : v.ownBlock = some k) : v2.ownBlock ≠ some k := by
  intro hk2
  rcases h.2 with ⟨rfl, _⟩ | ⟨g', cap, cur, rfl, _, hh, _⟩
  · simp [Value.ownBlock] at hk
  · rcases h2.2 with ⟨rfl, _⟩ | ⟨g2, cap2, cur2, rfl, _, hh2, _⟩
    · simp [Value.ownBlock] at hk2
    · simp only [Value.ownBlock, Option.some.injEq] at hk hk2
      subst hk
      subst hk2
      exact Blk.ne_ (t := e) hh hh2 hne rfl
end Go.Proofs.YtmcjhcfhglfmlaaGreatDoor
