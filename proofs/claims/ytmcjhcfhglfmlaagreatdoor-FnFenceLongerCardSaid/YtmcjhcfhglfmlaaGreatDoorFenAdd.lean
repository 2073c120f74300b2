/- A line within a fence of tildes, and the line that ends it. -/
import Derived.Test.YtmcjhcfhglfmlaaGreatDoorFence5
namespace Go.Proofs.YtmcjhcfhglfmlaaGreatDoor
open Go.RowKit
theorem IsStack.shape {w : World} {B : Nat} {s : Sl} {es : List Ent} (h : IsStack w B s es) (hn : 0 < es.length) : ∃ sb cap cs, s = ⟨some ⟨sb, 0, none⟩, es.length, cap⟩ ∧ Blk w sb 121 cs ∧ es.length ≤ cap ∧ cap * 4 ≤ cs.size ∧ B ≤ sb := by
  obtain ⟨h0, h1, h2⟩ := h
  rcases h2 with ⟨_, h2⟩ | ⟨g, cap, cur, h3, hb, hh, h4, _, h5, _⟩
  · omega
  · obtain ⟨a, n, c⟩ := s
    simp only [Sl.v, Value.slice.injEq] at h3
    obtain ⟨rfl, _, rfl⟩ := h3
    dsimp only at h0
    subst h0
    exact ⟨g, c, cur, rfl, hh, h4, by omega, hb⟩
theorem atLine_of {w : World} {g B sb cap n k : Nat} {lineno : Int} {r : PSr} {es : List Ent} (hps : IsPS w g r) (hd : r.lineDepth = k) (hl : r.lineno = lineno) (hs : r.stack = ⟨some ⟨sb, 0, none⟩, n, cap⟩) (hst : IsStack w B r.stack es) (hn : es.length = n) (h0 : 0 < n) (hm : n ≤ 1000000) : AtLine g sb cap n lineno k w := by
  subst hn
  obtain ⟨sb', cap', cs, h1, h2, h3, h4, _⟩ := hst.shape h0
  rw [hs] at h1
  simp only [Sl.mk.injEq, Option.some.injEq, Addr.mk.injEq] at h1
  obtain ⟨⟨rfl, _⟩, _, rfl⟩ := h1
  exact ⟨r, cs, hps, hd, hl, hs, h2, h3, h4, hm⟩
theorem Mod.lnKept {base g : Nat} {a w w' : World} (h : Mod (fun k => g ≤ k) a w) (hk : LnKept base w w') (hg : g ≤ base) : Mod (fun k => g ≤ k) a w' := h.trans hk (fun k _ ⟨hb, _⟩ => by omega)
theorem IsFen.lnKept {base B fb m : Nat} {w w' : World} {v : Sl} {ls : List Value} (h : IsFen w B fb m v ls) (hk : LnKept base w w') : IsFen w' B fb m v ls := by
  obtain ⟨cf, h1, h2, h3, h4, h5⟩ := h
  exact ⟨cf, h1, h2, h3.lnKept hk (by decide), own_lnKept h4 hk (by decide), h5⟩
theorem IsFen.far {B fb m : Nat} {w : World} {v : Sl} {ls : List Value} (h : IsFen w B fb m v ls) {p : Addr} {t : TypeId} {cs : Array Value} (hp : Blk w p.block t cs) (h1 : t ≠ 253) (h2 : t ≠ 9) (u : Value) : IsFen (w.setCell p u) B fb m v ls := by
  obtain ⟨cf, a1, a2, a3, a4, a5⟩ := h
  exact ⟨cf, a1, a2, a3.far (Blk.ne_ a3 hp h1.symm) u, own_far a4 (own_ne a4 hp h2.symm) u, a5⟩
theorem HasEnt.lnKept {base : Nat} {w w' : World} (h : HasEnt w) (hk : LnKept base w w') : HasEnt w' := Blk.lnKept h hk (by decide)
/-- The end line of the top entry, put in. -/
theorem IsStack.endLine {w : World} {B sb cap : Nat} {e0 e1 : Ent} {st : Sl} (hst : IsStack w B st ([] ++ [e0] ++ [e1])) (hs : st = ⟨some ⟨sb, 0, none⟩, 2, cap⟩) (x : Int) : IsStack (w.setCell ⟨sb, (0 + 1) * 4 + 3, none⟩ (.int .i64 x)) B st ([] ++ [e0] ++ [{ e1 with el := x }]) := by
  refine ⟨hst.1, ?_⟩
  have s0 := hst.2
  rw [hs] at s0 ⊢
  have s1 := (s0.stored 7 (.int .i64 x)).1
  simpa [Ent.cells] using s1
def FenLineP (B g fb m : Nat) (r : PSr) (e0 : Ent) (v : Sl) (ls : List Value) (sl : Int) (txt : ByteArray) (nl : Int) (w w' : World) : Prop :=
  ∃ (v' : Sl) (el : Int), v'.n = v.n + 1 ∧ IsPS w' g { r with lineDepth := 1, corner := r.corner || !(nl == 10) } ∧ IsStack w' B r.stack ([] ++ [e0] ++ [fenE fb sl el]) ∧ IsFen w' B fb m v' (ls ++ [.string txt]) ∧ Mod (fun k => g ≤ k) w w'
/-- Ahead of the builder. -/
def FenJ0 (B g fb m : Nat) (r : PSr) (e0 : Ent) (v : Sl) (ls : List Value) (sl el : Int) (w w' : World) : Prop :=
  IsPS w' g { r with lineDepth := 0 } ∧ IsStack w' B r.stack ([] ++ [e0] ++ [fenE fb sl el]) ∧ IsFen w' B fb m v ls ∧ HasEnt w' ∧ Mod (fun k => g ≤ k) w w'
def FenP0 (B g fb m : Nat) (r : PSr) (e0 : Ent) (v : Sl) (ls : List Value) (sl el : Int) (txt : ByteArray) (nl : Int) (w w' : World) : Prop :=
  ∃ v' : Sl, v'.n = v.n + 1 ∧ IsPS w' g { r with lineDepth := 0, corner := r.corner || !(nl == 10) } ∧ IsStack w' B r.stack ([] ++ [e0] ++ [fenE fb sl el]) ∧ IsFen w' B fb m v' (ls ++ [.string txt]) ∧ Mod (fun k => g ≤ k) w w'
theorem FenLineP.lnKept {base B g fb m : Nat} {r : PSr} {e0 : Ent} {v : Sl} {ls : List Value} {sl nl : Int} {txt : ByteArray} {w w1 w2 : World} (h : FenLineP B g fb m r e0 v ls sl txt nl w w1) (hk : LnKept base w1 w2) (hg : g ≤ base) : FenLineP B g fb m r e0 v ls sl txt nl w w2 := by
  obtain ⟨v', el, h1, h2, h3, h4, h5⟩ := h
  exact ⟨v', el, h1, h2.lnKept hk, h3.lnKept hk, h4.lnKept hk, h5.lnKept hk hg⟩
theorem FenJ0.lnKept {base B g fb m : Nat} {r : PSr} {e0 : Ent} {v : Sl} {ls : List Value} {sl el : Int} {w w1 w2 : World} (h : FenJ0 B g fb m r e0 v ls sl el w w1) (hk : LnKept base w1 w2) (hg : g ≤ base) : FenJ0 B g fb m r e0 v ls sl el w w2 :=
  ⟨h.1.lnKept hk, h.2.1.lnKept hk, h.2.2.1.lnKept hk, h.2.2.2.1.lnKept hk, h.2.2.2.2.lnKept hk hg⟩
theorem FenP0.lnKept {base B g fb m : Nat} {r : PSr} {e0 : Ent} {v : Sl} {ls : List Value} {sl el nl : Int} {txt : ByteArray} {w w1 w2 : World} (h : FenP0 B g fb m r e0 v ls sl el txt nl w w1) (hk : LnKept base w1 w2) (hg : g ≤ base) : FenP0 B g fb m r e0 v ls sl el txt nl w w2 := by
  obtain ⟨v', h1, h2, h3, h4, h5⟩ := h
  exact ⟨v', h1, h2.lnKept hk, h3.lnKept hk, h4.lnKept hk, h5.lnKept hk hg⟩
set_option maxRecDepth 20000 in
theorem addLine_fen (B g fb m : Nat) (r : PSr) (e0 : Ent) (v : Sl) (ls : List Value) (sl el nl : Int) (s : ByteArray) (w : World) (hgB : g < B) (hB : B ≤ w.heap.size) (hps : IsPS w g r) (hst : IsStack w B r.stack ([] ++ [e0] ++ [fenE fb sl el])) (hfen : IsFen w B fb m v ls) (hm3 : 3 ≤ m) (hvn : v.n ≤ 1000) (hent : HasEnt w)
    (hs : s.size ≤ 10000) (ht : ∀ k, bt s k ≠ 9) (hnt : ∀ k, bt s k ≠ 126) :
    Calls Tryz.prog 57 #[.pointer (some ⟨g, 0, none⟩), lnV 0 0 s nl] w fun e w' => e = .returned (.tuple #[]) ∧ FenLineP B g fb m r e0 v ls sl s nl w w' := by
  obtain ⟨sb, cap, cs0, hsh, hsbb, _, _, hBs⟩ := hst.shape (by simp)
  have hsh2 : r.stack = ⟨some ⟨sb, 0, none⟩, 2, cap⟩ := by rw [hsh]; rfl
  have hgs : g ≤ w.heap.size := Nat.le_of_lt hps.lt
  have hgb : g ≠ sb := Blk.ne_ hps hsbb (by decide)
  refine addLine_gen g sb cap 2 r.lineno
    (fun k l w' => (k = 0 ∧ l = ⟨0, s, nl⟩ ∧ FenJ0 B g fb m r e0 v ls sl el w w') ∨ (k = 1 ∧ l = Ln.nil ∧ FenLineP B g fb m r e0 v ls sl s nl w w'))
    (fun d l w' => d = 1 ∧ l = Ln.nil ∧ FenLineP B g fb m r e0 v ls sl s nl w w')
    (fun k l l' ok w' => k = 0 ∧ l = ⟨0, s, nl⟩ ∧ l' = Ln.nil ∧ ok = true ∧ FenP0 B g fb m r e0 v ls sl el s nl w w')
    (FenLineP B g fb m r e0 v ls sl s nl w) ⟨0, s, nl⟩ w r hps ⟨Nat.zero_le _, by show s.size ≤ 1000000; omega⟩ rfl ?_ ?_
  · refine { pos := by omega, atJ := ?_, atP := ?_, atE := ?_, keepJ := ?_, keepP := ?_, keepE := ?_, keepQ := ?_, ext := ?_, yes := ?_, no := ?_, last := ?_, blank := ?_, start := ?_ }
    · rintro k l w' (⟨rfl, rfl, h1, h2, _⟩ | ⟨rfl, rfl, v', el', _, h1, h2, _⟩)
      · exact ⟨atLine_of h1 rfl rfl hsh2 h2 rfl (by omega) (by omega), by omega⟩
      · exact ⟨atLine_of h1 rfl rfl hsh2 h2 rfl (by omega) (by omega), by omega⟩
    · rintro k l l' ok w' ⟨rfl, rfl, rfl, rfl, v', _, h1, h2, _⟩
      exact atLine_of h1 rfl rfl hsh2 h2 rfl (by omega) (by omega)
    · rintro d l w' ⟨rfl, rfl, v', el', _, h1, h2, _⟩
      exact ⟨atLine_of h1 rfl rfl hsh2 h2 rfl (by omega) (by omega), by omega⟩
    · rintro k l w1 w2 (⟨h1, h2, h3⟩ | ⟨h1, h2, h3⟩) hk
      · exact .inl ⟨h1, h2, h3.lnKept hk hgs⟩
      · exact .inr ⟨h1, h2, h3.lnKept hk hgs⟩
    · rintro k l l' ok w1 w2 ⟨h1, h2, h3, h4, h5⟩ hk
      exact ⟨h1, h2, h3, h4, h5.lnKept hk hgs⟩
    · rintro d l w1 w2 ⟨h1, h2, h3⟩ hk
      exact ⟨h1, h2, h3.lnKept hk hgs⟩
    · intro w1 w2 h hk
      exact h.lnKept hk hgs
    · rintro k l w' (⟨rfl, rfl, h1, h2, h3, h4, h5⟩ | ⟨rfl, _⟩) hkn hok
      · have htop := h2.top
        obtain ⟨sb', cap', hv', _, _, _, _, _, c0, _⟩ := htop
        rw [hsh2] at hv'
        simp only [Sl.mk.injEq, Option.some.injEq, Addr.mk.injEq] at hv'
        obtain ⟨⟨rfl, _⟩, _⟩ := hv'
        refine ⟨_, _, _, _, c0, fen_ext_via fb, Go.Proofs.enters_of Tryz.func335 (by kernel_rfl) rfl, Ln.nil, true, Ln.nil_ok, ?_⟩
        refine (fen_extend B g fb m { r with lineDepth := 0 } v ls nl s w' (Nat.le_trans hB h5.size) h1 h3 hm3 hvn h4 hs ht hnt).mono ?_
        rintro e w3 ⟨rfl, ⟨v', hv1, hp3, hf3, hm'⟩, hk3⟩
        obtain ⟨cf, _, _, hcf, hrow, hBf⟩ := h3
        refine ⟨rfl, ⟨rfl, rfl, rfl, rfl, v', hv1, hp3, ?_, hf3, ?_⟩, hm'.size, fun lb cs _ h => hk3 lb cs h⟩
        · exact h2.mod hm' (fun k hk e => by
            rcases e with e | e | e
            · subst e; exact own_ne h2.2 h1 (by decide) hk.symm
            · subst e; exact own_ne h2.2 hcf (by decide) hk.symm
            · exact ownApart h2.2 hrow (by decide) hk e.symm)
        · refine h5.trans hm' (fun k hk e => ?_)
          rcases e with e | e | e
          · omega
          · omega
          · have := ownBase hrow e; omega
      · omega
    · rintro k l l' w' ⟨rfl, rfl, rfl, _, v', hv1, hp, hs2, hf, hmm⟩ _
      refine .inr ⟨rfl, rfl, ?_⟩
      have key : ∀ (w2 : World) (el2 : Int), IsPS w2 g { r with lineDepth := 0, corner := r.corner || !(nl == 10) } → IsStack w2 B r.stack ([] ++ [e0] ++ [fenE fb sl el2]) → IsFen w2 B fb m v' (ls ++ [.string s]) → Mod (fun k => g ≤ k) w w2 → FenLineP B g fb m r e0 v ls sl s nl w (w2.setCell ⟨g, 5, none⟩ (.int .i64 (((0 : Nat) : Int) + 1))) := fun w2 el2 a1 a2 a3 a4 =>
        ⟨v', el2, hv1, a1.set5 1, a2.far (p := ⟨g, 5, none⟩) (own_ne a2.2 a1 (by decide)) _, a3.far (p := ⟨g, 5, none⟩) a1 (by decide) (by decide) _, a4.setCell (p := ⟨g, 5, none⟩) (.inl (Nat.le_refl _)) _⟩
      unfold updW
      split
      · obtain ⟨sb', cap', cs2, h1, hsb2, _⟩ := hs2.shape (by simp)
        rw [hsh2] at h1
        simp only [Sl.mk.injEq, Option.some.injEq, Addr.mk.injEq] at h1
        obtain ⟨⟨rfl, _⟩, _⟩ := h1
        exact key _ r.lineno (hp.far (p := ⟨sb, (0 + 1) * 4 + 3, none⟩) hgb _) (hs2.endLine hsh2 r.lineno) (hf.far (p := ⟨sb, (0 + 1) * 4 + 3, none⟩) hsb2 (by decide) (by decide) _) (hmm.setCell (p := ⟨sb, (0 + 1) * 4 + 3, none⟩) (.inl (by show g ≤ sb; omega)) _)
      · exact key _ el hp hs2 hf hmm
    · rintro k l l' w' ⟨_, _, _, h, _⟩
      cases h
    · rintro l w' (⟨h, _⟩ | ⟨_, rfl, h⟩)
      · cases h
      · exact ⟨rfl, rfl, h⟩
    · rintro d l w' ⟨rfl, rfl, v', el', hv1, h1, h2, h3, h4⟩ _
      refine (trimStack_none g _ w' _ h1 ?_).mono ?_
      · show _ = ((r.stack.n : Nat) : Int)
        rw [hsh2]; rfl
      · rintro e w2 ⟨rfl, rfl⟩
        exact ⟨rfl, v', el', hv1, h1, h2, h3, h4⟩
    · intro d l hbl hok
      refine ⟨8, Nat.le_refl _, ?_, ?_, ?_⟩
      · rintro i f w' _ _ ⟨_, rfl, _⟩
        rw [Ln.nil_blank] at hbl; cases hbl
      · rintro f w' hf
        cases hf
      · rintro _ w' ⟨_, rfl, _⟩
        rw [Ln.nil_blank] at hbl; cases hbl
  · refine .inl ⟨rfl, rfl, hps.set5 0, hst.far (p := ⟨g, 5, none⟩) (own_ne hst.2 hps (by decide)) _, hfen.far (p := ⟨g, 5, none⟩) hps (by decide) (by decide) _, hent.far (p := ⟨g, 5, none⟩) (Blk.ne_ hent hps (by decide)) _, (Mod.refl _ _).setCell (p := ⟨g, 5, none⟩) (.inl (Nat.le_refl _)) _⟩
/-- What the line that ends the fence leaves. -/
def FenEndP (B g : Nat) (r : PSr) (a : Option Addr) (ls : List Value) (w w' : World) : Prop :=
  ∃ (st v1 : Sl) (cb : Nat) (sl el : Int) (cf : ByteArray) (v : Sl), IsPS w' g { r with lineDepth := 0, stack := st } ∧ IsStack w' B st ([] ++ [⟨98, .pointer a, v1, 0, 0⟩]) ∧ v1.n = 1 ∧ w'.ownsRow B 68 1 v1.v 1 [fcbV cb] ∧
    0 < cf.size ∧ Blk w' cb 369 #[.int .i64 sl, .int .i64 el, .string cf, .string ⟨#[]⟩, v.v] ∧ w'.ownsRow B 9 1 v.v v.n ls ∧ Mod (fun k => g ≤ k) w w'
theorem FenEndP.lnKept {base B g : Nat} {r : PSr} {a : Option Addr} {ls : List Value} {w w1 w2 : World} (h : FenEndP B g r a ls w w1) (hk : LnKept base w1 w2) (hg : g ≤ base) : FenEndP B g r a ls w w2 := by
  obtain ⟨st, v1, cb, sl, el, cf, v, h1, h2, h3, h4, h5, h6, h7, h8⟩ := h
  exact ⟨st, v1, cb, sl, el, cf, v, h1.lnKept hk, h2.lnKept hk, h3, own_lnKept h4 hk (by decide), h5, h6.lnKept hk (by decide), own_lnKept h7 hk (by decide), h8.lnKept hk hg⟩
set_option maxRecDepth 20000 in
theorem addLine_fenEnd (B g fb m : Nat) (r : PSr) (a : Option Addr) (v : Sl) (ls : List Value) (sl el nl : Int) (s : ByteArray) (w : World) (hgB : g < B) (hB : B ≤ w.heap.size) (hps : IsPS w g r) (hst : IsStack w B r.stack ([] ++ [⟨98, .pointer a, Sl.nil, 0, 0⟩] ++ [fenE fb sl el])) (hfen : IsFen w B fb m v ls) (hm3 : 3 ≤ m) (hent : HasEnt w)
    (hs : s.size ≤ 10000) (hms : m ≤ s.size) (hall : ∀ j, j < s.size → bt s j = 126) :
    Calls Tryz.prog 57 #[.pointer (some ⟨g, 0, none⟩), lnV 0 0 s nl] w fun e w' => e = .returned (.tuple #[]) ∧ FenEndP B g r a ls w w' := by
  obtain ⟨sb, cap, cs0, hsh, hsbb, _, _, hBs⟩ := hst.shape (by simp)
  have hsh2 : r.stack = ⟨some ⟨sb, 0, none⟩, 2, cap⟩ := by rw [hsh]; rfl
  have hgs : g ≤ w.heap.size := Nat.le_of_lt hps.lt
  have hgb : g ≠ sb := Blk.ne_ hps hsbb (by decide)
  refine addLine_gen g sb cap 2 r.lineno
    (fun k l w' => k = 0 ∧ l = ⟨0, s, nl⟩ ∧ FenJ0 B g fb m r ⟨98, .pointer a, Sl.nil, 0, 0⟩ v ls sl el w w')
    (fun d l w' => d = 0 ∧ l = Ln.nil ∧ ∃ el', FenJ0 B g fb m r ⟨98, .pointer a, Sl.nil, 0, 0⟩ v ls sl el' w w')
    (fun k l l' ok w' => k = 0 ∧ l = ⟨0, s, nl⟩ ∧ l' = Ln.nil ∧ ok = false ∧ FenJ0 B g fb m r ⟨98, .pointer a, Sl.nil, 0, 0⟩ v ls sl el w w')
    (FenEndP B g r a ls w) ⟨0, s, nl⟩ w r hps ⟨Nat.zero_le _, by show s.size ≤ 1000000; omega⟩ rfl ?_ ?_
  · refine { pos := by omega, atJ := ?_, atP := ?_, atE := ?_, keepJ := ?_, keepP := ?_, keepE := ?_, keepQ := ?_, ext := ?_, yes := ?_, no := ?_, last := ?_, blank := ?_, start := ?_ }
    · rintro k l w' ⟨rfl, rfl, h1, h2, _⟩
      exact ⟨atLine_of h1 rfl rfl hsh2 h2 rfl (by omega) (by omega), by omega⟩
    · rintro k l l' ok w' ⟨rfl, rfl, rfl, rfl, h1, h2, _⟩
      exact atLine_of h1 rfl rfl hsh2 h2 rfl (by omega) (by omega)
    · rintro d l w' ⟨rfl, rfl, el', h1, h2, _⟩
      exact ⟨atLine_of h1 rfl rfl hsh2 h2 rfl (by omega) (by omega), by omega⟩
    · rintro k l w1 w2 ⟨h1, h2, h3⟩ hk
      exact ⟨h1, h2, h3.lnKept hk hgs⟩
    · rintro k l l' ok w1 w2 ⟨h1, h2, h3, h4, h5⟩ hk
      exact ⟨h1, h2, h3, h4, h5.lnKept hk hgs⟩
    · rintro d l w1 w2 ⟨h1, h2, el', h3⟩ hk
      exact ⟨h1, h2, el', h3.lnKept hk hgs⟩
    · intro w1 w2 h hk
      exact h.lnKept hk hgs
    · rintro k l w' ⟨rfl, rfl, h1, h2, h3, h4, h5⟩ hkn hok
      obtain ⟨sb', cap', hv', _, _, _, _, _, c0, _⟩ := h2.top
      rw [hsh2] at hv'
      simp only [Sl.mk.injEq, Option.some.injEq, Addr.mk.injEq] at hv'
      obtain ⟨⟨rfl, _⟩, _⟩ := hv'
      refine ⟨_, _, _, _, c0, fen_ext_via fb, Go.Proofs.enters_of Tryz.func335 (by kernel_rfl) rfl, Ln.nil, false, Ln.nil_ok, ?_⟩
      refine (fen_close B g fb m v ls nl s w' h3 h4 hs hm3 hms hall).mono ?_
      rintro e w3 ⟨rfl, hb⟩
      have hk0 : LnKept w.heap.size w' w3 := LnKept.below hb
      exact ⟨rfl, ⟨rfl, rfl, rfl, rfl, FenJ0.lnKept ⟨h1, h2, h3, h4, h5⟩ hk0 hgs⟩, hb.size, fun lb cs _ h => Blk.mod h (Mod.below' (S := fun _ => False) hb) (fun x => x)⟩
    · rintro k l l' w' ⟨_, _, _, h, _⟩
      cases h
    · rintro k l l' w' ⟨rfl, rfl, rfl, _, h1, h2, h3, h4, h5⟩ _
      refine ⟨rfl, rfl, ?_⟩
      unfold updW
      split
      · obtain ⟨sb', cap', cs2, e1, hsb2, _⟩ := h2.shape (by simp)
        rw [hsh2] at e1
        simp only [Sl.mk.injEq, Option.some.injEq, Addr.mk.injEq] at e1
        obtain ⟨⟨rfl, _⟩, _⟩ := e1
        exact ⟨r.lineno, h1.far (p := ⟨sb, (0 + 1) * 4 + 3, none⟩) hgb _, h2.endLine hsh2 r.lineno, h3.far (p := ⟨sb, (0 + 1) * 4 + 3, none⟩) hsb2 (by decide) (by decide) _, h4.far (p := ⟨sb, (0 + 1) * 4 + 3, none⟩) (Blk.ne_ h4 hsb2 (by decide)) _, h5.setCell (p := ⟨sb, (0 + 1) * 4 + 3, none⟩) (.inl (by show g ≤ sb; omega)) _⟩
      · exact ⟨el, h1, h2, h3, h4, h5⟩
    · rintro l w' ⟨h, _⟩
      cases h
    · rintro d l w' ⟨rfl, rfl, el', h1, h2, ⟨cf, e1, e2, hcf, hrow, hBf⟩, h4, h5⟩ _
      refine (trimFen_any B g fb { r with lineDepth := 0 } a cf v ls sl el' w' hgB (Nat.le_trans hB h5.size) h1 h2 hcf hrow).mono ?_
      rintro e w2 ⟨rfl, st, v1, cb, a1, a2, a3, a4, a5, a6, a7⟩
      exact ⟨rfl, st, v1, cb, sl, el', cf, v, a1, a2, a3, a4, by omega, a5, a6, h5.trans a7 (fun _ _ h => h)⟩
    · intro d l hbl hok
      refine ⟨8, Nat.le_refl _, ?_, ?_, ?_⟩
      · rintro i f w' _ _ ⟨_, rfl, _⟩
        rw [Ln.nil_blank] at hbl; cases hbl
      · rintro f w' hf
        cases hf
      · rintro _ w' ⟨_, rfl, _⟩
        rw [Ln.nil_blank] at hbl; cases hbl
  · exact ⟨rfl, rfl, hps.set5 0, hst.far (p := ⟨g, 5, none⟩) (own_ne hst.2 hps (by decide)) _, hfen.far (p := ⟨g, 5, none⟩) hps (by decide) (by decide) _, hent.far (p := ⟨g, 5, none⟩) (Blk.ne_ hent hps (by decide)) _, (Mod.refl _ _).setCell (p := ⟨g, 5, none⟩) (.inl (Nat.le_refl _)) _⟩
end Go.Proofs.YtmcjhcfhglfmlaaGreatDoor
