/- The starter of thematic breaks takes its line. -/
import Derived.Test.YtohokfbjmfjjaaaGreatDoorDone
namespace Go.Proofs.YtohokfbjmfjjaaaGreatDoor
open Go.RowKit
theorem own_lt {w : World} {base : Nat} {e : TypeId} {size n : Nat} {v : Value} {xs : List Value} (h : w.ownsRow base e size v n xs) {k : Nat} (hk : some k = v.ownBlock) : k < w.heap.size := by
  rcases h.2 with ⟨rfl, _⟩ | ⟨g', cap, cur, rfl, _, hh, _⟩
  · simp [Value.ownBlock] at hk
  · simp only [Value.ownBlock, Option.some.injEq] at hk
    subst hk
    exact Blk.lt hh
set_option maxRecDepth 20000 in
set_option maxHeartbeats 4000000 in
theorem newHR_yes (B g i j : Nat) (r : PSr) (es : List Ent) (e0 : Ent) (bs : List Value) (c tb nl : Int) (s : ByteArray) (w : World) (hB : B ≤ w.heap.size) (hps : IsPS w g r) (hst : IsStack w B r.stack (es ++ [e0])) (hd : r.lineDepth = es.length) (hn : es.length ≤ 1000000)
    (hin : w.ownsRow B 45 1 e0.inner.v e0.inner.n bs) (hm : e0.inner.n ≤ 1000000)
    (hs : s.size ≤ 140737488355328) (hij : i ≤ j) (hj3 : j ≤ i + 3) (hsp : ∀ k, i ≤ k → k < j → bt s k = 32) (hjs : j < s.size) (hc : bt s j = c) (hcc : c = 42 ∨ c = 45 ∨ c = 95)
    (hall : ∀ k, j ≤ k → k < s.size → bt s k = c ∨ bt s k = 32) (ht : ∀ k, bt s k ≠ 9) (h3 : 3 ≤ cntB s c j s.size) :
    Calls Tryz.prog 60 #[.pointer (some ⟨g, 0, none⟩), lnV i tb s nl] w fun e w' => e = .returned (.tuple #[lnV 0 0 ⟨#[]⟩ 0, .bool true]) ∧ HRP B g r es e0 bs (s.extract i s.size) w w' ∧ w.heap.size ≤ w'.heap.size ∧ ∀ lb cs, Blk w lb 76 cs → Blk w' lb 76 cs := by
  have HR := hid (isHR_yes i j c tb nl s ((w.alloc (.cells #[.int .i64 0, .int .i64 i, .int .i64 tb, .string s, .int .u8 nl] 76)).alloc (.cells #[.int .i64 0, .int .i64 0, .int .i64 0, .string ⟨#[]⟩, .int .u8 0] 76)) hs hij hj3 hsp hjs hc hcc hall ht h3)
  have his : i ≤ s.size := by omega
  clear hsp hjs hc hcc hall ht h3
  have HPS := hid hps
  have HST := hid hst
  have HIN := hid hin
  clear hps hst hin
  go_enter Tryz.func60, Tryz.ntmps60
  go_wp2_with fail
  refine HR.out.mono ?_
  rintro e w1 ⟨rfl, hb⟩
  have hm1 := Mod.below' (S := fun _ => False) hb
  have hps1 : IsPS w1 g r := ((HPS.out.alloc _).alloc _).mod (S := fun _ => False) hm1 (fun h => h)
  have hst1 : IsStack w1 B r.stack (es ++ [e0]) := ((HST.out.alloc _).alloc _).mod (S := fun _ => False) hm1 (fun _ _ h => h)
  have hin1 : w1.ownsRow B 45 1 e0.inner.v e0.inner.n bs := own_mod (S := fun _ => False) (World.ownsRow.alloc (World.ownsRow.alloc HIN.out _) _) hm1 (fun _ _ h => h)
  have hl1 : IsLn w1 w.heap.size i tb s nl := (Blk.alloc (Blk.new' rfl) _ : Blk _ w.heap.size 76 (lnC i tb s nl)).mod (S := fun _ => False) hm1 (fun h => h)
  have hr1 : Blk w1 (w.heap.size + 1) 76 #[.int .i64 0, .int .i64 0, .int .i64 0, .string ⟨#[]⟩, .int .u8 0] := (Blk.new' (by simp) : Blk _ (w.heap.size + 1) 76 #[.int .i64 0, .int .i64 0, .int .i64 0, .string ⟨#[]⟩, .int .u8 0]).mod (S := fun _ => False) hm1 (fun h => h)
  have hbel : Below w.heap.size w w1 := (((Below.refl _ _).alloc (Nat.le_refl _) _).alloc (by simp) _).trans (hb.mono (by simp; omega))
  have hB1 : B ≤ w1.heap.size := Nat.le_trans hB hbel.size
  have hlt1 := Blk.lt hr1
  have c3 := hps1.c3
  have HP1 := hid hps1
  have HS1 := hid hst1
  have HI1 := hid hin1
  have HL1 := hid hl1
  have HR1 := hid hr1
  have HB1 := hid hbel
  clear hm1 hps1 hst1 hin1 hl1 hr1 hbel hb HR
  go_wp2_with fail
  go_region_with (first
    | (go_at_call 100; refine (string_any w.heap.size i tb nl s _ ?_ hs his).mono ?_; (· exact HL1.out); rintro e w2 ⟨rfl, n2, rfl⟩)
    | (go_at_call 105; refine (doneBlock_top B g r es e0 _ _ _ bs ?_ ?_ ?_ hd hn ?_ hm).mono ?_; (· simp; omega); (· exact IsPS.alloc HP1.out _); (· exact IsStack.alloc HS1.out _); (· exact World.ownsRow.alloc HI1.out _); rintro e w3 ⟨rfl, hdone⟩))
  all_goals
    obtain ⟨v, hv, hps3, hst3, hin3, hmod⟩ := hdone
    have hnr := own_ne HS1.out.2 HR1.out (by decide)
    have hnr2 := own_ne HI1.out HR1.out (by decide)
    have hr3 := Blk.mod (S := fun k => some k = r.stack.v.ownBlock ∨ some k = e0.inner.v.ownBlock) (Blk.alloc (Blk.drewN HR1.out _) (.cells #[.int .i64 r.lineno, .int .i64 r.lineno, .string (s.extract i s.size)] 216)) hmod (fun h => Or.elim h hnr hnr2)
    have ht3 : Blk w3 w1.heap.size 216 #[.int .i64 r.lineno, .int .i64 r.lineno, .string (s.extract i s.size)] := Blk.mod (S := fun k => some k = r.stack.v.ownBlock ∨ some k = e0.inner.v.ownBlock) (Blk.new' (w := World.drewN w1 _) rfl) hmod (fun h => Or.elim h (fun e => absurd (own_lt HS1.out.2 e) (by omega)) (fun e => absurd (own_lt HI1.out e) (by omega)))
    have hm3 : Mod (fun k => some k = r.stack.v.ownBlock ∨ some k = e0.inner.v.ownBlock) w w3 := Mod.trans (by (repeat (with_reducible (first | refine Mod.alloc ?_ _ | refine Mod.drewN ?_ _ | refine Mod.drew ?_))); exact Mod.below' HB1.out) hmod (fun _ _ h => h)
    have r0 := hr3.at_ 0 rfl
    have r1 := hr3.at_ 1 rfl
    have r2 := hr3.at_ 2 rfl
    have r3 := hr3.at_ 3 rfl
    have r4 := hr3.at_ 4 rfl
    have fr := hr3.free
    have HR3 := hid hr3
    have HM3 := hid hm3
    have HT3 := hid ht3
    have HP3 := hid hps3
    have HS3 := hid hst3
    have HI3 := hid hin3
    clear hr3 hm3 ht3 hps3 hst3 hin3 hmod hnr hnr2
    go_wp2_with fail
    have hln := hid (line_zero HR3.out)
    have hmy : Hid (Mod (fun k => k = w.heap.size + 1) w3 _) := hid ((((((Mod.refl (fun k => k = w.heap.size + 1) w3).setCell (p := ⟨w.heap.size + 1, 0, none⟩) (.inl rfl) (.int .i64 0)).setCell (p := ⟨w.heap.size + 1, 1, none⟩) (.inl rfl) (.int .i64 0)).setCell (p := ⟨w.heap.size + 1, 2, none⟩) (.inl rfl) (.int .i64 0)).setCell (p := ⟨w.heap.size + 1, 3, none⟩) (.inl rfl) (.string ⟨#[]⟩)).setCell (p := ⟨w.heap.size + 1, 4, none⟩) (.inl rfl) (.int .u8 0))
    generalize World.setCell _ ⟨w.heap.size + 1, 4, none⟩ _ = wy at hln hmy ⊢
    clear r0 r1 r2 r3 r4 fr
    have hl4 := hln.out
    have k0 := hl4.at_ 0 rfl
    have k1 := hl4.at_ 1 rfl
    have k2 := hl4.at_ 2 rfl
    have k3 := hl4.at_ 3 rfl
    have k4 := hl4.at_ 4 rfl
    clear hl4
    refine bodyPost_ret (by simp [results, Tryz.results60, go_sem, k0, k1, k2, k3, k4]; try rfl) rfl ?_
    have hmf : Mod (fun k => some k = r.stack.v.ownBlock ∨ some k = e0.inner.v.ownBlock) w wy := HM3.out.trans hmy.out (fun k hk e => by omega)
    have hp9 : g ≠ w.heap.size + 1 := Blk.ne_ HP3.out HR3.out (by decide)
    refine ⟨rfl, ⟨w1.heap.size, HB1.out.size, HT3.out.mod hmy.out (fun e => by omega), v, hv, HP3.out.mod hmy.out hp9, HS3.out.mod hmy.out (fun k hk e => own_ne HS3.out.2 HR3.out (by decide) (by rw [hk, e])), own_mod HI3.out hmy.out (fun k hk e => own_ne HI3.out HR3.out (by decide) (by rw [hk, e])), hmf⟩, hmf.size, fun lb cs h => h.mod hmf (fun e => Or.elim e (own_ne HST.out.2 h (by decide)) (own_ne HIN.out h (by decide)))⟩
end Go.Proofs.YtohokfbjmfjjaaaGreatDoor
