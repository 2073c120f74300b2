/- Texts of this proof, joined: Spaces, tabs and line feeds at a text's ends are cut off. (Printed by wip/gen_nl.py out of the elder text on spaces and tabs.), What has been read is passed over, Plain texts that stand side by side become one. -/
import Derived.Test.YtmmijmhdbpldpaaGreatDoorCInt04
import Derived.Test.YtmmijmhdbpldpaaGreatDoorCInt05
import Derived.Test.YtmmijmhdbpldpaaGreatDoorCInt08
/- Spaces, tabs and line feeds at a text's ends are cut off. (Printed by wip/gen_nl.py out of the elder text on spaces and tabs.) -/

namespace Go.Proofs.YtmmijmhdbpldpaaGreatDoor
open Go.RowKit
def isSN (c : UInt8) : Bool := c == 32 || c == 9 || c == 10
def trimNL (l : List UInt8) : List UInt8 := l.dropWhile isSN
theorem isSN_of {c : UInt8} (h : (c.toNat : Int) = 32 ∨ (c.toNat : Int) = 9 ∨ (c.toNat : Int) = 10) : isSN c = true := by
  have : c = 32 ∨ c = 9 ∨ c = 10 := by
    rcases h with h | h | h
    · exact .inl (UInt8.toNat_inj.1 (by simpa using (by omega : c.toNat = 32)))
    · exact .inr (.inl (UInt8.toNat_inj.1 (by simpa using (by omega : c.toNat = 9))))
    · exact .inr (.inr (UInt8.toNat_inj.1 (by simpa using (by omega : c.toNat = 10))))
  rcases this with rfl | rfl | rfl <;> decide
theorem isSN_not {c : UInt8} (h1 : ¬ (c.toNat : Int) = 32) (h2 : ¬ (c.toNat : Int) = 9) (h3 : ¬ (c.toNat : Int) = 10) : isSN c = false := by
  have a1 : c ≠ 32 := fun h => by subst h; exact h1 rfl
  have a2 : c ≠ 9 := fun h => by subst h; exact h2 rfl
  have a3 : c ≠ 10 := fun h => by subst h; exact h3 rfl
  simp [isSN, a1, a2, a3]
def trimNR (l : List UInt8) : List UInt8 := (l.reverse.dropWhile isSN).reverse
theorem trimNR_of (m : List UInt8) (j : Nat) (hj : j ≤ m.length) (h1 : ∀ k c, j ≤ k → m[k]? = some c → isSN c = true) (h2 : ∀ i c, j = i + 1 → m[i]? = some c → isSN c = false) : trimNR m = m.take j := by
  unfold trimNR
  rw [drop_of_while isSN m.reverse (m.length - j), List.drop_reverse, List.reverse_reverse, show m.length - (m.length - j) = j from by omega]
  · intro k c hk hc
    rw [List.getElem?_reverse (by omega)] at hc
    exact h1 _ c (by omega) hc
  · intro c hc
    cases j with
    | zero => rw [List.getElem?_eq_none (by rw [List.length_reverse]; omega)] at hc; cases hc
    | succ i =>
      rw [List.getElem?_reverse (by omega), show m.length - 1 - (m.length - (i + 1)) = i from by omega] at hc
      exact h2 i c rfl hc
def TSN1 (s : ByteArray) (t3 : Value) : Prop := ∃ i : Nat, i ≤ s.size ∧ t3 = .int .i64 i ∧ ∀ k c, k < i → s.data.toList[k]? = some c → isSN c = true
def TSN2 (s : ByteArray) (t4 : Value) : Prop := ∃ j : Nat, j ≤ s.size ∧ t4 = .int .i64 j ∧ ∀ k c, j ≤ k → s.data.toList[k]? = some c → isSN c = true
set_option maxHeartbeats 1600000 in
theorem trimSTN_any (s : ByteArray) (w : World) (hs : s.size ≤ 100000) :
    Calls Tryz.prog 167 #[.string s] w fun e w' => e = .returned (.string ⟨(trimNR (trimNL s.data.toList)).toArray⟩) ∧ w = w' := by
  have hb := get_bt
  have HL := hid (Lib.size_eq s)
  have second : ∀ i, i ≤ s.size → (∀ k c, k < i → s.data.toList[k]? = some c → isSN c = true) → (∀ c, s.data.toList[i]? = some c → isSN c = false) → s.extract i s.size = ⟨(trimNL s.data.toList).toArray⟩ ∧ (trimNL s.data.toList).length = s.size - i := by
    intro i hi h1 h2
    have h3 : trimNL s.data.toList = s.data.toList.drop i := drop_of_while isSN _ i h1 h2
    exact ⟨by rw [extract_end, h3], by rw [h3, List.length_drop, HL.out]⟩
  have SEC := hid second
  clear second
  go_enter Tryz.func167, Tryz.ntmps167
  go_wp2
  go_loop [3] (fun t3 => TSN1 s t3) (fun t3 => s.size - (intOf t3).toNat)
  case atStart => exact ⟨0, Nat.zero_le _, rfl, fun k c h => absurd h (by omega)⟩
  case round =>
    obtain ⟨i, hi, rfl, hsp⟩ := hrel
    have HSP := hid hsp
    clear hsp
    have step : ∀ c, s.data.toList[i]? = some c → isSN c = true → ∀ k d, k < i + 1 → s.data.toList[k]? = some d → isSN d = true := by
      intro c hc hst j d hj hd
      rcases Nat.lt_or_ge j i with h1 | h1
      · exact HSP.out j d h1 hd
      · obtain rfl : j = i := by omega
        rw [hc] at hd; cases hd; exact hst
    have ST := hid step
    clear step
    by_cases hgo : i < s.size ∧ (bt s i = 32 ∨ bt s i = 9 ∨ bt s i = 10)
    · obtain ⟨hlt, hgo⟩ := hgo
      obtain ⟨c, hc, hbt⟩ := bt_at s hlt
      have HC := hid hc
      have HB := hid hbt
      clear hc hbt
      rcases hgo with h1 | h1 | h1
      · go_wp2
        go_round
        case rel => exact ⟨i + 1, by omega, by go_num, ST.out c HC.out (isSN_of (.inl (HB.out ▸ h1)))⟩
        case measure => simp [intOf]; omega
      · go_wp2
        go_round
        case rel => exact ⟨i + 1, by omega, by go_num, ST.out c HC.out (isSN_of (.inr (.inl (HB.out ▸ h1))))⟩
        case measure => simp [intOf]; omega
      · go_wp2
        go_round
        case rel => exact ⟨i + 1, by omega, by go_num, ST.out c HC.out (isSN_of (.inr (.inr (HB.out ▸ h1))))⟩
        case measure => simp [intOf]; omega
    · have hend : ∀ c, s.data.toList[i]? = some c → isSN c = false := by
        intro c hc
        have hlt : i < s.size := by
          rw [HL.out]
          exact (List.getElem?_eq_some_iff.1 hc).1
        obtain ⟨d, hd, hbt⟩ := bt_at s hlt
        rw [hc] at hd; cases hd
        exact isSN_not (fun e => hgo ⟨hlt, .inl (hbt.trans e)⟩) (fun e => hgo ⟨hlt, .inr (.inl (hbt.trans e))⟩) (fun e => hgo ⟨hlt, .inr (.inr (hbt.trans e))⟩)
      obtain ⟨hex, hml⟩ := SEC.out i hi HSP.out hend
      have HEX := hid hex
      have HML := hid hml
      have hz : (s.extract i s.size).size = s.size - i := by simp
      have HZ := hid hz
      have HGO := hid hgo
      clear hgo hend hex hml hz
      have b1 : i < s.size → (bt s i == 32) = false := fun h => by simpa using fun e => HGO.out ⟨h, .inl e⟩
      have b2 : i < s.size → (bt s i == 9) = false := fun h => by simpa using fun e => HGO.out ⟨h, .inr (.inl e)⟩
      have b3 : i < s.size → (bt s i == 10) = false := fun h => by simpa using fun e => HGO.out ⟨h, .inr (.inr e)⟩
      have B1 := hid b1
      have B2 := hid b2
      have B3 := hid b3
      clear b1 b2 b3
      by_cases hlt : i < s.size
      · have b1 := B1.out hlt
        have b2 := B2.out hlt
        have b3 := B3.out hlt
        go_wp2
        clear b1 b2 b3
        generalize s.extract i s.size = s2 at HEX HZ ⊢
        have hz2 := HZ.out
        have HL2 := hid (Lib.size_eq s2)
        have hz3 : s2.size ≤ 100000 := by omega
        clear hlt
        go_loop [4] (fun t4 => TSN2 s2 t4) (fun t4 => (intOf t4).toNat)
        case atStart => exact ⟨s2.size, Nat.le_refl _, by rw [HZ.out], fun k c h1 h2 => by
          rw [List.getElem?_eq_none (by rw [← HL2.out]; omega)] at h2
          cases h2⟩
        case round =>
          obtain ⟨j, hj, rfl, hst⟩ := hrel
          have HST := hid hst
          clear hst
          have hres : (∀ q c, j = q + 1 → s2.data.toList[q]? = some c → isSN c = false) → s2.extract 0 j = ⟨(trimNR (trimNL s.data.toList)).toArray⟩ := by
            intro h
            have e1 : s2.data.toList = trimNL s.data.toList := by rw [HEX.out]
            rw [← e1, trimNR_of s2.data.toList j (by rw [← HL2.out]; exact hj) HST.out h, Lib.extract_eq]
            simp
          have HRES := hid hres
          clear hres hz2
          cases j with
          | zero =>
            have hr := hid (HRES.out (fun q c h => by omega))
            go_wp2
            go_ret
            exact ⟨ret_str (by rw [← hr.out]; simp), rfl⟩
          | succ m =>
            have hm : m < s2.size := by omega
            obtain ⟨c, hc, hbt⟩ := bt_at s2 hm
            have HC := hid hc
            have HB := hid hbt
            clear hc hbt
            have stp : isSN c = true → ∀ k d, m ≤ k → s2.data.toList[k]? = some d → isSN d = true := fun hs k d hk hd => by
              rcases Nat.lt_or_ge m k with h1 | h1
              · exact HST.out k d h1 hd
              · obtain rfl : k = m := by omega
                rw [HC.out] at hd; cases hd; exact hs
            have STP := hid stp
            clear stp
            by_cases h32 : bt s2 m = 32
            · go_wp2
              go_round
              case rel => exact ⟨m, by omega, by go_num, STP.out (isSN_of (.inl (HB.out ▸ h32)))⟩
              case measure => simp [intOf]
            by_cases h9 : bt s2 m = 9
            · go_wp2
              go_round
              case rel => exact ⟨m, by omega, by go_num, STP.out (isSN_of (.inr (.inl (HB.out ▸ h9))))⟩
              case measure => simp [intOf]
            by_cases h10 : bt s2 m = 10
            · go_wp2
              go_round
              case rel => exact ⟨m, by omega, by go_num, STP.out (isSN_of (.inr (.inr (HB.out ▸ h10))))⟩
              case measure => simp [intOf]
            have b1 : (bt s2 m == 32) = false := by simpa using h32
            have b2 : (bt s2 m == 9) = false := by simpa using h9
            have b3 : (bt s2 m == 10) = false := by simpa using h10
            have hr := hid (HRES.out (fun q d h hd => by
              obtain rfl : q = m := by omega
              rw [HC.out] at hd; cases hd
              exact isSN_not (fun e => h32 (HB.out.trans e)) (fun e => h9 (HB.out.trans e)) (fun e => h10 (HB.out.trans e))))
            go_wp2
            go_ret
            exact ⟨ret_str hr.out, rfl⟩
      · go_wp2
        generalize s.extract i s.size = s2 at HEX HZ ⊢
        have hz2 := HZ.out
        have HL2 := hid (Lib.size_eq s2)
        have hz3 : s2.size ≤ 100000 := by omega
        clear hlt
        go_loop [4] (fun t4 => TSN2 s2 t4) (fun t4 => (intOf t4).toNat)
        case atStart => exact ⟨s2.size, Nat.le_refl _, by rw [HZ.out], fun k c h1 h2 => by
          rw [List.getElem?_eq_none (by rw [← HL2.out]; omega)] at h2
          cases h2⟩
        case round =>
          obtain ⟨j, hj, rfl, hst⟩ := hrel
          have HST := hid hst
          clear hst
          have hres : (∀ q c, j = q + 1 → s2.data.toList[q]? = some c → isSN c = false) → s2.extract 0 j = ⟨(trimNR (trimNL s.data.toList)).toArray⟩ := by
            intro h
            have e1 : s2.data.toList = trimNL s.data.toList := by rw [HEX.out]
            rw [← e1, trimNR_of s2.data.toList j (by rw [← HL2.out]; exact hj) HST.out h, Lib.extract_eq]
            simp
          have HRES := hid hres
          clear hres hz2
          cases j with
          | zero =>
            have hr := hid (HRES.out (fun q c h => by omega))
            go_wp2
            go_ret
            exact ⟨ret_str (by rw [← hr.out]; simp), rfl⟩
          | succ m =>
            have hm : m < s2.size := by omega
            obtain ⟨c, hc, hbt⟩ := bt_at s2 hm
            have HC := hid hc
            have HB := hid hbt
            clear hc hbt
            have stp : isSN c = true → ∀ k d, m ≤ k → s2.data.toList[k]? = some d → isSN d = true := fun hs k d hk hd => by
              rcases Nat.lt_or_ge m k with h1 | h1
              · exact HST.out k d h1 hd
              · obtain rfl : k = m := by omega
                rw [HC.out] at hd; cases hd; exact hs
            have STP := hid stp
            clear stp
            by_cases h32 : bt s2 m = 32
            · go_wp2
              go_round
              case rel => exact ⟨m, by omega, by go_num, STP.out (isSN_of (.inl (HB.out ▸ h32)))⟩
              case measure => simp [intOf]
            by_cases h9 : bt s2 m = 9
            · go_wp2
              go_round
              case rel => exact ⟨m, by omega, by go_num, STP.out (isSN_of (.inr (.inl (HB.out ▸ h9))))⟩
              case measure => simp [intOf]
            by_cases h10 : bt s2 m = 10
            · go_wp2
              go_round
              case rel => exact ⟨m, by omega, by go_num, STP.out (isSN_of (.inr (.inr (HB.out ▸ h10))))⟩
              case measure => simp [intOf]
            have b1 : (bt s2 m == 32) = false := by simpa using h32
            have b2 : (bt s2 m == 9) = false := by simpa using h9
            have b3 : (bt s2 m == 10) = false := by simpa using h10
            have hr := hid (HRES.out (fun q d h hd => by
              obtain rfl : q = m := by omega
              rw [HC.out] at hd; cases hd
              exact isSN_not (fun e => h32 (HB.out.trans e)) (fun e => h9 (HB.out.trans e)) (fun e => h10 (HB.out.trans e))))
            go_wp2
            go_ret
            exact ⟨ret_str hr.out, rfl⟩
end Go.Proofs.YtmmijmhdbpldpaaGreatDoor
/- What has been read is passed over. -/

namespace Go.Proofs.YtmmijmhdbpldpaaGreatDoor
open Go.RowKit
theorem InS.set8F {B g : Nat} {r : PSr} {em : Nat} {ks : List Kind} {w : World} (h : InS B g r em ks w) (hok : ∀ k ∈ ks, k.Fit) (i : Nat) : InS B g r i ks (w.setCell ⟨g, 8, none⟩ (.int .i64 i)) := by
  obtain ⟨l, vs, hps, hrow, hln, hits⟩ := h
  refine ⟨l, vs, hps.set8 i, own_far hrow (p := ⟨g, 8, none⟩) (own_ne hrow hps (by decide)) _, hln, ?_⟩
  exact hits.mod (S := fun k => k = g) ((Mod.refl (fun k => k = g) w).setCell (p := ⟨g, 8, none⟩) (.inl rfl) _) (fun k hk b cs hb _ e => by subst e; exact Blk.ne_ hb hps (hok k hk).ps rfl)
theorem skipI_anyF (B g : Nat) (r : PSr) (em i : Nat) (ks : List Kind) (w : World) (hin : InS B g r em ks w) (hok : ∀ k ∈ ks, k.Fit) :
    Calls Tryz.prog 78 #[.pointer (some ⟨g, 0, none⟩), .int .i64 i] w fun e w' => e = .returned (.tuple #[]) ∧ InS B g r i ks w' ∧ Mod (fun k => k = g) w w' := by
  have H := hid (hin.set8F hok i)
  obtain ⟨l, vs, hps, _⟩ := hin
  have c8 := hps.c8
  have fq := hps.free
  clear hps
  go_enter Tryz.func78, Tryz.ntmps78
  go_wp2_with fail
  go_end0
  exact ⟨rfl, H.out, (Mod.refl (fun k => k = g) w).setCell (p := ⟨g, 8, none⟩) (.inl rfl) _⟩
/-- An inline text is put behind the list: what the append and the store leave. -/
theorem InS.pushF {B g : Nat} {r : PSr} {em : Nat} {ks : List Kind} {k : Kind} {l : Sl} {vs : List Value} {v : Value} {w w4 : World} {o : Obj} {g2 cap2 : Nat} (hps : IsPS w g { r with emitted := em, list := l }) (hrow : w.ownsRow B 132 1 l.v l.n vs) (hln : l.n = ks.length) (hits : IsItems w B vs ks)
    (hok : ∀ k ∈ ks, k.Fit) (hk : k.Fit) (hv : IsItem w B v k) (hown : w4.ownsRow B 132 1 (.slice (some ⟨g2, 0, none⟩) (l.n + 1) cap2) (l.n + 1) (vs ++ [v])) (hgr : (w.alloc o).grownBy w4 l.v.ownBlock) :
    InS B g r em (ks ++ [k]) (w4.setCell ⟨g, 9, none⟩ (.slice (some ⟨g2, 0, none⟩) (l.n + 1) cap2)) ∧ Mod (fun q => q = g ∨ some q = l.v.ownBlock) w (w4.setCell ⟨g, 9, none⟩ (.slice (some ⟨g2, 0, none⟩) (l.n + 1) cap2)) := by
  have hm4 : Mod (fun q => some q = l.v.ownBlock) w w4 := Mod.grown ((Mod.refl _ w).alloc _) hgr (fun q hq => .inl hq.symm)
  have hp4 : IsPS w4 g { r with emitted := em, list := l } := hps.mod hm4 (own_ne hrow hps (by decide))
  have hits4 := (hits.snoc hv).mod hm4 (fun q hq b cs hb _ e => own_ne hrow hb (by
    rcases List.mem_append.1 hq with h | h
    · exact (hok q h).row.symm
    · simp only [List.mem_cons, List.not_mem_nil, or_false] at h; subst h; exact hk.row.symm) e)
  have hm5 : Mod (fun q => q = g) w4 (w4.setCell ⟨g, 9, none⟩ (.slice (some ⟨g2, 0, none⟩) (l.n + 1) cap2)) := (Mod.refl (fun q => q = g) w4).setCell (p := ⟨g, 9, none⟩) (.inl rfl) _
  refine ⟨⟨⟨some ⟨g2, 0, none⟩, l.n + 1, cap2⟩, vs ++ [v], hp4.set9 _ _ _, own_far hown (p := ⟨g, 9, none⟩) (own_ne hown hp4 (by decide)) _, by simp [hln], ?_⟩, ?_⟩
  · exact hits4.mod hm5 (fun q hq b cs hb _ e => by
      subst e
      refine Blk.ne_ hb hp4 ?_ rfl
      rcases List.mem_append.1 hq with h | h
      · exact (hok q h).ps
      · simp only [List.mem_cons, List.not_mem_nil, or_false] at h; subst h; exact hk.ps)
  · exact (hm4.mono (fun q _ h => .inr h)).trans hm5 (fun q _ h => .inl h)
theorem InS.set8 {B g : Nat} {r : PSr} {em : Nat} {ks : List Kind} {w : World} (h : InS B g r em ks w) (hok : ∀ k ∈ ks, k.Ok) (i : Nat) : InS B g r i ks (w.setCell ⟨g, 8, none⟩ (.int .i64 i)) := h.set8F (fun k hk => (hok k hk).fit) i
theorem skipI_any (B g : Nat) (r : PSr) (em i : Nat) (ks : List Kind) (w : World) (hin : InS B g r em ks w) (hok : ∀ k ∈ ks, k.Ok) :
    Calls Tryz.prog 78 #[.pointer (some ⟨g, 0, none⟩), .int .i64 i] w fun e w' => e = .returned (.tuple #[]) ∧ InS B g r i ks w' ∧ Mod (fun k => k = g) w w' := skipI_anyF B g r em i ks w hin (fun k hk => (hok k hk).fit)
theorem InS.push {B g : Nat} {r : PSr} {em : Nat} {ks : List Kind} {k : Kind} {l : Sl} {vs : List Value} {v : Value} {w w4 : World} {o : Obj} {g2 cap2 : Nat} (hps : IsPS w g { r with emitted := em, list := l }) (hrow : w.ownsRow B 132 1 l.v l.n vs) (hln : l.n = ks.length) (hits : IsItems w B vs ks)
    (hok : ∀ k ∈ ks, k.Ok) (hk : k.Ok) (hv : IsItem w B v k) (hown : w4.ownsRow B 132 1 (.slice (some ⟨g2, 0, none⟩) (l.n + 1) cap2) (l.n + 1) (vs ++ [v])) (hgr : (w.alloc o).grownBy w4 l.v.ownBlock) :
    InS B g r em (ks ++ [k]) (w4.setCell ⟨g, 9, none⟩ (.slice (some ⟨g2, 0, none⟩) (l.n + 1) cap2)) ∧ Mod (fun q => q = g ∨ some q = l.v.ownBlock) w (w4.setCell ⟨g, 9, none⟩ (.slice (some ⟨g2, 0, none⟩) (l.n + 1) cap2)) := InS.pushF hps hrow hln hits (fun k hk => (hok k hk).fit) hk.fit hv hown hgr
end Go.Proofs.YtmmijmhdbpldpaaGreatDoor
/- Plain texts that stand side by side become one. -/


namespace Go.Proofs.YtmmijmhdbpldpaaGreatDoor
open Go.RowKit
theorem infoStrM : (Tryz.prog.info? 9).map (fun i => (i.zero, i.size, i.bytes)) = some (some (.string ⟨#[]⟩), 1, 16) := by kernel_rfl
theorem ta_plain (p : Option Addr) (w : World) : (Instr.typeAssert (.iface 156 (.pointer p)) 132 156 true).run Tryz.prog w = .ok (.tuple #[.pointer p, .bool true]) w := by kernel_rfl
theorem toPlain_yes (a : Addr) (w : World) : Calls Tryz.prog 121 #[.iface 156 (.pointer (some a))] w fun e w' => e = .returned (.pointer (some a)) ∧ w = w' := by
  have ta := ta_plain (some a)
  go_enter Tryz.func121, Tryz.ntmps121
  go_wp2_with fail
  go_ret
  exact ⟨rfl, rfl⟩
theorem toPlain_no (k : Kind) (p : Option Addr) (w : World) (hk : k.Ok) (hn : ∀ p w, (Instr.typeAssert (.iface k.T (.pointer p)) 132 156 true).run Tryz.prog w = .ok (.tuple #[.pointer none, .bool false]) w) :
    Calls Tryz.prog 121 #[.iface k.T (.pointer p)] w fun e w' => e = .returned (.pointer none) ∧ w = w' := by
  have ta := hn p
  have ta2 := hk.open_ p
  have ta3 := hk.emph_ p
  go_enter Tryz.func121, Tryz.ntmps121
  go_wp2_with fail
  go_ret
  exact ⟨rfl, rfl⟩
def AllR (ts : List ByteArray) (w : World) (t15 t3 : Value) (wr : World) : Prop :=
  ∃ i : Nat, i ≤ ts.length ∧ t15 = .int .i64 i ∧ wr.ownsRow w.heap.size 9 1 t3 i ((ts.take i).map Value.string) ∧ Below w.heap.size w wr
set_option maxRecDepth 20000 in
set_option maxHeartbeats 4000000 in
theorem mergePlain1_many (lb o c : Nat) (ts : List ByteArray) (w : World) (hcells : ∀ (j : Nat) x, ts[j]? = some x → ∃ pb, w.cell? ⟨lb, o + j, none⟩ = some (.iface 156 (.pointer (some ⟨pb, 0, none⟩))) ∧ Blk w pb 137 #[.string x])
    (h2 : 2 ≤ ts.length) (hn : ts.length ≤ 1000000) (hlen : (Lib.join (ts.map (·.data.toList)) []).length ≤ 1000000) :
    Calls Tryz.prog 122 #[.slice (some ⟨lb, o, none⟩) ts.length c] w fun e w' => ∃ pb, e = .returned (.pointer (some ⟨pb, 0, none⟩)) ∧ Blk w' pb 137 #[.string ⟨(Lib.join (ts.map (·.data.toList)) []).toArray⟩] ∧ w.heap.size ≤ pb ∧ Below w.heap.size w w' := by
  obtain ⟨is0, his, hsz0, hsz1, hsz2⟩ := info_parts infoStrM
  have HC := hid hcells
  clear hcells
  go_enter Tryz.func122, Tryz.ntmps122
  go_wp2_with fail
  have hl1 : ((ts.length : Int) == 1) = false := by
    have : ¬ (ts.length : Int) = 1 := by omega
    simpa using this
  rw [hl1]
  go_loopw [15, 3] (fun t15 t3 wr => AllR ts w t15 t3 wr) (fun t15 _ _ => ts.length - (intOf t15).toNat)
  case atStart => exact ⟨0, Nat.zero_le _, rfl, by simpa using World.ownsRow_nil _ _ _ _, Below.refl _ _⟩
  case round =>
    obtain ⟨i, hi, rfl, hown, hbel⟩ := hrel
    by_cases hlt : i < ts.length
    · obtain ⟨pb, hce, hpb⟩ := HC.out i _ (List.getElem?_eq_getElem hlt)
      have hce' : wr.cell? ⟨lb, o + i, none⟩ = some (.iface 156 (.pointer (some ⟨pb, 0, none⟩))) := (hbel.cell (World.block_lt_of_cell? w _ hce)).trans hce
      have hpb' : Blk wr pb 137 #[.string ts[i]] := Blk.mod (S := fun _ => False) hpb (Mod.below' hbel) (fun x => x)
      have c0 := hpb'.at_ 0 rfl
      have HTK := hid (show (ts.take (i + 1)).map Value.string = (ts.take i).map Value.string ++ [.string ts[i]] by rw [List.take_add_one, List.getElem?_eq_getElem hlt, List.map_append]; rfl)
      have HOWN := hid hown
      have HBEL := hid hbel
      clear hown hbel hce hpb hpb'
      go_wp2_with fail
      refine (toPlain_yes _ wr).mono ?_
      rintro e w1 ⟨rfl, rfl⟩
      have hz := HBEL.out.size
      go_wp2_with (at_builtin; refine wpList_append_lies _ rfl (.tmp 19) (.tmp 25) 33 (by rfl) w.heap.size 9 is0 _ 1 16 Tryz.underlying33 his hsz0 hsz1 hsz2 rfl (by decide) u3 i ((ts.take i).map Value.string) (by rfl) (HOWN.out.alloc _) ⟨wr.heap.size, 0, none⟩ 1 1 [.string ts[i]] (by rfl) rfl (World.news_of_block (heap_alloc_new _ _)) (by intro v hv; simp at hv; subst hv; rfl) (by omega) (by unfold maxLen; omega) (by omega) (by simp; omega) (wr.heap.size + 1) (by simp) ?_
                   intro g2 cap2 w4 hown4 hgr4 hat4 hlt4)
      have m4 : Mod (fun k => some k = u3.ownBlock) wr w4 := Mod.grown ((Mod.refl _ wr).alloc _) hgr4 (fun k hk => .inl hk.symm)
      have hb4 := HBEL.out.trans (m4.toBelow (B := w.heap.size) hz (fun k hk e => by have := ownBase HOWN.out e; omega))
      go_roundw
      case rel => exact ⟨i + 1, by omega, by go_num, by rw [HTK.out]; exact hown4, hb4⟩
      case measure => simp [intOf]; omega
    · obtain rfl : i = ts.length := by omega
      rw [List.take_of_length_le (Nat.le_refl _)] at hown
      have hsh : ∃ bk cap, u3 = .slice (some ⟨bk, 0, none⟩) ts.length cap ∧ ts.length ≤ cap ∧ bk < wr.heap.size ∧ ∀ (j : Nat) x, ts[j]? = some x → wr.cell? ⟨bk, 0 + j, none⟩ = some (.string x) := by
        rcases hown.2 with ⟨_, h0⟩ | ⟨bk, cap, cur, h1, h2, hh, h3, h4, h5, h6⟩
        · omega
        · refine ⟨bk, cap, h1, h3, Blk.lt (t := 9) hh, fun j x hx => ?_⟩
          rw [Nat.zero_add, Blk.cell (t := 9) hh j]
          have hj : j < ts.length := (List.getElem?_eq_some_iff.1 hx).1
          have e1 : (cur.toList.take (ts.length * 1))[j]? = some (.string x) := by
            rw [h6]
            simp [hx]
          rw [List.getElem?_take, if_pos (by omega)] at e1
          simpa using e1
      obtain ⟨bk, cap, rfl, hcap, hbk, hcl⟩ := hsh
      have HJ := hid (join_any bk 0 cap ts ⟨#[]⟩ wr hcl hbk hn hcap hlen)
      have HBEL := hid hbel
      clear hown hbel hcl
      go_wp2_with fail
      refine HJ.out.mono ?_
      rintro e w2 ⟨rfl, hb2⟩
      have HB2 := hid (HBEL.out.trans (hb2.mono HBEL.out.size))
      clear hb2
      go_wp2_with fail
      go_ret
      exact ⟨w2.heap.size, rfl, Blk.new _ _ _, HB2.out.size, HB2.out.alloc HB2.out.size _⟩
end Go.Proofs.YtmmijmhdbpldpaaGreatDoor
/- Neighbouring plain texts as one: the list, and what it prints. -/


namespace Go.Proofs.YtmmijmhdbpldpaaGreatDoor
open Go.RowKit
def plainOf (k : Kind) : Option (List UInt8) := if k.T = 156 ∧ k.tb = 137 then (match k.cs with
  | [.string s] => some s.data.toList
  | _ => none) else none
theorem plainOf_plain (l : List UInt8) : plainOf (plainK l) = some l := by
  unfold plainOf
  rw [if_pos ⟨rfl, rfl⟩]
  rfl
theorem plainOf_eq {k : Kind} {l : List UInt8} (h : plainOf k = some l) : k = plainK l := by
  obtain ⟨T, tb, cs⟩ := k
  unfold plainOf at h
  split at h
  · rename_i hh
    obtain ⟨h1, h2⟩ := hh
    dsimp only at h1 h2 h
    subst h1 h2
    split at h
    · simp only [Option.some.injEq] at h
      subst h
      rfl
    · cases h
  · cases h
/-- Plain texts gathered, as one. -/
def flushK (ts : List (List UInt8)) : List Kind := if ts.isEmpty then [] else [plainK ts.flatten]
/-- The list with its neighbouring plain texts as one, ts gathered already. -/
def mergeA : List (List UInt8) → List Kind → List Kind
  | ts, [] => flushK ts
  | ts, k :: ks => match plainOf k with
    | some t => mergeA (ts ++ [t]) ks
    | none => flushK ts ++ k :: mergeA [] ks
theorem mergeA_plain (ts : List (List UInt8)) (l : List UInt8) (ks : List Kind) : mergeA ts (plainK l :: ks) = mergeA (ts ++ [l]) ks := by
  rw [mergeA, plainOf_plain]
theorem mergeA_other (ts : List (List UInt8)) (k : Kind) (ks : List Kind) (h : plainOf k = none) : mergeA ts (k :: ks) = flushK ts ++ k :: mergeA [] ks := by
  rw [mergeA, h]
theorem flushK_len (ts : List (List UInt8)) : (flushK ts).length ≤ 1 := by unfold flushK; split <;> simp
theorem mergeA_len (ts : List (List UInt8)) (ks : List Kind) : (mergeA ts ks).length ≤ ks.length + (flushK ts).length := by
  induction ks generalizing ts with
  | nil => simp [mergeA]
  | cons k ks ih =>
    rw [mergeA]
    split
    · rename_i t _
      have h1 := ih (ts ++ [t])
      have h2 := flushK_len (ts ++ [t])
      simp only [List.length_cons]
      omega
    · have h1 := ih []
      have h2 : (flushK []).length = 0 := rfl
      simp only [List.length_append, List.length_cons]
      omega
/-- What a list prints does not turn. -/
theorem mergeA_out (out : Kind → List UInt8) (f : List UInt8 → List UInt8) (hf : ∀ l, out (plainK l) = f l) (hnil : f [] = []) (happ : ∀ a b, f (a ++ b) = f a ++ f b) (ts : List (List UInt8)) (ks : List Kind) :
    (mergeA ts ks).flatMap out = f ts.flatten ++ ks.flatMap out := by
  have hfl : ∀ ts, (flushK ts).flatMap out = f ts.flatten := fun ts => by
    unfold flushK
    split
    · rename_i h
      rw [List.isEmpty_iff] at h
      subst h
      simp [hnil]
    · simp [hf]
  induction ks generalizing ts with
  | nil => rw [mergeA, hfl]; simp
  | cons k ks ih =>
    rw [mergeA]
    split
    · rename_i t ht
      have hk := plainOf_eq ht
      subst hk
      rw [ih, List.flatten_append, happ]
      simp [hf]
    · rw [List.flatMap_append, hfl, List.flatMap_cons, ih, List.flatten_nil, hnil]
      simp
theorem join_empty (xs : List (List UInt8)) : Lib.join xs [] = xs.flatten := by
  cases xs with
  | nil => rfl
  | cons x r => rw [Lib.join_cons]; simp [Lib.joinTail]
end Go.Proofs.YtmmijmhdbpldpaaGreatDoor
/- mergePlain: neighbouring plain texts become one, in place. -/



namespace Go.Proofs.YtmmijmhdbpldpaaGreatDoor
open Go.RowKit
theorem mergePlain1_one (lb o c pb : Nat) (w : World) (hc : w.cell? ⟨lb, o, none⟩ = some (.iface 156 (.pointer (some ⟨pb, 0, none⟩)))) :
    Calls Tryz.prog 122 #[.slice (some ⟨lb, o, none⟩) 1 c] w fun e w' => e = .returned (.pointer (some ⟨pb, 0, none⟩)) ∧ w = w' := by
  go_enter Tryz.func122, Tryz.ntmps122
  go_wp2_with fail
  refine (toPlain_yes _ w).mono ?_
  rintro e w1 ⟨rfl, rfl⟩
  go_wp2_with fail
  go_ret
  exact ⟨rfl, rfl⟩
/-- The texts gathered, as one. -/
theorem mergePlain1_any (B lb o c : Nat) (ts : List (List UInt8)) (w : World) (hB : B ≤ w.heap.size) (hcells : ∀ (j : Nat) t, ts[j]? = some t → ∃ pb, w.cell? ⟨lb, o + j, none⟩ = some (.iface 156 (.pointer (some ⟨pb, 0, none⟩))) ∧ Blk w pb 137 #[.string ⟨t.toArray⟩] ∧ B ≤ pb)
    (h1 : 1 ≤ ts.length) (hn : ts.length ≤ 1000000) (hlen : ts.flatten.length ≤ 1000000) :
    Calls Tryz.prog 122 #[.slice (some ⟨lb, o, none⟩) ts.length c] w fun e w' => ∃ pb, e = .returned (.pointer (some ⟨pb, 0, none⟩)) ∧ IsItem w' B (.iface 156 (.pointer (some ⟨pb, 0, none⟩))) (plainK ts.flatten) ∧ Below w.heap.size w w' := by
  rcases Nat.eq_or_lt_of_le h1 with h | h
  · match ts, h with
    | [t], _ =>
      obtain ⟨pb, h2, h3, h4⟩ := hcells 0 t rfl
      refine (mergePlain1_one lb o c pb w (by simpa using h2)).mono ?_
      rintro e w' ⟨rfl, rfl⟩
      exact ⟨pb, rfl, ⟨pb, rfl, by simpa [plainK, lineV] using h3, h4⟩, Below.refl _ _⟩
  · have hm : (ts.map fun t => (ByteArray.mk t.toArray)).map (·.data.toList) = ts := by
      rw [List.map_map]
      exact (List.map_congr_left (fun t _ => by simp)).trans (List.map_id ts)
    have hl : (ts.map fun t => (ByteArray.mk t.toArray)).length = ts.length := List.length_map ..
    have hj : (Lib.join ((ts.map fun t => (ByteArray.mk t.toArray)).map (·.data.toList)) []).length ≤ 1000000 := by rw [hm, join_empty]; exact hlen
    have hmm := mergePlain1_many lb o c (ts.map fun t => (ByteArray.mk t.toArray)) w (fun j x hx => by
      rw [List.getElem?_map, Option.map_eq_some_iff] at hx
      obtain ⟨t, ht, rfl⟩ := hx
      obtain ⟨pb, h2, h3, _⟩ := hcells j t ht
      exact ⟨pb, h2, h3⟩) (by omega) (by omega) hj
    rw [hl, hm, join_empty] at hmm
    refine hmm.mono ?_
    rintro e w' ⟨pb, rfl, h2, h3, h4⟩
    exact ⟨pb, rfl, ⟨pb, rfl, h2, Nat.le_trans hB h3⟩, h4⟩
/-- append where there is room, the world written out. -/
theorem wpList_append_roomC {P : Program} (w : World) {ops : Array Oper} {rest : List Oper} {o : Oper} {a : Act} {Q : Exit → Act → World → Prop} (hg : o.guard = none) (s x : Operand) (t : TypeId) (hop : o.op = Op.call { callee := Callee.builtin Builtin.append, args := #[s, x], argTypes := #[t, t] })
    (e : TypeId) (i : TypeInfo) (h1 : P.underlying t = some (.slice e)) (h2 : P.info? e = some i) (h4 : i.size = 1) (b k cap : Nat) (cs : Array Value) (hb : Blk w b e cs) (hs : a.eval s = .slice (some ⟨b, 0, none⟩) k cap) (ad : Addr) (c : Nat) (u : Value) (hx : a.eval x = .slice (some ad) 1 c)
    (hc : ∀ j v, ([u] : List Value)[j]? = some v → w.cell? (ad.add j) = some v) (h1c : u.oneCell' = true) (hcs : cs.size = cap) (b1 : k + 1 ≤ cap)
    (hK : wpList P ops Q rest (a.put o.dst (.slice (some ⟨b, 0, none⟩) (k + 1) cap)) (w.setCell ⟨b, k, none⟩ u)) : wpList P ops Q (o :: rest) a w := by
  refine wpList_plain hg fun K hK' => ?_
  have hk : k < cs.size := by omega
  have hcell : w.cell? ⟨b, k, none⟩ = some cs[k] := hb.at_ k (Array.getElem?_eq_getElem hk)
  have hfr : w.frozen? ⟨b, k, none⟩ = false := hb.free k
  have hrun := run_append_room_cells (P := P) w t o.type e i h1 h2 b 0 k cap ad 1 c [u] (by simp [h4]) hc (by intro v hv; simp at hv; subst hv; exact h1c) b1
    (fun j hj => by obtain rfl : j = 0 := by simp at hj; omega
                    rw [h4, show 0 + k * 1 + 0 = k from by omega, hcell]; rfl)
    (fun j hj => by obtain rfl : j = 0 := by simp at hj; omega
                    rw [h4, show 0 + k * 1 + 0 = k from by omega]; exact hfr)
  rw [h4, show 0 + k * 1 = k from by omega] at hrun
  unfold Oper.wp
  simp [execOp, hop, resolve, invoke, builtin, hs, hx, hrun, Result.andThen]
  exact hK' _ _ hK
theorem mergeA_mem (ts : List (List UInt8)) (ks : List Kind) : ∀ k ∈ mergeA ts ks, k ∈ ks ∨ ∃ l, k = plainK l := by
  have hf : ∀ ts, ∀ k ∈ flushK ts, ∃ l, k = plainK l := fun ts k hk => by
    unfold flushK at hk
    split at hk
    · cases hk
    · simp only [List.mem_cons, List.not_mem_nil, or_false] at hk; exact ⟨_, hk⟩
  induction ks generalizing ts with
  | nil => exact fun k hk => .inr (hf ts k hk)
  | cons a ks ih =>
    intro k hk
    rw [mergeA] at hk
    split at hk
    · rcases ih _ k hk with h | h
      · exact .inl (List.mem_cons_of_mem _ h)
      · exact .inr h
    · rcases List.mem_append.1 hk with h | h
      · exact .inr (hf ts k h)
      · rcases List.mem_cons.1 h with h | h
        · exact .inl (h ▸ List.mem_cons_self ..)
        · rcases ih _ k h with h | h
          · exact .inl (List.mem_cons_of_mem _ h)
          · exact .inr h
theorem take_set2 (cs : Array Value) (k : Nat) (a b : Value) (h : k + 1 < cs.size) : ((cs.setIfInBounds k a).setIfInBounds (k + 1) b).toList.take (k + 2) = cs.toList.take k ++ [a] ++ [b] := by
  apply List.ext_getElem?
  intro j
  have hs : (cs.toList.take k).length = k := by simp; omega
  rw [List.getElem?_take]
  simp only [Array.toList_setIfInBounds, List.append_assoc]
  rcases Nat.lt_or_ge j k with h1 | h1
  · rw [if_pos (by omega), List.getElem?_append_left (by omega), List.getElem?_take, if_pos h1, List.getElem?_set_ne (by omega), List.getElem?_set_ne (by omega)]
  · rw [List.getElem?_append_right (by omega), hs]
    rcases Nat.lt_or_ge j (k + 1) with h2 | h2
    · obtain rfl : j = k := by omega
      rw [if_pos (by omega), List.getElem?_set_ne (by omega), List.getElem?_set_self (by simpa using (by omega : j < cs.size))]
      simp
    · rcases Nat.lt_or_ge j (k + 2) with h3 | h3
      · obtain rfl : j = k + 1 := by omega
        rw [if_pos (by omega), List.getElem?_set_self (by simpa using h)]
        simp
      · rw [if_neg (by omega), List.getElem?_eq_none (by simp; omega)]
theorem take_set1 (cs : Array Value) (k : Nat) (a : Value) (h : k < cs.size) : (cs.setIfInBounds k a).toList.take (k + 1) = cs.toList.take k ++ [a] := by
  apply List.ext_getElem?
  intro j
  have hs : (cs.toList.take k).length = k := by simp; omega
  rw [List.getElem?_take]
  simp only [Array.toList_setIfInBounds]
  rcases Nat.lt_or_ge j k with h1 | h1
  · rw [if_pos (by omega), List.getElem?_append_left (by omega), List.getElem?_take, if_pos h1, List.getElem?_set_ne (by omega)]
  · rw [List.getElem?_append_right (by omega), hs]
    rcases Nat.lt_or_ge j (k + 1) with h2 | h2
    · obtain rfl : j = k := by omega
      rw [if_pos (by omega), List.getElem?_set_self (by simpa using h)]
      simp
    · rw [if_neg (by omega), List.getElem?_eq_none (by simp; omega)]
/-- A kind that is a plain text, or none at all. -/
def Kind.Sure (k : Kind) : Prop := k.Ok ∧ (plainOf k = none → ∀ p w, (Instr.typeAssert (.iface k.T (.pointer p)) 132 156 true).run Tryz.prog w = .ok (.tuple #[.pointer none, .bool false]) w)
def MergeR (B lb n c : Nat) (vs : List Value) (ks : List Kind) (w : World) (t5 t6 t7 : Value) (wr : World) : Prop :=
  ∃ (i st : Nat) (oks : List Kind) (ts : List (List UInt8)) (cs : Array Value), i ≤ n ∧ st ≤ i ∧ oks.length ≤ st ∧ t7 = .int .i64 i ∧ t6 = .int .i64 st ∧ t5 = .slice (some ⟨lb, 0, none⟩) oks.length c ∧ Blk wr lb 132 cs ∧ cs.size = c ∧ IsItems wr B (cs.toList.take oks.length) oks ∧
    (∀ j, st ≤ j → j < n → cs[j]? = vs[j]?) ∧ ts.length = i - st ∧ (∀ j t, ts[j]? = some t → ks[st + j]? = some (plainK t)) ∧ mergeA [] ks = oks ++ mergeA ts (ks.drop i) ∧ Mod (fun k => k = lb) w wr ∧ ts.flatten.length + ((ks.drop i).filterMap plainOf).flatten.length ≤ 1000000
set_option maxRecDepth 20000 in
set_option maxHeartbeats 4000000 in
theorem mergePlain_any (B g : Nat) (l : Sl) (vs : List Value) (ks : List Kind) (w : World) (hB : B ≤ w.heap.size) (hrow : w.ownsRow B 132 1 l.v l.n vs) (hits : IsItems w B vs ks) (hok : ∀ k ∈ ks, k.Sure) (hn : l.n ≤ 1000000) (h0 : 0 < l.n) (hL : (ks.filterMap plainOf).flatten.length ≤ 1000000) :
    Calls Tryz.prog 82 #[.pointer (some ⟨g, 0, none⟩), .slice l.a l.n l.c] w fun e w' => ∃ (l' : Sl) (vs' : List Value), e = .returned (.slice l'.a l'.n l'.c) ∧ w'.ownsRow B 132 1 l'.v l'.n vs' ∧ l'.n = (mergeA [] ks).length ∧ IsItems w' B vs' (mergeA [] ks) ∧ Mod (fun k => some k = l.v.ownBlock) w w' := by
  obtain ⟨is0, his0, hsz0, hsz1, hsz2⟩ := info_parts infoInl
  obtain ⟨la, n, c⟩ := l
  dsimp only at hrow hn h0 ⊢
  have hc0 := row_cap hrow h0
  obtain ⟨lb, cs0, rfl, hblk, hBl, hnc, hcs, hcells, hvl⟩ := row_blk hrow h0
  have HBLK := hid hblk
  have HITS := hid hits
  have HOK := hid hok
  have HCELLS := hid hcells
  have HCS := hid hcs
  clear hblk hits hok hcells hcs hrow
  go_enter Tryz.func82, Tryz.ntmps82
  go_wp2_with fail
  go_loopw [5, 6, 7] (fun t5 t6 t7 wr => MergeR B lb n c vs ks w t5 t6 t7 wr) (fun _ _ t7 _ => n + 1 - (intOf t7).toNat)
  case atStart => exact ⟨0, 0, [], [], cs0, Nat.zero_le _, Nat.le_refl _, Nat.le_refl _, rfl, rfl, rfl, HBLK.out, HCS.out, by simpa using IsItems.nil w B, fun j _ hj => HCELLS.out j hj, rfl, fun j t h => by simp at h, by simp, Mod.refl _ _, by simpa using hL⟩
  case round =>
    obtain ⟨i, st, oks, ts, cs, hi, hst, hos, rfl, rfl, rfl, hblk, hcs, hoi, hcl, htl, hts, hmg, hmd, hlb⟩ := hrel
    by_cases hlt : i < n
    · have hv0 : i < vs.length := by omega
      have hk0 : i < ks.length := by rw [← HITS.out.1]; exact hv0
      obtain ⟨bb, hv1, hbb, hBb⟩ := HITS.out.2 i _ _ (List.getElem?_eq_getElem hv0) (List.getElem?_eq_getElem hk0)
      have hsure := HOK.out _ (List.getElem_mem hk0)
      have hdrop : ks.drop i = ks[i] :: ks.drop (i + 1) := List.drop_eq_getElem_cons hk0
      cases hpl : plainOf (ks[i]'hk0) with
      | some t =>
        have hk := plainOf_eq hpl
        rw [hk] at hv1
        have hci : cs[i]? = some (.iface 156 (.pointer (some ⟨bb, 0, none⟩))) := by rw [hcl i hst hlt, List.getElem?_eq_getElem hv0, hv1]
        have hce := hblk.at_ i hci
        have H := hid (show MergeR B lb n c vs ks w (.slice (some ⟨lb, 0, none⟩) oks.length c) (.int .i64 st) (.int .i64 ((i + 1 : Nat) : Int)) wr from ⟨i + 1, st, oks, ts ++ [t], cs, hlt, by omega, hos, rfl, rfl, rfl, hblk, hcs, hoi, hcl, by simp; omega, fun j u hu => by
          rcases Nat.lt_or_ge j ts.length with hj | hj
          · rw [List.getElem?_append_left hj] at hu; exact hts j u hu
          · rw [List.getElem?_append_right hj] at hu
            have : j - ts.length = 0 := by
              rcases Nat.eq_or_lt_of_le (Nat.zero_le (j - ts.length)) with h | h
              · exact h.symm
              · rw [List.getElem?_eq_none (by simp; omega)] at hu; cases hu
            rw [this] at hu
            simp only [List.getElem?_cons_zero, Option.some.injEq] at hu
            subst hu
            rw [show st + j = i from by omega, List.getElem?_eq_getElem hk0, hk], by rw [hmg, hdrop, hk, mergeA_plain], hmd, by rw [hdrop, List.filterMap_cons, hpl] at hlb; simp at hlb ⊢; omega⟩)
        clear hblk hcs hoi hcl htl hts hmg hmd hdrop hsure hbb hlb
        go_wp2_with fail
        refine (toPlain_yes _ wr).mono ?_
        rintro e w1 ⟨rfl, rfl⟩
        go_wp2_with fail
        go_roundw
        case rel => exact H.out
        case measure => simp [intOf]; omega
      | none =>
        have hci : cs[i]? = some (.iface (ks[i]'hk0).T (.pointer (some ⟨bb, 0, none⟩))) := by rw [hcl i hst hlt, List.getElem?_eq_getElem hv0, hv1]
        have hce := hblk.at_ i hci
        have hTP := hid (toPlain_no (ks[i]'hk0) (some ⟨bb, 0, none⟩) wr hsure.1 (hsure.2 hpl))
        have hmg2 : mergeA ts (ks.drop i) = flushK ts ++ ks[i]'hk0 :: mergeA [] (ks.drop (i + 1)) := by rw [hdrop, mergeA_other _ _ _ hpl]
        have HBK := hid hblk
        have HCL := hid hcl
        have HTS := hid hts
        have HOI := hid hoi
        have HMD := hid hmd
        have HMG := hid hmg
        have HMG2 := hid hmg2
        have HTL := hid htl
        have HSU := hid hsure
        have hcz : oks.length < cs.size := by omega
        clear hblk hcl hts hoi hmd hmg hmg2 htl hsure
        by_cases hsi : st < i
        · go_wp2_with fail
          refine hTP.out.mono ?_
          rintro e w1 ⟨rfl, rfl⟩
          go_wp2_with fail
          rw [← HTL.out]
          have hit : ∀ (j : Nat) t, ts[j]? = some t → ∃ pb, wr.cell? ⟨lb, st + j, none⟩ = some (.iface 156 (.pointer (some ⟨pb, 0, none⟩))) ∧ Blk wr pb 137 #[.string ⟨t.toArray⟩] ∧ B ≤ pb := fun j t ht => by
            have hj : j < ts.length := (List.getElem?_eq_some_iff.1 ht).1
            have hj2 : st + j < n := by have := HTL.out; omega
            have hv : st + j < vs.length := by omega
            obtain ⟨pb, q1, q2, q3⟩ := HITS.out.2 (st + j) _ _ (List.getElem?_eq_getElem hv) (HTS.out j t ht)
            refine ⟨pb, ?_, q2.mod HMD.out (fun e => Blk.ne_ q2 HBLK.out (plainK_ok t).row e), q3⟩
            rw [HBK.out.cell, HCL.out (st + j) (by omega) hj2, List.getElem?_eq_getElem hv, q1]
          refine (mergePlain1_any B lb st (c - st) ts wr (Nat.le_trans hB HMD.out.size) hit (by rw [HTL.out]; omega) (by rw [HTL.out]; omega) (by omega)).mono ?_
          rintro e w2 ⟨pb2, rfl, hip, hb2⟩
          have HB2 : Hid (Blk w2 lb 132 cs) := hid (Blk.mod (S := fun _ => False) HBK.out (Mod.below' hb2) (fun x => x))
          have HIP := hid hip
          have HBE2 := hid hb2
          clear hip hb2 hit
          go_wp2_with (first
            | (at_builtin; refine wpList_append_roomC _ rfl (.tmp 27) (.tmp 34) 88 (by rfl) 132 is0 Tryz.underlying88 his0 hsz1 lb oks.length c cs (Blk.alloc HB2.out _) (by rfl) ⟨w2.heap.size, 0, none⟩ 1 (.iface 156 (.pointer (some ⟨pb2, 0, none⟩))) (by rfl) (World.news_of_block (heap_alloc_new _ _)) rfl hcs (by omega) ?_; have hX := hid (Blk.set_ (Blk.alloc HB2.out (.cells #[.iface 156 (.pointer (some ⟨pb2, 0, none⟩))] 132)) oks.length (.iface 156 (.pointer (some ⟨pb2, 0, none⟩)))); have hMX : Hid (Mod (fun k => k = lb) w2 _) := hid ((((Mod.refl (fun k => k = lb) w2).alloc (.cells #[.iface 156 (.pointer (some ⟨pb2, 0, none⟩))] 132))).setCell (p := ⟨lb, oks.length, none⟩) (.inl rfl) (.iface 156 (.pointer (some ⟨pb2, 0, none⟩)))); generalize World.setCell _ ⟨lb, oks.length, none⟩ _ = X at hX hMX ⊢; have hce2 : X.cell? ⟨lb, i, none⟩ = some (.iface (ks[i]'hk0).T (.pointer (some ⟨bb, 0, none⟩))) := hX.out.at_ i (by rw [Array.getElem?_setIfInBounds_ne (by omega)]; exact hci))
            | (at_builtin; refine wpList_append_roomC _ rfl (.tmp 40) (.tmp 45) 88 (by rfl) 132 is0 Tryz.underlying88 his0 hsz1 lb (oks.length + 1) c _ (Blk.alloc hX.out _) (by rfl) ⟨X.heap.size, 0, none⟩ 1 (.iface (ks[i]'hk0).T (.pointer (some ⟨bb, 0, none⟩))) (by rfl) (World.news_of_block (heap_alloc_new _ _)) rfl (by simpa using hcs) (by omega) ?_))
          have hMF : Mod (fun k => k = lb) w2 _ := hMX.out.trans (((Mod.refl (fun k => k = lb) X).alloc (.cells #[.iface (ks[i]'hk0).T (.pointer (some ⟨bb, 0, none⟩))] 132)).setCell (p := ⟨lb, oks.length + 1, none⟩) (.inl rfl) (.iface (ks[i]'hk0).T (.pointer (some ⟨bb, 0, none⟩)))) (fun _ _ h => h)
          have hBF := Blk.set_ (Blk.alloc hX.out (.cells #[.iface (ks[i]'hk0).T (.pointer (some ⟨bb, 0, none⟩))] 132)) (oks.length + 1) (.iface (ks[i]'hk0).T (.pointer (some ⟨bb, 0, none⟩)))
          have hMT : Mod (fun k => k = lb) wr _ := (Mod.below' HBE2.out).trans hMF (fun _ _ h => h)
          generalize World.setCell _ ⟨lb, oks.length + 1, none⟩ _ = F at hMF hBF hMT ⊢
          have hokk : ∀ k ∈ oks, k.tb ≠ 132 := fun k hk => by
            have : k ∈ mergeA [] ks := by rw [HMG.out]; exact List.mem_append_left _ hk
            rcases mergeA_mem _ _ k this with h | ⟨l, rfl⟩
            · exact (HOK.out k h).1.row
            · exact (plainK_ok l).row
          have hfk : flushK ts = [plainK ts.flatten] := by
            have := HTL.out
            unfold flushK
            rw [if_neg]
            intro h
            rw [List.isEmpty_iff] at h
            subst h
            simp at this
            omega
          have it1 := HIP.out.mod hMF (fun b cs' hb _ e => by subst e; exact Blk.ne_ hb HB2.out (plainK_ok _).row rfl)
          have it2 : IsItem F B (.iface (ks[i]'hk0).T (.pointer (some ⟨bb, 0, none⟩))) (ks[i]'hk0) := ⟨bb, rfl, hbb.mod (HMD.out.trans hMT (fun _ _ h => h)) (fun e => by subst e; exact Blk.ne_ hbb HBLK.out HSU.out.1.row rfl), hBb⟩
          have its := ((HOI.out.mod hMT (fun k hk b cs' hb _ e => by subst e; exact Blk.ne_ hb HBK.out (hokk k hk) rfl)).snoc it1).snoc it2
          refine ⟨⟨i + 1, i + 1, oks ++ [plainK ts.flatten] ++ [ks[i]'hk0], [], _, hlt, Nat.le_refl _, ?_, rfl, rfl, ?_, hBF, ?_, ?_, ?_, ?_, ?_, ?_, HMD.out.trans hMT (fun _ _ h => h), ?_⟩, ?_⟩
          · simp only [List.length_append, List.length_cons, List.length_nil]; omega
          · simp only [List.length_append, List.length_cons, List.length_nil]
          · simpa using hcs
          · simp only [List.length_append, List.length_cons, List.length_nil]
            rw [show oks.length + (0 + 1) + (0 + 1) = oks.length + 2 from by omega, take_set2 cs oks.length _ _ (by omega)]
            exact its
          · intro j hj1 hj2
            rw [Array.getElem?_setIfInBounds_ne (by omega), Array.getElem?_setIfInBounds_ne (by omega)]
            exact HCL.out j (by omega) hj2
          · simp
          · intro j t h; simp at h
          · rw [HMG.out, HMG2.out, hfk]; simp
          · rw [hdrop, List.filterMap_cons, hpl] at hlb
            simp at hlb ⊢
            omega
          · simp [intOf]; omega
        · have hts0 : ts = [] := List.eq_nil_of_length_eq_zero (by have := HTL.out; omega)
          subst hts0
          obtain rfl : st = i := by omega
          go_wp2_with fail
          refine hTP.out.mono ?_
          rintro e w1 ⟨rfl, rfl⟩
          go_wp2_with (at_builtin; refine wpList_append_roomC _ rfl (.tmp 40) (.tmp 45) 88 (by rfl) 132 is0 Tryz.underlying88 his0 hsz1 lb oks.length c cs (Blk.alloc HBK.out _) (by rfl) ⟨wr.heap.size, 0, none⟩ 1 (.iface (ks[st]'hk0).T (.pointer (some ⟨bb, 0, none⟩))) (by rfl) (World.news_of_block (heap_alloc_new _ _)) rfl hcs (by omega) ?_)
          have hMT : Mod (fun k => k = lb) wr _ := ((Mod.refl (fun k => k = lb) wr).alloc (.cells #[.iface (ks[st]'hk0).T (.pointer (some ⟨bb, 0, none⟩))] 132)).setCell (p := ⟨lb, oks.length, none⟩) (.inl rfl) (.iface (ks[st]'hk0).T (.pointer (some ⟨bb, 0, none⟩)))
          have hBF := Blk.set_ (Blk.alloc HBK.out (.cells #[.iface (ks[st]'hk0).T (.pointer (some ⟨bb, 0, none⟩))] 132)) oks.length (.iface (ks[st]'hk0).T (.pointer (some ⟨bb, 0, none⟩)))
          generalize World.setCell _ ⟨lb, oks.length, none⟩ _ = F at hBF hMT ⊢
          have hokk : ∀ k ∈ oks, k.tb ≠ 132 := fun k hk => by
            have : k ∈ mergeA [] ks := by rw [HMG.out]; exact List.mem_append_left _ hk
            rcases mergeA_mem _ _ k this with h | ⟨l, rfl⟩
            · exact (HOK.out k h).1.row
            · exact (plainK_ok l).row
          have it2 : IsItem F B (.iface (ks[st]'hk0).T (.pointer (some ⟨bb, 0, none⟩))) (ks[st]'hk0) := ⟨bb, rfl, hbb.mod (HMD.out.trans hMT (fun _ _ h => h)) (fun e => by subst e; exact Blk.ne_ hbb HBLK.out HSU.out.1.row rfl), hBb⟩
          have its := (HOI.out.mod hMT (fun k hk b cs' hb _ e => by subst e; exact Blk.ne_ hb HBK.out (hokk k hk) rfl)).snoc it2
          refine ⟨⟨st + 1, st + 1, oks ++ [ks[st]'hk0], [], _, hlt, Nat.le_refl _, ?_, rfl, rfl, ?_, hBF, ?_, ?_, ?_, ?_, ?_, ?_, HMD.out.trans hMT (fun _ _ h => h), ?_⟩, ?_⟩
          · simp only [List.length_append, List.length_cons, List.length_nil]; omega
          · simp only [List.length_append, List.length_cons, List.length_nil]
          · simpa using hcs
          · simp only [List.length_append, List.length_cons, List.length_nil]
            rw [show oks.length + (0 + 1) = oks.length + 1 from by omega, take_set1 cs oks.length _ (by omega)]
            exact its
          · intro j hj1 hj2
            rw [Array.getElem?_setIfInBounds_ne (by omega)]
            exact HCL.out j (by omega) hj2
          · simp
          · intro j t h; simp at h
          · rw [HMG.out, HMG2.out]; simp [flushK]
          · rw [hdrop, List.filterMap_cons, hpl] at hlb
            simp at hlb ⊢
            omega
          · simp [intOf]; omega
    · obtain rfl : i = n := by omega
      have hkn : ks.length = i := by rw [← HITS.out.1]; exact hvl
      have hdr : ks.drop i = [] := List.drop_eq_nil_of_le (by omega)
      rw [hdr, mergeA] at hmg
      have hokk : ∀ k ∈ oks, k.tb ≠ 132 := fun k hk => by
        have : k ∈ mergeA [] ks := by rw [hmg]; exact List.mem_append_left _ hk
        rcases mergeA_mem _ _ k this with h | ⟨l, rfl⟩
        · exact (HOK.out k h).1.row
        · exact (plainK_ok l).row
      by_cases hsi : st < i
      · have hit : ∀ (j : Nat) t, ts[j]? = some t → ∃ pb, wr.cell? ⟨lb, st + j, none⟩ = some (.iface 156 (.pointer (some ⟨pb, 0, none⟩))) ∧ Blk wr pb 137 #[.string ⟨t.toArray⟩] ∧ B ≤ pb := fun j t ht => by
          have hj : j < ts.length := (List.getElem?_eq_some_iff.1 ht).1
          have hj2 : st + j < i := by omega
          have hv : st + j < vs.length := by omega
          obtain ⟨pb, q1, q2, q3⟩ := HITS.out.2 (st + j) _ _ (List.getElem?_eq_getElem hv) (hts j t ht)
          refine ⟨pb, ?_, q2.mod hmd (fun e => Blk.ne_ q2 HBLK.out (plainK_ok t).row e), q3⟩
          rw [hblk.cell, hcl (st + j) (by omega) hj2, List.getElem?_eq_getElem hv, q1]
        have hfk : flushK ts = [plainK ts.flatten] := by
          unfold flushK
          rw [if_neg]
          intro h
          rw [List.isEmpty_iff] at h
          subst h
          simp at htl
          omega
        have hM1 := hid (mergePlain1_any B lb st (c - st) ts wr (Nat.le_trans hB hmd.size) hit (by omega) (by omega) (by omega))
        rw [htl] at hM1
        have HBK := hid hblk
        have HOI := hid hoi
        have HMD := hid hmd
        have HMG := hid hmg
        have HOKK := hid hokk
        clear hblk hoi hmd hmg hcl hts hit hokk htl
        go_wp2_with fail
        refine hM1.out.mono ?_
        rintro e w2 ⟨pb2, rfl, hip, hb2⟩
        have HB2 : Hid (Blk w2 lb 132 cs) := hid (Blk.mod (S := fun _ => False) HBK.out (Mod.below' hb2) (fun x => x))
        have HIP := hid hip
        have HBE2 := hid hb2
        clear hip hb2
        go_wp2_with (at_builtin; refine wpList_append_roomC _ rfl (.tmp 27) (.tmp 34) 88 (by rfl) 132 is0 Tryz.underlying88 his0 hsz1 lb oks.length c cs (Blk.alloc HB2.out _) (by rfl) ⟨w2.heap.size, 0, none⟩ 1 (.iface 156 (.pointer (some ⟨pb2, 0, none⟩))) (by rfl) (World.news_of_block (heap_alloc_new _ _)) rfl hcs (by omega) ?_)
        have hX := Blk.set_ (Blk.alloc HB2.out (.cells #[.iface 156 (.pointer (some ⟨pb2, 0, none⟩))] 132)) oks.length (.iface 156 (.pointer (some ⟨pb2, 0, none⟩)))
        have hMX : Mod (fun k => k = lb) w2 _ := (((Mod.refl (fun k => k = lb) w2).alloc (.cells #[.iface 156 (.pointer (some ⟨pb2, 0, none⟩))] 132))).setCell (p := ⟨lb, oks.length, none⟩) (.inl rfl) (.iface 156 (.pointer (some ⟨pb2, 0, none⟩)))
        generalize World.setCell _ ⟨lb, oks.length, none⟩ _ = X at hX hMX ⊢
        have hMT : Mod (fun k => k = lb) wr X := (Mod.below' HBE2.out).trans hMX (fun _ _ h => h)
        have it1 := HIP.out.mod hMX (fun b cs' hb _ e => by subst e; exact Blk.ne_ hb HB2.out (plainK_ok _).row rfl)
        have its := (HOI.out.mod hMT (fun k hk b cs' hb _ e => by subst e; exact Blk.ne_ hb HBK.out (HOKK.out k hk) rfl)).snoc it1
        rw [← take_set1 cs oks.length _ (by omega)] at its
        go_ret
        refine ⟨⟨some ⟨lb, 0, none⟩, oks.length + 1, c⟩, (cs.setIfInBounds oks.length (.iface 156 (.pointer (some ⟨pb2, 0, none⟩)))).toList.take (oks.length + 1), rfl, ⟨?_, .inr ⟨lb, c, _, rfl, hBl, hX, by dsimp only; omega, hc0, ?_, by rw [Nat.mul_one]⟩⟩, ?_, ?_, ?_⟩
        · simp only [List.length_take, Array.length_toList, Array.size_setIfInBounds]; omega
        · simp only [Array.size_setIfInBounds]; omega
        · rw [HMG.out, hfk]; simp
        · rw [HMG.out, hfk]; exact its
        · exact (HMD.out.trans hMT (fun _ _ h => h)).mono (fun k _ h => by subst h; rfl)
      · have hts0 : ts = [] := List.eq_nil_of_length_eq_zero (by omega)
        subst hts0
        obtain rfl : st = i := by omega
        have HBK := hid hblk
        have HOI := hid hoi
        have HMD := hid hmd
        have HMG := hid hmg
        clear hblk hoi hmd hmg hcl hts hokk
        go_wp2_with fail
        go_ret
        refine ⟨⟨some ⟨lb, 0, none⟩, oks.length, c⟩, cs.toList.take oks.length, rfl, ⟨?_, .inr ⟨lb, c, cs, rfl, hBl, HBK.out, by dsimp only; omega, hc0, by omega, by rw [Nat.mul_one]⟩⟩, ?_, ?_, ?_⟩
        · simp only [List.length_take, Array.length_toList]; omega
        · rw [HMG.out]; simp [flushK]
        · rw [HMG.out]; simpa [flushK] using HOI.out
        · exact HMD.out.mono (fun k _ h => by subst h; rfl)
end Go.Proofs.YtmmijmhdbpldpaaGreatDoor
