/- The walk of the law FnIndented: for all lists of lines it returns true. -/
import Derived.Test.YtohokfbjmfjjaaaGreatDoorLawIndented0
namespace Go.Proofs.YtohokfbjmfjjaaaGreatDoor
open Go.RowKit
/-- A line behind four spaces, as the law lays it. -/
def padV (l : List UInt8) : Value := .string ⟨(pad l).toArray⟩
/-- While the text's lines are laid. -/
def IndR (n : Nat) (L : Nat → List UInt8) (w0 : World) (t3 t19 : Value) (wr : World) : Prop :=
  ∃ (k : Nat) (va : Option Addr) (vc : Nat), k ≤ n ∧ t19 = .int .i64 k ∧ t3 = .slice va k vc ∧ wr.ownsRow w0.heap.size 9 1 (.slice va k vc) k ((firstL L k).map padV) ∧ (∀ i, i < k → PrL (L i) ∧ (L i).length ≤ 200) ∧ Below w0.heap.size w0 wr
set_option maxRecDepth 20000 in
set_option maxHeartbeats 4000000 in
theorem law_indented (A : Option Addr) (n c : Nat) (L : Nat → List UInt8) (w : World) (hn : n ≤ 9223372036854775807) (hA : StrsAt w A n L) (hl : ∀ i, i < n → (L i).length ≤ 9223372036854775807) :
    Calls Tryz.prog 4 #[.slice A n c] w fun e w' => e = .returned (.bool true) ∧ Below w.heap.size w w' := by
  obtain ⟨is0, his, hsz0, hsz1, hsz2⟩ := info_parts infoStr
  have HA := hid hA
  have HL := hid hl
  clear hA hl
  go_enter Tryz.func4, Tryz.ntmps4
  go_wp2_with fail
  refine (zzFits2_any A n c L _ hn HA.out HL.out).mono ?_
  rintro e w1 ⟨⟨b, rfl, hb⟩, rfl⟩
  cases b with
  | false =>
    go_wp2_with fail
    go_ret
    exact ⟨rfl, Below.refl _ _⟩
  | true =>
    clear hb
    by_cases h0 : n = 0
    · subst h0
      go_wp2_with fail
      go_ret
      exact ⟨rfl, Below.refl _ _⟩
    by_cases h50 : n ≤ 50
    · have hn0 : ¬ (n : Int) = 0 := by omega
      go_wp2_with fail
      · exfalso
        rename_i h
        rcases h with h | h
        · have h2 : (n : Int) = 0 := by simpa using h
          omega
        · omega
      have H0 := hid h0
      have hgood := ‹((n : Int) == 0) = false ∧ (n : Int) ≤ 50›
      rw [hgood.1]
      clear hgood
      clear hn0 h0
      go_loopw [3, 19] (fun t3 t19 wr => IndR n L w t3 t19 wr) (fun _ t19 _ => n - (intOf t19).toNat)
      case atStart => exact ⟨0, none, 0, Nat.zero_le _, rfl, rfl, World.ownsRow_nil _ _ _ _, fun i h => absurd h (by omega), Below.refl _ _⟩
      case round =>
        obtain ⟨k, va, vc, hk, rfl, rfl, hown, hpr, hbel⟩ := hrel
        have HOWN := hid hown
        have HPR := hid hpr
        have HB := hid hbel
        clear hown hpr hbel
        by_cases hlt : k < n
        · obtain ⟨ad, rfl, had, hc⟩ := HA.out k hlt
          have hc2 : wr.cell? (ad.add k) = some (.string ⟨(L k).toArray⟩) := (HB.out.cell (p := ad.add k) (by rw [addr_block]; exact had)).trans hc
          clear hc
          go_wp2_with fail
          refine (ascii_any (L k) _ (HL.out k hlt)).mono ?_
          rintro e w2 ⟨⟨b, rfl, hb⟩, rfl⟩
          have HPB := hid hb
          clear hb
          cases b with
          | false =>
            go_wp2_with fail
            go_ret
            exact ⟨rfl, HB.out⟩
          | true =>
            have hpk := hid (HPB.out rfl)
            by_cases h200 : (L k).length ≤ 200
            · have hall : Hid (∀ i, i < k + 1 → PrL (L i) ∧ (L i).length ≤ 200) := hid (fun i hi => by
                rcases Nat.lt_or_ge i k with h | h
                · exact HPR.out i h
                · obtain rfl : i = k := by omega
                  exact ⟨hpk.out, h200⟩)
              have hrow : Hid ((firstL L (k + 1)).map padV = (firstL L k).map padV ++ [padV (L k)]) := hid (by rw [firstL_succ, List.map_append]; rfl)
              have hkn : k < 50 := by omega
              by_cases hne : L k = []
              · have hp := hid (show padV (L k) = .string ⟨#[]⟩ by rw [hne]; rfl)
                rw [hne] at hc2
                rw [hne]
                go_wp2_with (at_builtin; refine wpList_append_own_at _ rfl (.tmp 35) (.tmp 37) 29 rfl w.heap.size 9 is0 _ 1 16 Tryz.underlying29 his hsz0 hsz1 hsz2 rfl (by decide) (.slice va k vc) k ((firstL L k).map padV) rfl (World.ownsRow.alloc HOWN.out _) ⟨wr.heap.size, 0, none⟩ 1 1 [.string ⟨#[]⟩] rfl rfl (World.news_of_block (heap_alloc_new _ _)) (by intro v hv; simp at hv; subst hv; rfl) (by unfold maxLen; omega) (by omega) (by have := HB.out.size; simp; omega) ?_)
                intro v' w2 hown2 hgr hnil hat
                obtain ⟨g2, cap2, rfl, hc2'⟩ : ∃ g2 cap2, v' = .slice (some ⟨g2, 0, none⟩) (k + 1) cap2 ∧ k + 1 ≤ cap2 := by
                  rcases hown2.2 with ⟨h1, h2⟩ | ⟨g2, cap2, cur, h1, _, _, h2, _⟩
                  · exact absurd h2 (by omega)
                  · exact ⟨g2, cap2, h1, h2⟩
                rw [← hp.out] at hown2
                have HO2 := hid hown2
                have HB2 := hid ((HB.out.alloc HB.out.size _).grown hgr (by have := HB.out.size; simp; omega) (fun q hq => own_base HOWN.out hq.symm))
                clear hown2 hgr hnil hat hc2
                go_wp2_with fail
                refine ⟨?_, by simp [intOf]; omega⟩
                iterate 24 (apply Exists.intro)
                refine ⟨?_, rfl⟩
                exact ⟨k + 1, _, cap2, by omega, by go_num, rfl, by rw [hrow.out]; exact HO2.out, hall.out, HB2.out⟩
              · have hls : (L k).isEmpty = false := by
                  cases hx : L k with
                  | nil => exact absurd hx hne
                  | cons a m => rfl
                have hp := hid (show padV (L k) = .string ((ByteArray.mk #[32, 32, 32, 32]) ++ (ByteArray.mk (L k).toArray)) by
                  rw [show (ByteArray.mk #[32, 32, 32, 32]) = ⟨[32, 32, 32, 32].toArray⟩ from rfl, cat_lists]
                  unfold padV
                  rw [pad_ne hne]
                  rfl)
                go_wp2_with (at_builtin; refine wpList_append_own_at _ rfl (.tmp 35) (.tmp 37) 29 rfl w.heap.size 9 is0 _ 1 16 Tryz.underlying29 his hsz0 hsz1 hsz2 rfl (by decide) (.slice va k vc) k ((firstL L k).map padV) rfl (World.ownsRow.alloc HOWN.out _) ⟨wr.heap.size, 0, none⟩ 1 1 [.string ((ByteArray.mk #[32, 32, 32, 32]) ++ (ByteArray.mk (L k).toArray))] rfl rfl (World.news_of_block (heap_alloc_new _ _)) (by intro v hv; simp at hv; subst hv; rfl) (by unfold maxLen; omega) (by omega) (by have := HB.out.size; simp; omega) ?_)
                intro v' w2 hown2 hgr hnil hat
                obtain ⟨g2, cap2, rfl, hc2'⟩ : ∃ g2 cap2, v' = .slice (some ⟨g2, 0, none⟩) (k + 1) cap2 ∧ k + 1 ≤ cap2 := by
                  rcases hown2.2 with ⟨h1, h2⟩ | ⟨g2, cap2, cur, h1, _, _, h2, _⟩
                  · exact absurd h2 (by omega)
                  · exact ⟨g2, cap2, h1, h2⟩
                rw [← hp.out] at hown2
                have HO2 := hid hown2
                have HB2 := hid ((HB.out.alloc HB.out.size _).grown hgr (by have := HB.out.size; simp; omega) (fun q hq => own_base HOWN.out hq.symm))
                clear hown2 hgr hnil hat hc2
                go_wp2_with fail
                refine ⟨?_, by simp [intOf]; omega⟩
                iterate 24 (apply Exists.intro)
                refine ⟨?_, rfl⟩
                exact ⟨k + 1, _, cap2, by omega, by go_num, rfl, by rw [hrow.out]; exact HO2.out, hall.out, HB2.out⟩
            · go_wp2_with fail
              go_ret
              exact ⟨rfl, HB.out⟩
        · obtain rfl : k = n := by omega
          have hA2 := HA.out.below HB.out
          have hk0 := H0.out
          obtain ⟨ad, rfl, had, hc0⟩ := hA2 0 (by omega)
          obtain ⟨ad2, had2, _, hcn⟩ := hA2 (k - 1) (by omega)
          cases had2
          have hc0' : wr.cell? ad = some (.string ⟨(L 0).toArray⟩) := by simpa [Addr.add] using hc0
          have hP0 := HPR.out 0 (by omega)
          have hPn := HPR.out (k - 1) (by omega)
          obtain ⟨m, rfl⟩ : ∃ m, k = m + 1 := ⟨k - 1, by omega⟩
          rw [show m + 1 - 1 = m from by omega] at hcn hPn
          have HA2 := hid hA2
          clear hA2 hc0
          go_wp2_with fail
          refine (inked_any (L 0) _ (by omega)).mono ?_
          rintro e w2 ⟨⟨b, rfl, hb⟩, rfl⟩
          have HB0 := hid hb
          clear hb
          cases b with
          | false =>
            go_wp2_with fail
            go_ret
            exact ⟨rfl, HB.out⟩
          | true =>
            go_wp2_with fail
            refine (inked_any (L m) _ (by omega)).mono ?_
            rintro e w2 ⟨⟨b, rfl, hb⟩, rfl⟩
            have HBn := hid hb
            clear hb
            cases b with
            | false =>
              go_wp2_with fail
              go_ret
              exact ⟨rfl, HB.out⟩
            | true =>
              have hfl : ∀ i, i < m + 1 → L i ∈ firstL L (m + 1) := fun i hi => List.mem_map.2 ⟨i, List.mem_range.2 hi, rfl⟩
              have hmem : ∀ l ∈ firstL L (m + 1), ∃ i, i < m + 1 ∧ l = L i := fun l hl => by
                obtain ⟨i, hi, rfl⟩ := List.mem_map.1 hl
                exact ⟨i, List.mem_range.1 hi, rfl⟩
              have hI : Hid (Inked (firstL L (m + 1))) := hid {
                few := by simp [firstL]; omega
                len := fun l hl => by
                  obtain ⟨i, hi, rfl⟩ := hmem l hl
                  exact (HPR.out i hi).2
                chr := fun l hl => by
                  obtain ⟨i, hi, rfl⟩ := hmem l hl
                  exact (HPR.out i hi).1
                first := ⟨L 0, (List.range m).map (fun i => L (i + 1)), by rw [firstL, List.range_succ_eq_map]; simp [Function.comp_def], HB0.out (by simp)⟩
                last := ⟨firstL L m, L m, firstL_succ L m, HBn.out (by simp)⟩ }
              have hS : Hid (StrsAt wr va (m + 1) (fun i => pad (L i))) := hid (fun i hi => by
                rcases HOWN.out.2 with ⟨_, h0⟩ | ⟨g2, cap2, cur2, h1, _, hh, _, _, _, _⟩
                · omega
                · simp only [Value.slice.injEq] at h1
                  refine ⟨⟨g2, 0, none⟩, h1.1, Blk.lt (t := 9) hh, ?_⟩
                  have ho := HOWN.out
                  rw [h1.1] at ho
                  have hcell := World.ownsRow.cellAt ho i (by omega)
                  rw [show ((⟨g2, 0, none⟩ : Addr).add i) = ⟨g2, i, none⟩ from by unfold Addr.add; split <;> simp_all, hcell, firstL, List.map_map, List.getElem?_map, List.getElem?_range hi]
                  rfl)
              have hpf : Hid ((firstL (fun i => pad (L i)) (m + 1)) = (firstL L (m + 1)).map pad) := hid (by simp [firstL, Function.comp_def])
              clear hfl hmem hP0 hPn hc0' hcn
              have hp204 : Hid (∀ i, i < m + 1 → (pad (L i)).length ≤ 204) := hid (fun i hi => by have := pad_len (L i); have := (HPR.out i hi).2; omega)
              have hl204 : Hid (∀ i, i < m + 1 → (L i).length ≤ 204) := hid (fun i hi => by have := (HPR.out i hi).2; omega)
              go_wp2_with fail
              refine (plain_any _).mono ?_
              rintro e w2 ⟨rfl, hb⟩
              have HP2 := hid hb
              clear hb
              go_wp2_with fail
              refine (joined_any va (m + 1) vc (fun i => pad (L i)) _ (by omega) (hS.out.below HP2.out) hp204.out).mono ?_
              rintro e w3 ⟨rfl, rfl⟩
              rw [hpf.out]
              go_wp2_with fail
              refine (HTML_indent (firstL L (m + 1)) _ hI.out).mono ?_
              rintro e w4 ⟨rfl, hb⟩
              have HP4 := hid hb
              clear hb
              go_wp2_with fail
              refine (joined_any (some ad) (m + 1) c L _ (by omega) ((HA2.out.below HP2.out).below HP4.out) hl204.out).mono ?_
              rintro e w5 ⟨rfl, rfl⟩
              go_wp2_with fail
              have hjl := joinL_len (firstL L (m + 1)) (fun l hl => Nat.le_trans (hI.out.len l hl) (by omega))
              have hfew := hI.out.few
              refine (escapeHTML_any ⟨(joinL (firstL L (m + 1))).toArray⟩ _ (bsz (by omega))).mono ?_
              rintro e w6 ⟨rfl, rfl⟩
              have hel := esc_len (joinL (firstL L (m + 1)))
              have heq : (ByteArray.mk #[60, 112, 114, 101, 62, 60, 99, 111, 100, 101, 62]) ++ (ByteArray.mk (esc (joinL (firstL L (m + 1)))).toArray) ++ (ByteArray.mk #[10, 60, 47, 99, 111, 100, 101, 62, 60, 47, 112, 114, 101, 62, 10]) = ⟨(codeOut (firstL L (m + 1))).toArray⟩ := by
                rw [show (ByteArray.mk #[60, 112, 114, 101, 62, 60, 99, 111, 100, 101, 62]) = ⟨codeHead.toArray⟩ from rfl, show (ByteArray.mk #[10, 60, 47, 99, 111, 100, 101, 62, 60, 47, 112, 114, 101, 62, 10]) = ⟨([10] ++ codeTail).toArray⟩ from rfl, cat_lists, cat_lists]
                unfold codeOut
                rw [esc_join _ (by simp [firstL, List.range_succ])]
                simp
              have hEz : (ByteArray.mk (esc (joinL (firstL L (m + 1)))).toArray).size ≤ 70000 := bsz (by omega)
              rw [show (ByteArray.mk (joinL (firstL L (m + 1))).toArray).data.toList = joinL (firstL L (m + 1)) from rfl]
              generalize (ByteArray.mk (esc (joinL (firstL L (m + 1)))).toArray) = E at heq hEz ⊢
              generalize (ByteArray.mk (codeOut (firstL L (m + 1))).toArray) = O at heq ⊢
              clear hjl hfew hel
              go_wp2_with fail
              go_ret
              exact ⟨rfl, (HB.out.trans (HP2.out.mono HB.out.size)).trans (HP4.out.mono (Nat.le_trans HB.out.size HP2.out.size))⟩
    · go_wp2_with fail
      go_ret
      exact ⟨rfl, Below.refl _ _⟩
end Go.Proofs.YtohokfbjmfjjaaaGreatDoor
