/- Texts of this proof, joined: autoLinkPlain: an address of electronic mail among words becomes a link, parseAutoHTTP: an address among words, parseAutoHTTP and parseAutoProto: an address among words. -/
import Derived.Test.YtmmijmhdbpldpaaGreatDoorCAuto09
import Derived.Test.YtmmijmhdbpldpaaGreatDoorCAuto04
import Derived.ScopeJumps
import Derived.Test.YtmmijmhdbpldpaaGreatDoorCAuto08
/- autoLinkPlain: an address of electronic mail among words becomes a link. -/



namespace Go.Proofs.YtmmijmhdbpldpaaGreatDoor
open Go.RowKit
theorem vdSkip_any (vd : Nat) (s a : ByteArray) (n : Nat) (w : World) (h : Blk w vd 274 #[.string s, .int .i64 0]) (hn : n ≤ s.size) (hs : s.size ≤ 100000) (ha : s.extract n s.size = a) :
    Calls Tryz.prog 171 #[.pointer (some ⟨vd, 0, none⟩), .int .i64 n] w fun e w' => e = .returned (.tuple #[]) ∧ Mod (fun k => k = vd) w w' := by
  have c0 := h.at_ 0 (v := .string s) rfl
  have c1 := h.at_ 1 (v := .int .i64 0) rfl
  have f0 := h.free
  have hm : Hid (Mod (fun k => k = vd) w ((w.setCell ⟨vd, 0, none⟩ (.string a)).setCell ⟨vd, 1, none⟩ (.int .i64 (-(n : Int))))) := hid (((Mod.refl (fun k => k = vd) w).setCell (p := ⟨vd, 0, none⟩) (.inl rfl) _).setCell (p := ⟨vd, 1, none⟩) (.inl rfl) _)
  clear h
  go_enter Tryz.func171, Tryz.ntmps171
  go_wp2_with fail
  go_end0
  exact ⟨rfl, hm.out⟩
/-- No sign of the other addresses. -/
def QL (z : Int) : Prop := z ≠ 64 ∧ z ≠ 104 ∧ z ≠ 109 ∧ z ≠ 120 ∧ z ≠ 119
theorem QL.eqs {z : Int} (h : QL z) : (z == 64) = false ∧ (z == 104) = false ∧ (z == 109) = false ∧ (z == 120) = false ∧ (z == 119) = false := by
  obtain ⟨h1, h2, h3, h4, h5⟩ := h
  simp [h1, h2, h3, h4, h5]
theorem newsA (w : World) (o : Obj) (u : Value) (t : TypeId) : ∀ j x, ([u] : List Value)[j]? = some x → ((w.alloc o).alloc (.cells #[u] t)).cell? ((⟨w.heap.size + 1, 0, none⟩ : Addr).add j) = some x :=
  World.news_of_block (cs := #[u]) (t := t) (fr := (0, 0)) (by have := heap_alloc_new (w.alloc o) (.cells #[u] t); rwa [show (w.alloc o).heap.size = w.heap.size + 1 from by simp] at this)
/-- What has been made of the text up to the address: two parts. -/
def MailSt (w w' : World) (s : ByteArray) (j k ob oc : Nat) : Prop := ∃ pa b rb pb c, w'.ownsRow w.heap.size 132 1 (.slice (some ⟨ob, 0, none⟩) 2 oc) 2 [plV pa, lkV b] ∧ Blk w' pa 137 #[.string (s.extract 0 j)] ∧ IsLink1 w' b rb pb c (s.extract j k) (mailURL s j k) ∧
  w.heap.size ≤ pa ∧ w.heap.size ≤ b ∧ w.heap.size ≤ rb ∧ w.heap.size ≤ pb ∧ rb ≠ ob ∧ Below w.heap.size w w'
/-- .. and of the whole text: three. -/
def MailEnd (w : World) (s : ByteArray) (j k : Nat) (e : Ending) (w' : World) : Prop := ∃ oa oc pa b rb pb c qa, e = .returned (.slice (some ⟨oa, 0, none⟩) 3 oc) ∧ w'.ownsRow w.heap.size 132 1 (.slice (some ⟨oa, 0, none⟩) 3 oc) 3 [plV pa, lkV b, plV qa] ∧
  Blk w' pa 137 #[.string (s.extract 0 j)] ∧ IsLink1 w' b rb pb c (s.extract j k) (mailURL s j k) ∧ Blk w' qa 137 #[.string (s.extract k s.size)] ∧ w.heap.size ≤ pa ∧ w.heap.size ≤ b ∧ w.heap.size ≤ rb ∧ w.heap.size ≤ pb ∧ w.heap.size ≤ qa ∧ Below w.heap.size w w'
@[reducible] def alFrame (g vd ob oc : Nat) (s : ByteArray) (U : Nat → Value) : Act := { tmps := #[.pointer (some ⟨g, 0, none⟩), .string s, U 2, U 3, .slice none 0 0, .pointer (some ⟨vd, 0, none⟩), .slice (some ⟨ob, 0, none⟩) 2 oc, U 7, U 8, U 9, U 10, U 11, U 12, U 13, U 14, U 15, U 16, U 17, U 18, U 19, U 20, U 21, U 22, U 23, U 24, U 25, U 26, U 27, U 28, U 29, U 30, U 31, U 32, U 33, U 34, U 35, U 36, U 37, U 38, U 39, U 40, U 41, U 42, U 43, U 44, U 45, U 46, U 47, U 48, U 49, U 50, U 51, U 52, U 53, U 54, U 55, U 56, U 57, U 58, U 59, U 60, U 61, U 62, U 63, U 64, U 65, U 66, U 67, U 68, U 69, U 70, U 71, U 72, U 73, U 74, U 75, U 76, U 77, U 78, U 79, U 80, U 81, U 82, U 83, U 84, U 85, U 86, U 87, U 88, U 89, U 90, U 91, U 92, U 93, U 94, U 95, U 96, U 97, U 98, U 99, U 100, U 101, U 102, U 103, U 104, U 105, U 106, U 107, U 108, U 109, U 110, U 111, U 112, U 113, U 114, U 115, U 116, U 117, U 118, U 119, U 120, U 121, U 122, U 123, U 124, U 125, U 126, U 127, U 128, U 129, U 130, U 131], defers := [] }
def alList (g vd ob oc : Nat) (s : ByteArray) (U : Nat → Value) : List Value := [.pointer (some ⟨g, 0, none⟩), .string s, U 2, U 3, .slice none 0 0, .pointer (some ⟨vd, 0, none⟩), .slice (some ⟨ob, 0, none⟩) 2 oc, U 7, U 8, U 9, U 10, U 11, U 12, U 13, U 14, U 15, U 16, U 17, U 18, U 19, U 20, U 21, U 22, U 23, U 24, U 25, U 26, U 27, U 28, U 29, U 30, U 31, U 32, U 33, U 34, U 35, U 36, U 37, U 38, U 39, U 40, U 41, U 42, U 43, U 44, U 45, U 46, U 47, U 48, U 49, U 50, U 51, U 52, U 53, U 54, U 55, U 56, U 57, U 58, U 59, U 60, U 61, U 62, U 63, U 64, U 65, U 66, U 67, U 68, U 69, U 70, U 71, U 72, U 73, U 74, U 75, U 76, U 77, U 78, U 79, U 80, U 81, U 82, U 83, U 84, U 85, U 86, U 87, U 88, U 89, U 90, U 91, U 92, U 93, U 94, U 95, U 96, U 97, U 98, U 99, U 100, U 101, U 102, U 103, U 104, U 105, U 106, U 107, U 108, U 109, U 110, U 111, U 112, U 113, U 114, U 115, U 116, U 117, U 118, U 119, U 120, U 121, U 122, U 123, U 124, U 125, U 126, U 127, U 128, U 129, U 130, U 131]
def nthA : List Value → Nat → Value
  | [], _ => undef
  | a :: _, 0 => a
  | _ :: l, n + 1 => nthA l n
theorem alframe_eq {g vd ob oc : Nat} {s : ByteArray} (L : List Value) (h : alList g vd ob oc s (nthA L) = L) : ({ tmps := L.toArray, defers := [] } : Act) = alFrame g vd ob oc s (nthA L) := by
  have : alFrame g vd ob oc s (nthA L) = { tmps := (alList g vd ob oc s (nthA L)).toArray, defers := [] } := rfl
  rw [this, h]
theorem bt_ext (s : ByteArray) (a b m : Nat) (h : a + m < b) : bt (s.extract a b) m = bt s (a + m) := by
  have e : s = ⟨s.data.toList.toArray⟩ := ByteArray.ext Array.toArray_toList.symm
  have e2 : bt s (a + m) = bt ⟨s.data.toList.toArray⟩ (a + m) := by rw [← e]
  rw [e2, extract_mk, bt_list, bt_list, List.getElem?_drop, List.getElem?_take, if_pos h]
set_option maxRecDepth 20000 in
set_option maxHeartbeats 1600000 in
theorem autoPlain_mail (g : Nat) (s : ByteArray) (j i d k : Nat) (w : World) (h : MailAt s j i d k) (hq : ∀ m, m < s.size → m ≠ i → QL (bt s m)) :
    Calls Tryz.prog 123 #[.pointer (some ⟨g, 0, none⟩), .string s] w (MailEnd w s j k) := by
  obtain ⟨is0, his0, hsz0, hsz1, hsz2⟩ := info_parts infoInl
  have hb := get_bt s
  have hsz := h.size
  have e64 : (bt s i == 64) = true := by simpa using h.bi
  have hks := h.ks
  have hj0 := h.j0
  have hji := h.ji
  have hik : i + 3 < k := by have := h.id; have := h.dk; omega
  have HQ := hid hq
  have HEM := hid (fun W => parseAutoEmail_yes (.pointer (some ⟨g, 0, none⟩)) s j i d k W h)
  clear hq h
  obtain ⟨A, HA⟩ : ∃ A, Hid (A = s.extract k s.size) := ⟨_, hid rfl⟩
  obtain ⟨Bf, HBF⟩ : ∃ A, Hid (A = s.extract 0 j) := ⟨_, hid rfl⟩
  rw [← HA.out, ← HBF.out] at HEM
  have hAz : A.size = s.size - k := by rw [HA.out, ByteArray.size_extract]; omega
  have hAs : (s.size : Int) - (A.size : Int) = (k : Int) := by omega
  have HAZ := hid hAz
  clear hAz
  have hBe : Bf.toList.isEmpty = false := by
    rw [← decide_eq_emptyBytes]
    refine decide_eq_false (fun e => ?_)
    have h1 : Bf.size = j := by rw [HBF.out, ByteArray.size_extract]; omega
    rw [e] at h1
    have h2 : ByteArray.empty.size = 0 := rfl
    omega
  go_enter Tryz.func123, Tryz.ntmps123
  go_wp2_with fail
  refine wp_scope_jumps 0 (fun a' w' => ∃ (vd ob oc : Nat) (U : Nat → Value), a' = alFrame g vd ob oc A U ∧ MailSt w w' s j k ob oc) (fun _ _ => 0) rfl ?_ ?_
  · go_wp2_with fail
    go_step3
    go_wp2_with fail
    have HV := hid (show Blk _ w.heap.size 274 #[.string s, .int .i64 0] from Blk.new w _ _)
    have HB1 := hid ((Below.refl w.heap.size w).alloc (Nat.le_refl _) (.cells #[.string s, .int .i64 0] 274))
    generalize World.alloc w _ = W1 at HV HB1 ⊢
    go_loopw [1, 6, 7] (fun t1 t6 t7 wr => ∃ m : Nat, t7 = .int .i64 m ∧ m ≤ i ∧ wr = W1 ∧ t1 = .string s ∧ t6 = .slice none 0 0) (fun _ _ t7 _ => i + 1 - (intOf t7).toNat)
    case atStart => exact ⟨0, rfl, Nat.zero_le _, rfl, rfl, rfl⟩
    case round =>
      obtain ⟨m, rfl, hm, rfl, rfl, rfl⟩ := hrel
      by_cases hlt : m < i
      · obtain ⟨z64, z104, z109, z120, z119⟩ := (HQ.out m (by omega) (by omega)).eqs
        go_wp2_with fail
        go_roundw
        case rel => exact ⟨m + 1, by go_num, by omega, trivial, rfl, rfl⟩
        case measure => simp [intOf]; omega
      · obtain rfl : m = i := by omega
        go_wp2_with fail
        refine (HEM.out _).mono ?_
        rintro e w2 ⟨b, rb, pb, c, rfl, hl1, hbB, hrB, hpB, hbel⟩
        have hW := HB1.out.size
        have hW2 := hbel.size
        have HL1 := hid hl1
        have hrlt := hl1.2.1.lt
        have HB2 := hid (HB1.out.trans (hbel.mono HB1.out.size))
        have HV2 := hid (HV.out.mod (S := fun _ => False) (Mod.below' hbel) (fun x => x))
        clear hl1 hbel HEM HV HB1
        go_wp2_with (at_builtin; refine wpList_append_lies _ rfl (.tmp 42) (.tmp 47) 88 (by rfl) w.heap.size 132 is0 _ 1 16 Tryz.underlying88 his0 hsz0 hsz1 hsz2 rfl (by decide) (.slice none 0 0) 0 [] (by rfl) (World.ownsRow_nil _ _ _ _) ⟨w2.heap.size + 1, 0, none⟩ 1 1 [plV w2.heap.size] (by rfl) rfl (newsA w2 _ _ _) (by intro v hv; simp at hv; subst hv; rfl) (by omega) (by unfold maxLen; omega) (by omega) (by simp; omega) (w2.heap.size + 2) (by simp) ?_)
        intro ga ca wa howna hgra hata hlta
        have HGA := hid (show ga = w2.heap.size + 2 from by
          rcases hata with e | e
          · cases e
          · exact e)
        have kpa : ∀ q ty cs, Blk w2 q ty cs → Blk wa q ty cs := fun q ty cs hq => Blk.grown (Blk.alloc (Blk.alloc hq _) _) hgra (by simp [Value.ownBlock])
        have HPA := hid (show Blk wa w2.heap.size 137 #[.string Bf] from Blk.grown (Blk.alloc (Blk.new _ _ _) _) hgra (by simp [Value.ownBlock]))
        have HLA := hid (show IsLink1 wa b rb pb c (s.extract j k) (mailURL s j k) from ⟨kpa _ _ _ HL1.out.1, kpa _ _ _ HL1.out.2.1, kpa _ _ _ HL1.out.2.2⟩)
        have HVA := hid (kpa _ _ _ HV2.out)
        have HBA := hid (((HB2.out.alloc HB2.out.size (.cells #[.string Bf] 137)).alloc (by have := HB2.out.size; simp; omega) (.cells #[plV w2.heap.size] 132)).grown hgra (by have := HB2.out.size; simp; omega) (fun q hq => by cases hq))
        have HOA := hid howna
        have hwa := HBA.out.size
        have hza : w2.heap.size + 2 < wa.heap.size := by have := HGA.out; omega
        clear howna hgra hata hlta kpa HL1 HV2 HB2
        go_wp2_with (at_builtin; refine wpList_append_lies _ rfl (.tmp 49) (.tmp 52) 88 (by rfl) w.heap.size 132 is0 _ 1 16 Tryz.underlying88 his0 hsz0 hsz1 hsz2 rfl (by decide) (.slice (some ⟨ga, 0, none⟩) 1 ca) 1 [plV w2.heap.size] (by rfl) (World.ownsRow.alloc HOA.out _) ⟨wa.heap.size, 0, none⟩ 1 1 [lkV b] (by rfl) rfl (World.news_of_block (heap_alloc_new _ _)) (by intro v hv; simp at hv; subst hv; rfl) (by omega) (by unfold maxLen; omega) (by omega) (by simp; omega) (wa.heap.size + 1) (by simp) ?_)
        intro gb cb wb hownb hgrb hatb hltb
        have hgb := hid (show gb = ga ∨ gb = wa.heap.size + 1 from by
          rcases hatb with e | e
          · left; simp only [Value.ownBlock, Option.some.injEq] at e; exact e.symm
          · right; exact e)
        have kpb : ∀ q ty cs, Blk wa q ty cs → q ≠ ga → Blk wb q ty cs := fun q ty cs hq hn => Blk.grown (Blk.alloc hq _) hgrb (by simp only [Value.ownBlock]; intro e; exact hn (Option.some.inj e))
        have hrl := HLA.out.2.1.lt
        have HPB := hid (kpb _ _ _ HPA.out (by have := HGA.out; omega))
        have HLB := hid (show IsLink1 wb b rb pb c (s.extract j k) (mailURL s j k) from ⟨kpb _ _ _ HLA.out.1 (fun e => own_ne HOA.out HLA.out.1 (by decide) (by simp [Value.ownBlock, e])), kpb _ _ _ HLA.out.2.1 (by have := HGA.out; omega), kpb _ _ _ HLA.out.2.2 (fun e => own_ne HOA.out HLA.out.2.2 (by decide) (by simp [Value.ownBlock, e]))⟩)
        have HVB := hid (kpb _ _ _ HVA.out (by have := HGA.out; omega))
        have HBB := hid ((HBA.out.alloc HBA.out.size (.cells #[lkV b] 132)).grown hgrb (by have := HBA.out.size; simp; omega) (fun q hq => ownBase HOA.out hq.symm))
        have HOB := hid hownb
        have hrb2 : rb ≠ gb := by have := HGA.out; have := hgb.out; omega
        have HSK := hid (vdSkip_any w.heap.size s A k wb HVB.out (by omega) hsz HA.out.symm)
        clear hownb hgrb hatb hltb kpb HPA HLA HVA HBA HOA HGA hgb
        go_wp2_with fail
        refine HSK.out.mono ?_
        rintro e w4 ⟨rfl, hm4⟩
        go_wp2_with fail
        go_step3
        refine ⟨rfl, ⟨w.heap.size, gb, cb, nthA _, alframe_eq _ (by kernel_rfl), ?_⟩⟩
        have hbm : Below w.heap.size w w4 := HBB.out.trans (hm4.toBelow (B := w.heap.size) HBB.out.size (fun q hq e => by omega))
        have hne : ∀ q ty cs, Blk wb q ty cs → ty ≠ 274 → Blk w4 q ty cs := fun q ty cs hq ht => hq.mod hm4 (fun e => by subst e; exact Blk.ne_ hq HVB.out ht rfl)
        refine ⟨w2.heap.size, b, rb, pb, c, own_mod HOB.out hm4 (fun q hq e => by subst e; exact own_ne HOB.out HVB.out (by decide) hq.symm), ?_, ⟨hne _ _ _ HLB.out.1 (by decide), hne _ _ _ HLB.out.2.1 (by decide), hne _ _ _ HLB.out.2.2 (by decide)⟩, by omega, by omega, by omega, by omega, hrb2, hbm⟩
        rw [← HBF.out]
        exact hne _ _ _ HPB.out (by decide)
  · rintro a' w1 ⟨vd, ob, oc, U, rfl, pa, b, rb, pb, c, hown, hpa, hl, q1, q2, q3, q4, hro, hbel⟩
    have HO := hid hown
    have HPA := hid hpa
    have HL := hid hl
    have HB := hid hbel
    have hAq : ∀ m, m < A.size → QL (bt A m) := fun m hm => by
      rw [HAZ.out] at hm
      have e : bt A m = bt s (k + m) := by rw [HA.out]; exact bt_ext s k s.size m (by omega)
      rw [e]
      exact HQ.out (k + m) (by omega) (by omega)
    have HAQ := hid hAq
    have hbA := get_bt A
    have hAl : A.size ≤ 100000 := by rw [HAZ.out]; omega
    clear hown hpa hl hbel hAq HEM hAs hb
    go_wp2_with fail
    go_loopw [1, 6, 7] (fun t1 t6 t7 wr => ∃ m : Nat, t7 = .int .i64 m ∧ m ≤ A.size ∧ wr = w1 ∧ t1 = .string A ∧ t6 = .slice (some ⟨ob, 0, none⟩) 2 oc) (fun _ _ t7 _ => A.size + 1 - (intOf t7).toNat)
    case atStart => exact ⟨0, rfl, Nat.zero_le _, rfl, rfl, rfl⟩
    case round =>
      obtain ⟨m, rfl, hm, rfl, rfl, rfl⟩ := hrel
      by_cases hlt : m < A.size
      · obtain ⟨z64, z104, z109, z120, z119⟩ := (HAQ.out m hlt).eqs
        go_wp2_with fail
        go_roundw
        case rel => exact ⟨m + 1, by go_num, by omega, trivial, rfl, rfl⟩
        case measure => simp [intOf]; omega
      · obtain rfl : m = A.size := by omega
        have hsw := HB.out.size
        have hnil : ∀ W : World, (binOp .eql 88 (.slice (some ⟨ob, 0, none⟩) 2 oc) (.slice none 0 0)).run Tryz.prog W = .ok (.bool false) W := fun _ => rfl
        go_wp2_with (at_builtin; refine wpList_append_lies _ rfl (.tmp 124) (.tmp 129) 88 (by rfl) w.heap.size 132 is0 _ 1 16 Tryz.underlying88 his0 hsz0 hsz1 hsz2 rfl (by decide) (.slice (some ⟨ob, 0, none⟩) 2 oc) 2 [plV pa, lkV b] (by rfl) (World.ownsRow.alloc (World.ownsRow.alloc HO.out _) _) ⟨wr.heap.size + 1, 0, none⟩ 1 1 [plV wr.heap.size] (by rfl) rfl (newsA wr _ _ _) (by intro v hv; simp at hv; subst hv; rfl) (by omega) (by unfold maxLen; omega) (by omega) (by simp; omega) (wr.heap.size + 2) (by simp) ?_)
        intro gc cc wc hownc hgrc hatc hltc
        have kpc : ∀ q ty cs, Blk wr q ty cs → q ≠ ob → Blk wc q ty cs := fun q ty cs hq hn => Blk.grown (Blk.alloc (Blk.alloc hq _) _) hgrc (by simp only [Value.ownBlock]; intro e; exact hn (Option.some.inj e))
        have hob := ownLt HO.out (k := ob) rfl
        have HEND := hid (show MailEnd w s j k (.returned (.slice (some ⟨gc, 0, none⟩) 3 cc)) wc from ⟨gc, cc, pa, b, rb, pb, c, wr.heap.size, rfl, hownc, kpc _ _ _ HPA.out (fun e => own_ne HO.out HPA.out (by decide) (by simp only [Value.ownBlock, e])), ⟨kpc _ _ _ HL.out.1 (fun e => own_ne HO.out HL.out.1 (by decide) (by simp only [Value.ownBlock, e])), kpc _ _ _ HL.out.2.1 hro, kpc _ _ _ HL.out.2.2 (fun e => own_ne HO.out HL.out.2.2 (by decide) (by simp only [Value.ownBlock, e]))⟩, by rw [← HA.out]; exact Blk.grown (Blk.alloc (Blk.new _ _ _) _) hgrc (by simp only [Value.ownBlock]; intro e; have := Option.some.inj e; omega), q1, q2, q3, q4, by omega, ((HB.out.alloc HB.out.size (.cells #[.string A] 137)).alloc (by have := HB.out.size; simp; omega) (.cells #[plV wr.heap.size] 132)).grown hgrc (by have := HB.out.size; simp; omega) (fun q hq => ownBase HO.out hq.symm)⟩)
        clear hownc hgrc hatc hltc kpc
        go_wp2_with fail
        simp only [Exit.jump]
        go_ret
        exact HEND.out
end Go.Proofs.YtmmijmhdbpldpaaGreatDoor
/- parseAutoHTTP: an address among words. -/

namespace Go.Proofs.YtmmijmhdbpldpaaGreatDoor
open Go.RowKit
theorem isLDH_slash (w : World) : Calls Tryz.prog 185 #[.int .u8 47] w fun e w' => e = .returned (.bool false) ∧ w' = w := by
  have H : ∀ W, Calls Tryz.prog 130 #[.int .u8 47] W fun e w' => e = .returned (.bool false) ∧ w' = W := by
    intro W
    go_enter Tryz.func130, Tryz.ntmps130
    go_wp2_with fail
    go_ret
    exact ⟨rfl, rfl⟩
  have H := hid H
  go_enter Tryz.func185, Tryz.ntmps185
  go_wp2_with fail
  refine (H.out _).mono ?_
  rintro e w1 ⟨rfl, rfl⟩
  go_wp2_with fail
  go_ret
  exact ⟨rfl, rfl⟩
theorem decRune_ascii (t : ByteArray) (z : Int) (w : World) (h0 : 0 < t.size) (hz : bt t 0 = z) (h1 : z < 128) (h2 : 0 ≤ z) :
    Calls Tryz.prog 105 #[.string t] w fun e w' => e = .returned (.tuple #[.int .i32 z, .int .i64 1]) ∧ w' = w := by
  have hb := get_bt t
  have hemp : t.toList.isEmpty = false := by
    rw [← decide_eq_emptyBytes]
    refine decide_eq_false (fun h => ?_)
    rw [h] at h0
    have : ByteArray.empty.size = 0 := rfl
    omega
  go_enter Tryz.func105, Tryz.ntmps105
  go_wp2_with fail
  go_ret2
  exact ⟨rfl, rfl⟩
/-- What may stand in an address's path. -/
def PC (z : Int) : Prop := z = 97 ∨ z = 98 ∨ z = 47
theorem space_no (z : Int) (w : World) (h : PC z) : Calls Tryz.prog 106 #[.int .i32 z] w fun e w' => e = .returned (.bool false) ∧ w' = w := by
  rcases h with rfl | rfl | rfl <;>
  · go_enter Tryz.func106, Tryz.ntmps106
    go_wp2_with fail
    go_ret
    exact ⟨rfl, rfl⟩
theorem space_yes (w : World) : Calls Tryz.prog 106 #[.int .i32 32] w fun e w' => e = .returned (.bool true) ∧ w' = w := by
  go_enter Tryz.func106, Tryz.ntmps106
  go_wp2_with fail
  go_ret
  exact ⟨rfl, rfl⟩
/-- Where the parts of an address stand, from its domain on. -/
structure DomAt (s : ByteArray) (st d x k : Nat) : Prop where
  size : s.size ≤ 100000
  sd : st < d
  dx : d + 1 < x
  xk : x < k
  ks : k < s.size
  bd : bt s d = 46
  bx : bt s x = 47
  bk : bt s k = 32
  dom : ∀ m, st ≤ m → m < d → LD (bt s m)
  end_ : ∀ m, d < m → m < x → LD (bt s m)
  path : ∀ m, x ≤ m → m < k → PC (bt s m)
set_option maxRecDepth 20000 in
set_option maxHeartbeats 3200000 in
theorem validDomain_yes (s : ByteArray) (st d x k vd : Nat) (w : World) (h : DomAt s st d x k) (hv : Blk w vd 274 #[.string s, .int .i64 0]) :
    Calls Tryz.prog 205 #[.pointer (some ⟨vd, 0, none⟩), .int .i64 st] w fun e w' => e = .returned (.tuple #[.int .i64 ((x : Int) - st), .bool true]) ∧ w' = w := by
  obtain ⟨hs, sd, dx, xk, hks, bd, bx, bk, hd, he, hp⟩ := h
  have hb := get_bt s
  have c0 := hv.at_ 0 (v := .string s) rfl
  have c1 := hv.at_ 1 (v := .int .i64 0) rfl
  have HD := hid hd
  have HE := hid he
  have d95 : (bt s d == 95) = false := by rw [bd]; rfl
  have d46 : (bt s d == 46) = true := by rw [bd]; rfl
  have x95 : (bt s x == 95) = false := by rw [bx]; rfl
  have x46 : (bt s x == 46) = false := by rw [bx]; rfl
  have HX := hid (show ∀ W, Calls Tryz.prog 185 #[.int .u8 (bt s x)] W fun e w' => e = .returned (.bool false) ∧ w' = W from fun W => by rw [bx]; exact isLDH_slash W)
  clear hv hd he hp bd bx bk
  go_enter Tryz.func205, Tryz.ntmps205
  go_wp2_with fail
  go_loopw [6, 7] (fun t6 t7 wr => ∃ m : Nat, t6 = .int .i64 m ∧ st ≤ m ∧ m ≤ x ∧ wr = w ∧ ((t7 = .int .i64 0 ∧ m ≤ d) ∨ (t7 = .int .i64 1 ∧ d < m))) (fun t6 _ _ => x + 1 - (intOf t6).toNat)
  case atStart => exact ⟨st, rfl, Nat.le_refl _, by omega, rfl, .inl ⟨rfl, by omega⟩⟩
  case round =>
    obtain ⟨m, rfl, hm1, hm2, rfl, hm3⟩ := hrel
    rcases hm3 with ⟨rfl, hm3⟩ | ⟨rfl, hm3⟩
    · by_cases hlt : m < d
      · have hz := HD.out m hm1 hlt
        obtain ⟨z95, _, z46, _⟩ := hz.ne
        have HZ := hid (isLDH_yes (bt s m) wr hz)
        clear hz
        go_wp2_with fail
        refine HZ.out.mono ?_
        rintro e w1 ⟨rfl, rfl⟩
        go_wp2_with fail
        go_roundw
        case rel => exact ⟨m + 1, by go_num, by omega, by omega, trivial, .inl ⟨rfl, by omega⟩⟩
        case measure => simp [intOf]; omega
      · obtain rfl : m = d := by omega
        go_wp2_with fail
        go_roundw
        case rel => exact ⟨m + 1, by go_num, by omega, by omega, trivial, .inr ⟨rfl, by omega⟩⟩
        case measure => simp [intOf]; omega
    · by_cases hlt : m < x
      · have hz := HE.out m hm3 hlt
        obtain ⟨z95, _, z46, _⟩ := hz.ne
        have HZ := hid (isLDH_yes (bt s m) wr hz)
        clear hz
        go_wp2_with fail
        refine HZ.out.mono ?_
        rintro e w1 ⟨rfl, rfl⟩
        go_wp2_with fail
        go_roundw
        case rel => exact ⟨m + 1, by go_num, by omega, by omega, trivial, .inr ⟨rfl, by omega⟩⟩
        case measure => simp [intOf]; omega
      · obtain rfl : m = x := by omega
        go_wp2_with fail
        refine (HX.out _).mono ?_
        rintro e w1 ⟨rfl, rfl⟩
        go_wp2_with fail
        go_ret2
        exact ⟨rfl, rfl⟩
end Go.Proofs.YtmmijmhdbpldpaaGreatDoor
/- parseAutoHTTP and parseAutoProto: an address among words. -/

namespace Go.Proofs.YtmmijmhdbpldpaaGreatDoor
open Go.RowKit
theorem bt_ext2 (s : ByteArray) (a b m : Nat) (h : a + m < b) : bt (s.extract a b) m = bt s (a + m) := by
  have e : s = ⟨s.data.toList.toArray⟩ := ByteArray.ext Array.toArray_toList.symm
  have e2 : bt s (a + m) = bt ⟨s.data.toList.toArray⟩ (a + m) := by rw [← e]
  rw [e2, extract_mk, bt_list, bt_list, List.getElem?_drop, List.getElem?_take, if_pos h]
theorem PC.eqs {z : Int} (h : PC z) : (z == 60) = false ∧ (z == 40) = false ∧ (z == 41) = false ∧ z < 128 ∧ 0 ≤ z := by
  rcases h with rfl | rfl | rfl <;> exact ⟨rfl, rfl, rfl, by decide, by decide⟩
theorem PC.eqs2 {z : Int} (h : PC z) : (z == 63) = false ∧ (z == 33) = false ∧ (z == 46) = false ∧ (z == 44) = false ∧ (z == 58) = false ∧ (z == 64) = false ∧ (z == 95) = false ∧ (z == 126) = false ∧ (z == 41) = false ∧ (z == 59) = false := by
  rcases h with rfl | rfl | rfl <;> exact ⟨rfl, rfl, rfl, rfl, rfl, rfl, rfl, rfl, rfl, rfl⟩
set_option maxRecDepth 20000 in
set_option maxHeartbeats 8000000 in
theorem parseAutoHTTP_yes (p : Value) (sch s : ByteArray) (j st d x k vd : Nat) (w : World) (h : DomAt s st d x k) (hj : j < st) (hsch : sch.size ≤ 100) (hv : Blk w vd 274 #[.string s, .int .i64 0]) :
    Calls Tryz.prog 194 #[p, .string sch, .string s, .int .i64 j, .int .i64 st, .int .i64 ((st : Int) + 1), .pointer (some ⟨vd, 0, none⟩)] w fun e w' => ∃ b rb pb c, e = .returned (.tuple #[.pointer (some ⟨b, 0, none⟩), .string (s.extract k s.size), .bool true]) ∧ IsLink1 w' b rb pb c (s.extract j k) (sch ++ s.extract st k) ∧ w.heap.size ≤ b ∧ w.heap.size ≤ rb ∧ w.heap.size ≤ pb ∧ Below w.heap.size w w' := by
  have HV := hid (validDomain_yes s st d x k vd w h hv)
  obtain ⟨hs, sd, dx, xk, hks, bd, bx, bk, hd, he, hp⟩ := h
  have hb := get_bt s
  obtain ⟨k1, rfl⟩ : ∃ k1, k = k1 + 1 := ⟨k - 1, by omega⟩
  have hl := hp k1 (by omega) (by omega)
  obtain ⟨l63, l33, l46, l44, l58, l64, l95, l126, l41, l59⟩ := hl.eqs2
  have HP := hid hp
  have HK := hid bk
  have hjs : ((j : Int) == (st : Int)) = false := by simp; omega
  clear hd he hp bd bx bk hv hl
  go_enter Tryz.func194, Tryz.ntmps194
  go_wp2_with fail
  go_step3
  go_wp2_with fail
  refine HV.out.mono ?_
  rintro e w1 ⟨rfl, rfl⟩
  clear HV
  go_wp2_with fail
  go_loopw [19, 21] (fun t19 t21 wr => ∃ m : Nat, t19 = .int .i64 m ∧ x ≤ m ∧ m ≤ k1 + 1 ∧ wr = w1 ∧ t21 = .int .i64 0) (fun t19 _ _ => k1 + 2 - (intOf t19).toNat)
  case atStart => exact ⟨x, by go_num, Nat.le_refl _, by omega, rfl, rfl⟩
  case round =>
    obtain ⟨m, rfl, hm1, hm2, rfl, rfl⟩ := hrel
    have hez : (s.extract m s.size).size = s.size - m := by rw [ByteArray.size_extract]; omega
    have heb : bt (s.extract m s.size) 0 = bt s m := by rw [bt_ext2 s m s.size 0 (by omega), Nat.add_zero]
    by_cases hlt : m < k1 + 1
    · have hz := HP.out m hm1 hlt
      obtain ⟨z60, z40, z41, z128, z0⟩ := hz.eqs
      have HR := hid (decRune_ascii (s.extract m s.size) (bt s m) wr (by omega) heb z128 z0)
      have HS := hid (space_no (bt s m) wr hz)
      clear hz z128 z0 hez heb
      go_wp2_with fail
      refine HR.out.mono ?_
      rintro e w2 ⟨rfl, rfl⟩
      go_wp2_with fail
      refine HS.out.mono ?_
      rintro e w2 ⟨rfl, rfl⟩
      go_wp2_with fail
      go_roundw
      case rel => exact ⟨m + 1, by go_num, by omega, by omega, trivial, rfl⟩
      case measure => simp [intOf]; omega
    · obtain rfl : m = k1 + 1 := by omega
      have HR := hid (decRune_ascii (s.extract (k1 + 1) s.size) 32 wr (by omega) (by rw [heb, HK.out]) (by decide) (by decide))
      have HS := hid (space_yes wr)
      clear hez heb
      go_wp2_with fail
      refine HR.out.mono ?_
      rintro e w2 ⟨rfl, rfl⟩
      go_wp2_with fail
      refine HS.out.mono ?_
      rintro e w2 ⟨rfl, rfl⟩
      go_wp2_with fail
      go_step3
      go_wp2_with fail
      clear HR HS HP HK
      refine wp_loop_rounds 1 ?_
      rw [rounds_succ]
      go_wp2_with fail
      clear hb l63 l33 l46 l44 l58 l64 l95 l126 l41 l59 hjs
      go_region
      have hL := hid (link_made w2 (s.extract j (k1 + 1)) (sch ++ s.extract st (k1 + 1)))
      generalize hW : (World.drew _) = w3 at hL ⊢
      clear hW
      go_wp2_with fail
      go_quiet (fail)
      go_wp2_with fail
      all_goals (try rw [Exit.noGoto_ret])
      refine bodyPost_ret (by simp [results, Tryz.results194, go_sem]; try rfl) rfl ?_
      obtain ⟨⟨q1, q2, q3⟩, q4⟩ := hL.out
      exact ⟨w2.heap.size + 1 + 1, w2.heap.size + 1, w2.heap.size, 1, rfl, ⟨q1.drewN nq, q2.drewN nq, q3.drewN nq⟩, by omega, by omega, Nat.le_refl _, below_drewN q4 nq⟩
end Go.Proofs.YtmmijmhdbpldpaaGreatDoor
/- parseAutoProto: an address that begins with http:// or https://. -/

namespace Go.Proofs.YtmmijmhdbpldpaaGreatDoor
open Go.RowKit
theorem ext_ext (s : ByteArray) (j n : Nat) (_ : j + n ≤ s.size) : (s.extract j s.size).extract 0 n = s.extract j (j + n) := by
  rw [extract_mk, extract_mk, extract_mk]
  have h1 : s.data.toList.take s.size = s.data.toList := List.take_of_length_le (by rw [← Lib.size_eq]; exact Nat.le_refl _)
  rw [h1]
  congr 2
  show ((s.data.toList.drop j).take n).drop 0 = (s.data.toList.take (j + n)).drop j
  rw [List.drop_zero, List.drop_take, Nat.add_sub_cancel_left]
set_option maxHeartbeats 400000 in
theorem hasPre_yes (s p : ByteArray) (w : World) (_ : s.size ≤ 1000000) (hp : p.size ≤ s.size) (h : s.extract 0 p.size = p) :
    Calls Tryz.prog 31 #[.string s, .string p] w fun e w' => e = .returned (.bool true) ∧ w = w' := by
  have hE : ((s.extract 0 p.size).toList == p.toList) = true := by rw [h]; simp
  have HH := hid h
  clear h
  go_enter Tryz.func31, Tryz.ntmps31
  go_wp2
  go_ret
  exact ⟨rfl, rfl⟩
set_option maxHeartbeats 400000 in
theorem hasPre_no (s p : ByteArray) (q : Nat) (w : World) (_ : s.size ≤ 1000000) (hq : q < p.size) (hp : p.size ≤ s.size) (h : bt s q ≠ bt p q) :
    Calls Tryz.prog 31 #[.string s, .string p] w fun e w' => e = .returned (.bool false) ∧ w = w' := by
  have hE : ((s.extract 0 p.size).toList == p.toList) = false := by
    rw [beq_eq_false_iff_ne]
    intro he
    apply h
    have h1 : s.extract 0 p.size = p := by
      apply ByteArray.ext
      apply Array.ext'
      rw [Lib.toList_data, Lib.toList_data] at he
      exact he
    have h2 : bt (s.extract 0 p.size) q = bt s q := by rw [bt_ext2 s 0 p.size q (by omega), Nat.zero_add]
    rw [← h2, h1]
  go_enter Tryz.func31, Tryz.ntmps31
  go_wp2
  go_ret
  exact ⟨rfl, rfl⟩
def httpB (sec : Bool) : ByteArray := if sec then ⟨#[104, 116, 116, 112, 115, 58, 47, 47]⟩ else ⟨#[104, 116, 116, 112, 58, 47, 47]⟩
@[reducible] def ProtoQ (u s : ByteArray) (j k : Nat) (w : World) (e : Ending) (w' : World) : Prop := ∃ b rb pb c, e = .returned (.tuple #[.pointer (some ⟨b, 0, none⟩), .string (s.extract k s.size), .bool true]) ∧ IsLink1 w' b rb pb c (s.extract j k) u ∧ w.heap.size ≤ b ∧ w.heap.size ≤ rb ∧ w.heap.size ≤ pb ∧ Below w.heap.size w w'
theorem bt_lit (s : ByteArray) (j n m : Nat) (b : ByteArray) (h : s.extract j (j + n) = b) (hm : m < n) : bt s (j + m) = bt b m := by
  rw [← h, bt_ext2 s j (j + n) m (by omega)]
set_option maxRecDepth 20000 in
set_option maxHeartbeats 1600000 in
theorem parseProto_https (p : Value) (s : ByteArray) (j d x k vd : Nat) (w : World) (h : DomAt s (j + 8) d x k) (hx : s.extract j (j + 8) = httpB true) (hv : Blk w vd 274 #[.string s, .int .i64 0]) :
    Calls Tryz.prog 172 #[p, .string s, .int .i64 j, .pointer (some ⟨vd, 0, none⟩)] w (ProtoQ (httpB true ++ s.extract (j + 8) k) s j k w) := by
  have hb := get_bt s
  have hs := h.size
  have hks : j + 8 < s.size := by have := h.sd; have := h.dx; have := h.xk; have := h.ks; omega
  have HH := hid (parseAutoHTTP_yes p (httpB true) s j (j + 8) d x k vd w h (by omega) (by decide) hv)
  rw [show ((j + 8 : Nat) : Int) = (j : Int) + 8 from by omega] at HH
  have hj : (bt s j == 104) = true := by
    have := bt_lit s j 8 0 _ hx (by decide)
    rw [Nat.add_zero] at this
    rw [this]
    rfl
  have hez : (s.extract j s.size).size = s.size - j := by rw [ByteArray.size_extract]; omega
  have HP := hid (hasPre_yes (s.extract j s.size) ⟨#[104, 116, 116, 112, 115, 58, 47, 47]⟩ w (by omega) (by rw [hez]; show 8 ≤ _; omega) (by
    show (s.extract j s.size).extract 0 8 = _
    rw [ext_ext s j 8 (by omega), hx]
    rfl))
  have hse : s.toList.isEmpty = false := by
    rw [← decide_eq_emptyBytes]
    refine decide_eq_false (fun e => ?_)
    rw [e] at hks
    have : ByteArray.empty.size = 0 := rfl
    omega
  clear h hv hez
  have hx8 : s.extract j (j + 8) = httpB true := hx
  clear hx
  go_enter Tryz.func172, Tryz.ntmps172
  go_wp2_with fail
  refine HP.out.mono ?_
  rintro e w1 ⟨rfl, rfl⟩
  go_wp2_with fail
  refine HH.out.mono ?_
  rintro e w1 ⟨b, rb, pb, c, rfl, q⟩
  go_wp2_with fail
  refine bodyPost_ret (by simp [results, Tryz.results172, go_sem]; try rfl) rfl ?_
  exact ⟨b, rb, pb, c, rfl, q⟩
set_option maxRecDepth 20000 in
set_option maxHeartbeats 1600000 in
theorem parseProto_http (p : Value) (s : ByteArray) (j d x k vd : Nat) (w : World) (h : DomAt s (j + 7) d x k) (hx : s.extract j (j + 7) = httpB false) (hv : Blk w vd 274 #[.string s, .int .i64 0]) :
    Calls Tryz.prog 172 #[p, .string s, .int .i64 j, .pointer (some ⟨vd, 0, none⟩)] w (ProtoQ (httpB false ++ s.extract (j + 7) k) s j k w) := by
  have hb := get_bt s
  have hs := h.size
  have hks : j + 8 < s.size := by have := h.sd; have := h.dx; have := h.xk; have := h.ks; omega
  have HH := hid (parseAutoHTTP_yes p (httpB false) s j (j + 7) d x k vd w h (by omega) (by decide) hv)
  rw [show ((j + 7 : Nat) : Int) = (j : Int) + 7 from by omega] at HH
  have hj : (bt s j == 104) = true := by
    have := bt_lit s j 7 0 _ hx (by decide)
    rw [Nat.add_zero] at this
    rw [this]
    rfl
  have hez : (s.extract j s.size).size = s.size - j := by rw [ByteArray.size_extract]; omega
  have HN := hid (hasPre_no (s.extract j s.size) ⟨#[104, 116, 116, 112, 115, 58, 47, 47]⟩ 4 w (by omega) (by decide) (by rw [hez]; show 8 ≤ _; omega) (by
    rw [bt_ext2 s j s.size 4 (by omega), bt_lit s j 7 4 _ hx (by decide)]
    decide))
  have HP := hid (hasPre_yes (s.extract j s.size) ⟨#[104, 116, 116, 112, 58, 47, 47]⟩ w (by omega) (by rw [hez]; show 7 ≤ _; omega) (by
    show (s.extract j s.size).extract 0 7 = _
    rw [ext_ext s j 7 (by omega), hx]
    rfl))
  have hse : s.toList.isEmpty = false := by
    rw [← decide_eq_emptyBytes]
    refine decide_eq_false (fun e => ?_)
    rw [e] at hks
    have : ByteArray.empty.size = 0 := rfl
    omega
  clear h hv hez
  have hx8 : s.extract j (j + 7) = httpB false := hx
  clear hx
  go_enter Tryz.func172, Tryz.ntmps172
  go_wp2_with fail
  refine HN.out.mono ?_
  rintro e w1 ⟨rfl, rfl⟩
  go_wp2_with fail
  refine HP.out.mono ?_
  rintro e w1 ⟨rfl, rfl⟩
  go_wp2_with fail
  refine HH.out.mono ?_
  rintro e w1 ⟨b, rb, pb, c, rfl, q⟩
  go_wp2_with fail
  refine bodyPost_ret (by simp [results, Tryz.results172, go_sem]; try rfl) rfl ?_
  exact ⟨b, rb, pb, c, rfl, q⟩
end Go.Proofs.YtmmijmhdbpldpaaGreatDoor
/- autoLinkPlain: an address among words becomes a link. -/


namespace Go.Proofs.YtmmijmhdbpldpaaGreatDoor
open Go.RowKit
theorem isLetter_sp (w : World) : Calls Tryz.prog 142 #[.int .u8 32] w fun e w' => e = .returned (.bool false) ∧ w' = w := by
  go_enter Tryz.func142, Tryz.ntmps142
  go_wp2_with fail
  go_ret
  exact ⟨rfl, rfl⟩
/-- What has been made of the text up to the address: two parts. -/
def AutoSt (w w' : World) (s u : ByteArray) (j k ob oc : Nat) : Prop := ∃ pa b rb pb c, w'.ownsRow w.heap.size 132 1 (.slice (some ⟨ob, 0, none⟩) 2 oc) 2 [plV pa, lkV b] ∧ Blk w' pa 137 #[.string (s.extract 0 j)] ∧ IsLink1 w' b rb pb c (s.extract j k) u ∧
  w.heap.size ≤ pa ∧ w.heap.size ≤ b ∧ w.heap.size ≤ rb ∧ w.heap.size ≤ pb ∧ rb ≠ ob ∧ Below w.heap.size w w'
/-- .. and of the whole text: three. -/
def AutoEnd (w : World) (s u : ByteArray) (j k : Nat) (e : Ending) (w' : World) : Prop := ∃ oa oc pa b rb pb c qa, e = .returned (.slice (some ⟨oa, 0, none⟩) 3 oc) ∧ w'.ownsRow w.heap.size 132 1 (.slice (some ⟨oa, 0, none⟩) 3 oc) 3 [plV pa, lkV b, plV qa] ∧
  Blk w' pa 137 #[.string (s.extract 0 j)] ∧ IsLink1 w' b rb pb c (s.extract j k) u ∧ Blk w' qa 137 #[.string (s.extract k s.size)] ∧ w.heap.size ≤ pa ∧ w.heap.size ≤ b ∧ w.heap.size ≤ rb ∧ w.heap.size ≤ pb ∧ w.heap.size ≤ qa ∧ Below w.heap.size w w'
set_option maxRecDepth 20000 in
set_option maxHeartbeats 1600000 in
theorem autoPlain_http (g : Nat) (s u : ByteArray) (j k : Nat) (w : World) (hsz : s.size ≤ 100000) (hj0 : 0 < j) (hjk : j + 7 < k) (hks : k < s.size) (h104 : bt s j = 104) (h32 : bt s (j - 1) = 32) (hq : ∀ m, m < j → QL (bt s m)) (hq2 : ∀ m, k ≤ m → m < s.size → QL (bt s m))
    (hpr : ∀ (vd : Nat) (W : World), Blk W vd 274 #[.string s, .int .i64 0] → Calls Tryz.prog 172 #[.pointer (some ⟨g, 0, none⟩), .string s, .int .i64 j, .pointer (some ⟨vd, 0, none⟩)] W (ProtoQ u s j k W)) :
    Calls Tryz.prog 123 #[.pointer (some ⟨g, 0, none⟩), .string s] w (AutoEnd w s u j k) := by
  obtain ⟨is0, his0, hsz0, hsz1, hsz2⟩ := info_parts infoInl
  have hb := get_bt s
  obtain ⟨j1, rfl⟩ : ∃ j1, j = j1 + 1 := ⟨j - 1, by omega⟩
  rw [Nat.add_sub_cancel] at h32
  have e64 : (bt s (j1 + 1) == 64) = false := by rw [h104]; rfl
  have e104 : (bt s (j1 + 1) == 104) = true := by rw [h104]; rfl
  have HQ := hid hq
  have HQ2 := hid hq2
  have HIL := hid (show ∀ W, Calls Tryz.prog 142 #[.int .u8 (bt s j1)] W fun e w' => e = .returned (.bool false) ∧ w' = W from fun W => by rw [h32]; exact isLetter_sp W)
  have HPR := hid hpr
  clear hq hq2 hpr h104 h32
  obtain ⟨A, HA⟩ : ∃ A, Hid (A = s.extract k s.size) := ⟨_, hid rfl⟩
  obtain ⟨Bf, HBF⟩ : ∃ A, Hid (A = s.extract 0 (j1 + 1)) := ⟨_, hid rfl⟩
  have hAz : A.size = s.size - k := by rw [HA.out, ByteArray.size_extract]; omega
  have hAs : (s.size : Int) - (A.size : Int) = (k : Int) := by omega
  have HAZ := hid hAz
  clear hAz
  have hBe : Bf.toList.isEmpty = false := by
    rw [← decide_eq_emptyBytes]
    refine decide_eq_false (fun e => ?_)
    have h1 : Bf.size = j1 + 1 := by rw [HBF.out, ByteArray.size_extract]; omega
    rw [e] at h1
    have h2 : ByteArray.empty.size = 0 := rfl
    omega
  go_enter Tryz.func123, Tryz.ntmps123
  go_wp2_with fail
  refine wp_scope_jumps 0 (fun a' w' => ∃ (vd ob oc : Nat) (U : Nat → Value), a' = alFrame g vd ob oc A U ∧ AutoSt w w' s u (j1 + 1) k ob oc) (fun _ _ => 0) rfl ?_ ?_
  · go_wp2_with fail
    go_step3
    go_wp2_with fail
    have HV := hid (show Blk _ w.heap.size 274 #[.string s, .int .i64 0] from Blk.new w _ _)
    have HB1 := hid ((Below.refl w.heap.size w).alloc (Nat.le_refl _) (.cells #[.string s, .int .i64 0] 274))
    generalize World.alloc w _ = W1 at HV HB1 ⊢
    go_loopw [1, 6, 7] (fun t1 t6 t7 wr => ∃ m : Nat, t7 = .int .i64 m ∧ m ≤ j1 + 1 ∧ wr = W1 ∧ t1 = .string s ∧ t6 = .slice none 0 0) (fun _ _ t7 _ => j1 + 2 - (intOf t7).toNat)
    case atStart => exact ⟨0, rfl, Nat.zero_le _, rfl, rfl, rfl⟩
    case round =>
      obtain ⟨m, rfl, hm, rfl, rfl, rfl⟩ := hrel
      by_cases hlt : m < j1 + 1
      · obtain ⟨z64, z104, z109, z120, z119⟩ := (HQ.out m hlt).eqs
        go_wp2_with fail
        go_roundw
        case rel => exact ⟨m + 1, by go_num, by omega, trivial, rfl, rfl⟩
        case measure => simp [intOf]; omega
      · obtain rfl : m = j1 + 1 := by omega
        have HEM := hid (HPR.out w.heap.size wr HV.out)
        unfold ProtoQ at HEM
        rw [← HA.out] at HEM
        clear HPR
        have hbf : s.extract 0 (j1 + 1) = Bf := HBF.out.symm
        go_wp2_with fail
        refine (HIL.out _).mono ?_
        rintro e w2 ⟨rfl, rfl⟩
        go_wp2_with fail
        refine HEM.out.mono ?_
        rintro e w2 ⟨b, rb, pb, c, rfl, hl1, hbB, hrB, hpB, hbel⟩
        have hW := HB1.out.size
        have hW2 := hbel.size
        have HL1 := hid hl1
        have hrlt := hl1.2.1.lt
        have HB2 := hid (HB1.out.trans (hbel.mono HB1.out.size))
        have HV2 := hid (HV.out.mod (S := fun _ => False) (Mod.below' hbel) (fun x => x))
        clear hl1 hbel HEM HV HB1
        go_wp2_with (at_builtin; refine wpList_append_lies _ rfl (.tmp 100) (.tmp 107) 88 (by rfl) w.heap.size 132 is0 _ 1 16 Tryz.underlying88 his0 hsz0 hsz1 hsz2 rfl (by decide) (.slice none 0 0) 0 [] (by rfl) (World.ownsRow_nil _ _ _ _) ⟨w2.heap.size + 1, 0, none⟩ 1 1 [plV w2.heap.size] (by rfl) rfl (newsA w2 _ _ _) (by intro v hv; simp at hv; subst hv; rfl) (by omega) (by unfold maxLen; omega) (by omega) (by simp; omega) (w2.heap.size + 2) (by simp) ?_)
        intro ga ca wa howna hgra hata hlta
        have HGA := hid (show ga = w2.heap.size + 2 from by
          rcases hata with e | e
          · cases e
          · exact e)
        have kpa : ∀ q ty cs, Blk w2 q ty cs → Blk wa q ty cs := fun q ty cs hq => Blk.grown (Blk.alloc (Blk.alloc hq _) _) hgra (by simp [Value.ownBlock])
        have HPA := hid (show Blk wa w2.heap.size 137 #[.string Bf] from Blk.grown (Blk.alloc (Blk.new _ _ _) _) hgra (by simp [Value.ownBlock]))
        have HLA := hid (show IsLink1 wa b rb pb c (s.extract (j1 + 1) k) u from ⟨kpa _ _ _ HL1.out.1, kpa _ _ _ HL1.out.2.1, kpa _ _ _ HL1.out.2.2⟩)
        have HVA := hid (kpa _ _ _ HV2.out)
        have HBA := hid (((HB2.out.alloc HB2.out.size (.cells #[.string Bf] 137)).alloc (by have := HB2.out.size; simp; omega) (.cells #[plV w2.heap.size] 132)).grown hgra (by have := HB2.out.size; simp; omega) (fun q hq => by cases hq))
        have HOA := hid howna
        have hwa := HBA.out.size
        have hza : w2.heap.size + 2 < wa.heap.size := by have := HGA.out; omega
        clear howna hgra hata hlta kpa HL1 HV2 HB2
        go_wp2_with (at_builtin; refine wpList_append_lies _ rfl (.tmp 109) (.tmp 112) 88 (by rfl) w.heap.size 132 is0 _ 1 16 Tryz.underlying88 his0 hsz0 hsz1 hsz2 rfl (by decide) (.slice (some ⟨ga, 0, none⟩) 1 ca) 1 [plV w2.heap.size] (by rfl) (World.ownsRow.alloc HOA.out _) ⟨wa.heap.size, 0, none⟩ 1 1 [lkV b] (by rfl) rfl (World.news_of_block (heap_alloc_new _ _)) (by intro v hv; simp at hv; subst hv; rfl) (by omega) (by unfold maxLen; omega) (by omega) (by simp; omega) (wa.heap.size + 1) (by simp) ?_)
        intro gb cb wb hownb hgrb hatb hltb
        have hgb := hid (show gb = ga ∨ gb = wa.heap.size + 1 from by
          rcases hatb with e | e
          · left; simp only [Value.ownBlock, Option.some.injEq] at e; exact e.symm
          · right; exact e)
        have kpb : ∀ q ty cs, Blk wa q ty cs → q ≠ ga → Blk wb q ty cs := fun q ty cs hq hn => Blk.grown (Blk.alloc hq _) hgrb (by simp only [Value.ownBlock]; intro e; exact hn (Option.some.inj e))
        have hrl := HLA.out.2.1.lt
        have HPB := hid (kpb _ _ _ HPA.out (by have := HGA.out; omega))
        have HLB := hid (show IsLink1 wb b rb pb c (s.extract (j1 + 1) k) u from ⟨kpb _ _ _ HLA.out.1 (fun e => own_ne HOA.out HLA.out.1 (by decide) (by simp [Value.ownBlock, e])), kpb _ _ _ HLA.out.2.1 (by have := HGA.out; omega), kpb _ _ _ HLA.out.2.2 (fun e => own_ne HOA.out HLA.out.2.2 (by decide) (by simp [Value.ownBlock, e]))⟩)
        have HVB := hid (kpb _ _ _ HVA.out (by have := HGA.out; omega))
        have HBB := hid ((HBA.out.alloc HBA.out.size (.cells #[lkV b] 132)).grown hgrb (by have := HBA.out.size; simp; omega) (fun q hq => ownBase HOA.out hq.symm))
        have HOB := hid hownb
        have hrb2 : rb ≠ gb := by have := HGA.out; have := hgb.out; omega
        have HSK := hid (vdSkip_any w.heap.size s A k wb HVB.out (by omega) hsz HA.out.symm)
        clear hownb hgrb hatb hltb kpb HPA HLA HVA HBA HOA HGA hgb
        go_wp2_with fail
        refine HSK.out.mono ?_
        rintro e w4 ⟨rfl, hm4⟩
        go_wp2_with fail
        go_step3
        refine ⟨rfl, ⟨w.heap.size, gb, cb, nthA _, alframe_eq _ (by kernel_rfl), ?_⟩⟩
        have hbm : Below w.heap.size w w4 := HBB.out.trans (hm4.toBelow (B := w.heap.size) HBB.out.size (fun q hq e => by omega))
        have hne : ∀ q ty cs, Blk wb q ty cs → ty ≠ 274 → Blk w4 q ty cs := fun q ty cs hq ht => hq.mod hm4 (fun e => by subst e; exact Blk.ne_ hq HVB.out ht rfl)
        refine ⟨w2.heap.size, b, rb, pb, c, own_mod HOB.out hm4 (fun q hq e => by subst e; exact own_ne HOB.out HVB.out (by decide) hq.symm), ?_, ⟨hne _ _ _ HLB.out.1 (by decide), hne _ _ _ HLB.out.2.1 (by decide), hne _ _ _ HLB.out.2.2 (by decide)⟩, by omega, by omega, by omega, by omega, hrb2, hbm⟩
        rw [← HBF.out]
        exact hne _ _ _ HPB.out (by decide)
  · rintro a' w1 ⟨vd, ob, oc, U, rfl, pa, b, rb, pb, c, hown, hpa, hl, q1, q2, q3, q4, hro, hbel⟩
    have HO := hid hown
    have HPA := hid hpa
    have HL := hid hl
    have HB := hid hbel
    have hAq : ∀ m, m < A.size → QL (bt A m) := fun m hm => by
      rw [HAZ.out] at hm
      have e : bt A m = bt s (k + m) := by rw [HA.out]; exact bt_ext s k s.size m (by omega)
      rw [e]
      exact HQ2.out (k + m) (by omega) (by omega)
    have HAQ := hid hAq
    have hbA := get_bt A
    have hAl : A.size ≤ 100000 := by rw [HAZ.out]; omega
    clear hown hpa hl hbel hAq HPR hAs hb HIL e64 e104
    go_wp2_with fail
    go_loopw [1, 6, 7] (fun t1 t6 t7 wr => ∃ m : Nat, t7 = .int .i64 m ∧ m ≤ A.size ∧ wr = w1 ∧ t1 = .string A ∧ t6 = .slice (some ⟨ob, 0, none⟩) 2 oc) (fun _ _ t7 _ => A.size + 1 - (intOf t7).toNat)
    case atStart => exact ⟨0, rfl, Nat.zero_le _, rfl, rfl, rfl⟩
    case round =>
      obtain ⟨m, rfl, hm, rfl, rfl, rfl⟩ := hrel
      by_cases hlt : m < A.size
      · obtain ⟨z64, z104, z109, z120, z119⟩ := (HAQ.out m hlt).eqs
        go_wp2_with fail
        go_roundw
        case rel => exact ⟨m + 1, by go_num, by omega, trivial, rfl, rfl⟩
        case measure => simp [intOf]; omega
      · obtain rfl : m = A.size := by omega
        have hsw := HB.out.size
        have hnil : ∀ W : World, (binOp .eql 88 (.slice (some ⟨ob, 0, none⟩) 2 oc) (.slice none 0 0)).run Tryz.prog W = .ok (.bool false) W := fun _ => rfl
        go_wp2_with (at_builtin; refine wpList_append_lies _ rfl (.tmp 124) (.tmp 129) 88 (by rfl) w.heap.size 132 is0 _ 1 16 Tryz.underlying88 his0 hsz0 hsz1 hsz2 rfl (by decide) (.slice (some ⟨ob, 0, none⟩) 2 oc) 2 [plV pa, lkV b] (by rfl) (World.ownsRow.alloc (World.ownsRow.alloc HO.out _) _) ⟨wr.heap.size + 1, 0, none⟩ 1 1 [plV wr.heap.size] (by rfl) rfl (newsA wr _ _ _) (by intro v hv; simp at hv; subst hv; rfl) (by omega) (by unfold maxLen; omega) (by omega) (by simp; omega) (wr.heap.size + 2) (by simp) ?_)
        intro gc cc wc hownc hgrc hatc hltc
        have kpc : ∀ q ty cs, Blk wr q ty cs → q ≠ ob → Blk wc q ty cs := fun q ty cs hq hn => Blk.grown (Blk.alloc (Blk.alloc hq _) _) hgrc (by simp only [Value.ownBlock]; intro e; exact hn (Option.some.inj e))
        have hob := ownLt HO.out (k := ob) rfl
        have HEND := hid (show AutoEnd w s u (j1 + 1) k (.returned (.slice (some ⟨gc, 0, none⟩) 3 cc)) wc from ⟨gc, cc, pa, b, rb, pb, c, wr.heap.size, rfl, hownc, kpc _ _ _ HPA.out (fun e => own_ne HO.out HPA.out (by decide) (by simp only [Value.ownBlock, e])), ⟨kpc _ _ _ HL.out.1 (fun e => own_ne HO.out HL.out.1 (by decide) (by simp only [Value.ownBlock, e])), kpc _ _ _ HL.out.2.1 hro, kpc _ _ _ HL.out.2.2 (fun e => own_ne HO.out HL.out.2.2 (by decide) (by simp only [Value.ownBlock, e]))⟩, by rw [← HA.out]; exact Blk.grown (Blk.alloc (Blk.new _ _ _) _) hgrc (by simp only [Value.ownBlock]; intro e; have := Option.some.inj e; omega), q1, q2, q3, q4, by omega, ((HB.out.alloc HB.out.size (.cells #[.string A] 137)).alloc (by have := HB.out.size; simp; omega) (.cells #[plV wr.heap.size] 132)).grown hgrc (by have := HB.out.size; simp; omega) (fun q hq => ownBase HO.out hq.symm)⟩)
        clear hownc hgrc hatc hltc kpc
        go_wp2_with fail
        simp only [Exit.jump]
        go_ret
        exact HEND.out
end Go.Proofs.YtmmijmhdbpldpaaGreatDoor
/- autoLinkText: a list of one plain text with an address in it. -/


namespace Go.Proofs.YtmmijmhdbpldpaaGreatDoor
open Go.RowKit
set_option maxRecDepth 20000 in
set_option maxHeartbeats 4000000 in
theorem autP_http (o : Opt) (B g : Nat) (r : PSr) (s u : ByteArray) (j k : Nat) (ho : o.auto_ = true) (hap : ∀ W, Calls Tryz.prog 123 #[.pointer (some ⟨g, 0, none⟩), .string s] W (AutoEnd W s u j k)) (hu : ∀ m, m < u.size → Plainly (bt u m)) (huz : u.size ≤ 9000) (hz : s.size ≤ 9000) :
    AutP o B g r (esc (s.extract 0 j).data.toList ++ linkOut u.data.toList (s.extract j k).data.toList ++ esc (s.extract k s.size).data.toList) [plainK s.data.toList] := by
  intro rr l vs W hrp hB hps hpar hrow hln hits hn
  obtain ⟨is0, his0, hsz0, hsz1, hsz2⟩ := info_parts infoInl
  obtain ⟨la, ln, lc⟩ := l
  obtain rfl : ln = 1 := hln
  have hvl : vs.length = 1 := hits.1
  clear hn
  obtain ⟨v0, rfl⟩ : ∃ v0, vs = [v0] := by
    cases vs with
    | nil => cases hvl
    | cons v t => cases t with
      | nil => exact ⟨v, rfl⟩
      | cons _ _ => simp at hvl
  obtain ⟨pa0, rfl, hpa0, hpaB⟩ := hits.2 0 v0 _ rfl rfl
  obtain ⟨lb, cs, rfl, hlb, hlB, hlc, hcs, hcl, _⟩ := row_blk hrow (Nat.succ_pos 0)
  have e0 : s = ⟨s.data.toList.toArray⟩ := ByteArray.ext Array.toArray_toList.symm
  have hpa1 : Blk W pa0 137 #[.string s] := by
    rw [e0]; exact hpa0
  have c0 := hps.c0
  rw [hrp] at c0
  have p3 : W.cell? ⟨r.parser, 3, none⟩ = some (.bool o.auto_) := hpar.at_ 3 rfl
  rw [ho] at p3
  have x0 : W.cell? ⟨lb, 0, none⟩ = some (.iface 156 (.pointer (some ⟨pa0, 0, none⟩))) := by
    have := hcl 0 (by omega)
    exact hlb.at_ 0 this
  have t0 := hpa1.at_ 0 (v := .string s) rfl
  have HAP := hid (hap W)
  have hnil : ∀ W : World, (binOp .eql 88 (.slice none 0 0) (.slice none 0 0)).run Tryz.prog W = .ok (.bool true) W := fun _ => rfl
  have HLB := hid hlb
  have HB := hid hB
  have HLN := hid hlB
  have ta : ∀ w, (Instr.typeAssert (.iface 156 (.pointer (some ⟨pa0, 0, none⟩))) 132 156 true).run Tryz.prog w = .ok (.tuple #[.pointer (some ⟨pa0, 0, none⟩), .bool true]) w := fun _ => by kernel_rfl
  have HU := hid hu
  clear hvl hrow hits hps hpar hpa0 hpa1 hlb hcl hcs hap e0 hu hrp ho hB hpaB hlB
  go_enter Tryz.func83, Tryz.ntmps83
  go_wp2_with fail
  refine wp_loop_rounds 2 ?_
  rw [rounds_succ]
  go_wp2_with fail
  refine HAP.out.mono ?_
  rintro e w2 ⟨oa, oc, pa, b, rb, pb, c, qa, rfl, hown, hpa, hl, hqa, q1, q2, q3, q4, q5, hbel⟩
  have HO := hid hown
  have HPA := hid hpa
  have HL := hid hl
  have HQA := hid hqa
  have HBE := hid hbel
  have hws := hbel.size
  have hoA := ownLt hown (k := oa) rfl
  have hoB := ownBase hown (k := oa) rfl
  obtain ⟨ob1, cs1, hob1, hblk1, _, hoc, hcs1, hcl1, _⟩ := row_blk hown (by omega)
  obtain rfl : ob1 = oa := by cases hob1; rfl
  have HCL1 := hid hcl1
  have HBK1 := hid hblk1
  clear hown hpa hl hqa hbel HAP ta hcl1 hblk1 hob1 hcs1
  go_wp2_with (first
    | (at_builtin; refine wpList_append_own_at _ rfl (.tmp 43) (.tmp 46) 88 (by rfl) B 132 is0 _ 1 16 Tryz.underlying88 his0 hsz0 hsz1 hsz2 rfl (by decide) (.slice none 0 0) 0 [] (by rfl) (World.ownsRow_nil _ _ _ _) ⟨lb, 0, none⟩ 0 lc [] (by rfl) rfl (fun _ _ h => by simp at h) (fun _ h => by cases h) (by unfold maxLen; omega) (by omega) (by have := HB.out; omega) ?_))
  intro va w3 hown3 hgr3 hnil3 hat3
  have hva : va = .slice none 0 0 := hnil3
  subst hva
  have kp3 : ∀ q ty cs, Blk w2 q ty cs → Blk w3 q ty cs := fun q ty cs hq => Blk.grown hq hgr3 (by simp [Value.ownBlock])
  have HB3 := hid (HBE.out.grown hgr3 hws (fun q hq => by cases hq))
  have HPA3 := hid (kp3 _ _ _ HPA.out)
  have HQA3 := hid (kp3 _ _ _ HQA.out)
  have HL3 := hid (show IsLink1 w3 b rb pb c (s.extract j k) u from ⟨kp3 _ _ _ HL.out.1, kp3 _ _ _ HL.out.2.1, kp3 _ _ _ HL.out.2.2⟩)
  have HBK3 := hid (kp3 _ _ _ HBK1.out)
  have hw3 := HB3.out.size
  have hlt3 := HBK3.out.lt
  have HNW := hid (show ∀ (m : Nat) u, ([plV pa, lkV b, plV qa] : List Value)[m]? = some u → w3.cell? ((⟨ob1, 0, none⟩ : Addr).add m) = some u from fun m u hu' => by
    have hm3 : m < 3 := by
      have := (List.getElem?_eq_some_iff.1 hu').1
      simpa using this
    have h1 := HCL1.out m hm3
    rw [hu'] at h1
    have h2 := HBK3.out.at_ m h1
    rw [show (⟨ob1, 0, none⟩ : Addr).add m = ⟨ob1, m, none⟩ from by cases m <;> simp [Addr.add]]
    exact h2)
  clear hown3 hgr3 hnil3 hat3 kp3 HO HPA HQA HL HBK1 HCL1
  go_wp2_with (first
    | (at_builtin; refine wpList_append_lies _ rfl (.tmp 48) (.tmp 49) 88 (by rfl) B 132 is0 _ 1 16 Tryz.underlying88 his0 hsz0 hsz1 hsz2 rfl (by decide) (.slice none 0 0) 0 [] (by rfl) (World.ownsRow_nil _ _ _ _) ⟨ob1, 0, none⟩ 3 oc [plV pa, lkV b, plV qa] (by rfl) rfl HNW.out (by intro v hv; simp at hv; rcases hv with rfl | rfl | rfl <;> rfl) (by omega) (by unfold maxLen; omega) (by omega) (by have := HB.out; omega) w3.heap.size rfl ?_))
  intro ga ca w4 hown4 hgr4 hat4 hlt4
  have kp4 : ∀ q ty cs, Blk w3 q ty cs → Blk w4 q ty cs := fun q ty cs hq => Blk.grown hq hgr4 (by simp [Value.ownBlock])
  have HB4 := hid (HB3.out.grown hgr4 hw3 (fun q hq => by cases hq))
  have HPA4 := hid (kp4 _ _ _ HPA3.out)
  have HQA4 := hid (kp4 _ _ _ HQA3.out)
  have HL4 := hid (show IsLink1 w4 b rb pb c (s.extract j k) u from ⟨kp4 _ _ _ HL3.out.1, kp4 _ _ _ HL3.out.2.1, kp4 _ _ _ HL3.out.2.2⟩)
  have HO4 := hid hown4
  have hnil4 : ∀ W : World, (binOp .eql 88 (.slice (some ⟨ga, 0, none⟩) 3 ca) (.slice none 0 0)).run Tryz.prog W = .ok (.bool false) W := fun _ => rfl
  clear hown4 hgr4 hat4 hlt4 kp4 HPA3 HQA3 HL3 HBK3 HNW HB3
  go_wp2_with fail
  rw [rounds_succ]
  go_wp2_with fail
  go_ret
  have hB' := HB.out
  have hu1 : (s.extract j k).size ≤ 9000 := by rw [ByteArray.size_extract]; omega
  refine ⟨⟨some ⟨ga, 0, none⟩, 3, ca⟩, [plV pa, lkV b, plV qa], [esc (s.extract 0 j).data.toList, linkOut u.data.toList (s.extract j k).data.toList, esc (s.extract k s.size).data.toList], rfl, HO4.out, by show 3 ≤ 1000000; omega, ⟨rfl, fun m v x hv hx => ?_⟩, by simp, HB4.out⟩
  have h3 : m = 0 ∨ m = 1 ∨ m = 2 := by
    have := (List.getElem?_eq_some_iff.1 hv).1
    simp at this
    omega
  rcases h3 with rfl | rfl | rfl
  · cases hv; cases hx
    exact plain_item HPA4.out (by omega) (by rw [ByteArray.size_extract]; omega)
  · cases hv; cases hx
    exact link_item HL4.out (by omega) (by omega) (by omega) (by omega) (by omega) HU.out
  · cases hv; cases hx
    exact plain_item HQA4.out (by omega) (by rw [ByteArray.size_extract]; omega)
end Go.Proofs.YtmmijmhdbpldpaaGreatDoor
/- The text of the law FnAuto, and what it prints. -/


namespace Go.Proofs.YtmmijmhdbpldpaaGreatDoor
open Go.RowKit
def autoO : Opt := ⟨false, false, true, false, false, false, false, false, false, false⟩
structure HttpL (a d e p b : List UInt8) : Prop where
  a : WordL a
  d : WordL d
  e : WordL e
  pl : p.length ≤ 20
  pc : ∀ c ∈ p, c ∈ ([97, 98, 47] : List UInt8)
  b : WordL b
def httpL (sec : Bool) : List UInt8 := if sec then [104, 116, 116, 112, 115, 58, 47, 47] else [104, 116, 116, 112, 58, 47, 47]
def hn (sec : Bool) : Nat := if sec then 8 else 7
def adrS (d e p : List UInt8) : List UInt8 := d ++ 46 :: (e ++ 47 :: p)
def adrL (sec : Bool) (d e p : List UInt8) : List UInt8 := httpL sec ++ adrS d e p
def httpT (sec : Bool) (a d e p b : List UInt8) : List UInt8 := a ++ 32 :: (adrL sec d e p ++ 32 :: b)
theorem httpL_len (sec : Bool) : (httpL sec).length = hn sec := by cases sec <;> rfl
theorem hn_le (sec : Bool) : 7 ≤ hn sec ∧ hn sec ≤ 8 := by cases sec <;> decide
/-- The signs of such a text. -/
def acs : List UInt8 := wcs ++ [32, 46, 47, 58, 104, 116, 112, 115]
theorem adr_safe : (wcs ++ [46, 47, 58, 104, 116, 112, 115] : List UInt8).all (fun c => linkFirst.all (fun x => decide (c.toNat ≠ (UInt8.ofNat x).toNat))) = true := by kernel_rfl
section
variable {sec : Bool} {a d e p b : List UInt8}
theorem adrS_mem (H : HttpL a d e p b) {c : UInt8} (hc : c ∈ adrS d e p) : c ∈ wcs ++ [46, 47, 58, 104, 116, 112, 115] := by
  unfold adrS at hc
  rcases List.mem_append.1 hc with hc | hc
  · exact List.mem_append_left _ (H.d.chr c hc)
  · rcases List.mem_cons.1 hc with rfl | hc
    · decide
    · rcases List.mem_append.1 hc with hc | hc
      · exact List.mem_append_left _ (H.e.chr c hc)
      · rcases List.mem_cons.1 hc with rfl | hc
        · decide
        · have := H.pc c hc
          revert this
          exact (by decide : ∀ c ∈ ([97, 98, 47] : List UInt8), c ∈ wcs ++ [46, 47, 58, 104, 116, 112, 115]) c
theorem adrL_mem (H : HttpL a d e p b) {c : UInt8} (hc : c ∈ adrL sec d e p) : c ∈ wcs ++ [46, 47, 58, 104, 116, 112, 115] := by
  unfold adrL at hc
  rcases List.mem_append.1 hc with hc | hc
  · revert hc
    cases sec
    · exact (by decide : ∀ c ∈ httpL false, c ∈ wcs ++ [46, 47, 58, 104, 116, 112, 115]) c
    · exact (by decide : ∀ c ∈ httpL true, c ∈ wcs ++ [46, 47, 58, 104, 116, 112, 115]) c
  · exact adrS_mem H hc
theorem httpT_mem (H : HttpL a d e p b) {c : UInt8} (hc : c ∈ httpT sec a d e p b) : c ∈ acs := by
  unfold httpT at hc
  rcases List.mem_append.1 hc with hc | hc
  · exact List.mem_append_left _ (H.a.chr c hc)
  · rcases List.mem_cons.1 hc with rfl | hc
    · decide
    · rcases List.mem_append.1 hc with hc | hc
      · have := adrL_mem H hc
        revert this
        exact (by decide : ∀ c ∈ wcs ++ [46, 47, 58, 104, 116, 112, 115], c ∈ acs) c
      · rcases List.mem_cons.1 hc with rfl | hc
        · decide
        · exact List.mem_append_left _ (H.b.chr c hc)
theorem adrS_len (d e p : List UInt8) : (adrS d e p).length = d.length + 1 + e.length + 1 + p.length := by
  unfold adrS
  simp only [List.length_append, List.length_cons]
  omega
theorem adrL_len (sec : Bool) (d e p : List UInt8) : (adrL sec d e p).length = hn sec + (adrS d e p).length := by
  unfold adrL
  rw [List.length_append, httpL_len]
theorem httpT_len (sec : Bool) (a d e p b : List UInt8) : (httpT sec a d e p b).length = a.length + 1 + (adrL sec d e p).length + 1 + b.length := by
  unfold httpT
  simp only [List.length_append, List.length_cons]
  omega
theorem httpT_sz (H : HttpL a d e p b) : (httpT sec a d e p b).length ≤ 112 := by
  have h1 := httpT_len sec a d e p b
  have h2 := adrS_len d e p
  have h3 := adrL_len sec d e p
  have h4 := hn_le sec
  have := H.a.len; have := H.d.len; have := H.e.len; have := H.pl; have := H.b.len
  omega
theorem httpT_line (H : HttpL a d e p b) : ParLine ⟨(httpT sec a d e p b).toArray⟩ := by
  refine wordSp_line a _ H.a (fun c hc => ?_) ?_
  · have : c ∈ acs := httpT_mem (sec := sec) H (by unfold httpT; exact List.mem_append_right _ (List.mem_cons_of_mem _ hc))
    revert this
    exact (by decide : ∀ c ∈ acs, 32 ≤ c.toNat) c
  · have := httpT_sz (sec := sec) H
    have h1 := httpT_len sec a d e p b
    simp only [List.length_append, List.length_cons]
    omega
theorem httpT_trim (H : HttpL a d e p b) : trimR (trimL (httpT sec a d e p b)) = httpT sec a d e p b := by
  refine trim_self _ (fun c hc => ?_) (fun c hc => ?_)
  · obtain ⟨x, r, rfl, hx⟩ := H.a.cons
    cases hc
    exact wcs_no hx
  · have hne : b ≠ [] := fun e => by have := H.b.pos; rw [e] at this; simp at this
    have e1 : httpT sec a d e p b = (a ++ 32 :: (adrL sec d e p ++ [32])) ++ b := by simp [httpT]
    rw [e1, List.getLast?_append] at hc
    cases hx : b.getLast? with
    | none => exact absurd (List.getLast?_eq_none_iff.1 hx) hne
    | some x =>
      rw [hx] at hc
      cases hc
      exact wcs_no (H.b.chr c (List.mem_of_getLast? hx))
theorem wcs_ld {c : UInt8} (h : c ∈ wcs) : LD (c.toNat : Int) := by
  simp only [wcs, List.mem_cons, List.not_mem_nil, or_false] at h
  rcases h with rfl | rfl | rfl | rfl | rfl | rfl <;> simp [LD]
theorem bt_one {t p r : List UInt8} {c : UInt8} (e : t = p ++ [c] ++ r) (m : Nat) (hm : m = p.length) : bt ⟨t.toArray⟩ m = (c.toNat : Int) := by
  obtain ⟨x, hx, h⟩ := at_mid e m (by omega) (by simp; omega)
  simp only [List.mem_cons, List.not_mem_nil, or_false] at hx
  rw [h, hx]
theorem http_dom (H : HttpL a d e p b) : DomAt ⟨(httpT sec a d e p b).toArray⟩ (a.length + 1 + hn sec) (a.length + 1 + hn sec + d.length) (a.length + 1 + hn sec + d.length + 1 + e.length) (a.length + 1 + hn sec + d.length + 1 + e.length + 1 + p.length) := by
  have h1 := httpT_len sec a d e p b
  have h2 := adrS_len d e p
  have h3 := adrL_len sec d e p
  have h4 := httpT_sz (sec := sec) H
  have hl := httpL_len sec
  have p1 := H.d.pos; have p2 := H.e.pos; have p4 := H.b.pos
  refine { size := by rw [sz_mk]; omega, sd := by omega, dx := by omega, xk := by omega, ks := by rw [sz_mk]; omega, bd := ?_, bx := ?_, bk := ?_, dom := fun m m1 m2 => ?_, end_ := fun m m1 m2 => ?_, path := fun m m1 m2 => ?_ }
  · exact bt_one (c := 46) (p := a ++ 32 :: (httpL sec ++ d)) (r := e ++ 47 :: (p ++ 32 :: b)) (by simp [httpT, adrL, adrS]) _ (by simp only [List.length_append, List.length_cons]; omega)
  · exact bt_one (c := 47) (p := a ++ 32 :: (httpL sec ++ (d ++ 46 :: e))) (r := p ++ 32 :: b) (by simp [httpT, adrL, adrS]) _ (by simp only [List.length_append, List.length_cons]; omega)
  · exact bt_one (c := 32) (p := a ++ 32 :: adrL sec d e p) (r := b) (by simp [httpT]) _ (by simp only [List.length_append, List.length_cons]; omega)
  · obtain ⟨c, hc, e1⟩ := at_mid (t := httpT sec a d e p b) (p := a ++ 32 :: httpL sec) (q := d) (r := 46 :: (e ++ 47 :: (p ++ 32 :: b))) (by simp [httpT, adrL, adrS]) m (by simp only [List.length_append, List.length_cons]; omega) (by simp only [List.length_append, List.length_cons]; omega)
    rw [e1]
    exact wcs_ld (H.d.chr c hc)
  · obtain ⟨c, hc, e1⟩ := at_mid (t := httpT sec a d e p b) (p := a ++ 32 :: (httpL sec ++ (d ++ [46]))) (q := e) (r := 47 :: (p ++ 32 :: b)) (by simp [httpT, adrL, adrS]) m (by simp only [List.length_append, List.length_cons, List.length_nil]; omega) (by simp only [List.length_append, List.length_cons, List.length_nil]; omega)
    rw [e1]
    exact wcs_ld (H.e.chr c hc)
  · obtain ⟨c, hc, e1⟩ := at_mid (t := httpT sec a d e p b) (p := a ++ 32 :: (httpL sec ++ (d ++ 46 :: e))) (q := 47 :: p) (r := 32 :: b) (by simp [httpT, adrL, adrS]) m (by simp only [List.length_append, List.length_cons]; omega) (by simp only [List.length_append, List.length_cons]; omega)
    rw [e1]
    rcases List.mem_cons.1 hc with rfl | hc
    · exact .inr (.inr rfl)
    · have := H.pc c hc
      simp only [List.mem_cons, List.not_mem_nil, or_false] at this
      rcases this with rfl | rfl | rfl
      · exact .inl rfl
      · exact .inr (.inl rfl)
      · exact .inr (.inr rfl)
theorem ql_w {c : UInt8} (hc : c ∈ wcs ++ [32]) : QL (c.toNat : Int) := by
  revert hc
  unfold QL
  exact (by decide : ∀ c ∈ wcs ++ [32], (c.toNat : Int) ≠ 64 ∧ (c.toNat : Int) ≠ 104 ∧ (c.toNat : Int) ≠ 109 ∧ (c.toNat : Int) ≠ 120 ∧ (c.toNat : Int) ≠ 119) c
theorem acs_esc (l : List UInt8) (h : ∀ c ∈ l, c ∈ acs) : esc l = l :=
  esc_self _ (fun c hc => by
    have := h c hc
    revert this
    exact (by decide : ∀ c ∈ acs, c ≠ 34 ∧ c ≠ 38 ∧ c ≠ 60 ∧ c ≠ 62) c)
/-- What the text with its link prints. -/
def httpO (sec : Bool) (a d e p b : List UInt8) : List UInt8 := (a ++ [32]) ++ linkOut (adrL sec d e p) (adrL sec d e p) ++ (32 :: b)
theorem http_q (o : Opt) (ho : ∀ (g : Nat), ∀ c ∈ acs, parF o g (c.toNat : Int) = none) (H : HttpL a d e p b) (g : Nat) (c : UInt8) (hc : c ∈ httpT sec a d e p b) : parF o g (c.toNat : Int) = none ∧ c ≠ 96 := by
  have h := httpT_mem H hc
  refine ⟨ho g c h, ?_⟩
  revert h
  exact (by decide : ∀ c ∈ acs, c ≠ 96) c
theorem acs_auto (g : Nat) : ∀ c ∈ acs, parF autoO g (c.toNat : Int) = none := by
  intro c this
  simp only [acs, wcs, List.cons_append, List.nil_append, List.mem_cons, List.not_mem_nil, or_false] at this
  rcases this with rfl | rfl | rfl | rfl | rfl | rfl | rfl | rfl | rfl | rfl | rfl | rfl | rfl | rfl <;> rfl
theorem acs_plain (g : Nat) : ∀ c ∈ acs, parF plainO g (c.toNat : Int) = none := by
  intro c this
  simp only [acs, wcs, List.cons_append, List.nil_append, List.mem_cons, List.not_mem_nil, or_false] at this
  rcases this with rfl | rfl | rfl | rfl | rfl | rfl | rfl | rfl | rfl | rfl | rfl | rfl | rfl | rfl <;> rfl
theorem inlC_http (H : HttpL a d e p b) : InlC autoO (httpT sec a d e p b) (httpO sec a d e p b) := by
  have hz := httpT_sz (sec := sec) H
  have hA := http_dom (sec := sec) H
  have h1 := httpT_len sec a d e p b
  have h2 := adrS_len d e p
  have h3 := adrL_len sec d e p
  have hl := httpL_len sec
  have hn7 := hn_le sec
  have x0 : (ByteArray.mk (httpT sec a d e p b).toArray).extract (a.length + 1) (a.length + 1 + hn sec) = ⟨(httpL sec).toArray⟩ := ext_mid (p := a ++ [32]) (q := httpL sec) (r := adrS d e p ++ 32 :: b) (by simp [httpT, adrL]) _ _ (by simp) (by simp only [List.length_append, List.length_cons, List.length_nil]; omega)
  have x1 : (ByteArray.mk (httpT sec a d e p b).toArray).extract 0 (a.length + 1) = ⟨(a ++ [32]).toArray⟩ := ext_mid (p := []) (q := a ++ [32]) (r := adrL sec d e p ++ 32 :: b) (by simp [httpT]) 0 _ rfl (by simp)
  have x2 : (ByteArray.mk (httpT sec a d e p b).toArray).extract (a.length + 1) (a.length + 1 + hn sec + d.length + 1 + e.length + 1 + p.length) = ⟨(adrL sec d e p).toArray⟩ := ext_mid (p := a ++ [32]) (q := adrL sec d e p) (r := 32 :: b) (by simp [httpT]) _ _ (by simp) (by simp only [List.length_append, List.length_cons, List.length_nil]; omega)
  have x3 : (ByteArray.mk (httpT sec a d e p b).toArray).extract (a.length + 1 + hn sec + d.length + 1 + e.length + 1 + p.length) (ByteArray.mk (httpT sec a d e p b).toArray).size = ⟨(32 :: b).toArray⟩ := ext_mid (p := a ++ 32 :: adrL sec d e p) (q := 32 :: b) (r := []) (by simp [httpT]) _ _ (by simp only [List.length_append, List.length_cons]; omega) (by rw [sz_mk]; simp only [List.length_append, List.length_cons]; omega)
  have x4 : (ByteArray.mk (httpT sec a d e p b).toArray).extract (a.length + 1 + hn sec) (a.length + 1 + hn sec + d.length + 1 + e.length + 1 + p.length) = ⟨(adrS d e p).toArray⟩ := ext_mid (p := a ++ 32 :: httpL sec) (q := adrS d e p) (r := 32 :: b) (by simp [httpT, adrL]) _ _ (by simp only [List.length_append, List.length_cons]; omega) (by simp only [List.length_append, List.length_cons]; omega)
  have xu : (ByteArray.mk (httpL sec).toArray ++ ByteArray.mk (adrS d e p).toArray) = ⟨(adrL sec d e p).toArray⟩ := by rw [cat_lists]; rfl
  have hpr : ∀ (g vd : Nat) (W : World), Blk W vd 274 #[.string ⟨(httpT sec a d e p b).toArray⟩, .int .i64 0] → Calls Tryz.prog 172 #[.pointer (some ⟨g, 0, none⟩), .string ⟨(httpT sec a d e p b).toArray⟩, .int .i64 ((a.length + 1 : Nat) : Int), .pointer (some ⟨vd, 0, none⟩)] W (ProtoQ ⟨(adrL sec d e p).toArray⟩ ⟨(httpT sec a d e p b).toArray⟩ (a.length + 1) (a.length + 1 + hn sec + d.length + 1 + e.length + 1 + p.length) W) := by
    intro g vd W hv
    rw [← xu]
    cases sec with
    | true =>
      have := parseProto_https (.pointer (some ⟨g, 0, none⟩)) _ (a.length + 1) _ _ _ vd W hA (by rw [show a.length + 1 + 8 = a.length + 1 + hn true from rfl, x0]; rfl) hv
      rw [show a.length + 1 + 8 = a.length + 1 + hn true from rfl, x4] at this
      exact this
    | false =>
      have := parseProto_http (.pointer (some ⟨g, 0, none⟩)) _ (a.length + 1) _ _ _ vd W hA (by rw [show a.length + 1 + 7 = a.length + 1 + hn false from rfl, x0]; rfl) hv
      rw [show a.length + 1 + 7 = a.length + 1 + hn false from rfl, x4] at this
      exact this
  have b104 : bt ⟨(httpT sec a d e p b).toArray⟩ (a.length + 1) = 104 := by
    obtain ⟨q, hq⟩ : ∃ q, httpL sec = 104 :: q := by cases sec <;> exact ⟨_, rfl⟩
    exact bt_one (c := 104) (p := a ++ [32]) (r := q ++ (adrS d e p ++ 32 :: b)) (by simp [httpT, adrL, hq]) _ (by simp)
  have b32 : bt ⟨(httpT sec a d e p b).toArray⟩ (a.length + 1 - 1) = 32 := bt_one (c := 32) (p := a) (r := adrL sec d e p ++ 32 :: b) (by simp [httpT]) _ (by omega)
  refine inlC_quietA autoO _ _ (by omega) (by omega) (httpT_trim H) (fun g c hc => http_q autoO acs_auto H g c hc) (fun B g r => ?_)
  have hap : ∀ W, Calls Tryz.prog 123 #[.pointer (some ⟨g, 0, none⟩), .string ⟨(httpT sec a d e p b).toArray⟩] W (AutoEnd W ⟨(httpT sec a d e p b).toArray⟩ ⟨(adrL sec d e p).toArray⟩ (a.length + 1) (a.length + 1 + hn sec + d.length + 1 + e.length + 1 + p.length)) := fun W => by
    refine autoPlain_http g _ _ _ _ W (by rw [sz_mk]; omega) (by omega) (by omega) (by rw [sz_mk]; have := H.b.pos; omega) b104 b32 (fun m hm => ?_) (fun m m1 m2 => ?_) (hpr g)
    · obtain ⟨c, hc, e1⟩ := at_mid (t := httpT sec a d e p b) (p := []) (q := a ++ [32]) (r := adrL sec d e p ++ 32 :: b) (by simp [httpT]) m (by simp) (by simp; omega)
      rw [e1]
      refine ql_w ?_
      rcases List.mem_append.1 hc with hc | hc
      · exact List.mem_append_left _ (H.a.chr c hc)
      · exact List.mem_append_right _ hc
    · rw [sz_mk] at m2
      obtain ⟨c, hc, e1⟩ := at_mid (t := httpT sec a d e p b) (p := a ++ 32 :: adrL sec d e p) (q := 32 :: b) (r := []) (by simp [httpT]) m (by simp only [List.length_append, List.length_cons]; omega) (by simp only [List.length_append, List.length_cons]; omega)
      rw [e1]
      refine ql_w ?_
      rcases List.mem_cons.1 hc with rfl | hc
      · decide
      · exact List.mem_append_left _ (H.b.chr c hc)
  have := autP_http autoO B g r ⟨(httpT sec a d e p b).toArray⟩ ⟨(adrL sec d e p).toArray⟩ _ _ rfl hap (fun m hm => ?_) (by rw [sz_mk]; omega) (by rw [sz_mk]; omega)
  · rw [x1, x2, x3] at this
    have e1 : esc (a ++ [32]) = a ++ [32] := acs_esc _ (fun c hc => by
      rcases List.mem_append.1 hc with hc | hc
      · exact List.mem_append_left _ (H.a.chr c hc)
      · simp only [List.mem_cons, List.not_mem_nil, or_false] at hc
        subst hc; decide)
    have e2 : esc (32 :: b) = 32 :: b := acs_esc _ (fun c hc => by
      rcases List.mem_cons.1 hc with rfl | hc
      · decide
      · exact List.mem_append_left _ (H.b.chr c hc))
    have e3 : ∀ l : List UInt8, (ByteArray.mk l.toArray).data.toList = l := fun l => by simp
    rw [e3, e3, e3, e3, e1, e2] at this
    exact this
  · rw [sz_mk] at hm
    obtain ⟨c, _, hc, e1⟩ := bt_get hm
    rw [e1]
    have hc2 := adrL_mem H hc
    intro x hx
    have h5 := of_decide_eq_true (List.all_eq_true.1 (List.all_eq_true.1 adr_safe c hc2) x hx)
    intro e5
    exact h5 (by omega)
theorem inlC_httpP (H : HttpL a d e p b) : InlC plainO (httpT sec a d e p b) (httpT sec a d e p b) := by
  have hz := httpT_sz (sec := sec) H
  have h1 := httpT_len sec a d e p b
  have := inlC_quiet plainO (httpT sec a d e p b) rfl (by omega) (by omega) (httpT_trim H) (fun g c hc => http_q plainO acs_plain H g c hc)
  rw [acs_esc _ (fun c hc => httpT_mem H hc)] at this
  exact this
end
end Go.Proofs.YtmmijmhdbpldpaaGreatDoor
