/- PROVED: with automatic links an address of electronic mail among words is a link to it, and without them it is text (the law FnMail returns true). -/
import Derived.Test.YtpojmloeadodhaaGreatDoorCMail09
import Derived.Test.YtpojmloeadodhaaGreatDoorCMail04
import Derived.ScopeJumps
import Derived.Test.YtpojmloeadodhaaGreatDoorCMail08
import Derived.Test.YtpojmloeadodhaaGreatDoorCards
import Derived.Test.YtpojmloeadodhaaGreatDoorTie
import Derived.Stop.LaidErr
import Derived.ChangeMaps5
/- autoLinkPlain: an address of electronic mail among words becomes a link. -/



namespace Go.Proofs.YtpojmloeadodhaaGreatDoor
open Go.RowKit
theorem vdSkip_any (vd : Nat) (s a : ByteArray) (n : Nat) (w : World) (h : Blk w vd 266 #[.string s, .int .i64 0]) (hn : n ≤ s.size) (hs : s.size ≤ 100000) (ha : s.extract n s.size = a) :
    Calls Tryz.prog 164 #[.pointer (some ⟨vd, 0, none⟩), .int .i64 n] w fun e w' => e = .returned (.tuple #[]) ∧ Mod (fun k => k = vd) w w' := by
  have c0 := h.at_ 0 (v := .string s) rfl
  have c1 := h.at_ 1 (v := .int .i64 0) rfl
  have f0 := h.free
  have hm : Hid (Mod (fun k => k = vd) w ((w.setCell ⟨vd, 0, none⟩ (.string a)).setCell ⟨vd, 1, none⟩ (.int .i64 (-(n : Int))))) := hid (((Mod.refl (fun k => k = vd) w).setCell (p := ⟨vd, 0, none⟩) (.inl rfl) _).setCell (p := ⟨vd, 1, none⟩) (.inl rfl) _)
  clear h
  go_enter Tryz.func164, Tryz.ntmps164
  go_wp2_with fail
  go_end0
  exact ⟨rfl, hm.out⟩
/-- No sign of the other addresses. -/
def QL (z : Int) : Prop := z ≠ 64 ∧ z ≠ 104 ∧ z ≠ 109 ∧ z ≠ 120 ∧ z ≠ 119
theorem QL.eqs {z : Int} (h : QL z) : (z == 64) = false ∧ (z == 104) = false ∧ (z == 109) = false ∧ (z == 120) = false ∧ (z == 119) = false := by
  obtain ⟨h1, h2, h3, h4, h5⟩ := h
  simp [h1, h2, h3, h4, h5]
theorem newsA (w : World) (o : Obj) (u : Value) (t : TypeId) : ∀ j x, ([u] : List Value)[j]? = some x → ((w.alloc o).alloc (.cells #[u] t)).cell? ((⟨w.heap.size + 1, 0, none⟩ : Addr).add j) = some x :=
  World.news_of_block (cs := #[u]) (t := t) (fr := (0, 0)) (by have := heap_alloc_new (w.alloc o) (.cells #[u] t); rwa [show (w.alloc o).heap.size = w.heap.size + 1 from by simp] at this)
/-- What has been made of the text up to the address: two parts. -/
def MailSt (w w' : World) (s : ByteArray) (j k ob oc : Nat) : Prop := ∃ pa b rb pb c, w'.ownsRow w.heap.size 113 1 (.slice (some ⟨ob, 0, none⟩) 2 oc) 2 [plV pa, lkV b] ∧ Blk w' pa 118 #[.string (s.extract 0 j)] ∧ IsLink1 w' b rb pb c (s.extract j k) (mailURL s j k) ∧
  w.heap.size ≤ pa ∧ w.heap.size ≤ b ∧ w.heap.size ≤ rb ∧ w.heap.size ≤ pb ∧ rb ≠ ob ∧ Below w.heap.size w w'
/-- .. and of the whole text: three. -/
def MailEnd (w : World) (s : ByteArray) (j k : Nat) (e : Ending) (w' : World) : Prop := ∃ oa oc pa b rb pb c qa, e = .returned (.slice (some ⟨oa, 0, none⟩) 3 oc) ∧ w'.ownsRow w.heap.size 113 1 (.slice (some ⟨oa, 0, none⟩) 3 oc) 3 [plV pa, lkV b, plV qa] ∧
  Blk w' pa 118 #[.string (s.extract 0 j)] ∧ IsLink1 w' b rb pb c (s.extract j k) (mailURL s j k) ∧ Blk w' qa 118 #[.string (s.extract k s.size)] ∧ w.heap.size ≤ pa ∧ w.heap.size ≤ b ∧ w.heap.size ≤ rb ∧ w.heap.size ≤ pb ∧ w.heap.size ≤ qa ∧ Below w.heap.size w w'
@[reducible] def alFrame (g vd ob oc : Nat) (s : ByteArray) (U : Nat → Value) : Act := { tmps := #[.pointer (some ⟨g, 0, none⟩), .string s, U 2, U 3, .slice none 0 0, .pointer (some ⟨vd, 0, none⟩), .slice (some ⟨ob, 0, none⟩) 2 oc, U 7, U 8, U 9, U 10, U 11, U 12, U 13, U 14, U 15, U 16, U 17, U 18, U 19, U 20, U 21, U 22, U 23, U 24, U 25, U 26, U 27, U 28, U 29, U 30, U 31, U 32, U 33, U 34, U 35, U 36, U 37, U 38, U 39, U 40, U 41, U 42, U 43, U 44, U 45, U 46, U 47, U 48, U 49, U 50, U 51, U 52, U 53, U 54, U 55, U 56, U 57, U 58, U 59, U 60, U 61, U 62, U 63, U 64, U 65, U 66, U 67, U 68, U 69, U 70, U 71, U 72, U 73, U 74, U 75, U 76, U 77, U 78, U 79, U 80, U 81, U 82, U 83, U 84, U 85, U 86, U 87, U 88, U 89, U 90, U 91, U 92, U 93, U 94, U 95, U 96, U 97, U 98, U 99, U 100, U 101, U 102, U 103, U 104, U 105, U 106, U 107, U 108, U 109, U 110, U 111, U 112, U 113, U 114, U 115, U 116, U 117, U 118, U 119, U 120, U 121, U 122, U 123, U 124, U 125, U 126, U 127, U 128, U 129, U 130, U 131], defers := [] }
def alList (g vd ob oc : Nat) (s : ByteArray) (U : Nat → Value) : List Value := [.pointer (some ⟨g, 0, none⟩), .string s, U 2, U 3, .slice none 0 0, .pointer (some ⟨vd, 0, none⟩), .slice (some ⟨ob, 0, none⟩) 2 oc, U 7, U 8, U 9, U 10, U 11, U 12, U 13, U 14, U 15, U 16, U 17, U 18, U 19, U 20, U 21, U 22, U 23, U 24, U 25, U 26, U 27, U 28, U 29, U 30, U 31, U 32, U 33, U 34, U 35, U 36, U 37, U 38, U 39, U 40, U 41, U 42, U 43, U 44, U 45, U 46, U 47, U 48, U 49, U 50, U 51, U 52, U 53, U 54, U 55, U 56, U 57, U 58, U 59, U 60, U 61, U 62, U 63, U 64, U 65, U 66, U 67, U 68, U 69, U 70, U 71, U 72, U 73, U 74, U 75, U 76, U 77, U 78, U 79, U 80, U 81, U 82, U 83, U 84, U 85, U 86, U 87, U 88, U 89, U 90, U 91, U 92, U 93, U 94, U 95, U 96, U 97, U 98, U 99, U 100, U 101, U 102, U 103, U 104, U 105, U 106, U 107, U 108, U 109, U 110, U 111, U 112, U 113, U 114, U 115, U 116, U 117, U 118, U 119, U 120, U 121, U 122, U 123, U 124, U 125, U 126, U 127, U 128, U 129, U 130, U 131]
def nthA : List Value → Nat → Value
  | [], _ => undef
  | a :: _, 0 => a
  | _ :: l, n + 1 => nthA l n
theorem alframe_eq {g vd ob oc : Nat} {s : ByteArray} (L : List Value) (h : alList g vd ob oc s (nthA L) = L) : ({ tmps := L.toArray, defers := [] } : Act) = alFrame g vd ob oc s (nthA L) := by
  have : alFrame g vd ob oc s (nthA L) = { tmps := (alList g vd ob oc s (nthA L)).toArray, defers := [] } := rfl
  rw [this, h]
theorem bt_ext (s : ByteArray) (a b m : Nat) (h : a + m < b) : bt (s.extract a b) m = bt s (a + m) := by
  have e : s = ⟨s.data.toList.toArray⟩ := ByteArray.ext Array.toArray_toList.symm
  have e2 : bt s (a + m) = bt ⟨s.data.toList.toArray⟩ (a + m) := by rw [← e]
  rw [e2, extract_mk, bt_list, bt_list, List.getElem?_drop, List.getElem?_take, if_pos h]
set_option maxRecDepth 20000 in
set_option maxHeartbeats 1600000 in
theorem autoPlain_mail (g : Nat) (s : ByteArray) (j i d k : Nat) (w : World) (h : MailAt s j i d k) (hq : ∀ m, m < s.size → m ≠ i → QL (bt s m)) :
    Calls Tryz.prog 110 #[.pointer (some ⟨g, 0, none⟩), .string s] w (MailEnd w s j k) := by
  obtain ⟨is0, his0, hsz0, hsz1, hsz2⟩ := info_parts infoInl
  have hb := get_bt s
  have hsz := h.size
  have e64 : (bt s i == 64) = true := by simpa using h.bi
  have hks := h.ks
  have hj0 := h.j0
  have hji := h.ji
  have hik : i + 3 < k := by have := h.id; have := h.dk; omega
  have HQ := hid hq
  have HEM := hid (fun W => parseAutoEmail_yes (.pointer (some ⟨g, 0, none⟩)) s j i d k W h)
  clear hq h
  obtain ⟨A, HA⟩ : ∃ A, Hid (A = s.extract k s.size) := ⟨_, hid rfl⟩
  obtain ⟨Bf, HBF⟩ : ∃ A, Hid (A = s.extract 0 j) := ⟨_, hid rfl⟩
  rw [← HA.out, ← HBF.out] at HEM
  have hAz : A.size = s.size - k := by rw [HA.out, ByteArray.size_extract]; omega
  have hAs : (s.size : Int) - (A.size : Int) = (k : Int) := by omega
  have HAZ := hid hAz
  clear hAz
  have hBe : Bf.toList.isEmpty = false := by
    rw [← decide_eq_emptyBytes]
    refine decide_eq_false (fun e => ?_)
    have h1 : Bf.size = j := by rw [HBF.out, ByteArray.size_extract]; omega
    rw [e] at h1
    have h2 : ByteArray.empty.size = 0 := rfl
    omega
  go_enter Tryz.func110, Tryz.ntmps110
  go_wp2_with fail
  refine wp_scope_jumps 0 (fun a' w' => ∃ (vd ob oc : Nat) (U : Nat → Value), a' = alFrame g vd ob oc A U ∧ MailSt w w' s j k ob oc) (fun _ _ => 0) rfl ?_ ?_
  · go_wp2_with fail
    go_step3
    go_wp2_with fail
    have HV := hid (show Blk _ w.heap.size 266 #[.string s, .int .i64 0] from Blk.new w _ _)
    have HB1 := hid ((Below.refl w.heap.size w).alloc (Nat.le_refl _) (.cells #[.string s, .int .i64 0] 266))
    generalize World.alloc w _ = W1 at HV HB1 ⊢
    go_loopw [1, 6, 7] (fun t1 t6 t7 wr => ∃ m : Nat, t7 = .int .i64 m ∧ m ≤ i ∧ wr = W1 ∧ t1 = .string s ∧ t6 = .slice none 0 0) (fun _ _ t7 _ => i + 1 - (intOf t7).toNat)
    case atStart => exact ⟨0, rfl, Nat.zero_le _, rfl, rfl, rfl⟩
    case round =>
      obtain ⟨m, rfl, hm, rfl, rfl, rfl⟩ := hrel
      by_cases hlt : m < i
      · obtain ⟨z64, z104, z109, z120, z119⟩ := (HQ.out m (by omega) (by omega)).eqs
        go_wp2_with fail
        go_roundw
        case rel => exact ⟨m + 1, by go_num, by omega, trivial, rfl, rfl⟩
        case measure => simp [intOf]; omega
      · obtain rfl : m = i := by omega
        go_wp2_with fail
        refine (HEM.out _).mono ?_
        rintro e w2 ⟨b, rb, pb, c, rfl, hl1, hbB, hrB, hpB, hbel⟩
        have hW := HB1.out.size
        have hW2 := hbel.size
        have HL1 := hid hl1
        have hrlt := hl1.2.1.lt
        have HB2 := hid (HB1.out.trans (hbel.mono HB1.out.size))
        have HV2 := hid (HV.out.mod (S := fun _ => False) (Mod.below' hbel) (fun x => x))
        clear hl1 hbel HEM HV HB1
        go_wp2_with (at_builtin; refine wpList_append_lies _ rfl (.tmp 42) (.tmp 47) 70 (by rfl) w.heap.size 113 is0 _ 1 16 Tryz.underlying70 his0 hsz0 hsz1 hsz2 rfl (by decide) (.slice none 0 0) 0 [] (by rfl) (World.ownsRow_nil _ _ _ _) ⟨w2.heap.size + 1, 0, none⟩ 1 1 [plV w2.heap.size] (by rfl) rfl (newsA w2 _ _ _) (by intro v hv; simp at hv; subst hv; rfl) (by omega) (by unfold maxLen; omega) (by omega) (by simp; omega) (w2.heap.size + 2) (by simp) ?_)
        intro ga ca wa howna hgra hata hlta
        have HGA := hid (show ga = w2.heap.size + 2 from by
          rcases hata with e | e
          · cases e
          · exact e)
        have kpa : ∀ q ty cs, Blk w2 q ty cs → Blk wa q ty cs := fun q ty cs hq => Blk.grown (Blk.alloc (Blk.alloc hq _) _) hgra (by simp [Value.ownBlock])
        have HPA := hid (show Blk wa w2.heap.size 118 #[.string Bf] from Blk.grown (Blk.alloc (Blk.new _ _ _) _) hgra (by simp [Value.ownBlock]))
        have HLA := hid (show IsLink1 wa b rb pb c (s.extract j k) (mailURL s j k) from ⟨kpa _ _ _ HL1.out.1, kpa _ _ _ HL1.out.2.1, kpa _ _ _ HL1.out.2.2⟩)
        have HVA := hid (kpa _ _ _ HV2.out)
        have HBA := hid (((HB2.out.alloc HB2.out.size (.cells #[.string Bf] 118)).alloc (by have := HB2.out.size; simp; omega) (.cells #[plV w2.heap.size] 113)).grown hgra (by have := HB2.out.size; simp; omega) (fun q hq => by cases hq))
        have HOA := hid howna
        have hwa := HBA.out.size
        have hza : w2.heap.size + 2 < wa.heap.size := by have := HGA.out; omega
        clear howna hgra hata hlta kpa HL1 HV2 HB2
        go_wp2_with (at_builtin; refine wpList_append_lies _ rfl (.tmp 49) (.tmp 52) 70 (by rfl) w.heap.size 113 is0 _ 1 16 Tryz.underlying70 his0 hsz0 hsz1 hsz2 rfl (by decide) (.slice (some ⟨ga, 0, none⟩) 1 ca) 1 [plV w2.heap.size] (by rfl) (World.ownsRow.alloc HOA.out _) ⟨wa.heap.size, 0, none⟩ 1 1 [lkV b] (by rfl) rfl (World.news_of_block (heap_alloc_new _ _)) (by intro v hv; simp at hv; subst hv; rfl) (by omega) (by unfold maxLen; omega) (by omega) (by simp; omega) (wa.heap.size + 1) (by simp) ?_)
        intro gb cb wb hownb hgrb hatb hltb
        have hgb := hid (show gb = ga ∨ gb = wa.heap.size + 1 from by
          rcases hatb with e | e
          · left; simp only [Value.ownBlock, Option.some.injEq] at e; exact e.symm
          · right; exact e)
        have kpb : ∀ q ty cs, Blk wa q ty cs → q ≠ ga → Blk wb q ty cs := fun q ty cs hq hn => Blk.grown (Blk.alloc hq _) hgrb (by simp only [Value.ownBlock]; intro e; exact hn (Option.some.inj e))
        have hrl := HLA.out.2.1.lt
        have HPB := hid (kpb _ _ _ HPA.out (by have := HGA.out; omega))
        have HLB := hid (show IsLink1 wb b rb pb c (s.extract j k) (mailURL s j k) from ⟨kpb _ _ _ HLA.out.1 (fun e => own_ne HOA.out HLA.out.1 (by decide) (by simp [Value.ownBlock, e])), kpb _ _ _ HLA.out.2.1 (by have := HGA.out; omega), kpb _ _ _ HLA.out.2.2 (fun e => own_ne HOA.out HLA.out.2.2 (by decide) (by simp [Value.ownBlock, e]))⟩)
        have HVB := hid (kpb _ _ _ HVA.out (by have := HGA.out; omega))
        have HBB := hid ((HBA.out.alloc HBA.out.size (.cells #[lkV b] 113)).grown hgrb (by have := HBA.out.size; simp; omega) (fun q hq => ownBase HOA.out hq.symm))
        have HOB := hid hownb
        have hrb2 : rb ≠ gb := by have := HGA.out; have := hgb.out; omega
        have HSK := hid (vdSkip_any w.heap.size s A k wb HVB.out (by omega) hsz HA.out.symm)
        clear hownb hgrb hatb hltb kpb HPA HLA HVA HBA HOA HGA hgb
        go_wp2_with fail
        refine HSK.out.mono ?_
        rintro e w4 ⟨rfl, hm4⟩
        go_wp2_with fail
        go_step3
        refine ⟨rfl, ⟨w.heap.size, gb, cb, nthA _, alframe_eq _ (by kernel_rfl), ?_⟩⟩
        have hbm : Below w.heap.size w w4 := HBB.out.trans (hm4.toBelow (B := w.heap.size) HBB.out.size (fun q hq e => by omega))
        have hne : ∀ q ty cs, Blk wb q ty cs → ty ≠ 266 → Blk w4 q ty cs := fun q ty cs hq ht => hq.mod hm4 (fun e => by subst e; exact Blk.ne_ hq HVB.out ht rfl)
        refine ⟨w2.heap.size, b, rb, pb, c, own_mod HOB.out hm4 (fun q hq e => by subst e; exact own_ne HOB.out HVB.out (by decide) hq.symm), ?_, ⟨hne _ _ _ HLB.out.1 (by decide), hne _ _ _ HLB.out.2.1 (by decide), hne _ _ _ HLB.out.2.2 (by decide)⟩, by omega, by omega, by omega, by omega, hrb2, hbm⟩
        rw [← HBF.out]
        exact hne _ _ _ HPB.out (by decide)
  · rintro a' w1 ⟨vd, ob, oc, U, rfl, pa, b, rb, pb, c, hown, hpa, hl, q1, q2, q3, q4, hro, hbel⟩
    have HO := hid hown
    have HPA := hid hpa
    have HL := hid hl
    have HB := hid hbel
    have hAq : ∀ m, m < A.size → QL (bt A m) := fun m hm => by
      rw [HAZ.out] at hm
      have e : bt A m = bt s (k + m) := by rw [HA.out]; exact bt_ext s k s.size m (by omega)
      rw [e]
      exact HQ.out (k + m) (by omega) (by omega)
    have HAQ := hid hAq
    have hbA := get_bt A
    have hAl : A.size ≤ 100000 := by rw [HAZ.out]; omega
    clear hown hpa hl hbel hAq HEM hAs hb
    go_wp2_with fail
    go_loopw [1, 6, 7] (fun t1 t6 t7 wr => ∃ m : Nat, t7 = .int .i64 m ∧ m ≤ A.size ∧ wr = w1 ∧ t1 = .string A ∧ t6 = .slice (some ⟨ob, 0, none⟩) 2 oc) (fun _ _ t7 _ => A.size + 1 - (intOf t7).toNat)
    case atStart => exact ⟨0, rfl, Nat.zero_le _, rfl, rfl, rfl⟩
    case round =>
      obtain ⟨m, rfl, hm, rfl, rfl, rfl⟩ := hrel
      by_cases hlt : m < A.size
      · obtain ⟨z64, z104, z109, z120, z119⟩ := (HAQ.out m hlt).eqs
        go_wp2_with fail
        go_roundw
        case rel => exact ⟨m + 1, by go_num, by omega, trivial, rfl, rfl⟩
        case measure => simp [intOf]; omega
      · obtain rfl : m = A.size := by omega
        have hsw := HB.out.size
        have hnil : ∀ W : World, (binOp .eql 70 (.slice (some ⟨ob, 0, none⟩) 2 oc) (.slice none 0 0)).run Tryz.prog W = .ok (.bool false) W := fun _ => rfl
        go_wp2_with (at_builtin; refine wpList_append_lies _ rfl (.tmp 124) (.tmp 129) 70 (by rfl) w.heap.size 113 is0 _ 1 16 Tryz.underlying70 his0 hsz0 hsz1 hsz2 rfl (by decide) (.slice (some ⟨ob, 0, none⟩) 2 oc) 2 [plV pa, lkV b] (by rfl) (World.ownsRow.alloc (World.ownsRow.alloc HO.out _) _) ⟨wr.heap.size + 1, 0, none⟩ 1 1 [plV wr.heap.size] (by rfl) rfl (newsA wr _ _ _) (by intro v hv; simp at hv; subst hv; rfl) (by omega) (by unfold maxLen; omega) (by omega) (by simp; omega) (wr.heap.size + 2) (by simp) ?_)
        intro gc cc wc hownc hgrc hatc hltc
        have kpc : ∀ q ty cs, Blk wr q ty cs → q ≠ ob → Blk wc q ty cs := fun q ty cs hq hn => Blk.grown (Blk.alloc (Blk.alloc hq _) _) hgrc (by simp only [Value.ownBlock]; intro e; exact hn (Option.some.inj e))
        have hob := ownLt HO.out (k := ob) rfl
        have HEND := hid (show MailEnd w s j k (.returned (.slice (some ⟨gc, 0, none⟩) 3 cc)) wc from ⟨gc, cc, pa, b, rb, pb, c, wr.heap.size, rfl, hownc, kpc _ _ _ HPA.out (fun e => own_ne HO.out HPA.out (by decide) (by simp only [Value.ownBlock, e])), ⟨kpc _ _ _ HL.out.1 (fun e => own_ne HO.out HL.out.1 (by decide) (by simp only [Value.ownBlock, e])), kpc _ _ _ HL.out.2.1 hro, kpc _ _ _ HL.out.2.2 (fun e => own_ne HO.out HL.out.2.2 (by decide) (by simp only [Value.ownBlock, e]))⟩, by rw [← HA.out]; exact Blk.grown (Blk.alloc (Blk.new _ _ _) _) hgrc (by simp only [Value.ownBlock]; intro e; have := Option.some.inj e; omega), q1, q2, q3, q4, by omega, ((HB.out.alloc HB.out.size (.cells #[.string A] 118)).alloc (by have := HB.out.size; simp; omega) (.cells #[plV wr.heap.size] 113)).grown hgrc (by have := HB.out.size; simp; omega) (fun q hq => ownBase HO.out hq.symm)⟩)
        clear hownc hgrc hatc hltc kpc
        go_wp2_with fail
        simp only [Exit.jump]
        go_ret
        exact HEND.out
end Go.Proofs.YtpojmloeadodhaaGreatDoor
/- autoLinkText: a list of one plain text with an address of electronic mail in it. -/


namespace Go.Proofs.YtpojmloeadodhaaGreatDoor
open Go.RowKit
theorem mail_url (s : ByteArray) (j k : Nat) (c : UInt8) (h : c ∈ (mailURL s j k).data.toList) : c = 109 ∨ c = 97 ∨ c = 105 ∨ c = 108 ∨ c = 116 ∨ c = 111 ∨ c = 58 ∨ c ∈ (s.extract j k).data.toList := by
  unfold mailURL at h
  rw [ByteArray.data_append, Array.toList_append] at h
  rcases List.mem_append.1 h with h | h
  · simp only [List.mem_cons, List.not_mem_nil, or_false] at h
    rcases h with rfl | rfl | rfl | rfl | rfl | rfl | rfl <;> simp
  · exact .inr (.inr (.inr (.inr (.inr (.inr (.inr h))))))
set_option maxRecDepth 20000 in
set_option maxHeartbeats 4000000 in
theorem autP_mail (o : Opt) (B g : Nat) (r : PSr) (s : ByteArray) (j i d k : Nat) (ho : o.auto_ = true) (h : MailAt s j i d k) (hq : ∀ m, m < s.size → m ≠ i → QL (bt s m)) (hu : ∀ m, m < (mailURL s j k).size → Plainly (bt (mailURL s j k) m)) (hz : s.size ≤ 9000) :
    AutP o B g r (esc (s.extract 0 j).data.toList ++ linkOut (mailURL s j k).data.toList (s.extract j k).data.toList ++ esc (s.extract k s.size).data.toList) [plainK s.data.toList] := by
  intro rr l vs W hrp hB hps hpar hrow hln hits hn
  obtain ⟨is0, his0, hsz0, hsz1, hsz2⟩ := info_parts infoInl
  obtain ⟨la, ln, lc⟩ := l
  obtain rfl : ln = 1 := hln
  have hvl : vs.length = 1 := hits.1
  clear hn
  obtain ⟨v0, rfl⟩ : ∃ v0, vs = [v0] := by
    cases vs with
    | nil => cases hvl
    | cons v t => cases t with
      | nil => exact ⟨v, rfl⟩
      | cons _ _ => simp at hvl
  obtain ⟨pa0, rfl, hpa0, hpaB⟩ := hits.2 0 v0 _ rfl rfl
  obtain ⟨lb, cs, rfl, hlb, hlB, hlc, hcs, hcl, _⟩ := row_blk hrow (Nat.succ_pos 0)
  have e0 : s = ⟨s.data.toList.toArray⟩ := ByteArray.ext Array.toArray_toList.symm
  have hpa1 : Blk W pa0 118 #[.string s] := by
    rw [e0]; exact hpa0
  have c0 := hps.c0
  rw [hrp] at c0
  have p3 : W.cell? ⟨r.parser, 3, none⟩ = some (.bool o.auto_) := hpar.at_ 3 rfl
  rw [ho] at p3
  have x0 : W.cell? ⟨lb, 0, none⟩ = some (.iface 137 (.pointer (some ⟨pa0, 0, none⟩))) := by
    have := hcl 0 (by omega)
    exact hlb.at_ 0 this
  have t0 := hpa1.at_ 0 (v := .string s) rfl
  have HAP := hid (autoPlain_mail g s j i d k W h hq)
  have hnil : ∀ W : World, (binOp .eql 70 (.slice none 0 0) (.slice none 0 0)).run Tryz.prog W = .ok (.bool true) W := fun _ => rfl
  have HLB := hid hlb
  have HB := hid hB
  have HLN := hid hlB
  have ta : ∀ w, (Instr.typeAssert (.iface 137 (.pointer (some ⟨pa0, 0, none⟩))) 113 137 true).run Tryz.prog w = .ok (.tuple #[.pointer (some ⟨pa0, 0, none⟩), .bool true]) w := fun _ => by kernel_rfl
  have HU := hid hu
  have H := hid h
  clear h
  clear hvl hrow hits hps hpar hpa0 hpa1 hlb hcl hcs hq e0 hu hrp ho hB hpaB hlB
  go_enter Tryz.func67, Tryz.ntmps67
  go_wp2_with fail
  refine wp_loop_rounds 2 ?_
  rw [rounds_succ]
  go_wp2_with fail
  refine HAP.out.mono ?_
  rintro e w2 ⟨oa, oc, pa, b, rb, pb, c, qa, rfl, hown, hpa, hl, hqa, q1, q2, q3, q4, q5, hbel⟩
  have HO := hid hown
  have HPA := hid hpa
  have HL := hid hl
  have HQA := hid hqa
  have HBE := hid hbel
  have hws := hbel.size
  have hoA := ownLt hown (k := oa) rfl
  have hoB := ownBase hown (k := oa) rfl
  obtain ⟨ob1, cs1, hob1, hblk1, _, hoc, hcs1, hcl1, _⟩ := row_blk hown (by omega)
  obtain rfl : ob1 = oa := by cases hob1; rfl
  have HCL1 := hid hcl1
  have HBK1 := hid hblk1
  clear hown hpa hl hqa hbel HAP ta hcl1 hblk1 hob1 hcs1
  go_wp2_with (first
    | (at_builtin; refine wpList_append_own_at _ rfl (.tmp 43) (.tmp 46) 70 (by rfl) B 113 is0 _ 1 16 Tryz.underlying70 his0 hsz0 hsz1 hsz2 rfl (by decide) (.slice none 0 0) 0 [] (by rfl) (World.ownsRow_nil _ _ _ _) ⟨lb, 0, none⟩ 0 lc [] (by rfl) rfl (fun _ _ h => by simp at h) (fun _ h => by cases h) (by unfold maxLen; omega) (by omega) (by have := HB.out; omega) ?_))
  intro va w3 hown3 hgr3 hnil3 hat3
  have hva : va = .slice none 0 0 := hnil3
  subst hva
  have kp3 : ∀ q ty cs, Blk w2 q ty cs → Blk w3 q ty cs := fun q ty cs hq => Blk.grown hq hgr3 (by simp [Value.ownBlock])
  have HB3 := hid (HBE.out.grown hgr3 hws (fun q hq => by cases hq))
  have HPA3 := hid (kp3 _ _ _ HPA.out)
  have HQA3 := hid (kp3 _ _ _ HQA.out)
  have HL3 := hid (show IsLink1 w3 b rb pb c (s.extract j k) (mailURL s j k) from ⟨kp3 _ _ _ HL.out.1, kp3 _ _ _ HL.out.2.1, kp3 _ _ _ HL.out.2.2⟩)
  have HBK3 := hid (kp3 _ _ _ HBK1.out)
  have hw3 := HB3.out.size
  have hlt3 := HBK3.out.lt
  have HNW := hid (show ∀ (m : Nat) u, ([plV pa, lkV b, plV qa] : List Value)[m]? = some u → w3.cell? ((⟨ob1, 0, none⟩ : Addr).add m) = some u from fun m u hu' => by
    have hm3 : m < 3 := by
      have := (List.getElem?_eq_some_iff.1 hu').1
      simpa using this
    have h1 := HCL1.out m hm3
    rw [hu'] at h1
    have h2 := HBK3.out.at_ m h1
    rw [show (⟨ob1, 0, none⟩ : Addr).add m = ⟨ob1, m, none⟩ from by cases m <;> simp [Addr.add]]
    exact h2)
  clear hown3 hgr3 hnil3 hat3 kp3 HO HPA HQA HL HBK1 HCL1
  go_wp2_with (first
    | (at_builtin; refine wpList_append_lies _ rfl (.tmp 48) (.tmp 49) 70 (by rfl) B 113 is0 _ 1 16 Tryz.underlying70 his0 hsz0 hsz1 hsz2 rfl (by decide) (.slice none 0 0) 0 [] (by rfl) (World.ownsRow_nil _ _ _ _) ⟨ob1, 0, none⟩ 3 oc [plV pa, lkV b, plV qa] (by rfl) rfl HNW.out (by intro v hv; simp at hv; rcases hv with rfl | rfl | rfl <;> rfl) (by omega) (by unfold maxLen; omega) (by omega) (by have := HB.out; omega) w3.heap.size rfl ?_))
  intro ga ca w4 hown4 hgr4 hat4 hlt4
  have kp4 : ∀ q ty cs, Blk w3 q ty cs → Blk w4 q ty cs := fun q ty cs hq => Blk.grown hq hgr4 (by simp [Value.ownBlock])
  have HB4 := hid (HB3.out.grown hgr4 hw3 (fun q hq => by cases hq))
  have HPA4 := hid (kp4 _ _ _ HPA3.out)
  have HQA4 := hid (kp4 _ _ _ HQA3.out)
  have HL4 := hid (show IsLink1 w4 b rb pb c (s.extract j k) (mailURL s j k) from ⟨kp4 _ _ _ HL3.out.1, kp4 _ _ _ HL3.out.2.1, kp4 _ _ _ HL3.out.2.2⟩)
  have HO4 := hid hown4
  have hnil4 : ∀ W : World, (binOp .eql 70 (.slice (some ⟨ga, 0, none⟩) 3 ca) (.slice none 0 0)).run Tryz.prog W = .ok (.bool false) W := fun _ => rfl
  clear hown4 hgr4 hat4 hlt4 kp4 HPA3 HQA3 HL3 HBK3 HNW HB3
  go_wp2_with fail
  rw [rounds_succ]
  go_wp2_with fail
  go_ret
  have hB' := HB.out
  have hm := H.out
  have z1 := hm.ks
  have z2 := hm.dk
  have z3 := hm.id
  have z4 := hm.ji
  have hu1 : (s.extract j k).size ≤ 9000 := by rw [ByteArray.size_extract]; omega
  refine ⟨⟨some ⟨ga, 0, none⟩, 3, ca⟩, [plV pa, lkV b, plV qa], [esc (s.extract 0 j).data.toList, linkOut (mailURL s j k).data.toList (s.extract j k).data.toList, esc (s.extract k s.size).data.toList], rfl, HO4.out, by show 3 ≤ 1000000; omega, ⟨rfl, fun m v x hv hx => ?_⟩, by simp, HB4.out⟩
  have h3 : m = 0 ∨ m = 1 ∨ m = 2 := by
    have := (List.getElem?_eq_some_iff.1 hv).1
    simp at this
    omega
  rcases h3 with rfl | rfl | rfl
  · cases hv; cases hx
    exact plain_item HPA4.out (by omega) (by rw [ByteArray.size_extract]; omega)
  · cases hv; cases hx
    exact link_item HL4.out (by omega) (by omega) (by omega) (by omega) (by unfold mailURL; rw [ByteArray.size_append]; show 7 + (s.extract j k).size ≤ 10000; omega) HU.out
  · cases hv; cases hx
    exact plain_item HQA4.out (by omega) (by rw [ByteArray.size_extract]; omega)
end Go.Proofs.YtpojmloeadodhaaGreatDoor
/- The text of the law FnMail, and what it prints. -/


namespace Go.Proofs.YtpojmloeadodhaaGreatDoor
open Go.RowKit
def autoO : Opt := ⟨false, false, true, false, false, false, false, false, false, false⟩
structure MailL (a n h e b : List UInt8) : Prop where
  a : WordL a
  n : WordL n
  h : WordL h
  e : WordL e
  b : WordL b
def mailS (n h e : List UInt8) : List UInt8 := n ++ 64 :: (h ++ 46 :: e)
def mailT (a n h e b : List UInt8) : List UInt8 := a ++ 32 :: (mailS n h e ++ 32 :: b)
def mailU (n h e : List UInt8) : List UInt8 := [109, 97, 105, 108, 116, 111, 58] ++ mailS n h e
/-- The signs of such a text. -/
def mcs : List UInt8 := wcs ++ [32, 64, 46]
theorem mail_safe : ([109, 97, 105, 108, 116, 111, 58] ++ (wcs ++ [64, 46]) : List UInt8).all (fun c => linkFirst.all (fun x => decide (c.toNat ≠ (UInt8.ofNat x).toNat))) = true := by kernel_rfl
section
variable {a n h e b : List UInt8}
theorem mailS_mem (H : MailL a n h e b) {c : UInt8} (hc : c ∈ mailS n h e) : c ∈ wcs ++ [64, 46] := by
  unfold mailS at hc
  rcases List.mem_append.1 hc with hc | hc
  · exact List.mem_append_left _ (H.n.chr c hc)
  · rcases List.mem_cons.1 hc with rfl | hc
    · decide
    · rcases List.mem_append.1 hc with hc | hc
      · exact List.mem_append_left _ (H.h.chr c hc)
      · rcases List.mem_cons.1 hc with rfl | hc
        · decide
        · exact List.mem_append_left _ (H.e.chr c hc)
theorem mailT_mem (H : MailL a n h e b) {c : UInt8} (hc : c ∈ mailT a n h e b) : c ∈ mcs := by
  unfold mailT at hc
  rcases List.mem_append.1 hc with hc | hc
  · exact List.mem_append_left _ (H.a.chr c hc)
  · rcases List.mem_cons.1 hc with rfl | hc
    · decide
    · rcases List.mem_append.1 hc with hc | hc
      · have := mailS_mem H hc
        revert this
        exact (by decide : ∀ c ∈ wcs ++ [64, 46], c ∈ mcs) c
      · rcases List.mem_cons.1 hc with rfl | hc
        · decide
        · exact List.mem_append_left _ (H.b.chr c hc)
theorem mailS_len (n h e : List UInt8) : (mailS n h e).length = n.length + 1 + h.length + 1 + e.length := by
  unfold mailS
  simp only [List.length_append, List.length_cons]
  omega
theorem mailT_len (a n h e b : List UInt8) : (mailT a n h e b).length = a.length + 1 + (mailS n h e).length + 1 + b.length := by
  unfold mailT
  simp only [List.length_append, List.length_cons]
  omega
theorem mailT_sz (H : MailL a n h e b) : (mailT a n h e b).length ≤ 104 := by
  have h1 := mailT_len a n h e b
  have h2 := mailS_len n h e
  have := H.a.len; have := H.n.len; have := H.h.len; have := H.e.len; have := H.b.len
  omega
theorem mailT_line (H : MailL a n h e b) : ParLine ⟨(mailT a n h e b).toArray⟩ := by
  refine wordSp_line a _ H.a (fun c hc => ?_) ?_
  · have : c ∈ mcs := mailT_mem H (by unfold mailT; exact List.mem_append_right _ (List.mem_cons_of_mem _ hc))
    revert this
    exact (by decide : ∀ c ∈ mcs, 32 ≤ c.toNat) c
  · have := mailT_sz H
    have h1 := mailT_len a n h e b
    simp only [List.length_append, List.length_cons]
    omega
theorem mailT_trim (H : MailL a n h e b) : trimR (trimL (mailT a n h e b)) = mailT a n h e b := by
  refine trim_self _ (fun c hc => ?_) (fun c hc => ?_)
  · obtain ⟨x, r, rfl, hx⟩ := H.a.cons
    cases hc
    exact wcs_no hx
  · have hne : b ≠ [] := fun e => by have := H.b.pos; rw [e] at this; simp at this
    have e1 : mailT a n h e b = (a ++ 32 :: (mailS n h e ++ [32])) ++ b := by simp [mailT]
    rw [e1, List.getLast?_append] at hc
    cases hx : b.getLast? with
    | none => exact absurd (List.getLast?_eq_none_iff.1 hx) hne
    | some x =>
      rw [hx] at hc
      cases hc
      exact wcs_no (H.b.chr c (List.mem_of_getLast? hx))
theorem wcs_ld {c : UInt8} (h : c ∈ wcs) : LD (c.toNat : Int) := by
  simp only [wcs, List.mem_cons, List.not_mem_nil, or_false] at h
  rcases h with rfl | rfl | rfl | rfl | rfl | rfl <;> simp [LD]
theorem bt_one {t p r : List UInt8} {c : UInt8} (e : t = p ++ [c] ++ r) (m : Nat) (hm : m = p.length) : bt ⟨t.toArray⟩ m = (c.toNat : Int) := by
  obtain ⟨x, hx, h⟩ := at_mid e m (by omega) (by simp; omega)
  simp only [List.mem_cons, List.not_mem_nil, or_false] at hx
  rw [h, hx]
theorem mail_at (H : MailL a n h e b) : MailAt ⟨(mailT a n h e b).toArray⟩ (a.length + 1) (a.length + 1 + n.length) (a.length + 1 + n.length + 1 + h.length) (a.length + 1 + n.length + 1 + h.length + 1 + e.length) := by
  have h1 := mailT_len a n h e b
  have h2 := mailS_len n h e
  have h3 := mailT_sz H
  have p1 := H.n.pos; have p2 := H.h.pos; have p3 := H.e.pos; have p4 := H.b.pos
  refine { size := by rw [sz_mk]; omega, j0 := by omega, ji := by omega, id := by omega, dk := by omega, ks := by rw [sz_mk]; omega, bj := ?_, bi := ?_, bd := ?_, bk := ?_, name := fun m m1 m2 => ?_, host := fun m m1 m2 => ?_, end_ := fun m m1 m2 => ?_ }
  · exact bt_one (c := 32) (p := a) (r := mailS n h e ++ 32 :: b) (by simp [mailT]) _ (by omega)
  · exact bt_one (c := 64) (p := a ++ 32 :: n) (r := h ++ 46 :: (e ++ 32 :: b)) (by simp [mailT, mailS]) _ (by simp only [List.length_append, List.length_cons]; omega)
  · exact bt_one (c := 46) (p := a ++ 32 :: (n ++ 64 :: h)) (r := e ++ 32 :: b) (by simp [mailT, mailS]) _ (by simp only [List.length_append, List.length_cons]; omega)
  · exact bt_one (c := 32) (p := a ++ 32 :: mailS n h e) (r := b) (by simp [mailT]) _ (by simp only [List.length_append, List.length_cons]; omega)
  · obtain ⟨c, hc, e⟩ := at_mid (t := mailT a n h e b) (p := a ++ [32]) (q := n) (r := 64 :: (h ++ 46 :: (e ++ 32 :: b))) (by simp [mailT, mailS]) m (by simp only [List.length_append, List.length_cons, List.length_nil]; omega) (by simp only [List.length_append, List.length_cons, List.length_nil]; omega)
    rw [e]
    exact wcs_ld (H.n.chr c hc)
  · obtain ⟨c, hc, e⟩ := at_mid (t := mailT a n h e b) (p := a ++ 32 :: (n ++ [64])) (q := h) (r := 46 :: (e ++ 32 :: b)) (by simp [mailT, mailS]) m (by simp only [List.length_append, List.length_cons, List.length_nil]; omega) (by simp only [List.length_append, List.length_cons, List.length_nil]; omega)
    rw [e]
    exact wcs_ld (H.h.chr c hc)
  · obtain ⟨c, hc, e⟩ := at_mid (t := mailT a n h e b) (p := a ++ 32 :: (n ++ 64 :: (h ++ [46]))) (q := e) (r := 32 :: b) (by simp [mailT, mailS]) m (by simp only [List.length_append, List.length_cons, List.length_nil]; omega) (by simp only [List.length_append, List.length_cons, List.length_nil]; omega)
    rw [e]
    exact wcs_ld (H.e.chr c hc)
theorem mail_quiet (H : MailL a n h e b) (m : Nat) (hm : m < (mailT a n h e b).length) (hi : m ≠ a.length + 1 + n.length) : QL (bt ⟨(mailT a n h e b).toArray⟩ m) := by
  have key : ∀ c : UInt8, c ∈ wcs ++ [32, 46] → QL (c.toNat : Int) := by
    intro c hc
    revert hc
    unfold QL
    exact (by decide : ∀ c ∈ wcs ++ [32, 46], (c.toNat : Int) ≠ 64 ∧ (c.toNat : Int) ≠ 104 ∧ (c.toNat : Int) ≠ 109 ∧ (c.toNat : Int) ≠ 120 ∧ (c.toNat : Int) ≠ 119) c
  have h1 := mailT_len a n h e b
  have h2 := mailS_len n h e
  rcases Nat.lt_or_ge m (a.length + 1 + n.length) with hlt | hge
  · obtain ⟨c, hc, e1⟩ := at_mid (t := mailT a n h e b) (p := []) (q := a ++ 32 :: n) (r := 64 :: (h ++ 46 :: (e ++ 32 :: b))) (by simp [mailT, mailS]) m (by simp) (by simp only [List.length_append, List.length_cons, List.length_nil]; omega)
    rw [e1]
    refine key c ?_
    rcases List.mem_append.1 hc with hc | hc
    · exact List.mem_append_left _ (H.a.chr c hc)
    · rcases List.mem_cons.1 hc with rfl | hc
      · decide
      · exact List.mem_append_left _ (H.n.chr c hc)
  · obtain ⟨c, hc, e1⟩ := at_mid (t := mailT a n h e b) (p := a ++ 32 :: (n ++ [64])) (q := h ++ 46 :: (e ++ 32 :: b)) (r := []) (by simp [mailT, mailS]) m (by simp only [List.length_append, List.length_cons, List.length_nil]; omega) (by simp only [List.length_append, List.length_cons, List.length_nil]; omega)
    rw [e1]
    refine key c ?_
    rcases List.mem_append.1 hc with hc | hc
    · exact List.mem_append_left _ (H.h.chr c hc)
    · rcases List.mem_cons.1 hc with rfl | hc
      · decide
      · rcases List.mem_append.1 hc with hc | hc
        · exact List.mem_append_left _ (H.e.chr c hc)
        · rcases List.mem_cons.1 hc with rfl | hc
          · decide
          · exact List.mem_append_left _ (H.b.chr c hc)
theorem mcs_esc (l : List UInt8) (h : ∀ c ∈ l, c ∈ mcs) : esc l = l :=
  esc_self _ (fun c hc => by
    have := h c hc
    revert this
    exact (by decide : ∀ c ∈ mcs, c ≠ 34 ∧ c ≠ 38 ∧ c ≠ 60 ∧ c ≠ 62) c)
/-- What the text with its link prints. -/
def mailO (a n h e b : List UInt8) : List UInt8 := (a ++ [32]) ++ linkOut (mailU n h e) (mailS n h e) ++ (32 :: b)
theorem inlC_mail (H : MailL a n h e b) : InlC autoO (mailT a n h e b) (mailO a n h e b) := by
  have hz := mailT_sz H
  have hA := mail_at H
  have h1 := mailT_len a n h e b
  have h2 := mailS_len n h e
  have x1 : (ByteArray.mk (mailT a n h e b).toArray).extract 0 (a.length + 1) = ⟨(a ++ [32]).toArray⟩ := ext_mid (p := []) (q := a ++ [32]) (r := mailS n h e ++ 32 :: b) (by simp [mailT]) 0 _ rfl (by simp)
  have x2 : (ByteArray.mk (mailT a n h e b).toArray).extract (a.length + 1) (a.length + 1 + n.length + 1 + h.length + 1 + e.length) = ⟨(mailS n h e).toArray⟩ := ext_mid (p := a ++ [32]) (q := mailS n h e) (r := 32 :: b) (by simp [mailT]) _ _ (by simp) (by simp only [List.length_append, List.length_cons, List.length_nil]; omega)
  have x3 : (ByteArray.mk (mailT a n h e b).toArray).extract (a.length + 1 + n.length + 1 + h.length + 1 + e.length) (ByteArray.mk (mailT a n h e b).toArray).size = ⟨(32 :: b).toArray⟩ := ext_mid (p := a ++ 32 :: mailS n h e) (q := 32 :: b) (r := []) (by simp [mailT]) _ _ (by simp only [List.length_append, List.length_cons]; omega) (by rw [sz_mk]; simp only [List.length_append, List.length_cons]; omega)
  have x4 : mailURL ⟨(mailT a n h e b).toArray⟩ (a.length + 1) (a.length + 1 + n.length + 1 + h.length + 1 + e.length) = ⟨(mailU n h e).toArray⟩ := by
    unfold mailURL
    rw [x2, show ByteArray.mk #[109, 97, 105, 108, 116, 111, 58] = ⟨[109, 97, 105, 108, 116, 111, 58].toArray⟩ from rfl, cat_lists]
    rfl
  refine inlC_quietA autoO _ _ (by omega) (by omega) (mailT_trim H) (fun g c hc => ?_) (fun B g r => ?_)
  · have := mailT_mem H hc
    refine ⟨?_, ?_⟩
    · simp only [mcs, wcs, List.cons_append, List.nil_append, List.mem_cons, List.not_mem_nil, or_false] at this
      rcases this with rfl | rfl | rfl | rfl | rfl | rfl | rfl | rfl | rfl <;> rfl
    · revert this
      exact (by decide : ∀ c ∈ mcs, c ≠ 96) c
  · have := autP_mail autoO B g r ⟨(mailT a n h e b).toArray⟩ _ _ _ _ rfl hA (fun m hm hi => mail_quiet H m (by rw [sz_mk] at hm; exact hm) hi) (fun m hm => ?_) (by rw [sz_mk]; omega)
    · rw [x1, x2, x3, x4] at this
      have e1 : esc (a ++ [32]) = a ++ [32] := mcs_esc _ (fun c hc => by
        rcases List.mem_append.1 hc with hc | hc
        · exact List.mem_append_left _ (H.a.chr c hc)
        · simp only [List.mem_cons, List.not_mem_nil, or_false] at hc
          subst hc; decide)
      have e2 : esc (32 :: b) = 32 :: b := mcs_esc _ (fun c hc => by
        rcases List.mem_cons.1 hc with rfl | hc
        · decide
        · exact List.mem_append_left _ (H.b.chr c hc))
      have e3 : ∀ l : List UInt8, (ByteArray.mk l.toArray).data.toList = l := fun l => by simp
      rw [e3, e3, e3, e3, e3, e1, e2] at this
      exact this
    · rw [x4] at hm ⊢
      rw [sz_mk] at hm
      obtain ⟨c, _, hc, e⟩ := bt_get hm
      rw [e]
      have hc2 : c ∈ [109, 97, 105, 108, 116, 111, 58] ++ (wcs ++ [64, 46]) := by
        unfold mailU at hc
        rcases List.mem_append.1 hc with hc | hc
        · exact List.mem_append_left _ hc
        · exact List.mem_append_right _ (mailS_mem H hc)
      intro x hx
      have h5 := of_decide_eq_true (List.all_eq_true.1 (List.all_eq_true.1 mail_safe c hc2) x hx)
      intro e5
      exact h5 (by omega)
theorem inlC_mailP (H : MailL a n h e b) : InlC plainO (mailT a n h e b) (mailT a n h e b) := by
  have hz := mailT_sz H
  have h1 := mailT_len a n h e b
  have := inlC_quiet plainO (mailT a n h e b) rfl (by omega) (by omega) (mailT_trim H) (fun g c hc => by
    have := mailT_mem H hc
    refine ⟨?_, ?_⟩
    · simp only [mcs, wcs, List.cons_append, List.nil_append, List.mem_cons, List.not_mem_nil, or_false] at this
      rcases this with rfl | rfl | rfl | rfl | rfl | rfl | rfl | rfl | rfl <;> rfl
    · revert this
      exact (by decide : ∀ c ∈ mcs, c ≠ 96) c)
  rw [mcs_esc _ (fun c hc => mailT_mem H hc)] at this
  exact this
end
end Go.Proofs.YtpojmloeadodhaaGreatDoor
/- The walk of the law FnMail: for all words it returns true. -/

namespace Go.Proofs.YtpojmloeadodhaaGreatDoor
open Go.RowKit
theorem mail_no {a n h e b : List UInt8} (H : MailL a n h e b) : 10 ∉ mailT a n h e b ∧ 13 ∉ mailT a n h e b ∧ 0 ∉ mailT a n h e b := by
  have key : ∀ c ∈ mailT a n h e b, c ≠ 10 ∧ c ≠ 13 ∧ c ≠ 0 ∧ c ≠ 91 := fun c hc => by
    have := mailT_mem H hc
    revert this
    exact (by decide : ∀ c ∈ mcs, c ≠ 10 ∧ c ≠ 13 ∧ c ≠ 0 ∧ c ≠ 91) c
  exact ⟨fun h => (key _ h).1 rfl, fun h => (key _ h).2.1 rfl, fun h => (key _ h).2.2.1 rfl⟩
theorem mail_91 {a n h e b : List UInt8} (H : MailL a n h e b) : bt ⟨(mailT a n h e b).toArray⟩ 0 ≠ 91 :=
  bt_mem _ 0 (fun z => z ≠ 91) (by decide) (fun c hc => by
    have := mailT_mem H hc
    revert this
    exact (by decide : ∀ c ∈ mcs, (c.toNat : Int) ≠ 91) c)
theorem mailO_len {a n h e b : List UInt8} (H : MailL a n h e b) : (mailO a n h e b).length ≤ 2000 := by
  have h2 := mailS_len n h e
  have := H.a.len; have := H.n.len; have := H.h.len; have := H.e.len; have := H.b.len
  have h3 := esc_len (mailS n h e)
  unfold mailO linkOut mailU
  simp only [List.length_append, List.length_cons, List.length_nil]
  omega
theorem HTML_mailA (s : ByteArray) (a n h e b : List UInt8) (w : World) (hs : s = ⟨(mailT a n h e b).toArray⟩) (H : MailL a n h e b) :
    Calls Tryz.prog 12 #[.agg #[.bool false, .bool false, .bool true, .bool false, .bool false, .bool false, .bool false, .bool false, .bool false, .bool false], .string s] w fun e' w' => e' = .returned (.string ⟨(paraOut (mailO a n h e b)).toArray⟩) ∧ Below w.heap.size w w' := by
  subst hs
  have hl := mailO_len H
  exact HTML_par autoO (mailT a n h e b) _ w (mailT_line H) (mail_no H) (mail_91 H) (inlC_mail H) rfl (by omega)
theorem HTML_mailP (s : ByteArray) (a n h e b : List UInt8) (w : World) (hs : s = ⟨(mailT a n h e b).toArray⟩) (H : MailL a n h e b) :
    Calls Tryz.prog 12 #[.agg #[.bool false, .bool false, .bool false, .bool false, .bool false, .bool false, .bool false, .bool false, .bool false, .bool false], .string s] w fun e' w' => e' = .returned (.string ⟨(paraOut (mailT a n h e b)).toArray⟩) ∧ Below w.heap.size w w' := by
  subst hs
  have hl := mailT_sz H
  exact HTML_par plainO (mailT a n h e b) _ w (mailT_line H) (mail_no H) (mail_91 H) (inlC_mailP H) rfl (by omega)
def mailB (n h e : List UInt8) : ByteArray := (((ByteArray.mk n.toArray ++ ByteArray.mk #[64]) ++ ByteArray.mk h.toArray) ++ ByteArray.mk #[46]) ++ ByteArray.mk e.toArray
theorem mailB_is (n h e : List UInt8) : mailB n h e = ⟨(mailS n h e).toArray⟩ := by
  unfold mailB mailS
  rw [show ByteArray.mk #[64] = ⟨[64].toArray⟩ from rfl, show ByteArray.mk #[46] = ⟨[46].toArray⟩ from rfl]
  simp only [cat_lists]
  simp
theorem mail_text (a n h e b : List UInt8) : (((ByteArray.mk a.toArray ++ ByteArray.mk #[32]) ++ mailB n h e) ++ ByteArray.mk #[32]) ++ ByteArray.mk b.toArray = ⟨(mailT a n h e b).toArray⟩ := by
  rw [mailB_is, show ByteArray.mk #[32] = ⟨[32].toArray⟩ from rfl]
  simp only [cat_lists]
  simp [mailT]
theorem mail_outA {a n h e b : List UInt8} (H : MailL a n h e b) : (ByteArray.mk (paraOut (mailO a n h e b)).toArray) = (((((((ByteArray.mk #[60, 112, 62] ++ ByteArray.mk a.toArray) ++ ByteArray.mk #[32, 60, 97, 32, 104, 114, 101, 102, 61, 34, 109, 97, 105, 108, 116, 111, 58]) ++ mailB n h e) ++ ByteArray.mk #[34, 62]) ++ mailB n h e) ++ ByteArray.mk #[60, 47, 97, 62, 32]) ++ ByteArray.mk b.toArray) ++ ByteArray.mk #[60, 47, 112, 62, 10] := by
  have he : esc (mailS n h e) = mailS n h e := mcs_esc _ (fun c hc => by
    have := mailS_mem H hc
    revert this
    exact (by decide : ∀ c ∈ wcs ++ [64, 46], c ∈ mcs) c)
  rw [mailB_is, show ByteArray.mk #[60, 112, 62] = ⟨[60, 112, 62].toArray⟩ from rfl, show ByteArray.mk #[32, 60, 97, 32, 104, 114, 101, 102, 61, 34, 109, 97, 105, 108, 116, 111, 58] = ⟨[32, 60, 97, 32, 104, 114, 101, 102, 61, 34, 109, 97, 105, 108, 116, 111, 58].toArray⟩ from rfl, show ByteArray.mk #[34, 62] = ⟨[34, 62].toArray⟩ from rfl, show ByteArray.mk #[60, 47, 97, 62, 32] = ⟨[60, 47, 97, 62, 32].toArray⟩ from rfl, show ByteArray.mk #[60, 47, 112, 62, 10] = ⟨[60, 47, 112, 62, 10].toArray⟩ from rfl]
  simp only [cat_lists]
  unfold paraOut mailO linkOut mailU
  rw [he]
  simp
theorem mail_outP (a n h e b : List UInt8) : (ByteArray.mk (paraOut (mailT a n h e b)).toArray) = (ByteArray.mk #[60, 112, 62] ++ ((((ByteArray.mk a.toArray ++ ByteArray.mk #[32]) ++ mailB n h e) ++ ByteArray.mk #[32]) ++ ByteArray.mk b.toArray)) ++ ByteArray.mk #[60, 47, 112, 62, 10] := by
  rw [mail_text, show ByteArray.mk #[60, 112, 62] = ⟨[60, 112, 62].toArray⟩ from rfl, show ByteArray.mk #[60, 47, 112, 62, 10] = ⟨[60, 47, 112, 62, 10].toArray⟩ from rfl]
  simp only [cat_lists]
  simp [paraOut]
set_option maxRecDepth 20000 in
set_option maxHeartbeats 4000000 in
theorem law_mail (a n h e b : List UInt8) (w : World) (la : a.length ≤ 9223372036854775807) (ln : n.length ≤ 9223372036854775807) (lh : h.length ≤ 9223372036854775807) (le : e.length ≤ 9223372036854775807) (lb : b.length ≤ 9223372036854775807) :
    Calls Tryz.prog 8 #[.string ⟨a.toArray⟩, .string ⟨n.toArray⟩, .string ⟨h.toArray⟩, .string ⟨e.toArray⟩, .string ⟨b.toArray⟩] w fun e' w' => e' = .returned (.bool true) ∧ Below w.heap.size w w' := by
  have sa := sz_mk a
  have sn := sz_mk n
  have sh := sz_mk h
  have se := sz_mk e
  have sb := sz_mk b
  by_cases ba : a.length ≤ 2147483647
  · skip
    by_cases bn : n.length ≤ 2147483647
    · skip
      by_cases bh : h.length ≤ 2147483647
      · skip
        by_cases be : e.length ≤ 2147483647
        · skip
          by_cases bb : b.length ≤ 2147483647
          · skip
            have WA := hid (word_any a w la)
            have WN := hid (word_any n w ln)
            have WH := hid (word_any h w lh)
            have WE := hid (word_any e w le)
            have WB := hid (word_any b w lb)
            go_enter Tryz.func8, Tryz.ntmps8
            go_wp2_with fail
            refine WA.out.mono ?_
            rintro e1 w1 ⟨⟨q, rfl, hq⟩, rfl⟩
            cases q with
            | false =>
              go_wp2_with fail
              go_ret
              exact ⟨rfl, Below.refl _ _⟩
            | true =>
              have HA := hid (hq rfl)
              clear hq WA
              go_wp2_with fail
              refine WB.out.mono ?_
              rintro e1 w1 ⟨⟨q, rfl, hq⟩, rfl⟩
              cases q with
              | false =>
                go_wp2_with fail
                go_ret
                exact ⟨rfl, Below.refl _ _⟩
              | true =>
                have HB := hid (hq rfl)
                clear hq WB
                go_wp2_with fail
                refine WN.out.mono ?_
                rintro e1 w1 ⟨⟨q, rfl, hq⟩, rfl⟩
                cases q with
                | false =>
                  go_wp2_with fail
                  go_ret
                  exact ⟨rfl, Below.refl _ _⟩
                | true =>
                  have HN := hid (hq rfl)
                  clear hq WN
                  go_wp2_with fail
                  refine WH.out.mono ?_
                  rintro e1 w1 ⟨⟨q, rfl, hq⟩, rfl⟩
                  cases q with
                  | false =>
                    go_wp2_with fail
                    go_ret
                    exact ⟨rfl, Below.refl _ _⟩
                  | true =>
                    have HH := hid (hq rfl)
                    clear hq WH
                    go_wp2_with fail
                    refine WE.out.mono ?_
                    rintro e1 w1 ⟨⟨q, rfl, hq⟩, rfl⟩
                    cases q with
                    | false =>
                      go_wp2_with fail
                      go_ret
                      exact ⟨rfl, Below.refl _ _⟩
                    | true =>
                      have HE := hid (hq rfl)
                      clear hq WE
                      have HM := hid (show MailL a n h e b from ⟨HA.out, HN.out, HH.out, HE.out, HB.out⟩)
                      have ka := HA.out.len
                      have kn := HN.out.len
                      have kh := HH.out.len
                      have ke := HE.out.len
                      have kb := HB.out.len
                      clear HA HN HH HE HB
                      go_wp2_with fail
                      refine (HTML_mailA _ a n h e b w (mail_text a n h e b) HM.out).mono ?_
                      rintro e1 w1 ⟨rfl, hb1⟩
                      have HB1 := hid hb1
                      clear hb1
                      rw [mail_outA HM.out]
                      unfold mailB
                      go_wp2_with fail
                      refine (HTML_mailP _ a n h e b w1 (mail_text a n h e b) HM.out).mono ?_
                      rintro e2 w2 ⟨rfl, hb2⟩
                      have HB2 := hid (HB1.out.trans (hb2.mono HB1.out.size))
                      clear hb2
                      rw [mail_outP]
                      unfold mailB
                      go_wp2_with fail
                      go_ret
                      exact ⟨rfl, HB2.out⟩
          · go_enter Tryz.func8, Tryz.ntmps8
            go_wp2_with fail
            go_ret
            exact ⟨rfl, Below.refl _ _⟩
        · go_enter Tryz.func8, Tryz.ntmps8
          go_wp2_with fail
          go_ret
          exact ⟨rfl, Below.refl _ _⟩
      · go_enter Tryz.func8, Tryz.ntmps8
        go_wp2_with fail
        go_ret
        exact ⟨rfl, Below.refl _ _⟩
    · go_enter Tryz.func8, Tryz.ntmps8
      go_wp2_with fail
      go_ret
      exact ⟨rfl, Below.refl _ _⟩
  · go_enter Tryz.func8, Tryz.ntmps8
    go_wp2_with fail
    go_ret
    exact ⟨rfl, Below.refl _ _⟩
end Go.Proofs.YtpojmloeadodhaaGreatDoor
/- Arguments of a law that are bytes. -/

namespace Go.Proofs.YtpojmloeadodhaaGreatDoor
open Go.RowKit Go.ChangeShapes Go.WideShapes Go.ChangeAt
/-- A byte, as a number below 256. -/
theorem open_byte {H : Type} {enc : TypeId × Value → H} {P : Program} {t : TypeId} (ht : P.underlying t = some (.int .u8)) {W : World} {base : Nat} {v : Value} {d : DataW H} {ps : List MemPlace}
    (hval : Value.okWide P W .any base t v) (h : DataW.Trod enc P W 0 (fun _ => true) true t v d ps) : ∃ n : Nat, v = .int .u8 n ∧ n < 256 := by
  obtain ⟨z, rfl, _, _, hw⟩ := open_int ht hval h
  have h3 : 0 ≤ z ∧ z ≤ 255 := by simpa [Lit.wf, IntKind.min, IntKind.max, IntKind.bits, IntKind.signed] using hw
  obtain ⟨n, rfl⟩ := Int.eq_ofNat_of_zero_le h3.1
  exact ⟨n, rfl, by omega⟩
end Go.Proofs.YtpojmloeadodhaaGreatDoor
/- The witness's world, for every law: the settled world, the eight listed variables holding what their initialisers lay. -/




namespace Go.Proofs.YtpojmloeadodhaaGreatDoor
open Go.RowKit Go.ChangeShapes Go.WideShapes Go.ChangeAt Go.Lib
/-- The cells of a datum of plain parts. -/
def flat1 : DataW Unit → List Value
  | .lit (.int k n) => [.int k n]
  | .lit (.string s) => [.string ⟨s.toArray⟩]
  | _ => []
def flat2 : DataW Unit → List Value
  | .agg ds => ds.flatMap flat1
  | d => flat1 d
def flat3 : DataW Unit → List Value
  | .agg ds => ds.flatMap flat2
  | d => flat2 d
noncomputable def laidWorld (os : Os) : World :=
  let N := (World.settled Tryz.prog os).heap.size
  let w0 := World.holding Tryz.prog os ⟨#[
    .cells #[.string ⟨#[105, 110, 118, 97, 108, 105, 100, 32, 115, 121, 110, 116, 97, 120]⟩] 311,
    .cells #[.string ⟨#[118, 97, 108, 117, 101, 32, 111, 117, 116, 32, 111, 102, 32, 114, 97, 110, 103, 101]⟩] 311], #[], []⟩
  let put (h : Array Obj) (g : Nat) (cs : Array Value) : Array Obj := h.modify g fun
    | .cells _ t frozen => .cells cs t frozen
    | o => o
  let h1 := put w0.heap 1 (flat3 Rows.laid_pub_paratext_pub_rscmarkdown_htmlEntities).toArray
  let h2 := put h1 2 (flat3 Rows.laid_unicode_utf8_first).toArray
  let h3 := put h2 3 (flat3 Rows.laid_unicode_utf8_acceptRanges).toArray
  let h4 := put h3 4 #[.iface 309 (.pointer (some ⟨N, 0, none⟩))]
  let h5 := put h4 5 #[.iface 309 (.pointer (some ⟨N + 1, 0, none⟩))]
  let h6 := put h5 6 (flat3 Rows.laid_internal_strconv_uint64pow10).toArray
  let h7 := put h6 7 (flat3 Rows.laid_math_bits_deBruijn32tab).toArray
  let h8 := put h7 8 (flat3 Rows.laid_math_bits_deBruijn64tab).toArray
  { w0 with heap := h8 }
noncomputable abbrev N0 : Nat := (World.settled Tryz.prog default).heap.size
set_option maxRecDepth 1000000 in
theorem laid_met (os : Os) (args : Array Value) : laidMet Tryz.prog Rows.fnKeptRow.laid ((laidWorld os).forCall (fun _ _ => 0) ⟨#[], args, []⟩).memory :=
  (LaidIn.of_run [1, 2, 3, 4, 5, 6, 7, 8, N0, N0 + 1] 8 (by kernel_rfl) (by kernel_rfl) (by kernel_rfl) (by kernel_rfl)).met
end Go.Proofs.YtpojmloeadodhaaGreatDoor
/- The closed facts that the row of FnMail asks of the program. -/


namespace Go.Proofs.YtpojmloeadodhaaGreatDoor.fnMail
open Go.ChangeShapes Go.WideShapes Go.ChangeAt Go.RowKit
set_option maxHeartbeats 8000000 in
set_option maxRecDepth 100000 in
theorem closed : joinedFacts Tryz.prog 8 Tryz.f8 (OpenSpec.ofChange Rows.fnMailSpec).bare Rows.fnMailRow = true := by
  unfold joinedFacts
  simp only [Bool.and_eq_true]
  repeat' (refine And.intro ?_ ?_)
  all_goals (as_aux_lemma => kernel_rfl)
theorem inst : Tryz.f8.isInstance Tryz.prog Rows.fnMailRow.origin Rows.fnMailRow.targs := of_decide_eq_true (by kernel_rfl)
theorem wrap : Tryz.f8.isWrapper Tryz.prog Rows.fnMailRow.wrapper Rows.fnMailRow.mainSum := by unfold Func.isWrapper; rw [if_neg (of_decide_eq_false (by kernel_rfl))]; exact ⟨rfl, rfl⟩
theorem looks : true = Tryz.prog.looks [] := by kernel_rfl
theorem named : Tryz.prog.funcNamed "pub-paratext/laws.FnMail" = some 8 := by kernel_rfl
theorem noStand0 : Tryz.prog.wantsStandIn 9 = false := by kernel_rfl
theorem read0 : Tryz.prog.readableRec 9 = true := by kernel_rfl
theorem lt0 : 9 < Tryz.prog.types.size := of_decide_eq_true (by kernel_rfl)
end Go.Proofs.YtpojmloeadodhaaGreatDoor.fnMail
/- The closed facts that the card of FnMail asks of the program. -/


namespace Go.Proofs.YtpojmloeadodhaaGreatDoor.fnMail
open Go.ChangeShapes Go.WideShapes Go.ChangeAt Go.RowKit
theorem goes : false = Rows.fnMailRow.goesBy Tryz.pinned.checked.prog := by kernel_rfl
theorem wfBy : Rows.fnMailRow.wfByText (OpenSpec.ofChange Rows.fnMailSpec) = true := by kernel_rfl
theorem mainIs : Tryz.pinned.checked.prog.mainIs = some ((true, "1ed0bb808aca9620a07a9dc9eae41fbb3f78e60001960e86506c1a8a781df727").1, (true, "1ed0bb808aca9620a07a9dc9eae41fbb3f78e60001960e86506c1a8a781df727").2.toList) := by kernel_rfl
end Go.Proofs.YtpojmloeadodhaaGreatDoor.fnMail
/- PROVED: with automatic links an address of electronic mail among words is a link to it, and without them it is text (the law FnMail returns true). -/






namespace Go.Proofs.YtpojmloeadodhaaGreatDoor.fnMail
open Go.ChangeShapes Go.WideShapes Go.ChangeAt Go.RowKit
theorem bytes_back (s : ByteArray) : (⟨s.data.toList.toArray⟩ : ByteArray) = s := by simp
set_option maxRecDepth 100000 in
/-- What the walk gives, for every argument and every world. -/
theorem contract (H : Type) (enc : TypeId × Value → H) (W : World) (base : Nat) (args : Array Value) (ds gs : List (DataW H)) (before : List MemPlace)
    (hval : ∀ (j : Nat) t v, Tryz.f8.params[j]? = some t → args[j]? = some v → Value.okWide Tryz.prog W .any base t v)
    (hW : DataW.Whole enc Tryz.prog Tryz.f8.params.toList Rows.fnMailSpec.vars false W args.toList ds gs before) :
    Calls Tryz.prog 8 args W fun e W' => ∃ v, e = .returned v ∧ Rows.fnMailSpec.post enc Tryz.prog Tryz.f8 false true false false W args v W' := by
  have hW' := hW
  obtain ⟨p, q, hA0, hV, rfl, hfz, hnd⟩ := hW
  have hAk := hA0
  have hA : DataW.TrodAll enc Tryz.prog W 0 (fun _ => true) true Tryz.f8.params.toList args.toList ds p := hA0
  rw [Tryz.params8] at hA hval
  obtain ⟨v0, vs0, d0, ds0, p0, q0, hargs0, rfl, rfl, h0, r0⟩ := trodAll_cons hA
  obtain ⟨v1, vs1, d1, ds1, p1, q1, rfl, rfl, rfl, h1, r1⟩ := trodAll_cons r0
  obtain ⟨v2, vs2, d2, ds2, p2, q2, rfl, rfl, rfl, h2, r2⟩ := trodAll_cons r1
  obtain ⟨v3, vs3, d3, ds3, p3, q3, rfl, rfl, rfl, h3, r3⟩ := trodAll_cons r2
  obtain ⟨v4, vs4, d4, ds4, p4, q4, rfl, rfl, rfl, h4, r4⟩ := trodAll_cons r3
  obtain ⟨rfl, rfl, rfl⟩ := trodAll_nil r4
  obtain rfl : args = #[v0, v1, v2, v3, v4] := by cases args; simp_all
  obtain ⟨rfl, rfl⟩ := trodVars_none hV
  obtain ⟨l0, rfl, _, _, hl0⟩ := Go.ChangeMaps.open_string Tryz.underlying9 (hval 0 9 v0 rfl rfl) h0
  have hll0 : l0.data.toList.length ≤ 9223372036854775807 := by
    have : l0.data.toList.length = l0.size := Array.length_toList
    unfold maxLen at hl0
    omega
  obtain ⟨l1, rfl, _, _, hl1⟩ := Go.ChangeMaps.open_string Tryz.underlying9 (hval 1 9 v1 rfl rfl) h1
  have hll1 : l1.data.toList.length ≤ 9223372036854775807 := by
    have : l1.data.toList.length = l1.size := Array.length_toList
    unfold maxLen at hl1
    omega
  obtain ⟨l2, rfl, _, _, hl2⟩ := Go.ChangeMaps.open_string Tryz.underlying9 (hval 2 9 v2 rfl rfl) h2
  have hll2 : l2.data.toList.length ≤ 9223372036854775807 := by
    have : l2.data.toList.length = l2.size := Array.length_toList
    unfold maxLen at hl2
    omega
  obtain ⟨l3, rfl, _, _, hl3⟩ := Go.ChangeMaps.open_string Tryz.underlying9 (hval 3 9 v3 rfl rfl) h3
  have hll3 : l3.data.toList.length ≤ 9223372036854775807 := by
    have : l3.data.toList.length = l3.size := Array.length_toList
    unfold maxLen at hl3
    omega
  obtain ⟨l4, rfl, _, _, hl4⟩ := Go.ChangeMaps.open_string Tryz.underlying9 (hval 4 9 v4 rfl rfl) h4
  have hll4 : l4.data.toList.length ≤ 9223372036854775807 := by
    have : l4.data.toList.length = l4.size := Array.length_toList
    unfold maxLen at hl4
    omega
  have hlaw := law_mail l0.data.toList l1.data.toList l2.data.toList l3.data.toList l4.data.toList W hll0 hll1 hll2 hll3 hll4
  rw [bytes_back, bytes_back, bytes_back, bytes_back, bytes_back] at hlaw
  refine hlaw.mono fun e W' ⟨he, hg⟩ => ?_
  subst he
  exact ⟨_, rfl, post_true hW' hAk rfl rfl rfl rfl rfl rfl (by rw [Tryz.params8]; intro t ht; simp at ht; subst ht; exact ⟨read0, lt0⟩) hg⟩

theorem reads (os : Os) {H : Type} (enc : TypeId × Value → H) : ∃ places, DataW.whole enc Tryz.prog ((laidWorld os).forCall (fun _ _ => 0) ⟨#[], #[.string ⟨#[]⟩, .string ⟨#[]⟩, .string ⟨#[]⟩, .string ⟨#[]⟩, .string ⟨#[]⟩], []⟩).memory Tryz.f8.params.toList Rows.fnMailSpec.vars false #[Value.string ⟨#[]⟩, Value.string ⟨#[]⟩, Value.string ⟨#[]⟩, Value.string ⟨#[]⟩, Value.string ⟨#[]⟩].toList 8 = some ([.lit (.string []), .lit (.string []), .lit (.string []), .lit (.string []), .lit (.string [])], [], places) :=
  ⟨[], by kernel_rfl⟩

set_option maxRecDepth 100000 in
theorem lifted (os : Os) (started : os.Started) (H : Type) (enc : TypeId × Value → H) (F : Stop.Interp) :
    ReturnsInHanded {} Tryz.checked os 8 .any ((OpenSpec.ofChange Rows.fnMailSpec).preRow enc Tryz.prog Tryz.f8 Rows.fnMailRow.domain false Rows.fnMailRow.laid) (((OpenSpec.ofChange Rows.fnMailSpec).at F).post enc Tryz.prog Tryz.f8 false true false false) := by
  obtain ⟨places, hx⟩ := reads os enc
  refine returnsInHanded_of_row (C := Tryz.checked) (s := OpenSpec.ofChange Rows.fnMailSpec) own started (by kernel_rfl) Tryz.func8
    (witness_row_atRef (enc := enc) (C := Tryz.checked) false (laidWorld os) #[.string ⟨#[]⟩, .string ⟨#[]⟩, .string ⟨#[]⟩, .string ⟨#[]⟩, .string ⟨#[]⟩] rfl (by kernel_rfl) (by kernel_rfl) (by kernel_rfl)
      (OpenSpec.preRow_of_cond 8 hx (by kernel_rfl) (fun k hk => by cases hk) (by kernel_rfl) (laid_met os _))) ?_
  intro W base args ds gs before hval hW _ _ _ _ _ _
  exact contract H enc W base args ds gs before hval hW

theorem said : Rows.FnMailSaid :=
  OpenClaim.holds_of_cond 8 Tryz.f8 rfl rfl rfl rfl rfl rfl rfl ⟨rfl, rfl, rfl, rfl, rfl⟩ rfl rfl rfl rfl rfl named Tryz.func8 closed inst wrap
    (fun os started H enc _ F => by rw [OpenClaim.pre_eq_preRow]; exact lifted os started H enc F)

theorem plain (f : FuncId) (fn : Func) (hf : Tryz.pinned.checked.prog.funcNamed "pub-paratext/laws.FnMail" = some f) (hfn : Tryz.pinned.checked.prog.funcs[f]? = some fn) :
    true = Tryz.pinned.checked.prog.looks [] ∧ ∀ (j : Nat) t, fn.params[j]? = some t → Tryz.pinned.checked.prog.wantsStandIn t = false := by
  obtain rfl : f = 8 := Option.some.inj (named.symm.trans hf) |>.symm
  obtain rfl : fn = Tryz.f8 := (Option.some.inj (Tryz.func8.symm.trans hfn)).symm
  refine ⟨looks, fun j t ht => ?_⟩
  rw [Tryz.params8] at ht
  have h : t = 9 := by simpa using Array.mem_of_getElem? ht
  subst h
  exact noStand0

theorem card : Rows.FnMailCardSaid :=
  Claim7.holds_tied_plain_at .later [] _ _ _ _ said (fun _ h => by cases h) wfBy (fun _ h => by cases h) fnMail_row_tie rfl ⟨rfl, rfl⟩ mainIs rfl plain goes
end Go.Proofs.YtpojmloeadodhaaGreatDoor.fnMail
