/- The walk of the law FnBlank: for every slice of bytes it returns true. -/
import Derived.Test.YtlgbonhjkpdcaaaGreatDoorLaw
import Derived.Test.YtlgbonhjkpdcaaaGreatDoorNode
import Derived.Test.YtlgbonhjkpdcaaaGreatDoorBlank
import Derived.OwnWalk
import Derived.Laws.IdiomStrings
namespace Go.Proofs.YtlgbonhjkpdcaaaGreatDoor
open Go.RowKit
theorem info5 : (Tryz.prog.info? 5).map (fun i => (i.zero, i.size, i.bytes)) = some (some (.int .u8 0), 1, 1) := by kernel_rfl
/-- The four bytes of which the text is made. -/
def blankB (z : Nat) : UInt8 := if z % 4 = 0 then 32 else if z % 4 = 1 then 9 else if z % 4 = 2 then 10 else 13
def bcell (c : UInt8) : Value := .int .u8 (c.toNat : Int)
/-- The state of the filling loop: what is written is blank. -/
def FillR (w0 : World) (n : Nat) (t3 t18 : Value) (wr : World) : Prop :=
  ∃ (k : Nat) (l : List UInt8), k ≤ n ∧ l.length = k ∧ (∀ c ∈ l, c = 32 ∨ c = 9 ∨ c = 10 ∨ c = 13) ∧ t18 = .int .i64 k ∧ t3 = .slice (some ⟨w0.heap.size, 0, none⟩) k n ∧
    wr.ownsRow w0.heap.size 5 1 (.slice (some ⟨w0.heap.size, 0, none⟩) k n) k (l.map bcell) ∧ Below w0.heap.size w0 wr
/-- The text's bytes lie in the row that the call made; below the old heap nothing has turned. -/
def FS (w0 : World) (l : List UInt8) (wr : World) : Prop :=
  Below w0.heap.size w0 wr ∧ BytesAt wr (some ⟨w0.heap.size, 0, none⟩) l ∧ w0.heap.size < wr.heap.size
def CutN (w0 : World) (l : List UInt8) (t6 : Value) (wx : World) : Prop :=
  ∃ g, t6 = .pointer (some ⟨g, 0, none⟩) ∧ FS w0 l wx ∧ wx.cell? ⟨g, 0, none⟩ = some (.int .i64 1) ∧ wx.cell? ⟨g, 7, none⟩ = some (.slice none 0 0)
theorem CutN.mk {w0 : World} {l : List UInt8} {wx : World} (g : Nat) (h : FS w0 l wx) (h0 : wx.cell? ⟨g, 0, none⟩ = some (.int .i64 1)) (h7 : wx.cell? ⟨g, 7, none⟩ = some (.slice none 0 0)) : CutN w0 l (.pointer (some ⟨g, 0, none⟩)) wx := ⟨g, rfl, h, h0, h7⟩
/-- What region 12 reads. -/
def FS2 (w0 : World) (l : List UInt8) (g : Nat) (wr : World) : Prop :=
  FS w0 l wr ∧ wr.cell? ⟨g, 0, none⟩ = some (.int .i64 1) ∧ wr.cell? ⟨g, 7, none⟩ = some (.slice none 0 0)
namespace FS
variable {w0 w w' : World} {l : List UInt8}
theorem bel (h : FS w0 l w) (hb : Below w.heap.size w w') : FS w0 l w' := ⟨h.1.trans (hb.mono h.1.size), h.2.1.below hb, Nat.lt_of_lt_of_le h.2.2 hb.size⟩
theorem drew (h : FS w0 l w) : FS w0 l w.drew := ⟨h.1.drew, h.2.1, h.2.2⟩
theorem lt (h : FS w0 l w) : w0.heap.size < w.heap.size := h.2.2
theorem alloc (h : FS w0 l w) (o : Obj) : FS w0 l (w.alloc o) := h.bel ((Below.refl _ _).alloc (Nat.le_refl _) o)
theorem put (h : FS w0 l w) {p : Addr} (hp : w0.heap.size < p.block) (u : Value) : FS w0 l (w.setCell p u) :=
  ⟨h.1.setCell (Nat.le_of_lt hp) u, fun j hj => by
    obtain ⟨ad, e, hlt, hc⟩ := h.2.1 j hj
    cases e
    exact ⟨_, rfl, by simpa using hlt, (World.cell?_setCell_far _ _ _ _ (by rw [addr_block]; exact Nat.ne_of_gt hp)).trans hc⟩, by simpa using h.2.2⟩
end FS
theorem below_rd {w w' : World} (hb : Below w.heap.size w w') : (∀ a, (w.cell? a).isSome = true → w'.cell? a = w.cell? a) ∧ (∀ a, (w.cell? a).isSome = true → w'.frozen? a = w.frozen? a) := by
  refine ⟨fun a h => ?_, fun a h => ?_⟩ <;> (obtain ⟨u, hu⟩ := Option.isSome_iff_exists.1 h; have hlt := World.block_lt_of_cell? w a hu)
  · exact hb.cell hlt
  · exact hb.frozen hlt
theorem fs_convert (w0 : World) (l : List UInt8) (n : Nat) : ∀ wr, FS w0 l wr → (convert 22 9 (.slice (some ⟨w0.heap.size, 0, none⟩) l.length n)).run Tryz.prog wr = .ok (.string ⟨l.toArray⟩) wr := fun wr h =>
  run_convert_bytes_back wr 22 9 5 ⟨w0.heap.size, 0, none⟩ n l Tryz.underlying22 Tryz.underlying5 Tryz.underlying9 (fun j hj => by
    obtain ⟨ad, e, _, hc⟩ := h.2.1 j hj
    cases e
    exact hc)
theorem implParse_blank (l : List UInt8) (w : World) (hl : ∀ c ∈ l, c = 32 ∨ c = 9 ∨ c = 10 ∨ c = 13) (hlen : l.length ≤ 1000000) :
    Calls Tryz.prog 15 #[plainO.v, .string ⟨l.toArray⟩] w fun e w' => e = .returned (.agg #[.int .i64 1, .string ⟨#[]⟩, .string ⟨#[]⟩, .int .i64 0, .string ⟨#[]⟩, .bool false, .slice none 0 0, .slice none 0 0, .int .i64 0, .int .i64 0, .string ⟨#[]⟩, .int .i64 0, .bool false, .bool false, .bool false, .slice none 0 0]) ∧ Below w.heap.size w w' := by
  refine Calls.mono (R := ParsedN w (fun nv _ => nv = docNV)) ?_ (by rintro e w' ⟨nv, w0, rfl, rfl, _, hb⟩; exact ⟨rfl, hb⟩)
  refine implParse_gen plainO ⟨l.toArray⟩ w (fun d w' => Blk w' d 90 #[.int .i64 0, .int .i64 0, .slice none 0 0, .map none]) _ ?_ ?_
  · intro g w1 _ _ hblk
    refine (Parse_blank g l w1 hl hlen (by rw [hblk.cell]; rfl)).mono ?_
    rintro e w2 ⟨d, rfl, hd, hb, hbel⟩
    exact ⟨d, rfl, hb, hbel⟩
  · intro d w2 _ hd
    exact block_doc d w2 hd
namespace FS2
variable {w0 w w' : World} {l : List UInt8} {g : Nat}
theorem bel (h : FS2 w0 l g w) (hb : Below w.heap.size w w') : FS2 w0 l g w' := ⟨h.1.bel hb, (hb.cell (p := ⟨g, 0, none⟩) (World.block_lt_of_cell? w _ h.2.1)).trans h.2.1, (hb.cell (p := ⟨g, 7, none⟩) (World.block_lt_of_cell? w _ h.2.2)).trans h.2.2⟩
theorem drew (h : FS2 w0 l g w) : FS2 w0 l g w.drew := ⟨h.1.drew, h.2.1, h.2.2⟩
end FS2
theorem new1 (w : World) (v : Value) (t : TypeId) : ∀ j u, [v][j]? = some u → (w.alloc (.cells #[v] t)).cell? ((⟨w.heap.size, 0, none⟩ : Addr).add j) = some u := by
  intro j u hu
  cases j with
  | zero =>
    simp at hu
    subst hu
    exact (Blk.new w t #[v]).at_ 0 rfl
  | succ j => simp at hu
theorem one1 (z : Int) : ∀ u ∈ [Value.int .u8 z], u.oneCell' = true := by
  intro u hu
  simp at hu
  subst hu
  rfl
set_option maxRecDepth 20000 in
set_option maxHeartbeats 1600000 in
theorem law_blank (A : Option Addr) (l : List UInt8) (n c : Nat) (w : World) (hn : l.length = n) (hm : n ≤ 9223372036854775807) (hA : BytesAt w A l) :
    Calls Tryz.prog 3 #[.slice A n c] w fun e w' => e = .returned (.bool true) ∧ Below w.heap.size w w' := by
  obtain ⟨i, hi, hz0, hz1, hz2⟩ := info_parts info5
  have HA := hid hA
  clear hA
  by_cases h0 : n ≤ 1000
  · go_enter Tryz.func3, Tryz.ntmps3
    go_wp2_with (first | (at_make; refine wpList_make_own _ rfl _ _ 22 rfl w.heap.size 5 i _ 1 Tryz.underlying22 hi hz0 hz1 _ _ _ n rfl rfl rfl (by rw [hz2]; omega) (by unfold maxLen; omega) (Nat.le_refl _) ?_))
    intro w1 hown hgr
    have hb1 : Below w.heap.size w w1 := (Below.refl w.heap.size w).grown hgr (Nat.le_refl _) (fun k h => by cases h)
    have HO := hid hown
    have HB1 := hid hb1
    clear hown hb1
    go_wp2_with fail
    go_loopw [3, 18] (fun t3 t18 wr => FillR w n t3 t18 wr) (fun _ t18 _ => n - (intOf t18).toNat)
    case atStart => exact ⟨0, [], Nat.zero_le _, rfl, (by simp), rfl, rfl, HO.out, HB1.out⟩
    case round =>
      obtain ⟨k, ls, hk, hls, hbl, rfl, rfl, hown, hb⟩ := hrel
      have HBL := hid hbl
      have HO2 := hid hown
      have HB2 := hid hb
      clear hbl hown hb
      by_cases hlt : k < n
      · obtain ⟨ad, rfl, had, hc⟩ := (HA.out) k (by omega)
        have hc2 : wr.cell? (ad.add k) = some (.int .u8 ((l[k]'(by omega)).toNat : Int)) := (HB2.out.cell (p := ad.add k) (by rw [addr_block]; exact had)).trans hc
        clear hc
        generalize l[k]'(by omega) = z at hc2
        have hz4 : z.toNat % 4 = 0 ∨ z.toNat % 4 = 1 ∨ z.toNat % 4 = 2 ∨ z.toNat % 4 = 3 := by omega
        have fin : ∀ (b : UInt8) (w2 : World), (b = 32 ∨ b = 9 ∨ b = 10 ∨ b = 13) → w2.ownsRow w.heap.size 5 1 (.slice (some ⟨w.heap.size, 0, none⟩) (k + 1) n) (k + 1) (ls.map bcell ++ [bcell b]) → (wr.alloc (.cells #[bcell b] 5)).grownBy w2 (some w.heap.size) → FillR w n (.slice (some ⟨w.heap.size, 0, none⟩) (k + 1) n) (.int .i64 ((k + 1 : Nat) : Int)) w2 := by
          intro b w2 hb ho hg
          refine ⟨k + 1, ls ++ [b], by omega, by simp [hls], ?_, rfl, rfl, by simpa using ho, (HB2.out.alloc HB2.out.size _).grown hg (by simp; have := HB2.out.size; omega) (fun q hq => by cases hq; exact Nat.le_refl _)⟩
          intro x hx
          rcases List.mem_append.1 hx with hx | hx
          · exact HBL.out x hx
          · simp at hx; subst hx; exact hb
        have FIN := hid fin
        clear fin
        rcases hz4 with hz4 | hz4 | hz4 | hz4
        all_goals
          go_wp2_with (at_builtin; refine wpList_append_fits _ rfl (.tmp 22) (.tmp 26) 22 rfl w.heap.size 5 i 1 Tryz.underlying22 hi hz1 w.heap.size k n (ls.map bcell) rfl (World.ownsRow.alloc HO2.out _) ⟨wr.heap.size, 0, none⟩ 1 1 [_] rfl rfl (new1 wr _ _) (one1 _) (by omega) ?_)
          intro w2 ho2 hg2
          have HO3 := hid ho2
          have HG3 := hid hg2
          clear ho2 hg2
          go_wp2_with fail
        · go_roundw
          case rel => exact FIN.out 32 _ (.inl rfl) HO3.out HG3.out
          case measure => simp [intOf]; omega
        · go_roundw
          case rel => exact FIN.out 9 _ (.inr (.inl rfl)) HO3.out HG3.out
          case measure => simp [intOf]; omega
        · go_roundw
          case rel => exact FIN.out 10 _ (.inr (.inr (.inl rfl))) HO3.out HG3.out
          case measure => simp [intOf]; omega
        · go_roundw
          case rel => exact FIN.out 13 _ (.inr (.inr (.inr rfl))) HO3.out HG3.out
          case measure => simp [intOf]; omega
      · obtain rfl : k = n := by omega
        have hFS : FS w ls wr := by
          refine ⟨HB2.out, ?_, ?_⟩
          · intro j hj
            exact ⟨⟨w.heap.size, 0, none⟩, rfl, (HO2.out.lt _ rfl).2, HO2.out.cells rfl j (bcell ls[j]) (by simp [hj])⟩
          · exact (HO2.out.lt _ rfl).2
        have HFS := hid hFS
        have hw1 : w.heap.size < wr.heap.size := hFS.lt
        have hw2 : w.heap.size < wr.drew.heap.size := hFS.lt
        have hcv := fs_convert w ls k
        rw [hls] at hcv
        have HBLK := hid (fun w' => implParse_blank ls w' HBL.out (by omega))
        have HHT := hid (fun w' => HTML_blank ls w' HBL.out (by omega))
        clear HA HO HB1 HO2 HB2 hi hz0 hz1 hz2 hgr
        go_wp2_with fail
        go_cut [6] (fun t6 wx => CutN w ls t6 wx)
        case first =>
          go_region_held3 (fun wr => FS w ls wr) (first | ((repeat (with_reducible (first | assumption | refine FS.drew ?_ | refine FS.alloc ?_ _ | refine FS.bel ?_ (Hid.out (by assumption))))); done) | ((iterate 16 (with_reducible refine FS.put ?_ ?_ _)); ((repeat (with_reducible (first | assumption | refine FS.drew ?_ | refine FS.alloc ?_ _ | refine FS.bel ?_ (Hid.out (by assumption))))); all_goals (dsimp only; omega); done))) ((first | (go_at_call 16; refine (plain_any _).mono ?_; rintro e w5 ⟨rfl, hb⟩; have HK := hid hb; have hs := hb.size; obtain ⟨r1, r2⟩ := below_rd hb; clear hb) | (go_at_call 15; refine (HBLK.out _).mono ?_; rintro e w6 ⟨rfl, hb⟩; have HK := hid hb; have hs := hb.size; obtain ⟨r1, r2⟩ := below_rd hb; clear hb)))
          all_goals go_wp2
          all_goals go_meet
          all_goals (refine CutN.mk _ (by assumption) ?_ ?_ <;> simp (maxDischargeDepth := 8) [go_sem, *])
        case rest =>
          obtain ⟨g, rfl, hfs, h0c, h7c⟩ := hcut
          clear hFS HFS hw1 hw2
          have hf2 : FS2 w ls g wc := ⟨hfs, h0c, h7c⟩
          have l0 : ∀ wr, FS2 w ls g wr → wr.cell? ⟨g, 0, none⟩ = some (.int .i64 1) := fun _ h => h.2.1
          have l7 : ∀ wr, FS2 w ls g wr → wr.cell? ⟨g, 7, none⟩ = some (.slice none 0 0) := fun _ h => h.2.2
          have hcv2 : ∀ wr, FS2 w ls g wr → (convert 22 9 (.slice (some ⟨w.heap.size, 0, none⟩) k k)).run Tryz.prog wr = .ok (.string ⟨ls.toArray⟩) wr := fun wr h => hcv wr h.1
          clear hcv hfs h0c h7c HBLK
          go_wp2_with fail
          go_region_held3 (fun wr => FS2 w ls g wr) (repeat (with_reducible (first | assumption | refine FS2.drew ?_ | refine FS2.bel ?_ (Hid.out (by assumption))))) ((first | (go_at_call 16; refine (plain_any _).mono ?_; rintro e w5 ⟨rfl, hb⟩; have HK := hid hb; clear hb) | (go_at_call 17; refine (HHT.out _).mono ?_; rintro e w6 ⟨rfl, hb⟩; have HK := hid hb; clear hb)))
          all_goals go_wp2
          go_ret
          exact ⟨rfl, (show FS2 w ls g _ by assumption).1.1⟩
  · by_cases h1 : (n : Int) ≤ 2147483647
    · go_enter Tryz.func3, Tryz.ntmps3
      go_wp2
      go_ret
      exact ⟨rfl, Below.refl _ _⟩
    · go_enter Tryz.func3, Tryz.ntmps3
      go_wp2
      go_ret
      exact ⟨rfl, Below.refl _ _⟩
end Go.Proofs.YtlgbonhjkpdcaaaGreatDoor
