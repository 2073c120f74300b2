/- A fence of tildes: a further line of its code. -/
import Derived.Test.YtmcjhcfhglfmlaaGreatDoorFence2
namespace Go.Proofs.YtmcjhcfhglfmlaaGreatDoor
open Go.RowKit
theorem infoStrF : (Tryz.prog.info? 9).map (fun i => (i.zero, i.size, i.bytes)) = some (some (.string ⟨#[]⟩), 1, 16) := by kernel_rfl
set_option maxHeartbeats 400000 in
theorem hasPrefix_yes (s p : ByteArray) (w : World) (_ : s.size ≤ 1000000) (hp : p.size ≤ s.size) (h : s.extract 0 p.size = p) :
    Calls Tryz.prog 39 #[.string s, .string p] w fun e w' => e = .returned (.bool true) ∧ w = w' := by
  have hE : ((s.extract 0 p.size).toList == p.toList) = true := by rw [h]; simp
  have HH := hid h
  clear h
  go_enter Tryz.func39, Tryz.ntmps39
  go_wp2
  go_ret
  exact ⟨rfl, rfl⟩
set_option maxHeartbeats 400000 in
theorem hasPrefix_no (s p : ByteArray) (w : World) (_ : s.size ≤ 1000000) (hz : 0 < s.size) (hpz : 0 < p.size) (h : bt s 0 ≠ bt p 0) :
    Calls Tryz.prog 39 #[.string s, .string p] w fun e w' => e = .returned (.bool false) ∧ w = w' := by
  by_cases hp : p.size ≤ s.size
  · have hE : ((s.extract 0 p.size).toList == p.toList) = false := by
      rw [beq_eq_false_iff_ne]
      intro he
      apply h
      have h1 : s.extract 0 p.size = p := by
        apply ByteArray.ext
        apply Array.ext'
        rw [Lib.toList_data, Lib.toList_data] at he
        exact he
      have h2 : bt (s.extract 0 p.size) 0 = bt s 0 := by
        unfold bt
        rw [dif_pos (by simp; omega), dif_pos hz, ByteArray.getElem_extract]
      rw [← h2, h1]
    go_enter Tryz.func39, Tryz.ntmps39
    go_wp2
    go_ret
    exact ⟨rfl, rfl⟩
  · go_enter Tryz.func39, Tryz.ntmps39
    go_wp2
    go_ret
    exact ⟨rfl, rfl⟩
/-- What trimFence answers of a line. -/
def TFNoP (g fb ib nb : Nat) (b : Bool) (w : World) (e : Ending) (w' : World) : Prop :=
  e = .returned (.bool b) ∧ Mod (fun k => k = g ∨ k = fb ∨ k = ib ∨ k = nb) w w' ∧ ∃ (fence info : ByteArray), Blk w' fb 9 #[.string fence] ∧ Blk w' ib 9 #[.string info] ∧ (b = true → 0 < fence.size ∧ bt fence 0 = 96) ∧ fence.size ≤ 10000
theorem trimFence_other (g fb ib nb : Nat) (nl : Int) (s : ByteArray) (w : World) (hln : IsLn w g 0 0 s nl) (hf : Blk w fb 9 #[.string ⟨#[]⟩]) (hi : Blk w ib 9 #[.string ⟨#[]⟩]) (hn : Blk w nb 3 #[.int .i64 0]) (hfi : fb ≠ ib)
    (hent : HasEnt w) (hs : s.size ≤ 10000) (ht : ∀ k, bt s k ≠ 9) (hnt : ∀ k, bt s k ≠ 126) (b : Bool) (hb : b = true ↔ ∃ n m c, FenceAt s n m c) :
    Calls Tryz.prog 144 #[.pointer (some ⟨g, 0, none⟩), .pointer (some ⟨fb, 0, none⟩), .pointer (some ⟨ib, 0, none⟩), .pointer (some ⟨nb, 0, none⟩)] w (TFNoP g fb ib nb b w) := by
  refine (trimFence_any g fb ib nb nl s ⟨#[]⟩ ⟨#[]⟩ 0 w hln hf hi hn hfi hent hs ht).mono ?_
  rintro e w' ⟨hm, h | ⟨rfl, n, m, c, fence, info, a1, a7, a8, a9, hnb, hfb, hib, hlb⟩⟩
  · obtain ⟨rfl, h2, h3⟩ := h
    have : b = false := by
      cases b with
      | false => rfl
      | true => obtain ⟨n, m, c, h⟩ := hb.1 rfl; exact absurd h (h3 n m c)
    subst this
    exact ⟨rfl, hm, ⟨#[]⟩, ⟨#[]⟩, hf.mod h2 (Blk.ne_ hf hn (by decide)), hi.mod h2 (Blk.ne_ hi hn (by decide)), (fun h => nomatch h), by decide⟩
  · have : b = true := hb.2 ⟨n, m, c, a1⟩
    subst this
    obtain ⟨b1, b2, b3, b4, b5, b6, _, _⟩ := a1
    refine ⟨rfl, hm, fence, info, hfb, hib, fun _ => ⟨by omega, ?_⟩, by omega⟩
    rw [a9 0 (by omega)]
    rcases b4 with h | h
    · exact h
    · subst h
      exact absurd (b6 n (Nat.le_refl _) (by omega)) (hnt n)
set_option maxHeartbeats 400000 in
theorem trimSp_zero (g : Nat) (tb nl : Int) (s : ByteArray) (w : World) (h : IsLn w g 0 tb s nl) (hs : s.size ≤ 140737488355328) (ht : ∀ k, bt s k ≠ 9) :
    Calls Tryz.prog 146 #[.pointer (some ⟨g, 0, none⟩), .int .i64 0, .int .i64 0, .bool false] w fun e w' => e = .returned (.bool true) ∧ IsLn w' g 0 tb s nl ∧ Mod (fun k => k = g) w w' := by
  refine (trimSp_any g 0 0 0 false tb nl s w h hs (Nat.zero_le _) ht (by omega) (by omega)).mono ?_
  rintro e w' ⟨j, a1, a2, a3, a4, a5, a6, hm⟩
  obtain rfl : j = 0 := by omega
  rcases a6 with ⟨rfl, _, hln⟩ | ⟨_, h, _⟩
  · exact ⟨rfl, hln, hm⟩
  · omega
/-- The boxes that a fence's builder lays to look at a line. -/
def fenW (w : World) (s : ByteArray) (nl : Int) : World := ((((((w.alloc (.cells #[.int .i64 0, .int .i64 0, .int .i64 0, .string s, .int .u8 nl] 104)).alloc (.cells #[.int .i64 0, .int .i64 0, .int .i64 0, .string ⟨#[]⟩, .int .u8 0] 104)).alloc (.cells #[.string ⟨#[]⟩] 9)).alloc (.cells #[.string ⟨#[]⟩] 9)).alloc (.cells #[.int .i64 0] 3)).alloc (.cells #[.int .i64 0, .int .i64 0, .int .i64 0, .string s, .int .u8 nl] 104))
structure FS (w : World) (s : ByteArray) (nl : Int) (wa : World) : Prop where
  bel : Below w.heap.size w wa
  ln : IsLn wa w.heap.size 0 0 s nl
  res : Blk wa (w.heap.size + 1) 104 #[.int .i64 0, .int .i64 0, .int .i64 0, .string ⟨#[]⟩, .int .u8 0]
  fen : Blk wa (w.heap.size + 1 + 1) 9 #[.string ⟨#[]⟩]
  inf : Blk wa (w.heap.size + 1 + 1 + 1) 9 #[.string ⟨#[]⟩]
  num : Blk wa (w.heap.size + 1 + 1 + 1 + 1) 3 #[.int .i64 0]
  cpy : IsLn wa (w.heap.size + 1 + 1 + 1 + 1 + 1) 0 0 s nl
  sz : w.heap.size + 6 ≤ wa.heap.size
theorem fs_mk (w : World) (s : ByteArray) (nl : Int) : FS w s nl (fenW w s nl) where
  bel := (((((Below.refl _ _).alloc (Nat.le_refl _) _).alloc (by simp) _).alloc (by simp; omega) _).alloc (by simp; omega) _).alloc (by simp; omega) _ |>.alloc (by simp; omega) _
  ln := Blk.alloc (Blk.alloc (Blk.alloc (Blk.alloc (Blk.alloc (Blk.new' rfl) _) _) _) _) _
  res := Blk.alloc (Blk.alloc (Blk.alloc (Blk.alloc (Blk.new' (by simp)) _) _) _) _
  fen := Blk.alloc (Blk.alloc (Blk.alloc (Blk.new' (by simp)) _) _) _
  inf := Blk.alloc (Blk.alloc (Blk.new' (by simp)) _) _
  num := Blk.alloc (Blk.new' (by simp)) _
  cpy := Blk.new' (by simp)
  sz := by unfold fenW; simp
theorem FS.drew {w wa : World} {s : ByteArray} {nl : Int} (h : FS w s nl wa) : FS w s nl wa.drew := ⟨h.bel.drew, h.ln, h.res, h.fen, h.inf, h.num, h.cpy, h.sz⟩
def FenExtP (B g fb m : Nat) (r : PSr) (v : Sl) (ls : List Value) (txt : ByteArray) (nl : Int) (w w' : World) : Prop :=
  ∃ v' : Sl, v'.n = v.n + 1 ∧ IsPS w' g { r with corner := r.corner || !(nl == 10) } ∧ IsFen w' B fb m v' (ls ++ [.string txt]) ∧ Mod (fun k => k = g ∨ k = fb ∨ some k = v.v.ownBlock) w w'
theorem fen_fin {B g fb m : Nat} {r : PSr} {va : Option Addr} {vn vc g2 cap2 q : Nat} {ls : List Value} {nl : Int} {s cf : ByteArray} {w wc we wy : World} {cs : Array Value} (hc1 : cf.size = m) (hc2 : ∀ j, j < m → bt cf j = 126) (hBf : B ≤ fb) (hps0 : IsPS w g r) (hfb0 : Blk w fb 253 #[.string cf, .string ⟨#[]⟩, .int .i64 0, .slice va vn vc]) (hrow0 : w.ownsRow B 9 1 (.slice va vn vc) vn ls) (hbw : Below w.heap.size w wc)
    (hP : IsPS we g { r with corner := r.corner || !(nl == 10) }) (hPR : Blk we fb 253 #[.string cf, .string ⟨#[]⟩, .int .i64 0, .slice (some ⟨g2, 0, none⟩) (vn + 1) cap2]) (hO : we.ownsRow B 9 1 (.slice (some ⟨g2, 0, none⟩) (vn + 1) cap2) (vn + 1) (ls ++ [.string s]))
    (hM : Mod (fun k => k = g ∨ k = fb ∨ some k = (Value.slice va vn vc).ownBlock) wc we) (hmy : Mod (fun k => k = q) we wy) (hR : Blk we q 104 cs) (hq : w.heap.size ≤ q) (hg : g ≠ q) :
    Ending.returned (Value.tuple #[lnV 0 0 ⟨#[]⟩ 0, .bool true]) = .returned (.tuple #[lnV 0 0 ⟨#[]⟩ 0, .bool true]) ∧ FenExtP B g fb m r ⟨va, vn, vc⟩ ls s nl w wy ∧ ∀ lb cs, Blk w lb 104 cs → Blk wy lb 104 cs := by
  have hmf : Mod (fun k => k = g ∨ k = fb ∨ some k = (Value.slice va vn vc).ownBlock) w wy := ((Mod.below' hbw).trans hM (fun _ _ h => h)).trans hmy (fun k hk e => by omega)
  exact ⟨rfl, ⟨⟨some ⟨g2, 0, none⟩, vn + 1, cap2⟩, rfl, hP.mod hmy hg, ⟨cf, hc1, hc2, hPR.mod hmy (Blk.ne_ hPR hR (by decide)), own_mod hO hmy (fun k hk e => own_ne hO hR (by decide) (by rw [hk, e])), hBf⟩, hmf⟩, fun lb cs h => h.mod hmf (fun e => Or.elim e (Blk.ne_ h hps0 (by decide)) (fun e => Or.elim e (Blk.ne_ h hfb0 (by decide)) (own_ne hrow0 h (by decide))))⟩
set_option maxRecDepth 20000 in
set_option maxHeartbeats 8000000 in
theorem fen_extend (B g fb m : Nat) (r : PSr) (v : Sl) (ls : List Value) (nl : Int) (s : ByteArray) (w : World) (hB : B ≤ w.heap.size) (hps : IsPS w g r) (hfen : IsFen w B fb m v ls) (hm : 3 ≤ m) (hvn : v.n ≤ 1000) (hent : HasEnt w)
    (hs : s.size ≤ 10000) (ht : ∀ k, bt s k ≠ 9) (hnt : ∀ k, bt s k ≠ 126) :
    Calls Tryz.prog 335 #[.pointer (some ⟨fb, 0, none⟩), .pointer (some ⟨g, 0, none⟩), lnV 0 0 s nl] w fun e w' => e = .returned (.tuple #[lnV 0 0 ⟨#[]⟩ 0, .bool true]) ∧ FenExtP B g fb m r v ls s nl w w' ∧ ∀ lb cs, Blk w lb 104 cs → Blk w' lb 104 cs := by
  obtain ⟨is0, his, hsz0, hsz1, hsz2⟩ := info_parts infoStrF
  obtain ⟨va, vn, vc⟩ := v
  dsimp only at hvn
  obtain ⟨cf, hcf1, hcf2, hfb, hrow, hBf⟩ := hfen
  have HT := hid ht
  have HNT := hid hnt
  have HPS := hid hps
  have HFB := hid hfb
  have HROW := hid hrow
  have HE := hid hent
  have HCF := hid hcf2
  have hcfz : 0 < cf.size := by omega
  have hcf0 : bt cf 0 = 126 := hcf2 0 (by omega)
  have HCF0 := hid hcf0
  have HCF1 := hid hcf1
  clear ht hnt hps hfb hrow hent hcf2 hcf0 hcf1
  have hgl := HPS.out.lt
  have hfl := Blk.lt HFB.out
  go_enter Tryz.func335, Tryz.ntmps335
  go_wp2_with fail
  have hfs := hid (fs_mk w s nl)
  unfold fenW at hfs
  generalize World.alloc _ _ = wa at hfs ⊢
  have HPA : Hid (IsPS wa g r) := hid (HPS.out.below hfs.out.bel)
  have HFA : Hid (Blk wa fb 253 #[.string cf, .string ⟨#[]⟩, .int .i64 0, .slice va vn vc]) := hid (HFB.out.mod (Mod.below' (S := fun _ => False) hfs.out.bel) (fun h => h))
  have HRA : Hid (wa.ownsRow B 9 1 (.slice va vn vc) vn ls) := hid (own_mod HROW.out (Mod.below' (S := fun _ => False) hfs.out.bel) (fun _ _ h => h))
  have HEA : Hid (HasEnt wa.drew) := hid (show HasEnt wa from HE.out.below hfs.out.bel)
  have hfd := hid hfs.out.drew
  have q0 : wa.drew.cell? ⟨fb, 0, none⟩ = some (.string cf) := HFA.out.at_ 0 rfl
  obtain ⟨b, hb⟩ : ∃ b : Bool, b = true ↔ ∃ n m c, FenceAt s n m c := by
    by_cases h : ∃ n m c, FenceAt s n m c
    · exact ⟨true, fun _ => h, fun _ => rfl⟩
    · exact ⟨false, (fun h2 => nomatch h2), fun h2 => absurd h2 h⟩
  have HBB := hid hb
  clear hb
  go_cut [25] (fun t25 wx => t25 = .bool false ∧ Mod (fun k => w.heap.size + 2 ≤ k) wa wx)
  case first =>
    cases b with
    | false =>
      first
        | go_region_with (first
            | (go_at_call 144; refine (trimFence_other _ _ _ _ nl s _ hfd.out.cpy hfd.out.fen hfd.out.inf hfd.out.num ?_ HEA.out hs HT.out HNT.out false HBB.out).mono ?_; (· omega); rintro e w3 ⟨rfl, hm3, fence, info, hf3, hi3, _, hz3⟩))
        | fail
      all_goals go_wp2
      all_goals go_meet
      all_goals exact ⟨rfl, (Mod.refl _ _).drew.trans hm3 (fun k _ h => by omega)⟩
    | true =>
      go_region_with (first
        | (go_at_call 144; refine (trimFence_other _ _ _ _ nl s _ hfd.out.cpy hfd.out.fen hfd.out.inf hfd.out.num ?_ HEA.out hs HT.out HNT.out true HBB.out).mono ?_; (· omega); rintro e w3 ⟨rfl, hm3, fence, info, hf3, hi3, hb3, hz3⟩
           have f3 : w3.cell? ⟨w.heap.size + 1 + 1, 0, none⟩ = some (.string fence) := hf3.at_ 0 rfl
           have i3 : w3.cell? ⟨w.heap.size + 1 + 1 + 1, 0, none⟩ = some (.string info) := hi3.at_ 0 rfl
           have q3 : w3.cell? ⟨fb, 0, none⟩ = some (.string cf) := (Blk.mod (w := wa.drew) HFA.out hm3 (by have := HFB.out.lt; show ¬ (_ ∨ _); omega)).at_ 0 rfl)
        | (go_at_call 39; refine (hasPrefix_no _ _ _ ?_ ?_ ?_ ?_).mono ?_; (· omega); (· exact (hb3 trivial).1); (· omega); (· rw [(hb3 trivial).2, HCF0.out]; decide); rintro e w4 ⟨rfl, rfl⟩))
      all_goals go_wp2
      all_goals go_meet
      all_goals exact ⟨rfl, (Mod.refl _ _).drew.trans hm3 (fun k _ h => by omega)⟩
  case rest =>
    obtain ⟨rfl, hmc⟩ := hcut
    have hps1 : IsPS wc g r := HPA.out.mod hmc (by show ¬ (_ ≤ _); omega)
    have hfb1 : Blk wc fb 253 #[.string cf, .string ⟨#[]⟩, .int .i64 0, .slice va vn vc] := HFA.out.mod hmc (by show ¬ (_ ≤ _); omega)
    have hrow1 : wc.ownsRow B 9 1 (.slice va vn vc) vn ls := own_mod HRA.out hmc (fun k hk h => by have := ownLt HROW.out hk.symm; omega)
    have hln1 : IsLn wc w.heap.size 0 0 s nl := hfs.out.ln.mod hmc (by show ¬ (_ ≤ _); omega)
    have hrs1 : Blk wc (w.heap.size + 1) 104 #[.int .i64 0, .int .i64 0, .int .i64 0, .string ⟨#[]⟩, .int .u8 0] := hfs.out.res.mod hmc (by show ¬ (_ ≤ _); omega)
    have hbl1 : Below w.heap.size w wc := hfs.out.bel.trans (Mod.toBelow hmc hfs.out.bel.size (fun k hk h => by omega))
    have hsz1' : w.heap.size + 6 ≤ wc.heap.size := Nat.le_trans hfs.out.sz hmc.size
    have n2 : wc.drew.cell? ⟨fb, 2, none⟩ = some (.int .i64 0) := hfb1.at_ 2 rfl
    have HP1 := hid hps1
    have HF1 := hid hfb1
    have HR1 := hid hrow1
    have HL1 := hid (show IsLn wc.drew w.heap.size 0 0 s nl from hln1)
    have HS1 := hid hrs1
    have HB1 := hid hbl1
    clear hps1 hfb1 hrow1 hln1 hrs1 hbl1 hmc hfs hfd HPA HFA HRA HEA HBB q0
    go_wp2_with fail
    go_cut [36] (fun t36 wx => t36 = .bool false ∧ IsLn wx w.heap.size 0 0 s nl ∧ Mod (fun k => k = w.heap.size) wc wx)
    case first =>
      first
        | go_region_with (first
            | (go_at_call 146; refine (trimSp_zero w.heap.size 0 nl s _ HL1.out ?_ HT.out).mono ?_; (· omega); rintro e w3 ⟨rfl, hl3, hm3⟩))
        | fail
      all_goals go_wp2
      all_goals go_meet
      all_goals exact ⟨rfl, hl3, (Mod.refl _ _).drew.trans hm3 (fun k _ h => h)⟩
    case rest =>
      obtain ⟨rfl, hln2, hm2⟩ := hcut
      have hbw : Hid (Below w.heap.size w wc) := hid (HB1.out.trans (Mod.toBelow hm2 HB1.out.size (fun k hk h => by omega)))
      have HPS2 : Hid (IsPS wc g r) := hid (HP1.out.mod hm2 (by show ¬ (_ = _); omega))
      have HPR2 : Hid (Blk wc fb 253 #[.string cf, .string ⟨#[]⟩, .int .i64 0, .slice va vn vc]) := hid (HF1.out.mod hm2 (by show ¬ (_ = _); omega))
      have HROW2 : Hid (wc.ownsRow B 9 1 (.slice va vn vc) vn ls) := hid (own_mod HR1.out hm2 (fun k hk h => by have := ownLt HROW.out hk.symm; omega))
      have HR2 : Hid (Blk wc (w.heap.size + 1) 104 #[.int .i64 0, .int .i64 0, .int .i64 0, .string ⟨#[]⟩, .int .u8 0]) := hid (HS1.out.mod hm2 (by show ¬ (_ = _); omega))
      have HLN := hid hln2
      have hz6 : w.heap.size + 6 ≤ wc.heap.size := Nat.le_trans hsz1' hm2.size
      clear HP1 HF1 HR1 HL1 HS1 HB1 hln2 hm2 n2 hsz1'
      have hBb : B ≤ wc.heap.size := by omega
      have p1 : wc.cell? ⟨fb, 3, none⟩ = some (.slice va vn vc) := HPR2.out.at_ 3 rfl
      have fp := HPR2.out.free
      have p2 : ∀ k o, ((wc.drewN k).alloc o).cell? ⟨fb, 3, none⟩ = some (.slice va vn vc) := fun k o => (Blk.alloc (w := wc.drewN k) HPR2.out o).at_ 3 rfl
      go_wp2_with fail
      go_region_law (first
          | (go_simp; go_at_call 129; refine (string_any w.heap.size 0 0 nl s _ ?_ (by omega) (Nat.zero_le _)).mono ?_; (· exact HLN.out); rintro e w5 ⟨rfl, n5, rfl⟩)
          | (refine step_append_lies _ rfl (.tmp 49) (.tmp 51) 29 (by rfl) B 9 is0 _ 1 16 Tryz.underlying29 his hsz0 hsz1 hsz2 rfl (by decide) (.slice va vn vc) vn ls (by rfl) (World.ownsRow.alloc (World.ownsRow.drewN HROW2.out _) _) ⟨wc.heap.size, 0, none⟩ 1 1 [.string s] (by rfl) rfl (World.news_of_block (heap_alloc_new _ _)) (by intro v hv; simp at hv; subst hv; rfl) (by omega) (by unfold maxLen; omega) (by omega) (by simp; omega) (wc.heap.size + 1) (by simp) ?_
             intro g2 cap2 w4 hown4 hgr4 hat4 hlt4
             have hp4 : Blk w4 fb 253 #[.string cf, .string ⟨#[]⟩, .int .i64 0, .slice va vn vc] := Blk.grown (Blk.alloc (w := World.drewN wc _) HPR2.out _) hgr4 (own_ne HROW2.out HPR2.out (by decide))
             have q1 : w4.cell? ⟨fb, 3, none⟩ = some (.slice va vn vc) := hp4.at_ 3 rfl
             have fq := hp4.free))
      all_goals
        have m4 : Mod (fun k => some k = (Value.slice va vn vc).ownBlock) wc w4 := Mod.grown ((Mod.drewN (Mod.refl _ wc) _).alloc _) hgr4 (fun k hk => .inl hk.symm)
        have HP5 := hid ((HPS2.out.mod m4 (fun h => own_ne HROW2.out HPS2.out (by decide) h)).far (p := ⟨fb, 3, none⟩) (Blk.ne_ HPS2.out HPR2.out (by decide)) (.slice (some ⟨g2, 0, none⟩) (vn + 1) cap2))
        have HR5 := hid ((HR2.out.mod m4 (fun h => own_ne HROW2.out HR2.out (by decide) h)).far (p := ⟨fb, 3, none⟩) (Blk.ne_ HR2.out HPR2.out (by decide)) (.slice (some ⟨g2, 0, none⟩) (vn + 1) cap2))
        have HL5 := hid ((HLN.out.mod m4 (fun h => own_ne HROW2.out HLN.out (by decide) h)).far (p := ⟨fb, 3, none⟩) (Blk.ne_ HLN.out HPR2.out (by decide)) (.slice (some ⟨g2, 0, none⟩) (vn + 1) cap2))
        have HPR5 : Hid (Blk (w4.setCell ⟨fb, 3, none⟩ (.slice (some ⟨g2, 0, none⟩) (vn + 1) cap2)) fb 253 #[.string cf, .string ⟨#[]⟩, .int .i64 0, .slice (some ⟨g2, 0, none⟩) (vn + 1) cap2]) := hid (by simpa using Blk.set_ hp4 3 (.slice (some ⟨g2, 0, none⟩) (vn + 1) cap2))
        have HO5 := hid (own_far hown4 (p := ⟨fb, 3, none⟩) (own_ne hown4 hp4 (by decide)) (.slice (some ⟨g2, 0, none⟩) (vn + 1) cap2))
        have HM5 := hid ((m4.mono (S' := fun k => k = fb ∨ some k = (Value.slice va vn vc).ownBlock) (fun _ _ h => .inr h)).setCell (p := ⟨fb, 3, none⟩) (.inl (.inl rfl)) (.slice (some ⟨g2, 0, none⟩) (vn + 1) cap2))
        clear m4 hown4 hgr4 hat4 hp4 q1 fq p1 p2 fp
        generalize World.setCell w4 ⟨fb, 3, none⟩ _ = wd at HP5 HR5 HL5 HPR5 HO5 HM5 ⊢
        have c6 := HP5.out.c6
        have f6 := HP5.out.free
        have l4 := (show IsLn wd w.heap.size 0 0 s nl from HL5.out).c4
        have hr6 := HR5.out
        have r0 := hr6.at_ 0 rfl
        have r1 := hr6.at_ 1 rfl
        have r2 := hr6.at_ 2 rfl
        have r3 := hr6.at_ 3 rfl
        have r4 := hr6.at_ 4 rfl
        have fr := hr6.free
        have hne6 : w.heap.size + 1 ≠ g := by omega
        have hne7 : g ≠ w.heap.size + 1 := fun e => hne6 e.symm
        clear hr6
        go_wp2_with fail
      all_goals
        first
        | (have hcr : (r.corner || !(nl == 10)) = true := by simp [*]
           have hP : Hid (IsPS (wd.setCell ⟨g, 6, none⟩ (.bool true)) g { r with corner := r.corner || !(nl == 10) }) := hid (by rw [hcr]; exact HP5.out.set6 true)
           have hR : Hid (Blk (wd.setCell ⟨g, 6, none⟩ (.bool true)) (w.heap.size + 1) 104 #[.int .i64 0, .int .i64 0, .int .i64 0, .string ⟨#[]⟩, .int .u8 0]) := hid (HR5.out.far (p := ⟨g, 6, none⟩) hne6 _)
           have hPR : Hid (Blk (wd.setCell ⟨g, 6, none⟩ (.bool true)) fb 253 #[.string cf, .string ⟨#[]⟩, .int .i64 0, .slice (some ⟨g2, 0, none⟩) (vn + 1) cap2]) := hid (HPR5.out.far (p := ⟨g, 6, none⟩) (Blk.ne_ HPR5.out HP5.out (by decide)) _)
           have hO : Hid ((wd.setCell ⟨g, 6, none⟩ (.bool true)).ownsRow B 9 1 (.slice (some ⟨g2, 0, none⟩) (vn + 1) cap2) (vn + 1) (ls ++ [.string s])) := hid (own_far HO5.out (p := ⟨g, 6, none⟩) (own_ne HO5.out HP5.out (by decide)) _)
           have hM : Hid (Mod (fun k => k = g ∨ k = fb ∨ some k = (Value.slice va vn vc).ownBlock) wc (wd.setCell ⟨g, 6, none⟩ (.bool true))) := hid ((HM5.out.mono (fun _ _ h => .inr h)).setCell (p := ⟨g, 6, none⟩) (.inl (.inl rfl)) _)
           generalize World.setCell wd ⟨g, 6, none⟩ (.bool true) = we at hP hR hPR hO hM ⊢
           clear r0 r1 r2 r3 r4 fr c6 f6 l4
           have hln := hid (line_zero hR.out)
           have hmy : Hid (Mod (fun k => k = w.heap.size + 1) we _) := hid ((((((Mod.refl (fun k => k = w.heap.size + 1) we).setCell (p := ⟨w.heap.size + 1, 0, none⟩) (.inl rfl) (.int .i64 0)).setCell (p := ⟨w.heap.size + 1, 1, none⟩) (.inl rfl) (.int .i64 0)).setCell (p := ⟨w.heap.size + 1, 2, none⟩) (.inl rfl) (.int .i64 0)).setCell (p := ⟨w.heap.size + 1, 3, none⟩) (.inl rfl) (.string ⟨#[]⟩)).setCell (p := ⟨w.heap.size + 1, 4, none⟩) (.inl rfl) (.int .u8 0))
           generalize World.setCell _ ⟨w.heap.size + 1, 4, none⟩ _ = wy at hln hmy ⊢
           have hl4 := hln.out
           have k0 := hl4.at_ 0 rfl
           have k1 := hl4.at_ 1 rfl
           have k2 := hl4.at_ 2 rfl
           have k3 := hl4.at_ 3 rfl
           have k4 := hl4.at_ 4 rfl
           clear hl4
           refine bodyPost_ret (by simp [results, Tryz.results335, go_sem, k0, k1, k2, k3, k4]; try rfl) rfl ?_
           exact fen_fin HCF1.out HCF.out hBf HPS.out HFB.out HROW.out hbw.out hP.out hPR.out hO.out hM.out hmy.out hR.out (by omega) (by omega))
        | (have hcr : (r.corner || !(nl == 10)) = (nl != 10) := by simp only [*]; rfl
           have hP : Hid (IsPS (wd.setCell ⟨g, 6, none⟩ (.bool (nl != 10))) g { r with corner := r.corner || !(nl == 10) }) := hid (by rw [hcr]; exact HP5.out.set6 (nl != 10))
           have hR : Hid (Blk (wd.setCell ⟨g, 6, none⟩ (.bool (nl != 10))) (w.heap.size + 1) 104 #[.int .i64 0, .int .i64 0, .int .i64 0, .string ⟨#[]⟩, .int .u8 0]) := hid (HR5.out.far (p := ⟨g, 6, none⟩) hne6 _)
           have hPR : Hid (Blk (wd.setCell ⟨g, 6, none⟩ (.bool (nl != 10))) fb 253 #[.string cf, .string ⟨#[]⟩, .int .i64 0, .slice (some ⟨g2, 0, none⟩) (vn + 1) cap2]) := hid (HPR5.out.far (p := ⟨g, 6, none⟩) (Blk.ne_ HPR5.out HP5.out (by decide)) _)
           have hO : Hid ((wd.setCell ⟨g, 6, none⟩ (.bool (nl != 10))).ownsRow B 9 1 (.slice (some ⟨g2, 0, none⟩) (vn + 1) cap2) (vn + 1) (ls ++ [.string s])) := hid (own_far HO5.out (p := ⟨g, 6, none⟩) (own_ne HO5.out HP5.out (by decide)) _)
           have hM : Hid (Mod (fun k => k = g ∨ k = fb ∨ some k = (Value.slice va vn vc).ownBlock) wc (wd.setCell ⟨g, 6, none⟩ (.bool (nl != 10)))) := hid ((HM5.out.mono (fun _ _ h => .inr h)).setCell (p := ⟨g, 6, none⟩) (.inl (.inl rfl)) _)
           generalize World.setCell wd ⟨g, 6, none⟩ (.bool (nl != 10)) = we at hP hR hPR hO hM ⊢
           clear r0 r1 r2 r3 r4 fr c6 f6 l4
           have hln := hid (line_zero hR.out)
           have hmy : Hid (Mod (fun k => k = w.heap.size + 1) we _) := hid ((((((Mod.refl (fun k => k = w.heap.size + 1) we).setCell (p := ⟨w.heap.size + 1, 0, none⟩) (.inl rfl) (.int .i64 0)).setCell (p := ⟨w.heap.size + 1, 1, none⟩) (.inl rfl) (.int .i64 0)).setCell (p := ⟨w.heap.size + 1, 2, none⟩) (.inl rfl) (.int .i64 0)).setCell (p := ⟨w.heap.size + 1, 3, none⟩) (.inl rfl) (.string ⟨#[]⟩)).setCell (p := ⟨w.heap.size + 1, 4, none⟩) (.inl rfl) (.int .u8 0))
           generalize World.setCell _ ⟨w.heap.size + 1, 4, none⟩ _ = wy at hln hmy ⊢
           have hl4 := hln.out
           have k0 := hl4.at_ 0 rfl
           have k1 := hl4.at_ 1 rfl
           have k2 := hl4.at_ 2 rfl
           have k3 := hl4.at_ 3 rfl
           have k4 := hl4.at_ 4 rfl
           clear hl4
           refine bodyPost_ret (by simp [results, Tryz.results335, go_sem, k0, k1, k2, k3, k4]; try rfl) rfl ?_
           exact fen_fin HCF1.out HCF.out hBf HPS.out HFB.out HROW.out hbw.out hP.out hPR.out hO.out hM.out hmy.out hR.out (by omega) (by omega))
end Go.Proofs.YtmcjhcfhglfmlaaGreatDoor
