/- Blocks as nodes: what every law has in common. -/
import Derived.Test.YtlgbonhjkpdcaaaGreatDoorOpt
import Derived.Test.YtlgbonhjkpdcaaaGreatDoorPs
namespace Go.Proofs.YtlgbonhjkpdcaaaGreatDoor
open Go.RowKit
theorem _root_.Go.RowKit.Below.put {a b : World} {B : Nat} (h : Below B a b) (i : Nat) (v : Value) : Below B a (b.setCell ⟨B, i, none⟩ v) := Below.setCell h (Nat.le_refl _) v
theorem Mod.put {S : Nat → Prop} {a b : World} {g : Nat} (h : Mod S a b) (hg : S g) (i : Nat) (v : Value) : Mod S a (b.setCell ⟨g, i, none⟩ v) := h.setCell (.inl hg) v
theorem fill16 {w : World} {g : Nat} {t : TypeId} {a0 a1 a2 a3 a4 a5 a6 a7 a8 a9 a10 a11 a12 a13 a14 a15 : Value} (h : Blk w g t #[a0, a1, a2, a3, a4, a5, a6, a7, a8, a9, a10, a11, a12, a13, a14, a15]) (v0 v1 v2 v3 v4 v5 v6 v7 v8 v9 v10 v11 v12 v13 v14 v15 : Value) : Blk ((((((((((((((((w.setCell ⟨g, 0, none⟩ v0).setCell ⟨g, 1, none⟩ v1).setCell ⟨g, 2, none⟩ v2).setCell ⟨g, 3, none⟩ v3).setCell ⟨g, 4, none⟩ v4).setCell ⟨g, 5, none⟩ v5).setCell ⟨g, 6, none⟩ v6).setCell ⟨g, 7, none⟩ v7).setCell ⟨g, 8, none⟩ v8).setCell ⟨g, 9, none⟩ v9).setCell ⟨g, 10, none⟩ v10).setCell ⟨g, 11, none⟩ v11).setCell ⟨g, 12, none⟩ v12).setCell ⟨g, 13, none⟩ v13).setCell ⟨g, 14, none⟩ v14).setCell ⟨g, 15, none⟩ v15) g t #[v0, v1, v2, v3, v4, v5, v6, v7, v8, v9, v10, v11, v12, v13, v14, v15] := by
  have h' := ((((((((((((((((h.set_ 0 v0).set_ 1 v1).set_ 2 v2).set_ 3 v3).set_ 4 v4).set_ 5 v5).set_ 6 v6).set_ 7 v7).set_ 8 v8).set_ 9 v9).set_ 10 v10).set_ 11 v11).set_ 12 v12).set_ 13 v13).set_ 14 v14).set_ 15 v15)
  simpa using h'
theorem below16 {a w : World} {g : Nat} (h : Below g a w) (v0 v1 v2 v3 v4 v5 v6 v7 v8 v9 v10 v11 v12 v13 v14 v15 : Value) : Below g a ((((((((((((((((w.setCell ⟨g, 0, none⟩ v0).setCell ⟨g, 1, none⟩ v1).setCell ⟨g, 2, none⟩ v2).setCell ⟨g, 3, none⟩ v3).setCell ⟨g, 4, none⟩ v4).setCell ⟨g, 5, none⟩ v5).setCell ⟨g, 6, none⟩ v6).setCell ⟨g, 7, none⟩ v7).setCell ⟨g, 8, none⟩ v8).setCell ⟨g, 9, none⟩ v9).setCell ⟨g, 10, none⟩ v10).setCell ⟨g, 11, none⟩ v11).setCell ⟨g, 12, none⟩ v12).setCell ⟨g, 13, none⟩ v13).setCell ⟨g, 14, none⟩ v14).setCell ⟨g, 15, none⟩ v15) := ((((((((((((((((h.put 0 v0).put 1 v1).put 2 v2).put 3 v3).put 4 v4).put 5 v5).put 6 v6).put 7 v7).put 8 v8).put 9 v9).put 10 v10).put 11 v11).put 12 v12).put 13 v13).put 14 v14).put 15 v15)
theorem mod16 {S : Nat → Prop} {a w : World} {g : Nat} (h : Mod S a w) (hg : S g) (v0 v1 v2 v3 v4 v5 v6 v7 v8 v9 v10 v11 v12 v13 v14 v15 : Value) : Mod S a ((((((((((((((((w.setCell ⟨g, 0, none⟩ v0).setCell ⟨g, 1, none⟩ v1).setCell ⟨g, 2, none⟩ v2).setCell ⟨g, 3, none⟩ v3).setCell ⟨g, 4, none⟩ v4).setCell ⟨g, 5, none⟩ v5).setCell ⟨g, 6, none⟩ v6).setCell ⟨g, 7, none⟩ v7).setCell ⟨g, 8, none⟩ v8).setCell ⟨g, 9, none⟩ v9).setCell ⟨g, 10, none⟩ v10).setCell ⟨g, 11, none⟩ v11).setCell ⟨g, 12, none⟩ v12).setCell ⟨g, 13, none⟩ v13).setCell ⟨g, 14, none⟩ v14).setCell ⟨g, 15, none⟩ v15) := ((((((((((((((((h.put hg 0 v0).put hg 1 v1).put hg 2 v2).put hg 3 v3).put hg 4 v4).put hg 5 v5).put hg 6 v6).put hg 7 v7).put hg 8 v8).put hg 9 v9).put hg 10 v10).put hg 11 v11).put hg 12 v12).put hg 13 v13).put hg 14 v14).put hg 15 v15)
/-- A node, as the sixteen cells hold it. -/
structure NV where
  k : Int
  txt : ByteArray
  title : ByteArray
  num : Int
  chr : ByteArray
  loose : Bool
  align : Sl
  kids : Sl
  from_ : Int
  to_ : Int
  mark : ByteArray
  width : Int
  tight : Bool
  esc : Bool
  auto_ : Bool
  defs : Sl
def NV.cells (n : NV) : Array Value := #[.int .i64 n.k, .string n.txt, .string n.title, .int .i64 n.num, .string n.chr, .bool n.loose, .slice n.align.a n.align.n n.align.c, .slice n.kids.a n.kids.n n.kids.c, .int .i64 n.from_, .int .i64 n.to_, .string n.mark, .int .i64 n.width, .bool n.tight, .bool n.esc, .bool n.auto_, .slice n.defs.a n.defs.n n.defs.c]
/-- The node of an empty document. -/
def docNV : NV := ⟨1, ⟨#[]⟩, ⟨#[]⟩, 0, ⟨#[]⟩, false, Sl.nil, Sl.nil, 0, 0, ⟨#[]⟩, 0, false, false, false, Sl.nil⟩
def ParsedN (w : World) (Q : NV → World → Prop) (e : Ending) (w' : World) : Prop :=
  ∃ nv w0, e = .returned (.agg nv.cells) ∧ Q nv w0 ∧ Mod (fun k => k = w.heap.size + 1) w0 w' ∧ Below w.heap.size w w'
def ParsedD (B : Nat) (w : World) (D : Nat → World → Prop) (e : Ending) (w' : World) : Prop :=
  ∃ d, e = .returned (.pointer (some ⟨d, 0, none⟩)) ∧ D d w' ∧ Below B w w'
def BlockN (B : Nat) (w : World) (Q : NV → World → Prop) (e : Ending) (w' : World) : Prop :=
  ∃ nv, e = .returned (.agg nv.cells) ∧ Q nv w' ∧ Below B w w'
set_option maxRecDepth 20000 in
set_option maxHeartbeats 1600000 in
theorem implParse_gen (o : Opt) (s : ByteArray) (w : World) (D : Nat → World → Prop) (Q : NV → World → Prop)
    (hP : ∀ g w1, Below w.heap.size w w1 → w.heap.size + 2 ≤ w1.heap.size → Blk w1 g 138 o.parser → Calls Tryz.prog 40 #[.pointer (some ⟨g, 0, none⟩), .string s] w1 (ParsedD w1.heap.size w1 D))
    (hB : ∀ d w2, w.heap.size + 2 ≤ w2.heap.size → D d w2 → Calls Tryz.prog 38 #[.iface 58 (.pointer (some ⟨d, 0, none⟩))] w2 (BlockN w2.heap.size w2 Q)) :
    Calls Tryz.prog 15 #[o.v, .string s] w (ParsedN w Q) := by
  have HP := hid hP
  have HBk := hid hB
  clear hP hB
  obtain ⟨o0, o1, o2, o3, o4, o5, o6, o7, o8, o9⟩ := o
  have hv : (Opt.mk o0 o1 o2 o3 o4 o5 o6 o7 o8 o9).v = .agg #[.bool o0, .bool o1, .bool o2, .bool o3, .bool o4, .bool o5, .bool o6, .bool o7, .bool o8, .bool o9] := rfl
  rw [hv]
  go_enter Tryz.func15, Tryz.ntmps15
  go_wp2_with fail
  refine (parser_any ⟨o0, o1, o2, o3, o4, o5, o6, o7, o8, o9⟩ _).mono ?_
  rintro e w1 ⟨g, rfl, hg, hblk, hb⟩
  have HB := hid hb
  have HBL := hid hblk
  have hs1 : w.heap.size + 2 ≤ w1.heap.size := by have := hb.size; simp at this; omega
  have hN : Blk w1 (w.heap.size + 1) 27 #[.int .i64 0, .string ⟨#[]⟩, .string ⟨#[]⟩, .int .i64 0, .string ⟨#[]⟩, .bool false, .slice none 0 0, .slice none 0 0, .int .i64 0, .int .i64 0, .string ⟨#[]⟩, .int .i64 0, .bool false, .bool false, .bool false, .slice none 0 0] := by
    refine Blk.mod (S := fun k => False) (Blk.new' (by simp)) (Mod.below' hb) (by simp)
  have hb1 : Below w.heap.size w w1 := (((Below.refl _ _).alloc (Nat.le_refl _) _).alloc (by simp) _).trans (hb.mono (by simp; omega))
  clear hblk hb
  have HB1 := hid hb1
  have HN := hid hN
  clear hb1 hN
  go_wp2_with fail
  refine (HP.out g _ HB1.out hs1 HBL.out).mono ?_
  rintro e w2 ⟨d, rfl, hd, hb2⟩
  have HB2 := hid hb2
  have HD := hid hd
  have hs2 : w.heap.size + 2 ≤ w2.heap.size := Nat.le_trans hs1 hb2.size
  clear hb2 hd
  go_wp2_with fail
  refine (HBk.out d _ hs2 HD.out).mono ?_
  rintro e w3 ⟨nv, rfl, hq, hb3⟩
  have HB3 := hid hb3
  have HQ := hid hq
  have HN3 := hid ((HN.out.mod (S := fun _ => False) (Mod.below' HB2.out) (by simp)).mod (S := fun _ => False) (Mod.below' hb3) (by simp))
  clear hb3 hq
  have hN3 := HN3.out
  have r0 := hN3.at_ 0 rfl
  have r1 := hN3.at_ 1 rfl
  have r2 := hN3.at_ 2 rfl
  have r3 := hN3.at_ 3 rfl
  have r4 := hN3.at_ 4 rfl
  have r5 := hN3.at_ 5 rfl
  have r6 := hN3.at_ 6 rfl
  have r7 := hN3.at_ 7 rfl
  have r8 := hN3.at_ 8 rfl
  have r9 := hN3.at_ 9 rfl
  have r10 := hN3.at_ 10 rfl
  have r11 := hN3.at_ 11 rfl
  have r12 := hN3.at_ 12 rfl
  have r13 := hN3.at_ 13 rfl
  have r14 := hN3.at_ 14 rfl
  have r15 := hN3.at_ 15 rfl
  have fR := hN3.free
  clear hN3
  obtain ⟨n0, n1, n2, n3, n4, n5, ⟨n6, n6a, n6b⟩, ⟨n7, n7a, n7b⟩, n8, n9, n10, n11, n12, n13, n14, ⟨n15, n15a, n15b⟩⟩ := nv
  dsimp only [NV.cells]
  go_wp2_with fail
  have hR2 := hid (fill16 HN3.out (.int .i64 n0) (.string n1) (.string n2) (.int .i64 n3) (.string n4) (.bool n5) (.slice n6 n6a n6b) (.slice n7 n7a n7b) (.int .i64 n8) (.int .i64 n9) (.string n10) (.int .i64 n11) (.bool n12) (.bool n13) (.bool n14) (.slice n15 n15a n15b))
  have hB2 := hid (mod16 (Mod.refl (fun k => k = w.heap.size + 1) w3) rfl (.int .i64 n0) (.string n1) (.string n2) (.int .i64 n3) (.string n4) (.bool n5) (.slice n6 n6a n6b) (.slice n7 n7a n7b) (.int .i64 n8) (.int .i64 n9) (.string n10) (.int .i64 n11) (.bool n12) (.bool n13) (.bool n14) (.slice n15 n15a n15b))
  generalize World.setCell _ ⟨w.heap.size + 1, 15, none⟩ _ = wy at hR2 hB2 ⊢
  have hk := hR2.out
  clear r0 r1 r2 r3 r4 r5 r6 r7 r8 r9 r10 r11 r12 r13 r14 r15 fR
  have k0 := hk.at_ 0 rfl
  have k1 := hk.at_ 1 rfl
  have k2 := hk.at_ 2 rfl
  have k3 := hk.at_ 3 rfl
  have k4 := hk.at_ 4 rfl
  have k5 := hk.at_ 5 rfl
  have k6 := hk.at_ 6 rfl
  have k7 := hk.at_ 7 rfl
  have k8 := hk.at_ 8 rfl
  have k9 := hk.at_ 9 rfl
  have k10 := hk.at_ 10 rfl
  have k11 := hk.at_ 11 rfl
  have k12 := hk.at_ 12 rfl
  have k13 := hk.at_ 13 rfl
  have k14 := hk.at_ 14 rfl
  have k15 := hk.at_ 15 rfl
  refine bodyPost_ret (by simp [results, Tryz.results15, go_sem, k0, k1, k2, k3, k4, k5, k6, k7, k8, k9, k10, k11, k12, k13, k14, k15]; try rfl) rfl ?_
  have hb3 : Below w.heap.size w w3 := (HB1.out.trans (HB2.out.mono (by omega))).trans (HB3.out.mono (by omega))
  refine ⟨⟨n0, n1, n2, n3, n4, n5, ⟨n6, n6a, n6b⟩, ⟨n7, n7a, n7b⟩, n8, n9, n10, n11, n12, n13, n14, ⟨n15, n15a, n15b⟩⟩, w3, rfl, HQ.out, hB2.out, hb3.trans (Mod.toBelow hB2.out ?_ ?_)⟩
  · have := hb3.size; omega
  · intro k hk h; omega
end Go.Proofs.YtlgbonhjkpdcaaaGreatDoor
