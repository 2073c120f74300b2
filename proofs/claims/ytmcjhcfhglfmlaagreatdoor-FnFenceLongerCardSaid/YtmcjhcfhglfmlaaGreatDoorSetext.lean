/- The starter of setext headings declines where no paragraph is open. -/
import Derived.Test.YtmcjhcfhglfmlaaGreatDoorTop
namespace Go.Proofs.YtmcjhcfhglfmlaaGreatDoor
open Go.RowKit
theorem nil_ne_para (w : World) : Sem.run Tryz.prog (binOp BinOp.eql 118 .nilIface (.iface 162 (.pointer none))) w = .ok (.bool false) w := by kernel_rfl
set_option maxRecDepth 20000 in
set_option maxHeartbeats 1600000 in
theorem newSetext_no (B g i : Nat) (r : PSr) (es : List Ent) (e0 : Ent) (p : Option Addr) (tb nl : Int) (s : ByteArray) (w : World) (hps : IsPS w g r) (hst : IsStack w B r.stack (es ++ [e0])) (hn : es.length ≤ 900000)
    (hd : r.lineDepth = (r.stack.n : Int) - 1) (hb : e0.bt = 98) (hb2 : e0.bv = .pointer p) :
    Calls Tryz.prog 90 #[.pointer (some ⟨g, 0, none⟩), lnV i tb s nl] w fun e w' => e = .returned (.tuple #[lnV i tb s nl, .bool false]) ∧ Below w.heap.size w w' := by
  have HN := hid hst.1
  have HPS := hid hps
  have HST := hid hst
  have hg := hps.lt
  clear hps hst
  have ie := nil_ne_para
  go_enter Tryz.func90, Tryz.ntmps90
  go_wp2_with fail
  refine (nextB_top g r _ ((((HPS.out.alloc _).alloc _).alloc _).alloc _) hd (by have := HN.out; simp at this; omega)).mono ?_
  rintro e w1 ⟨rfl, n1, rfl⟩
  go_wp2_with fail
  refine (para_top B g r es e0 p _ (((((HPS.out.alloc _).alloc _).alloc _).alloc _).drewN n1) (((((HST.out.alloc _).alloc _).alloc _).alloc _).drewN n1) (by omega) hb hb2).mono ?_
  rintro e w2 ⟨rfl, n2, rfl⟩
  have hres : Blk _ (w.heap.size + 1) 104 #[.int .i64 0, .int .i64 0, .int .i64 0, .string ⟨#[]⟩, .int .u8 0] := Blk.drewN (Blk.alloc (Blk.alloc (Blk.new' (w := w.alloc (.cells #[.int .i64 0, .int .i64 i, .int .i64 tb, .string s, .int .u8 nl] 104)) (by simp)) (.cells #[.int .i64 0] 3)) (.cells #[.int .i64 0, .int .i64 i, .int .i64 tb, .string s, .int .u8 nl] 104)) (n1 + n2)
  have hbox : IsLn _ w.heap.size i tb s nl := Blk.drewN (Blk.alloc (Blk.alloc (Blk.alloc (Blk.new' (w := w) rfl : Blk _ w.heap.size 104 (lnC i tb s nl)) (.cells #[.int .i64 0, .int .i64 0, .int .i64 0, .string ⟨#[]⟩, .int .u8 0] 104)) (.cells #[.int .i64 0] 3)) (.cells #[.int .i64 0, .int .i64 i, .int .i64 tb, .string s, .int .u8 nl] 104)) (n1 + n2)
  have hbel : Below w.heap.size w _ := below_drewN (((((Below.refl w.heap.size w).alloc (Nat.le_refl _) (.cells #[.int .i64 0, .int .i64 i, .int .i64 tb, .string s, .int .u8 nl] 104)).alloc (by simp) (.cells #[.int .i64 0, .int .i64 0, .int .i64 0, .string ⟨#[]⟩, .int .u8 0] 104)).alloc (by simp; omega) (.cells #[.int .i64 0] 3)).alloc (by simp; omega) (.cells #[.int .i64 0, .int .i64 i, .int .i64 tb, .string s, .int .u8 nl] 104)) (n1 + n2)
  have hl : (lnC i tb s nl) = #[.int .i64 0, .int .i64 i, .int .i64 tb, .string s, .int .u8 nl] := rfl
  rw [hl] at hbox
  rw [World.drewN_drewN]
  generalize World.drewN _ (n1 + n2) = wa at hres hbox hbel ⊢
  have c0 := hbox.c0
  have c1 := hbox.c1
  have c2 := hbox.c2
  have c3 := hbox.c3
  have c4 := hbox.c4
  have r0 := hres.at_ 0 rfl
  have r1 := hres.at_ 1 rfl
  have r2 := hres.at_ 2 rfl
  have r3 := hres.at_ 3 rfl
  have r4 := hres.at_ 4 rfl
  have fr := hres.free
  have HR := hid hres
  have HB := hid hbel
  clear hbox hres hbel
  unfold lnV
  go_wp2_with fail
  have hln : Hid (IsLn _ (w.heap.size + 1) i tb s nl) := hid (ln_store HR.out i tb nl s)
  have hb3 : Hid (Below w.heap.size w _) := hid (((((HB.out.setCell (p := ⟨w.heap.size + 1, 0, none⟩) (by simp) (.int .i64 0)).setCell (p := ⟨w.heap.size + 1, 1, none⟩) (by simp) (.int .i64 i)).setCell (p := ⟨w.heap.size + 1, 2, none⟩) (by simp) (.int .i64 tb)).setCell (p := ⟨w.heap.size + 1, 3, none⟩) (by simp) (.string s)).setCell (p := ⟨w.heap.size + 1, 4, none⟩) (by simp) (.int .u8 nl))
  generalize World.setCell _ ⟨w.heap.size + 1, 4, none⟩ _ = wy at hln hb3 ⊢
  clear c0 c1 c2 c3 c4 r0 r1 r2 r3 r4 fr
  have k0 := hln.out.c0
  have k1 := hln.out.c1
  have k2 := hln.out.c2
  have k3 := hln.out.c3
  have k4 := hln.out.c4
  refine bodyPost_ret (by simp [results, Tryz.results90, go_sem, k0, k1, k2, k3, k4]; try rfl) rfl ?_
  exact ⟨rfl, hb3.out⟩
end Go.Proofs.YtmcjhcfhglfmlaaGreatDoor
