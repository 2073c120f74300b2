/- Blocks as nodes. -/
import Derived.Test.YtlgbonhjkpdcaaaGreatDoorNodeBase
namespace Go.Proofs.YtlgbonhjkpdcaaaGreatDoor
open Go.RowKit
theorem next_nil {P : Program} (w : World) (n : Nat) (ty : TypeId) (a b : Nat) (s : Array Nat) (h : n = w.heap.size) :
    (Instr.next (.pointer (some ⟨n, 0, none⟩)) false ty).run P (w.alloc (.mapIter none a s b)) = .ok (.tuple #[.bool false]) (w.alloc (.mapIter none a s b)) := by
  subst h; exact run_next_nilMap w ty a b s
theorem pos_via (d : Nat) (W : World) : (method 515 58 (.pointer (some ⟨d, 0, none⟩)) "Pos").run Tryz.prog W = Sem.run Tryz.prog (do let v ← loadVar 84 ⟨d, 0, none⟩; pure (281, v)) W := by kernel_rfl
theorem pos_load (d : Nat) (W : World) (x y : Int) (h0 : W.cell? ⟨d, 0, none⟩ = some (.int .i64 x)) (h1 : W.cell? ⟨d, 1, none⟩ = some (.int .i64 y)) : (loadVar 84 ⟨d, 0, none⟩).run Tryz.prog W = .ok (.agg #[.int .i64 x, .int .i64 y]) W := by
  simp [go_sem, h0, h1]
theorem pos_method (d : Nat) (W : World) (x y : Int) (h0 : W.cell? ⟨d, 0, none⟩ = some (.int .i64 x)) (h1 : W.cell? ⟨d, 1, none⟩ = some (.int .i64 y)) :
    (method 515 58 (.pointer (some ⟨d, 0, none⟩)) "Pos").run Tryz.prog W = .ok (281, .agg #[.int .i64 x, .int .i64 y]) W := by
  rw [pos_via, Sem.run_bind, pos_load d W x y h0 h1]; rfl
theorem ta_35_c (p : Option Addr) (w : World) : (Instr.typeAssert (.iface 58 (.pointer p)) 82 58 true).run Tryz.prog w = .ok (.tuple #[.pointer p, .bool true]) w := by kernel_rfl
set_option maxRecDepth 20000 in
set_option maxHeartbeats 800000 in
theorem blocks_nil (w : World) : Calls Tryz.prog 55 #[.slice none 0 0] w fun e w' => e = .returned (.slice none 0 0) ∧ w = w' := by
  go_enter Tryz.func55, Tryz.ntmps55
  go_wp2
  go_rounds 1
  go_ret
  exact ⟨rfl, rfl⟩
set_option maxRecDepth 20000 in
set_option maxHeartbeats 800000 in
theorem sortFunc_nil (w : World) (fn : Fn) (a b : Array Value) : Calls Tryz.prog 57 #[.slice none 0 0, .func fn a b] w fun e w' => e = .returned (.tuple #[]) ∧ ∃ n, w' = w.drewN n := by
  go_enter Tryz.func57, Tryz.ntmps57
  go_wp2
  generalize wrap64 (wrap64 _) = lim
  refine wp_loop_rounds 1 ?_
  rw [rounds_succ]
  go_wp2_with fail
  go_in
  go_wp2_with fail
  go_rounds 1
  go_wp2
  go_end0
  exact ⟨rfl, 0, rfl⟩
set_option maxRecDepth 20000 in
set_option maxHeartbeats 1600000 in
theorem block_doc (d : Nat) (w : World) (hblk : Blk w d 90 #[.int .i64 0, .int .i64 0, .slice none 0 0, .map none]) :
    Calls Tryz.prog 38 #[.iface 58 (.pointer (some ⟨d, 0, none⟩))] w (BlockN w.heap.size w (fun nv _ => nv = docNV)) := by
  have c0 : w.cell? ⟨d, 0, none⟩ = some (.int .i64 0) := by rw [hblk.cell]; rfl
  have c1 : w.cell? ⟨d, 1, none⟩ = some (.int .i64 0) := by rw [hblk.cell]; rfl
  have c2 : w.cell? ⟨d, 2, none⟩ = some (.slice none 0 0) := by rw [hblk.cell]; rfl
  have c3 : w.cell? ⟨d, 3, none⟩ = some (.map none) := by rw [hblk.cell]; rfl
  have hd := hblk.lt
  have ta := ta_35_c
  have hp := pos_method d
  have rn := fun (w : World) => run_range_nilMap (P := Tryz.prog) w 88 _ _ Tryz.underlying88
  have rx := @next_nil Tryz.prog
  have l1 : d < w.heap.size + 1 := by omega
  have l2 : d < w.heap.size + 1 + 1 := by omega
  have l3 : d < w.heap.size + 1 + 1 + 1 := by omega
  have l4 : d < w.heap.size + 1 + 1 + 1 + 1 := by omega
  have l5 : d < w.heap.size + 1 + 1 + 1 + 1 + 1 := by omega
  have l6 : d < w.heap.size + 1 + 1 + 1 + 1 + 1 + 1 := by omega
  have l7 : d < w.heap.size + 1 + 1 + 1 + 1 + 1 + 1 + 1 := by omega
  go_enter Tryz.func38, Tryz.ntmps38
  go_wp2_with (first | (go_at_call 55; refine (blocks_nil _).mono ?_; rintro e w1 ⟨rfl, rfl⟩) | (go_at_call 281; go_in))
  refine wp_loop_rounds 1 ?_
  rw [rounds_succ]
  go_upto_region 57 with (first | (go_at_call 57; refine (sortFunc_nil _ _ _ _).mono ?_; rintro e w1 ⟨rfl, n, rfl⟩))
  clear hp rn rx ta
  generalize hwx : World.drewN _ n = wx
  have hB : Below w.heap.size w wx := by
    rw [← hwx]
    exact below_drewN ((((((Below.refl _ _).alloc (Nat.le_refl _) _).alloc (by simp) _).alloc (by simp only [World.size_alloc]; omega) _).alloc (by simp only [World.size_alloc]; omega) _).alloc (by simp only [World.size_alloc]; omega) _ |>.alloc (by simp only [World.size_alloc]; omega) _) n
  have hN : Blk wx (w.heap.size + 1 + 1 + 1 + 1) 27 #[.int .i64 1, .string ⟨#[]⟩, .string ⟨#[]⟩, .int .i64 0, .string ⟨#[]⟩, .bool false, .slice none 0 0, .slice none 0 0, .int .i64 0, .int .i64 0, .string ⟨#[]⟩, .int .i64 0, .bool false, .bool false, .bool false, .slice none 0 0] := by
    rw [← hwx]
    exact Blk.drewN (Blk.alloc (Blk.new' (by simp)) _) n
  have hR : Blk wx w.heap.size 27 #[.int .i64 0, .string ⟨#[]⟩, .string ⟨#[]⟩, .int .i64 0, .string ⟨#[]⟩, .bool false, .slice none 0 0, .slice none 0 0, .int .i64 0, .int .i64 0, .string ⟨#[]⟩, .int .i64 0, .bool false, .bool false, .bool false, .slice none 0 0] := by
    rw [← hwx]
    exact Blk.drewN (Blk.alloc (Blk.alloc (Blk.alloc (Blk.alloc (Blk.alloc (Blk.new' rfl) _) _) _) _) _) n
  clear hwx
  have n0 := hN.at_ 0 rfl
  have n1 := hN.at_ 1 rfl
  have n2 := hN.at_ 2 rfl
  have n3 := hN.at_ 3 rfl
  have n4 := hN.at_ 4 rfl
  have n5 := hN.at_ 5 rfl
  have n6 := hN.at_ 6 rfl
  have n7 := hN.at_ 7 rfl
  have n8 := hN.at_ 8 rfl
  have n9 := hN.at_ 9 rfl
  have n10 := hN.at_ 10 rfl
  have n11 := hN.at_ 11 rfl
  have n12 := hN.at_ 12 rfl
  have n13 := hN.at_ 13 rfl
  have n14 := hN.at_ 14 rfl
  have n15 := hN.at_ 15 rfl
  have r0 := hR.at_ 0 rfl
  have r1 := hR.at_ 1 rfl
  have r2 := hR.at_ 2 rfl
  have r3 := hR.at_ 3 rfl
  have r4 := hR.at_ 4 rfl
  have r5 := hR.at_ 5 rfl
  have r6 := hR.at_ 6 rfl
  have r7 := hR.at_ 7 rfl
  have r8 := hR.at_ 8 rfl
  have r9 := hR.at_ 9 rfl
  have r10 := hR.at_ 10 rfl
  have r11 := hR.at_ 11 rfl
  have r12 := hR.at_ 12 rfl
  have r13 := hR.at_ 13 rfl
  have r14 := hR.at_ 14 rfl
  have r15 := hR.at_ 15 rfl
  have fR := hR.free
  clear c0 c1 c2 c3 hd l1 l2 l3 l4 l5 l6 l7
  go_wp2
  have hR2 := hid (fill16 hR (.int .i64 1) (.string ⟨#[]⟩) (.string ⟨#[]⟩) (.int .i64 0) (.string ⟨#[]⟩) (.bool false) (.slice none 0 0) (.slice none 0 0) (.int .i64 0) (.int .i64 0) (.string ⟨#[]⟩) (.int .i64 0) (.bool false) (.bool false) (.bool false) (.slice none 0 0))
  have hB2 := hid (below16 hB (.int .i64 1) (.string ⟨#[]⟩) (.string ⟨#[]⟩) (.int .i64 0) (.string ⟨#[]⟩) (.bool false) (.slice none 0 0) (.slice none 0 0) (.int .i64 0) (.int .i64 0) (.string ⟨#[]⟩) (.int .i64 0) (.bool false) (.bool false) (.bool false) (.slice none 0 0))
  generalize World.setCell _ ⟨w.heap.size, 15, none⟩ _ = wy at hR2 hB2 ⊢
  have hR3 := hR2.out
  clear hR2 hR hN fR hB n0 n1 n2 n3 n4 n5 n6 n7 n8 n9 n10 n11 n12 n13 n14 n15 r0 r1 r2 r3 r4 r5 r6 r7 r8 r9 r10 r11 r12 r13 r14 r15
  have k0 := hR3.at_ 0 rfl
  have k1 := hR3.at_ 1 rfl
  have k2 := hR3.at_ 2 rfl
  have k3 := hR3.at_ 3 rfl
  have k4 := hR3.at_ 4 rfl
  have k5 := hR3.at_ 5 rfl
  have k6 := hR3.at_ 6 rfl
  have k7 := hR3.at_ 7 rfl
  have k8 := hR3.at_ 8 rfl
  have k9 := hR3.at_ 9 rfl
  have k10 := hR3.at_ 10 rfl
  have k11 := hR3.at_ 11 rfl
  have k12 := hR3.at_ 12 rfl
  have k13 := hR3.at_ 13 rfl
  have k14 := hR3.at_ 14 rfl
  have k15 := hR3.at_ 15 rfl
  clear hR3
  clear hblk
  go_wp2
  refine bodyPost_ret (by simp [results, Tryz.results38, go_sem, k0, k1, k2, k3, k4, k5, k6, k7, k8, k9, k10, k11, k12, k13, k14, k15]; try rfl) rfl ?_
  exact ⟨docNV, rfl, rfl, hB2.out⟩
end Go.Proofs.YtlgbonhjkpdcaaaGreatDoor
