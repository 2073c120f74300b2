/- Texts of this proof, joined: Plain texts that stand side by side become one, Neighbouring plain texts as one: the list, and what it prints, mergePlain: neighbouring plain texts become one, in place. -/
import Derived.Test.YtmmijmhdbpldpaaGreatDoorCRef04
import Derived.Test.YtmmijmhdbpldpaaGreatDoorCRef03
import Derived.Deep.RegionLaw
import Derived.Test.YtmmijmhdbpldpaaGreatDoorCRef01
/- Plain texts that stand side by side become one. -/


namespace Go.Proofs.YtmmijmhdbpldpaaGreatDoor
open Go.RowKit
theorem infoStrM : (Tryz.prog.info? 9).map (fun i => (i.zero, i.size, i.bytes)) = some (some (.string ⟨#[]⟩), 1, 16) := by kernel_rfl
theorem ta_plain (p : Option Addr) (w : World) : (Instr.typeAssert (.iface 156 (.pointer p)) 132 156 true).run Tryz.prog w = .ok (.tuple #[.pointer p, .bool true]) w := by kernel_rfl
theorem toPlain_yes (a : Addr) (w : World) : Calls Tryz.prog 121 #[.iface 156 (.pointer (some a))] w fun e w' => e = .returned (.pointer (some a)) ∧ w = w' := by
  have ta := ta_plain (some a)
  go_enter Tryz.func121, Tryz.ntmps121
  go_wp2_with fail
  go_ret
  exact ⟨rfl, rfl⟩
theorem toPlain_no (k : Kind) (p : Option Addr) (w : World) (hk : k.Ok) (hn : ∀ p w, (Instr.typeAssert (.iface k.T (.pointer p)) 132 156 true).run Tryz.prog w = .ok (.tuple #[.pointer none, .bool false]) w) :
    Calls Tryz.prog 121 #[.iface k.T (.pointer p)] w fun e w' => e = .returned (.pointer none) ∧ w = w' := by
  have ta := hn p
  have ta2 := hk.open_ p
  have ta3 := hk.emph_ p
  go_enter Tryz.func121, Tryz.ntmps121
  go_wp2_with fail
  go_ret
  exact ⟨rfl, rfl⟩
def AllR (ts : List ByteArray) (w : World) (t15 t3 : Value) (wr : World) : Prop :=
  ∃ i : Nat, i ≤ ts.length ∧ t15 = .int .i64 i ∧ wr.ownsRow w.heap.size 9 1 t3 i ((ts.take i).map Value.string) ∧ Below w.heap.size w wr
set_option maxRecDepth 20000 in
set_option maxHeartbeats 4000000 in
theorem mergePlain1_many (lb o c : Nat) (ts : List ByteArray) (w : World) (hcells : ∀ (j : Nat) x, ts[j]? = some x → ∃ pb, w.cell? ⟨lb, o + j, none⟩ = some (.iface 156 (.pointer (some ⟨pb, 0, none⟩))) ∧ Blk w pb 137 #[.string x])
    (h2 : 2 ≤ ts.length) (hn : ts.length ≤ 1000000) (hlen : (Lib.join (ts.map (·.data.toList)) []).length ≤ 1000000) :
    Calls Tryz.prog 122 #[.slice (some ⟨lb, o, none⟩) ts.length c] w fun e w' => ∃ pb, e = .returned (.pointer (some ⟨pb, 0, none⟩)) ∧ Blk w' pb 137 #[.string ⟨(Lib.join (ts.map (·.data.toList)) []).toArray⟩] ∧ w.heap.size ≤ pb ∧ Below w.heap.size w w' := by
  obtain ⟨is0, his, hsz0, hsz1, hsz2⟩ := info_parts infoStrM
  have HC := hid hcells
  clear hcells
  go_enter Tryz.func122, Tryz.ntmps122
  go_wp2_with fail
  have hl1 : ((ts.length : Int) == 1) = false := by
    have : ¬ (ts.length : Int) = 1 := by omega
    simpa using this
  rw [hl1]
  go_loopw [15, 3] (fun t15 t3 wr => AllR ts w t15 t3 wr) (fun t15 _ _ => ts.length - (intOf t15).toNat)
  case atStart => exact ⟨0, Nat.zero_le _, rfl, by simpa using World.ownsRow_nil _ _ _ _, Below.refl _ _⟩
  case round =>
    obtain ⟨i, hi, rfl, hown, hbel⟩ := hrel
    by_cases hlt : i < ts.length
    · obtain ⟨pb, hce, hpb⟩ := HC.out i _ (List.getElem?_eq_getElem hlt)
      have hce' : wr.cell? ⟨lb, o + i, none⟩ = some (.iface 156 (.pointer (some ⟨pb, 0, none⟩))) := (hbel.cell (World.block_lt_of_cell? w _ hce)).trans hce
      have hpb' : Blk wr pb 137 #[.string ts[i]] := Blk.mod (S := fun _ => False) hpb (Mod.below' hbel) (fun x => x)
      have c0 := hpb'.at_ 0 rfl
      have HTK := hid (show (ts.take (i + 1)).map Value.string = (ts.take i).map Value.string ++ [.string ts[i]] by rw [List.take_add_one, List.getElem?_eq_getElem hlt, List.map_append]; rfl)
      have HOWN := hid hown
      have HBEL := hid hbel
      clear hown hbel hce hpb hpb'
      go_wp2_with fail
      refine (toPlain_yes _ wr).mono ?_
      rintro e w1 ⟨rfl, rfl⟩
      have hz := HBEL.out.size
      go_wp2_with (at_builtin; refine wpList_append_lies _ rfl (.tmp 19) (.tmp 25) 33 (by rfl) w.heap.size 9 is0 _ 1 16 Tryz.underlying33 his hsz0 hsz1 hsz2 rfl (by decide) u3 i ((ts.take i).map Value.string) (by rfl) (HOWN.out.alloc _) ⟨wr.heap.size, 0, none⟩ 1 1 [.string ts[i]] (by rfl) rfl (World.news_of_block (heap_alloc_new _ _)) (by intro v hv; simp at hv; subst hv; rfl) (by omega) (by unfold maxLen; omega) (by omega) (by simp; omega) (wr.heap.size + 1) (by simp) ?_
                   intro g2 cap2 w4 hown4 hgr4 hat4 hlt4)
      have m4 : Mod (fun k => some k = u3.ownBlock) wr w4 := Mod.grown ((Mod.refl _ wr).alloc _) hgr4 (fun k hk => .inl hk.symm)
      have hb4 := HBEL.out.trans (m4.toBelow (B := w.heap.size) hz (fun k hk e => by have := ownBase HOWN.out e; omega))
      go_roundw
      case rel => exact ⟨i + 1, by omega, by go_num, by rw [HTK.out]; exact hown4, hb4⟩
      case measure => simp [intOf]; omega
    · obtain rfl : i = ts.length := by omega
      rw [List.take_of_length_le (Nat.le_refl _)] at hown
      have hsh : ∃ bk cap, u3 = .slice (some ⟨bk, 0, none⟩) ts.length cap ∧ ts.length ≤ cap ∧ bk < wr.heap.size ∧ ∀ (j : Nat) x, ts[j]? = some x → wr.cell? ⟨bk, 0 + j, none⟩ = some (.string x) := by
        rcases hown.2 with ⟨_, h0⟩ | ⟨bk, cap, cur, h1, h2, hh, h3, h4, h5, h6⟩
        · omega
        · refine ⟨bk, cap, h1, h3, Blk.lt (t := 9) hh, fun j x hx => ?_⟩
          rw [Nat.zero_add, Blk.cell (t := 9) hh j]
          have hj : j < ts.length := (List.getElem?_eq_some_iff.1 hx).1
          have e1 : (cur.toList.take (ts.length * 1))[j]? = some (.string x) := by
            rw [h6]
            simp [hx]
          rw [List.getElem?_take, if_pos (by omega)] at e1
          simpa using e1
      obtain ⟨bk, cap, rfl, hcap, hbk, hcl⟩ := hsh
      have HJ := hid (join_any bk 0 cap ts ⟨#[]⟩ wr hcl hbk hn hcap hlen)
      have HBEL := hid hbel
      clear hown hbel hcl
      go_wp2_with fail
      refine HJ.out.mono ?_
      rintro e w2 ⟨rfl, hb2⟩
      have HB2 := hid (HBEL.out.trans (hb2.mono HBEL.out.size))
      clear hb2
      go_wp2_with fail
      go_ret
      exact ⟨w2.heap.size, rfl, Blk.new _ _ _, HB2.out.size, HB2.out.alloc HB2.out.size _⟩
end Go.Proofs.YtmmijmhdbpldpaaGreatDoor
/- Neighbouring plain texts as one: the list, and what it prints. -/


namespace Go.Proofs.YtmmijmhdbpldpaaGreatDoor
open Go.RowKit
def plainOf (k : Kind) : Option (List UInt8) := if k.T = 156 ∧ k.tb = 137 then (match k.cs with
  | [.string s] => some s.data.toList
  | _ => none) else none
theorem plainOf_plain (l : List UInt8) : plainOf (plainK l) = some l := by
  unfold plainOf
  rw [if_pos ⟨rfl, rfl⟩]
  rfl
theorem plainOf_eq {k : Kind} {l : List UInt8} (h : plainOf k = some l) : k = plainK l := by
  obtain ⟨T, tb, cs⟩ := k
  unfold plainOf at h
  split at h
  · rename_i hh
    obtain ⟨h1, h2⟩ := hh
    dsimp only at h1 h2 h
    subst h1 h2
    split at h
    · simp only [Option.some.injEq] at h
      subst h
      rfl
    · cases h
  · cases h
/-- Plain texts gathered, as one. -/
def flushK (ts : List (List UInt8)) : List Kind := if ts.isEmpty then [] else [plainK ts.flatten]
/-- The list with its neighbouring plain texts as one, ts gathered already. -/
def mergeA : List (List UInt8) → List Kind → List Kind
  | ts, [] => flushK ts
  | ts, k :: ks => match plainOf k with
    | some t => mergeA (ts ++ [t]) ks
    | none => flushK ts ++ k :: mergeA [] ks
theorem mergeA_plain (ts : List (List UInt8)) (l : List UInt8) (ks : List Kind) : mergeA ts (plainK l :: ks) = mergeA (ts ++ [l]) ks := by
  rw [mergeA, plainOf_plain]
theorem mergeA_other (ts : List (List UInt8)) (k : Kind) (ks : List Kind) (h : plainOf k = none) : mergeA ts (k :: ks) = flushK ts ++ k :: mergeA [] ks := by
  rw [mergeA, h]
theorem flushK_len (ts : List (List UInt8)) : (flushK ts).length ≤ 1 := by unfold flushK; split <;> simp
theorem mergeA_len (ts : List (List UInt8)) (ks : List Kind) : (mergeA ts ks).length ≤ ks.length + (flushK ts).length := by
  induction ks generalizing ts with
  | nil => simp [mergeA]
  | cons k ks ih =>
    rw [mergeA]
    split
    · rename_i t _
      have h1 := ih (ts ++ [t])
      have h2 := flushK_len (ts ++ [t])
      simp only [List.length_cons]
      omega
    · have h1 := ih []
      have h2 : (flushK []).length = 0 := rfl
      simp only [List.length_append, List.length_cons]
      omega
/-- What a list prints does not turn. -/
theorem mergeA_out (out : Kind → List UInt8) (f : List UInt8 → List UInt8) (hf : ∀ l, out (plainK l) = f l) (hnil : f [] = []) (happ : ∀ a b, f (a ++ b) = f a ++ f b) (ts : List (List UInt8)) (ks : List Kind) :
    (mergeA ts ks).flatMap out = f ts.flatten ++ ks.flatMap out := by
  have hfl : ∀ ts, (flushK ts).flatMap out = f ts.flatten := fun ts => by
    unfold flushK
    split
    · rename_i h
      rw [List.isEmpty_iff] at h
      subst h
      simp [hnil]
    · simp [hf]
  induction ks generalizing ts with
  | nil => rw [mergeA, hfl]; simp
  | cons k ks ih =>
    rw [mergeA]
    split
    · rename_i t ht
      have hk := plainOf_eq ht
      subst hk
      rw [ih, List.flatten_append, happ]
      simp [hf]
    · rw [List.flatMap_append, hfl, List.flatMap_cons, ih, List.flatten_nil, hnil]
      simp
theorem join_empty (xs : List (List UInt8)) : Lib.join xs [] = xs.flatten := by
  cases xs with
  | nil => rfl
  | cons x r => rw [Lib.join_cons]; simp [Lib.joinTail]
end Go.Proofs.YtmmijmhdbpldpaaGreatDoor
/- mergePlain: neighbouring plain texts become one, in place. -/



namespace Go.Proofs.YtmmijmhdbpldpaaGreatDoor
open Go.RowKit
theorem mergePlain1_one (lb o c pb : Nat) (w : World) (hc : w.cell? ⟨lb, o, none⟩ = some (.iface 156 (.pointer (some ⟨pb, 0, none⟩)))) :
    Calls Tryz.prog 122 #[.slice (some ⟨lb, o, none⟩) 1 c] w fun e w' => e = .returned (.pointer (some ⟨pb, 0, none⟩)) ∧ w = w' := by
  go_enter Tryz.func122, Tryz.ntmps122
  go_wp2_with fail
  refine (toPlain_yes _ w).mono ?_
  rintro e w1 ⟨rfl, rfl⟩
  go_wp2_with fail
  go_ret
  exact ⟨rfl, rfl⟩
/-- The texts gathered, as one. -/
theorem mergePlain1_any (B lb o c : Nat) (ts : List (List UInt8)) (w : World) (hB : B ≤ w.heap.size) (hcells : ∀ (j : Nat) t, ts[j]? = some t → ∃ pb, w.cell? ⟨lb, o + j, none⟩ = some (.iface 156 (.pointer (some ⟨pb, 0, none⟩))) ∧ Blk w pb 137 #[.string ⟨t.toArray⟩] ∧ B ≤ pb)
    (h1 : 1 ≤ ts.length) (hn : ts.length ≤ 1000000) (hlen : ts.flatten.length ≤ 1000000) :
    Calls Tryz.prog 122 #[.slice (some ⟨lb, o, none⟩) ts.length c] w fun e w' => ∃ pb, e = .returned (.pointer (some ⟨pb, 0, none⟩)) ∧ IsItem w' B (.iface 156 (.pointer (some ⟨pb, 0, none⟩))) (plainK ts.flatten) ∧ Below w.heap.size w w' := by
  rcases Nat.eq_or_lt_of_le h1 with h | h
  · match ts, h with
    | [t], _ =>
      obtain ⟨pb, h2, h3, h4⟩ := hcells 0 t rfl
      refine (mergePlain1_one lb o c pb w (by simpa using h2)).mono ?_
      rintro e w' ⟨rfl, rfl⟩
      exact ⟨pb, rfl, ⟨pb, rfl, by simpa [plainK, lineV] using h3, h4⟩, Below.refl _ _⟩
  · have hm : (ts.map fun t => (ByteArray.mk t.toArray)).map (·.data.toList) = ts := by
      rw [List.map_map]
      exact (List.map_congr_left (fun t _ => by simp)).trans (List.map_id ts)
    have hl : (ts.map fun t => (ByteArray.mk t.toArray)).length = ts.length := List.length_map ..
    have hj : (Lib.join ((ts.map fun t => (ByteArray.mk t.toArray)).map (·.data.toList)) []).length ≤ 1000000 := by rw [hm, join_empty]; exact hlen
    have hmm := mergePlain1_many lb o c (ts.map fun t => (ByteArray.mk t.toArray)) w (fun j x hx => by
      rw [List.getElem?_map, Option.map_eq_some_iff] at hx
      obtain ⟨t, ht, rfl⟩ := hx
      obtain ⟨pb, h2, h3, _⟩ := hcells j t ht
      exact ⟨pb, h2, h3⟩) (by omega) (by omega) hj
    rw [hl, hm, join_empty] at hmm
    refine hmm.mono ?_
    rintro e w' ⟨pb, rfl, h2, h3, h4⟩
    exact ⟨pb, rfl, ⟨pb, rfl, h2, Nat.le_trans hB h3⟩, h4⟩
/-- append where there is room, the world written out. -/
theorem wpList_append_roomC {P : Program} (w : World) {ops : Array Oper} {rest : List Oper} {o : Oper} {a : Act} {Q : Exit → Act → World → Prop} (hg : o.guard = none) (s x : Operand) (t : TypeId) (hop : o.op = Op.call { callee := Callee.builtin Builtin.append, args := #[s, x], argTypes := #[t, t] })
    (e : TypeId) (i : TypeInfo) (h1 : P.underlying t = some (.slice e)) (h2 : P.info? e = some i) (h4 : i.size = 1) (b k cap : Nat) (cs : Array Value) (hb : Blk w b e cs) (hs : a.eval s = .slice (some ⟨b, 0, none⟩) k cap) (ad : Addr) (c : Nat) (u : Value) (hx : a.eval x = .slice (some ad) 1 c)
    (hc : ∀ j v, ([u] : List Value)[j]? = some v → w.cell? (ad.add j) = some v) (h1c : u.oneCell' = true) (hcs : cs.size = cap) (b1 : k + 1 ≤ cap)
    (hK : wpList P ops Q rest (a.put o.dst (.slice (some ⟨b, 0, none⟩) (k + 1) cap)) (w.setCell ⟨b, k, none⟩ u)) : wpList P ops Q (o :: rest) a w := by
  refine wpList_plain hg fun K hK' => ?_
  have hk : k < cs.size := by omega
  have hcell : w.cell? ⟨b, k, none⟩ = some cs[k] := hb.at_ k (Array.getElem?_eq_getElem hk)
  have hfr : w.frozen? ⟨b, k, none⟩ = false := hb.free k
  have hrun := run_append_room_cells (P := P) w t o.type e i h1 h2 b 0 k cap ad 1 c [u] (by simp [h4]) hc (by intro v hv; simp at hv; subst hv; exact h1c) b1
    (fun j hj => by obtain rfl : j = 0 := by simp at hj; omega
                    rw [h4, show 0 + k * 1 + 0 = k from by omega, hcell]; rfl)
    (fun j hj => by obtain rfl : j = 0 := by simp at hj; omega
                    rw [h4, show 0 + k * 1 + 0 = k from by omega]; exact hfr)
  rw [h4, show 0 + k * 1 = k from by omega] at hrun
  unfold Oper.wp
  simp [execOp, hop, resolve, invoke, builtin, hs, hx, hrun, Result.andThen]
  exact hK' _ _ hK
theorem mergeA_mem (ts : List (List UInt8)) (ks : List Kind) : ∀ k ∈ mergeA ts ks, k ∈ ks ∨ ∃ l, k = plainK l := by
  have hf : ∀ ts, ∀ k ∈ flushK ts, ∃ l, k = plainK l := fun ts k hk => by
    unfold flushK at hk
    split at hk
    · cases hk
    · simp only [List.mem_cons, List.not_mem_nil, or_false] at hk; exact ⟨_, hk⟩
  induction ks generalizing ts with
  | nil => exact fun k hk => .inr (hf ts k hk)
  | cons a ks ih =>
    intro k hk
    rw [mergeA] at hk
    split at hk
    · rcases ih _ k hk with h | h
      · exact .inl (List.mem_cons_of_mem _ h)
      · exact .inr h
    · rcases List.mem_append.1 hk with h | h
      · exact .inr (hf ts k h)
      · rcases List.mem_cons.1 h with h | h
        · exact .inl (h ▸ List.mem_cons_self ..)
        · rcases ih _ k h with h | h
          · exact .inl (List.mem_cons_of_mem _ h)
          · exact .inr h
theorem take_set2 (cs : Array Value) (k : Nat) (a b : Value) (h : k + 1 < cs.size) : ((cs.setIfInBounds k a).setIfInBounds (k + 1) b).toList.take (k + 2) = cs.toList.take k ++ [a] ++ [b] := by
  apply List.ext_getElem?
  intro j
  have hs : (cs.toList.take k).length = k := by simp; omega
  rw [List.getElem?_take]
  simp only [Array.toList_setIfInBounds, List.append_assoc]
  rcases Nat.lt_or_ge j k with h1 | h1
  · rw [if_pos (by omega), List.getElem?_append_left (by omega), List.getElem?_take, if_pos h1, List.getElem?_set_ne (by omega), List.getElem?_set_ne (by omega)]
  · rw [List.getElem?_append_right (by omega), hs]
    rcases Nat.lt_or_ge j (k + 1) with h2 | h2
    · obtain rfl : j = k := by omega
      rw [if_pos (by omega), List.getElem?_set_ne (by omega), List.getElem?_set_self (by simpa using (by omega : j < cs.size))]
      simp
    · rcases Nat.lt_or_ge j (k + 2) with h3 | h3
      · obtain rfl : j = k + 1 := by omega
        rw [if_pos (by omega), List.getElem?_set_self (by simpa using h)]
        simp
      · rw [if_neg (by omega), List.getElem?_eq_none (by simp; omega)]
theorem take_set1 (cs : Array Value) (k : Nat) (a : Value) (h : k < cs.size) : (cs.setIfInBounds k a).toList.take (k + 1) = cs.toList.take k ++ [a] := by
  apply List.ext_getElem?
  intro j
  have hs : (cs.toList.take k).length = k := by simp; omega
  rw [List.getElem?_take]
  simp only [Array.toList_setIfInBounds]
  rcases Nat.lt_or_ge j k with h1 | h1
  · rw [if_pos (by omega), List.getElem?_append_left (by omega), List.getElem?_take, if_pos h1, List.getElem?_set_ne (by omega)]
  · rw [List.getElem?_append_right (by omega), hs]
    rcases Nat.lt_or_ge j (k + 1) with h2 | h2
    · obtain rfl : j = k := by omega
      rw [if_pos (by omega), List.getElem?_set_self (by simpa using h)]
      simp
    · rw [if_neg (by omega), List.getElem?_eq_none (by simp; omega)]
/-- A kind that is a plain text, or none at all. -/
def Kind.Sure (k : Kind) : Prop := k.Ok ∧ (plainOf k = none → ∀ p w, (Instr.typeAssert (.iface k.T (.pointer p)) 132 156 true).run Tryz.prog w = .ok (.tuple #[.pointer none, .bool false]) w)
def MergeR (B lb n c : Nat) (vs : List Value) (ks : List Kind) (w : World) (t5 t6 t7 : Value) (wr : World) : Prop :=
  ∃ (i st : Nat) (oks : List Kind) (ts : List (List UInt8)) (cs : Array Value), i ≤ n ∧ st ≤ i ∧ oks.length ≤ st ∧ t7 = .int .i64 i ∧ t6 = .int .i64 st ∧ t5 = .slice (some ⟨lb, 0, none⟩) oks.length c ∧ Blk wr lb 132 cs ∧ cs.size = c ∧ IsItems wr B (cs.toList.take oks.length) oks ∧
    (∀ j, st ≤ j → j < n → cs[j]? = vs[j]?) ∧ ts.length = i - st ∧ (∀ j t, ts[j]? = some t → ks[st + j]? = some (plainK t)) ∧ mergeA [] ks = oks ++ mergeA ts (ks.drop i) ∧ Mod (fun k => k = lb) w wr ∧ ts.flatten.length + ((ks.drop i).filterMap plainOf).flatten.length ≤ 1000000
set_option maxRecDepth 20000 in
set_option maxHeartbeats 4000000 in
theorem mergePlain_any (B g : Nat) (l : Sl) (vs : List Value) (ks : List Kind) (w : World) (hB : B ≤ w.heap.size) (hrow : w.ownsRow B 132 1 l.v l.n vs) (hits : IsItems w B vs ks) (hok : ∀ k ∈ ks, k.Sure) (hn : l.n ≤ 1000000) (h0 : 0 < l.n) (hL : (ks.filterMap plainOf).flatten.length ≤ 1000000) :
    Calls Tryz.prog 82 #[.pointer (some ⟨g, 0, none⟩), .slice l.a l.n l.c] w fun e w' => ∃ (l' : Sl) (vs' : List Value), e = .returned (.slice l'.a l'.n l'.c) ∧ w'.ownsRow B 132 1 l'.v l'.n vs' ∧ l'.n = (mergeA [] ks).length ∧ IsItems w' B vs' (mergeA [] ks) ∧ Mod (fun k => some k = l.v.ownBlock) w w' := by
  obtain ⟨is0, his0, hsz0, hsz1, hsz2⟩ := info_parts infoInl
  obtain ⟨la, n, c⟩ := l
  dsimp only at hrow hn h0 ⊢
  have hc0 := row_cap hrow h0
  obtain ⟨lb, cs0, rfl, hblk, hBl, hnc, hcs, hcells, hvl⟩ := row_blk hrow h0
  have HBLK := hid hblk
  have HITS := hid hits
  have HOK := hid hok
  have HCELLS := hid hcells
  have HCS := hid hcs
  clear hblk hits hok hcells hcs hrow
  go_enter Tryz.func82, Tryz.ntmps82
  go_wp2_with fail
  go_loopw [5, 6, 7] (fun t5 t6 t7 wr => MergeR B lb n c vs ks w t5 t6 t7 wr) (fun _ _ t7 _ => n + 1 - (intOf t7).toNat)
  case atStart => exact ⟨0, 0, [], [], cs0, Nat.zero_le _, Nat.le_refl _, Nat.le_refl _, rfl, rfl, rfl, HBLK.out, HCS.out, by simpa using IsItems.nil w B, fun j _ hj => HCELLS.out j hj, rfl, fun j t h => by simp at h, by simp, Mod.refl _ _, by simpa using hL⟩
  case round =>
    obtain ⟨i, st, oks, ts, cs, hi, hst, hos, rfl, rfl, rfl, hblk, hcs, hoi, hcl, htl, hts, hmg, hmd, hlb⟩ := hrel
    by_cases hlt : i < n
    · have hv0 : i < vs.length := by omega
      have hk0 : i < ks.length := by rw [← HITS.out.1]; exact hv0
      obtain ⟨bb, hv1, hbb, hBb⟩ := HITS.out.2 i _ _ (List.getElem?_eq_getElem hv0) (List.getElem?_eq_getElem hk0)
      have hsure := HOK.out _ (List.getElem_mem hk0)
      have hdrop : ks.drop i = ks[i] :: ks.drop (i + 1) := List.drop_eq_getElem_cons hk0
      cases hpl : plainOf (ks[i]'hk0) with
      | some t =>
        have hk := plainOf_eq hpl
        rw [hk] at hv1
        have hci : cs[i]? = some (.iface 156 (.pointer (some ⟨bb, 0, none⟩))) := by rw [hcl i hst hlt, List.getElem?_eq_getElem hv0, hv1]
        have hce := hblk.at_ i hci
        have H := hid (show MergeR B lb n c vs ks w (.slice (some ⟨lb, 0, none⟩) oks.length c) (.int .i64 st) (.int .i64 ((i + 1 : Nat) : Int)) wr from ⟨i + 1, st, oks, ts ++ [t], cs, hlt, by omega, hos, rfl, rfl, rfl, hblk, hcs, hoi, hcl, by simp; omega, fun j u hu => by
          rcases Nat.lt_or_ge j ts.length with hj | hj
          · rw [List.getElem?_append_left hj] at hu; exact hts j u hu
          · rw [List.getElem?_append_right hj] at hu
            have : j - ts.length = 0 := by
              rcases Nat.eq_or_lt_of_le (Nat.zero_le (j - ts.length)) with h | h
              · exact h.symm
              · rw [List.getElem?_eq_none (by simp; omega)] at hu; cases hu
            rw [this] at hu
            simp only [List.getElem?_cons_zero, Option.some.injEq] at hu
            subst hu
            rw [show st + j = i from by omega, List.getElem?_eq_getElem hk0, hk], by rw [hmg, hdrop, hk, mergeA_plain], hmd, by rw [hdrop, List.filterMap_cons, hpl] at hlb; simp at hlb ⊢; omega⟩)
        clear hblk hcs hoi hcl htl hts hmg hmd hdrop hsure hbb hlb
        go_wp2_with fail
        refine (toPlain_yes _ wr).mono ?_
        rintro e w1 ⟨rfl, rfl⟩
        go_wp2_with fail
        go_roundw
        case rel => exact H.out
        case measure => simp [intOf]; omega
      | none =>
        have hci : cs[i]? = some (.iface (ks[i]'hk0).T (.pointer (some ⟨bb, 0, none⟩))) := by rw [hcl i hst hlt, List.getElem?_eq_getElem hv0, hv1]
        have hce := hblk.at_ i hci
        have hTP := hid (toPlain_no (ks[i]'hk0) (some ⟨bb, 0, none⟩) wr hsure.1 (hsure.2 hpl))
        have hmg2 : mergeA ts (ks.drop i) = flushK ts ++ ks[i]'hk0 :: mergeA [] (ks.drop (i + 1)) := by rw [hdrop, mergeA_other _ _ _ hpl]
        have HBK := hid hblk
        have HCL := hid hcl
        have HTS := hid hts
        have HOI := hid hoi
        have HMD := hid hmd
        have HMG := hid hmg
        have HMG2 := hid hmg2
        have HTL := hid htl
        have HSU := hid hsure
        have hcz : oks.length < cs.size := by omega
        clear hblk hcl hts hoi hmd hmg hmg2 htl hsure
        by_cases hsi : st < i
        · go_wp2_with fail
          refine hTP.out.mono ?_
          rintro e w1 ⟨rfl, rfl⟩
          go_wp2_with fail
          rw [← HTL.out]
          have hit : ∀ (j : Nat) t, ts[j]? = some t → ∃ pb, wr.cell? ⟨lb, st + j, none⟩ = some (.iface 156 (.pointer (some ⟨pb, 0, none⟩))) ∧ Blk wr pb 137 #[.string ⟨t.toArray⟩] ∧ B ≤ pb := fun j t ht => by
            have hj : j < ts.length := (List.getElem?_eq_some_iff.1 ht).1
            have hj2 : st + j < n := by have := HTL.out; omega
            have hv : st + j < vs.length := by omega
            obtain ⟨pb, q1, q2, q3⟩ := HITS.out.2 (st + j) _ _ (List.getElem?_eq_getElem hv) (HTS.out j t ht)
            refine ⟨pb, ?_, q2.mod HMD.out (fun e => Blk.ne_ q2 HBLK.out (plainK_ok t).row e), q3⟩
            rw [HBK.out.cell, HCL.out (st + j) (by omega) hj2, List.getElem?_eq_getElem hv, q1]
          refine (mergePlain1_any B lb st (c - st) ts wr (Nat.le_trans hB HMD.out.size) hit (by rw [HTL.out]; omega) (by rw [HTL.out]; omega) (by omega)).mono ?_
          rintro e w2 ⟨pb2, rfl, hip, hb2⟩
          have HB2 : Hid (Blk w2 lb 132 cs) := hid (Blk.mod (S := fun _ => False) HBK.out (Mod.below' hb2) (fun x => x))
          have HIP := hid hip
          have HBE2 := hid hb2
          clear hip hb2 hit
          go_wp2_with (first
            | (at_builtin; refine wpList_append_roomC _ rfl (.tmp 27) (.tmp 34) 88 (by rfl) 132 is0 Tryz.underlying88 his0 hsz1 lb oks.length c cs (Blk.alloc HB2.out _) (by rfl) ⟨w2.heap.size, 0, none⟩ 1 (.iface 156 (.pointer (some ⟨pb2, 0, none⟩))) (by rfl) (World.news_of_block (heap_alloc_new _ _)) rfl hcs (by omega) ?_; have hX := hid (Blk.set_ (Blk.alloc HB2.out (.cells #[.iface 156 (.pointer (some ⟨pb2, 0, none⟩))] 132)) oks.length (.iface 156 (.pointer (some ⟨pb2, 0, none⟩)))); have hMX : Hid (Mod (fun k => k = lb) w2 _) := hid ((((Mod.refl (fun k => k = lb) w2).alloc (.cells #[.iface 156 (.pointer (some ⟨pb2, 0, none⟩))] 132))).setCell (p := ⟨lb, oks.length, none⟩) (.inl rfl) (.iface 156 (.pointer (some ⟨pb2, 0, none⟩)))); generalize World.setCell _ ⟨lb, oks.length, none⟩ _ = X at hX hMX ⊢; have hce2 : X.cell? ⟨lb, i, none⟩ = some (.iface (ks[i]'hk0).T (.pointer (some ⟨bb, 0, none⟩))) := hX.out.at_ i (by rw [Array.getElem?_setIfInBounds_ne (by omega)]; exact hci))
            | (at_builtin; refine wpList_append_roomC _ rfl (.tmp 40) (.tmp 45) 88 (by rfl) 132 is0 Tryz.underlying88 his0 hsz1 lb (oks.length + 1) c _ (Blk.alloc hX.out _) (by rfl) ⟨X.heap.size, 0, none⟩ 1 (.iface (ks[i]'hk0).T (.pointer (some ⟨bb, 0, none⟩))) (by rfl) (World.news_of_block (heap_alloc_new _ _)) rfl (by simpa using hcs) (by omega) ?_))
          have hMF : Mod (fun k => k = lb) w2 _ := hMX.out.trans (((Mod.refl (fun k => k = lb) X).alloc (.cells #[.iface (ks[i]'hk0).T (.pointer (some ⟨bb, 0, none⟩))] 132)).setCell (p := ⟨lb, oks.length + 1, none⟩) (.inl rfl) (.iface (ks[i]'hk0).T (.pointer (some ⟨bb, 0, none⟩)))) (fun _ _ h => h)
          have hBF := Blk.set_ (Blk.alloc hX.out (.cells #[.iface (ks[i]'hk0).T (.pointer (some ⟨bb, 0, none⟩))] 132)) (oks.length + 1) (.iface (ks[i]'hk0).T (.pointer (some ⟨bb, 0, none⟩)))
          have hMT : Mod (fun k => k = lb) wr _ := (Mod.below' HBE2.out).trans hMF (fun _ _ h => h)
          generalize World.setCell _ ⟨lb, oks.length + 1, none⟩ _ = F at hMF hBF hMT ⊢
          have hokk : ∀ k ∈ oks, k.tb ≠ 132 := fun k hk => by
            have : k ∈ mergeA [] ks := by rw [HMG.out]; exact List.mem_append_left _ hk
            rcases mergeA_mem _ _ k this with h | ⟨l, rfl⟩
            · exact (HOK.out k h).1.row
            · exact (plainK_ok l).row
          have hfk : flushK ts = [plainK ts.flatten] := by
            have := HTL.out
            unfold flushK
            rw [if_neg]
            intro h
            rw [List.isEmpty_iff] at h
            subst h
            simp at this
            omega
          have it1 := HIP.out.mod hMF (fun b cs' hb _ e => by subst e; exact Blk.ne_ hb HB2.out (plainK_ok _).row rfl)
          have it2 : IsItem F B (.iface (ks[i]'hk0).T (.pointer (some ⟨bb, 0, none⟩))) (ks[i]'hk0) := ⟨bb, rfl, hbb.mod (HMD.out.trans hMT (fun _ _ h => h)) (fun e => by subst e; exact Blk.ne_ hbb HBLK.out HSU.out.1.row rfl), hBb⟩
          have its := ((HOI.out.mod hMT (fun k hk b cs' hb _ e => by subst e; exact Blk.ne_ hb HBK.out (hokk k hk) rfl)).snoc it1).snoc it2
          refine ⟨⟨i + 1, i + 1, oks ++ [plainK ts.flatten] ++ [ks[i]'hk0], [], _, hlt, Nat.le_refl _, ?_, rfl, rfl, ?_, hBF, ?_, ?_, ?_, ?_, ?_, ?_, HMD.out.trans hMT (fun _ _ h => h), ?_⟩, ?_⟩
          · simp only [List.length_append, List.length_cons, List.length_nil]; omega
          · simp only [List.length_append, List.length_cons, List.length_nil]
          · simpa using hcs
          · simp only [List.length_append, List.length_cons, List.length_nil]
            rw [show oks.length + (0 + 1) + (0 + 1) = oks.length + 2 from by omega, take_set2 cs oks.length _ _ (by omega)]
            exact its
          · intro j hj1 hj2
            rw [Array.getElem?_setIfInBounds_ne (by omega), Array.getElem?_setIfInBounds_ne (by omega)]
            exact HCL.out j (by omega) hj2
          · simp
          · intro j t h; simp at h
          · rw [HMG.out, HMG2.out, hfk]; simp
          · rw [hdrop, List.filterMap_cons, hpl] at hlb
            simp at hlb ⊢
            omega
          · simp [intOf]; omega
        · have hts0 : ts = [] := List.eq_nil_of_length_eq_zero (by have := HTL.out; omega)
          subst hts0
          obtain rfl : st = i := by omega
          go_wp2_with fail
          refine hTP.out.mono ?_
          rintro e w1 ⟨rfl, rfl⟩
          go_wp2_with (at_builtin; refine wpList_append_roomC _ rfl (.tmp 40) (.tmp 45) 88 (by rfl) 132 is0 Tryz.underlying88 his0 hsz1 lb oks.length c cs (Blk.alloc HBK.out _) (by rfl) ⟨wr.heap.size, 0, none⟩ 1 (.iface (ks[st]'hk0).T (.pointer (some ⟨bb, 0, none⟩))) (by rfl) (World.news_of_block (heap_alloc_new _ _)) rfl hcs (by omega) ?_)
          have hMT : Mod (fun k => k = lb) wr _ := ((Mod.refl (fun k => k = lb) wr).alloc (.cells #[.iface (ks[st]'hk0).T (.pointer (some ⟨bb, 0, none⟩))] 132)).setCell (p := ⟨lb, oks.length, none⟩) (.inl rfl) (.iface (ks[st]'hk0).T (.pointer (some ⟨bb, 0, none⟩)))
          have hBF := Blk.set_ (Blk.alloc HBK.out (.cells #[.iface (ks[st]'hk0).T (.pointer (some ⟨bb, 0, none⟩))] 132)) oks.length (.iface (ks[st]'hk0).T (.pointer (some ⟨bb, 0, none⟩)))
          generalize World.setCell _ ⟨lb, oks.length, none⟩ _ = F at hBF hMT ⊢
          have hokk : ∀ k ∈ oks, k.tb ≠ 132 := fun k hk => by
            have : k ∈ mergeA [] ks := by rw [HMG.out]; exact List.mem_append_left _ hk
            rcases mergeA_mem _ _ k this with h | ⟨l, rfl⟩
            · exact (HOK.out k h).1.row
            · exact (plainK_ok l).row
          have it2 : IsItem F B (.iface (ks[st]'hk0).T (.pointer (some ⟨bb, 0, none⟩))) (ks[st]'hk0) := ⟨bb, rfl, hbb.mod (HMD.out.trans hMT (fun _ _ h => h)) (fun e => by subst e; exact Blk.ne_ hbb HBLK.out HSU.out.1.row rfl), hBb⟩
          have its := (HOI.out.mod hMT (fun k hk b cs' hb _ e => by subst e; exact Blk.ne_ hb HBK.out (hokk k hk) rfl)).snoc it2
          refine ⟨⟨st + 1, st + 1, oks ++ [ks[st]'hk0], [], _, hlt, Nat.le_refl _, ?_, rfl, rfl, ?_, hBF, ?_, ?_, ?_, ?_, ?_, ?_, HMD.out.trans hMT (fun _ _ h => h), ?_⟩, ?_⟩
          · simp only [List.length_append, List.length_cons, List.length_nil]; omega
          · simp only [List.length_append, List.length_cons, List.length_nil]
          · simpa using hcs
          · simp only [List.length_append, List.length_cons, List.length_nil]
            rw [show oks.length + (0 + 1) = oks.length + 1 from by omega, take_set1 cs oks.length _ (by omega)]
            exact its
          · intro j hj1 hj2
            rw [Array.getElem?_setIfInBounds_ne (by omega)]
            exact HCL.out j (by omega) hj2
          · simp
          · intro j t h; simp at h
          · rw [HMG.out, HMG2.out]; simp [flushK]
          · rw [hdrop, List.filterMap_cons, hpl] at hlb
            simp at hlb ⊢
            omega
          · simp [intOf]; omega
    · obtain rfl : i = n := by omega
      have hkn : ks.length = i := by rw [← HITS.out.1]; exact hvl
      have hdr : ks.drop i = [] := List.drop_eq_nil_of_le (by omega)
      rw [hdr, mergeA] at hmg
      have hokk : ∀ k ∈ oks, k.tb ≠ 132 := fun k hk => by
        have : k ∈ mergeA [] ks := by rw [hmg]; exact List.mem_append_left _ hk
        rcases mergeA_mem _ _ k this with h | ⟨l, rfl⟩
        · exact (HOK.out k h).1.row
        · exact (plainK_ok l).row
      by_cases hsi : st < i
      · have hit : ∀ (j : Nat) t, ts[j]? = some t → ∃ pb, wr.cell? ⟨lb, st + j, none⟩ = some (.iface 156 (.pointer (some ⟨pb, 0, none⟩))) ∧ Blk wr pb 137 #[.string ⟨t.toArray⟩] ∧ B ≤ pb := fun j t ht => by
          have hj : j < ts.length := (List.getElem?_eq_some_iff.1 ht).1
          have hj2 : st + j < i := by omega
          have hv : st + j < vs.length := by omega
          obtain ⟨pb, q1, q2, q3⟩ := HITS.out.2 (st + j) _ _ (List.getElem?_eq_getElem hv) (hts j t ht)
          refine ⟨pb, ?_, q2.mod hmd (fun e => Blk.ne_ q2 HBLK.out (plainK_ok t).row e), q3⟩
          rw [hblk.cell, hcl (st + j) (by omega) hj2, List.getElem?_eq_getElem hv, q1]
        have hfk : flushK ts = [plainK ts.flatten] := by
          unfold flushK
          rw [if_neg]
          intro h
          rw [List.isEmpty_iff] at h
          subst h
          simp at htl
          omega
        have hM1 := hid (mergePlain1_any B lb st (c - st) ts wr (Nat.le_trans hB hmd.size) hit (by omega) (by omega) (by omega))
        rw [htl] at hM1
        have HBK := hid hblk
        have HOI := hid hoi
        have HMD := hid hmd
        have HMG := hid hmg
        have HOKK := hid hokk
        clear hblk hoi hmd hmg hcl hts hit hokk htl
        go_wp2_with fail
        refine hM1.out.mono ?_
        rintro e w2 ⟨pb2, rfl, hip, hb2⟩
        have HB2 : Hid (Blk w2 lb 132 cs) := hid (Blk.mod (S := fun _ => False) HBK.out (Mod.below' hb2) (fun x => x))
        have HIP := hid hip
        have HBE2 := hid hb2
        clear hip hb2
        go_wp2_with (at_builtin; refine wpList_append_roomC _ rfl (.tmp 27) (.tmp 34) 88 (by rfl) 132 is0 Tryz.underlying88 his0 hsz1 lb oks.length c cs (Blk.alloc HB2.out _) (by rfl) ⟨w2.heap.size, 0, none⟩ 1 (.iface 156 (.pointer (some ⟨pb2, 0, none⟩))) (by rfl) (World.news_of_block (heap_alloc_new _ _)) rfl hcs (by omega) ?_)
        have hX := Blk.set_ (Blk.alloc HB2.out (.cells #[.iface 156 (.pointer (some ⟨pb2, 0, none⟩))] 132)) oks.length (.iface 156 (.pointer (some ⟨pb2, 0, none⟩)))
        have hMX : Mod (fun k => k = lb) w2 _ := (((Mod.refl (fun k => k = lb) w2).alloc (.cells #[.iface 156 (.pointer (some ⟨pb2, 0, none⟩))] 132))).setCell (p := ⟨lb, oks.length, none⟩) (.inl rfl) (.iface 156 (.pointer (some ⟨pb2, 0, none⟩)))
        generalize World.setCell _ ⟨lb, oks.length, none⟩ _ = X at hX hMX ⊢
        have hMT : Mod (fun k => k = lb) wr X := (Mod.below' HBE2.out).trans hMX (fun _ _ h => h)
        have it1 := HIP.out.mod hMX (fun b cs' hb _ e => by subst e; exact Blk.ne_ hb HB2.out (plainK_ok _).row rfl)
        have its := (HOI.out.mod hMT (fun k hk b cs' hb _ e => by subst e; exact Blk.ne_ hb HBK.out (HOKK.out k hk) rfl)).snoc it1
        rw [← take_set1 cs oks.length _ (by omega)] at its
        go_ret
        refine ⟨⟨some ⟨lb, 0, none⟩, oks.length + 1, c⟩, (cs.setIfInBounds oks.length (.iface 156 (.pointer (some ⟨pb2, 0, none⟩)))).toList.take (oks.length + 1), rfl, ⟨?_, .inr ⟨lb, c, _, rfl, hBl, hX, by dsimp only; omega, hc0, ?_, by rw [Nat.mul_one]⟩⟩, ?_, ?_, ?_⟩
        · simp only [List.length_take, Array.length_toList, Array.size_setIfInBounds]; omega
        · simp only [Array.size_setIfInBounds]; omega
        · rw [HMG.out, hfk]; simp
        · rw [HMG.out, hfk]; exact its
        · exact (HMD.out.trans hMT (fun _ _ h => h)).mono (fun k _ h => by subst h; rfl)
      · have hts0 : ts = [] := List.eq_nil_of_length_eq_zero (by omega)
        subst hts0
        obtain rfl : st = i := by omega
        have HBK := hid hblk
        have HOI := hid hoi
        have HMD := hid hmd
        have HMG := hid hmg
        clear hblk hoi hmd hmg hcl hts hokk
        go_wp2_with fail
        go_ret
        refine ⟨⟨some ⟨lb, 0, none⟩, oks.length, c⟩, cs.toList.take oks.length, rfl, ⟨?_, .inr ⟨lb, c, cs, rfl, hBl, HBK.out, by dsimp only; omega, hc0, by omega, by rw [Nat.mul_one]⟩⟩, ?_, ?_, ?_⟩
        · simp only [List.length_take, Array.length_toList]; omega
        · rw [HMG.out]; simp [flushK]
        · rw [HMG.out]; simpa [flushK] using HOI.out
        · exact HMD.out.mono (fun k _ h => by subst h; rfl)
end Go.Proofs.YtmmijmhdbpldpaaGreatDoor
/- HTML of inline texts: of a text's list, of a paragraph, of plain texts. -/




namespace Go.Proofs.YtmmijmhdbpldpaaGreatDoor
open Go.RowKit
set_option maxRecDepth 20000 in
set_option maxHeartbeats 1600000 in
theorem textHTML_any (B b d base : Nat) (bs : List UInt8) (sl el : Int) (raw : Value) (inner : Sl) (ys : List Value) (outs : List (List UInt8)) (w : World)
    (hblk : Blk w d 110 #[.int .i64 sl, .int .i64 el, inner.v, raw]) (hrow : w.ownsRow base 132 1 inner.v inner.n ys) (hn : inner.n ≤ 1000000)
    (hbuf : IsBuf B b bs w) (hB : B ≤ w.heap.size) (hlo : outs.length = ys.length) (hp : ∀ (i : Nat) y o, ys[i]? = some y → outs[i]? = some o → Prints w b (bs ++ (outs.take i).flatten) y o) (hl : bs.length + outs.flatten.length ≤ 1000000) :
    Calls Tryz.prog 241 #[.pointer (some ⟨d, 0, none⟩), .pointer (some ⟨b, 0, none⟩)] w (PrintP B b bs outs.flatten w) := by
  have c2 : w.cell? ⟨d, 2, none⟩ = some (.slice inner.a inner.n inner.c) := by rw [hblk.cell]; rfl
  have hlen : ys.length = inner.n := by have := hrow.1; omega
  have hcells : ∀ i y, ys[i]? = some y → ∃ ib, inner.a = some ⟨ib, 0, none⟩ ∧ ∀ wr, Kept b w wr → wr.cell? ⟨ib, i, none⟩ = some y := by
    intro i y hy
    have hi : i < ys.length := (List.getElem?_eq_some_iff.1 hy).1
    rcases hrow.2 with ⟨_, h0⟩ | ⟨ib, cap, cur, h1, h2, hh, h3, h4, h5, h6⟩
    · omega
    · simp only [Sl.v, Value.slice.injEq] at h1
      refine ⟨ib, h1.1, fun wr hk => ?_⟩
      obtain ⟨cs, hcs⟩ := hbuf.blk
      have hne : ib ≠ b := Blk.ne_ (t := 132) hh hcs (by decide)
      have hbk : Blk wr ib 132 cur := Blk.kept hh hk hne (by decide)
      rw [hbk.cell i]
      have e1 : cur.toList[i]? = some y := by
        have : (cur.toList.take ys.length)[i]? = some y := by
          have e2 : cur.toList.take (ys.length) = ys := by rw [hlen]; simpa using h6
          rw [e2]; exact hy
        rw [List.getElem?_take] at this
        rw [if_pos hi] at this
        exact this
      simpa using e1
  have HC := hid hcells
  have HP := hid hp
  have HBUF := hid hbuf
  have HLO := hid hlo
  have HLEN := hid hlen
  clear hcells hp hbuf hlo hlen hrow hblk
  obtain ⟨ia, n, c⟩ := inner
  dsimp only at c2 hn HC HLEN
  by_cases hn0 : n = 0
  · subst hn0
    have ho : outs = [] := List.eq_nil_of_length_eq_zero (by rw [HLO.out, HLEN.out])
    subst ho
    go_enter Tryz.func241, Tryz.ntmps241
    go_wp2
    go_rounds 1
    go_end0
    exact ⟨rfl, by simpa using HBUF.out, Below.refl _ _, Lib.OthersKept.refl _ _ _⟩
  obtain ⟨ib, hia, _⟩ := HC.out 0 _ (List.getElem?_eq_getElem (by rw [HLEN.out]; omega))
  subst hia
  have HC2 : Hid (∀ i y, ys[i]? = some y → ∀ wr, Kept b w wr → wr.cell? ⟨ib, i, none⟩ = some y) := hid (fun i y hy => by
    obtain ⟨ib', h1, h2⟩ := HC.out i y hy
    cases h1
    exact h2)
  clear HC
  go_enter Tryz.func241, Tryz.ntmps241
  go_wp2_with fail
  go_loopw [11] (fun t wr => DocR B b n bs outs w t wr) (fun t _ => n - (intOf t).toNat)
  case atStart => exact ⟨0, Nat.zero_le _, rfl, by simpa using HBUF.out, Below.refl _ _, Lib.OthersKept.refl _ _ _⟩
  case round =>
    obtain ⟨i, hi, rfl, hbf, hbel, hk⟩ := hrel
    by_cases hlt : i < n
    · have hy : i < ys.length := by rw [HLEN.out]; exact hlt
      have ho : i < outs.length := by rw [HLO.out]; exact hy
      have hc := HC2.out i _ (List.getElem?_eq_getElem hy)
      obtain ⟨u, x, f, v, hyv, hm, he, hcall⟩ := HP.out i _ _ (List.getElem?_eq_getElem hy) (List.getElem?_eq_getElem ho)
      have hc' := hc wr hk
      rw [hyv] at hc'
      have htl := take_len outs i
      have htl1 := take_len outs (i + 1)
      have htf := take_flat outs i _ (List.getElem?_eq_getElem ho)
      rw [htf, List.length_append] at htl1
      have HCALL := hid (hcall B wr hk hbf (Nat.le_trans hB hbel.size) (by rw [List.length_append]; omega))
      have HTF := hid htf
      have HK := hid hk
      have HBL := hid hbel
      clear hk hbf hbel hc hyv hcall htf htl htl1
      go_wp2_with fail
      refine HCALL.out.mono ?_
      rintro e w1 ⟨rfl, hb1, hbl1, hk1⟩
      have HB1 := hid hb1
      have HBL1 := hid hbl1
      have HK1 := hid hk1
      clear hb1 hbl1 hk1
      go_wp2_with fail
      go_roundw
      case rel => exact ⟨i + 1, by omega, by go_num, by rw [HTF.out, ← List.append_assoc]; exact HB1.out, HBL.out.trans HBL1.out, Lib.OthersKept.trans HK.out HK1.out⟩
      case measure => simp [intOf]; omega
    · obtain rfl : i = n := by omega
      have ht : outs.take i = outs := List.take_of_length_le (by rw [HLO.out, HLEN.out]; exact Nat.le_refl _)
      rw [ht] at hbf
      have HBF := hid hbf
      have HBL := hid hbel
      have HK := hid hk
      clear hbf hbel hk ht
      go_wp2_with fail
      go_end0
      exact ⟨rfl, HBF.out, HBL.out, HK.out⟩
/-- A plain text, printed (its block may hold more behind the text). -/
theorem plainHTML_gen {ty : TypeId} {cs : Array Value} (B b pb : Nat) (bs : List UInt8) (s : ByteArray) (w : World) (hblk : Blk w pb ty cs) (h0 : cs[0]? = some (.string s)) (hbuf : IsBuf B b bs w) (hB : B ≤ w.heap.size) (hs : s.size ≤ 100000) (hl : bs.length ≤ 1000000) :
    Calls Tryz.prog 254 #[.pointer (some ⟨pb, 0, none⟩), .pointer (some ⟨b, 0, none⟩)] w (PrintP B b bs (esc s.data.toList) w) := by
  have c0 := hblk.at_ 0 h0
  have HBLK := hid hblk
  have HBUF := hid hbuf
  have H0 := hid h0
  have hg := hblk.lt
  clear hblk hbuf h0
  go_enter Tryz.func254, Tryz.ntmps254
  go_region_law (first
    | (go_simp; go_at_call 257; refine (htmlEscaper_any _).mono ?_; rintro e w4 ⟨n4, rfl, hn4, hp4, hb4⟩; have c0' := Blk.at_ (Blk.mod (w := World.drew w) (S := fun _ => False) HBLK.out (Mod.below' hb4) (fun x => x)) 0 H0.out)
    | (go_simp; go_at_call 258; refine (pairs_write B b n4 bs s _ hp4 (IsBuf.old (w := World.drew w) HBUF.out hb4) (Nat.le_trans hB hb4.size) hs hl).mono ?_; rintro e w5 ⟨rfl, hi5, hb5, hk5⟩))
  all_goals go_wp2
  all_goals go_end0
  all_goals exact ⟨rfl, hi5, ((below_drewN (Below.refl B w) 1).trans (hb4.mono hB)).trans hb5, (show Kept b (World.drew w) w5 from Lib.OthersKept.trans (Lib.OthersKept.below (Lib.OthersKept.refl _ _ (World.drew w)) hb4) hk5)⟩
theorem plainHTML_any {ty : TypeId} (B b pb : Nat) (bs : List UInt8) (s : ByteArray) (w : World) (hblk : Blk w pb ty #[.string s]) (hbuf : IsBuf B b bs w) (hB : B ≤ w.heap.size) (hs : s.size ≤ 100000) (hl : bs.length ≤ 1000000) :
    Calls Tryz.prog 254 #[.pointer (some ⟨pb, 0, none⟩), .pointer (some ⟨b, 0, none⟩)] w (PrintP B b bs (esc s.data.toList) w) := plainHTML_gen B b pb bs s w hblk rfl hbuf hB hs hl
/-- What an inline text prints, wherever it lies. -/
def KPrints (k : Kind) (out : List UInt8) : Prop := ∀ (w : World) (B0 b : Nat) (bs : List UInt8) (v : Value), IsItem w B0 v k → w.heap.size ≤ b → Prints w b bs v out
theorem plain_kprints (l : List UInt8) (hl : l.length ≤ 100000) : KPrints (plainK l) (esc l) := by
  rintro w B0 b bs v ⟨pb, rfl, hblk, _⟩ hb
  refine ⟨_, _, 254, .pointer (some ⟨pb, 0, none⟩), rfl, fun W => by kernel_rfl, Go.Proofs.enters_of Tryz.func254 (by kernel_rfl) rfl, fun B W hk hbf hB hlen => ?_⟩
  have hblk' : Blk W pb 137 #[.string ⟨l.toArray⟩] := hblk.kept hk (by have := hblk.lt; omega) (by decide : (137 : Nat) ≠ 5)
  exact plainHTML_any B b pb bs ⟨l.toArray⟩ W hblk' hbf hB (by show l.toArray.size ≤ 100000; rw [List.size_toArray]; exact hl) (by omega)
end Go.Proofs.YtmmijmhdbpldpaaGreatDoor
/- An item of a list of inline texts, by what it prints; what reading an inline text leaves. -/



namespace Go.Proofs.YtmmijmhdbpldpaaGreatDoor
open Go.RowKit
/-- The value prints out, as long as some blocks stay as they stand, none of which is of a type that parsing still turns. -/
def ItemS (B : Nat) (w : World) (v : Value) (out : List UInt8) : Prop :=
  ∃ T : Nat → Prop, (∀ k, T k → B ≤ k ∧ ∃ ty cs, Blk w k ty cs ∧ ty ≠ 95 ∧ ty ≠ 110) ∧ ∀ (w' : World) (S : Nat → Prop), Mod S w w' → (∀ k, T k → ¬ S k) → ∀ b bs, w'.heap.size ≤ b → Prints w' b bs v out
theorem ItemS.prints {B : Nat} {w : World} {v : Value} {out : List UInt8} (h : ItemS B w v out) (b : Nat) (bs : List UInt8) (hb : w.heap.size ≤ b) : Prints w b bs v out := by
  obtain ⟨T, _, h2⟩ := h
  exact h2 w (fun _ => False) (Mod.refl _ w) (fun _ _ x => x) b bs hb
theorem ItemS.mod {B : Nat} {w w' : World} {v : Value} {out : List UInt8} {S : Nat → Prop} (h : ItemS B w v out) (hm : Mod S w w') (hn : ∀ k ty cs, Blk w k ty cs → B ≤ k → ty ≠ 95 → ty ≠ 110 → ¬ S k) : ItemS B w' v out := by
  obtain ⟨T, h1, h2⟩ := h
  have hT : ∀ k, T k → ¬ S k := fun k hk => by
    obtain ⟨hB, ty, cs, hb, q1, q2⟩ := h1 k hk
    exact hn k ty cs hb hB q1 q2
  refine ⟨T, fun k hk => ?_, fun w2 S2 hm2 hn2 b bs hb => h2 w2 (fun k => S k ∨ S2 k) ((hm.mono (fun _ _ h => .inl h)).trans hm2 (fun _ _ h => .inr h)) (fun k hk e => ?_) b bs hb⟩
  · obtain ⟨hB, ty, cs, hb, q1, q2⟩ := h1 k hk
    exact ⟨hB, ty, cs, hb.mod hm (hT k hk), q1, q2⟩
  · rcases e with e | e
    · exact hT k hk e
    · exact hn2 k hk e
theorem ItemS.base {B B2 : Nat} {w : World} {v : Value} {out : List UInt8} (h : ItemS B w v out) (hb : B2 ≤ B) : ItemS B2 w v out := by
  obtain ⟨T, h1, h2⟩ := h
  exact ⟨T, fun k hk => ⟨Nat.le_trans hb (h1 k hk).1, (h1 k hk).2⟩, h2⟩
theorem ItemS.of {B : Nat} {w : World} {v : Value} {k : Kind} {out : List UInt8} (h : IsItem w B v k) (hk : k.Ok) (hp : KPrints k out) : ItemS B w v out := by
  obtain ⟨b, rfl, hblk, hB⟩ := h
  refine ⟨fun k => k = b, fun j e => ?_, fun w' S hm hn b' bs hb' => hp w' B b' bs _ ⟨b, rfl, hblk.mod hm (hn b rfl), hB⟩ hb'⟩
  subst e
  exact ⟨hB, _, _, hblk, hk.ps, hk.text⟩
/-- A list of items, by what each prints. -/
def ItemsS (B : Nat) (w : World) (vs : List Value) (outs : List (List UInt8)) : Prop := outs.length = vs.length ∧ ∀ (i : Nat) v x, vs[i]? = some v → outs[i]? = some x → ItemS B w v x
theorem ItemsS.mod {B : Nat} {w w' : World} {vs : List Value} {outs : List (List UInt8)} {S : Nat → Prop} (h : ItemsS B w vs outs) (hm : Mod S w w') (hn : ∀ k ty cs, Blk w k ty cs → B ≤ k → ty ≠ 95 → ty ≠ 110 → ¬ S k) : ItemsS B w' vs outs :=
  ⟨h.1, fun i v x hv hx => (h.2 i v x hv hx).mod hm hn⟩
theorem ItemsS.base {B B2 : Nat} {w : World} {vs : List Value} {outs : List (List UInt8)} (h : ItemsS B w vs outs) (hb : B2 ≤ B) : ItemsS B2 w vs outs :=
  ⟨h.1, fun i v x hv hx => (h.2 i v x hv hx).base hb⟩
theorem ItemsS.of {B : Nat} {w : World} {vs : List Value} {ks : List Kind} (outK : Kind → List UInt8) (h : IsItems w B vs ks) (hk : ∀ k ∈ ks, k.Ok ∧ KPrints k (outK k)) : ItemsS B w vs (ks.map outK) := by
  refine ⟨by rw [List.length_map, h.1], fun i v x hv hx => ?_⟩
  rw [List.getElem?_map] at hx
  cases hki : ks[i]? with
  | none => rw [hki] at hx; cases hx
  | some k =>
    rw [hki] at hx
    simp only [Option.map_some, Option.some.injEq] at hx
    subst hx
    obtain ⟨h1, h2⟩ := hk k (List.mem_of_getElem? hki)
    exact ItemS.of (h.2 i v k hv hki) h1 h2
/-- What reading an inline text leaves: a list, of which each part prints. -/
def InlPost (g : Nat) (r : PSr) (out : List UInt8) (w : World) (e : Ending) (w' : World) : Prop :=
  ∃ (l : Sl) (vs : List Value) (outs : List (List UInt8)) (c : Bool) (em : Int) (s : ByteArray) (bk : List Value), e = .returned (.slice l.a l.n l.c) ∧ IsPS w' g { r with corner := c, s := s, emitted := em, list := l, back := bk } ∧
    w'.ownsRow w.heap.size 132 1 l.v l.n vs ∧ l.n ≤ 1000000 ∧ ItemsS w.heap.size w' vs outs ∧ outs.flatten = out ∧ Mod (fun k => k = g) w w'
/-- A text's inline texts, whatever the state: what they print. -/
def InlC (o : Opt) (s out : List UInt8) : Prop :=
  ∀ (g : Nat) (r : PSr) (w : World), IsPS w g r → Blk w r.parser 77 o.parser → r.parser ≠ g → r.back.length = 81 → Calls Tryz.prog 56 #[.pointer (some ⟨g, 0, none⟩), .string ⟨s.toArray⟩] w (InlPost g r out w)
/-- As InlC, where no definitions are known. -/
def InlC0 (o : Opt) (s out : List UInt8) : Prop :=
  ∀ (g : Nat) (r : PSr) (w : World), IsPS w g r → Blk w r.parser 77 o.parser → r.parser ≠ g → r.back.length = 81 → r.links = none → Calls Tryz.prog 56 #[.pointer (some ⟨g, 0, none⟩), .string ⟨s.toArray⟩] w (InlPost g r out w)
theorem InlC.to0 {o : Opt} {s out : List UInt8} (h : InlC o s out) : InlC0 o s out := fun g r w a b c d _ => h g r w a b c d
/-- What autoLinkText makes of a list. -/
def AutP (o : Opt) (B g : Nat) (r : PSr) (out : List UInt8) (ks : List Kind) : Prop :=
  ∀ (rr : PSr) (l : Sl) (vs : List Value) (W : World), rr.parser = r.parser → B ≤ W.heap.size → IsPS W g rr → Blk W r.parser 77 o.parser → W.ownsRow B 132 1 l.v l.n vs → l.n = ks.length → IsItems W B vs ks → l.n ≤ 1000000 →
    Calls Tryz.prog 83 #[.pointer (some ⟨g, 0, none⟩), .slice l.a l.n l.c] W fun e w' => ∃ (l' : Sl) (vs' : List Value) (outs : List (List UInt8)), e = .returned (.slice l'.a l'.n l'.c) ∧ w'.ownsRow B 132 1 l'.v l'.n vs' ∧ l'.n ≤ 1000000 ∧ ItemsS B w' vs' outs ∧ outs.flatten = out ∧ Below W.heap.size W w'
set_option maxRecDepth 20000 in
set_option maxHeartbeats 1600000 in
theorem autoText_no (g : Nat) (r : PSr) (o : Opt) (l : Sl) (w : World) (hps : IsPS w g r) (hpar : Blk w r.parser 77 o.parser) (ha : o.auto_ = false) :
    Calls Tryz.prog 83 #[.pointer (some ⟨g, 0, none⟩), .slice l.a l.n l.c] w fun e w' => e = .returned (.slice l.a l.n l.c) ∧ w = w' := by
  have c0 := hps.c0
  have p3 : w.cell? ⟨r.parser, 3, none⟩ = some (.bool o.auto_) := hpar.at_ 3 rfl
  rw [ha] at p3
  go_enter Tryz.func83, Tryz.ntmps83
  go_wp2_with fail
  go_ret
  exact ⟨rfl, rfl⟩
/-- Without the option the list stays as it is. -/
theorem autP_no (o : Opt) (B g : Nat) (r : PSr) (ks : List Kind) (outK : Kind → List UInt8) (ha : o.auto_ = false) (hk : ∀ k ∈ ks, k.Ok ∧ KPrints k (outK k)) : AutP o B g r (ks.flatMap outK) ks := by
  intro rr l vs W hrp hB hps hpar hrow hln hits hn
  refine (autoText_no g rr o l W hps (by rw [hrp]; exact hpar) ha).mono ?_
  rintro e w' ⟨rfl, rfl⟩
  exact ⟨l, vs, ks.map outK, rfl, hrow, hn, ItemsS.of outK hits hk, by rw [List.flatMap_def], Below.refl _ _⟩
end Go.Proofs.YtmmijmhdbpldpaaGreatDoor
