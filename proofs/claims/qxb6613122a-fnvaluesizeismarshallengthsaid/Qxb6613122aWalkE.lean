/-
  THE WALKS: zzEncItem.
-/
import Derived.Test.Qxb6613122aWalkC
import Derived.Test.Qxb6613122aWalkD
import Derived.Laws.AppendOwnNone
namespace Go.Proofs.Qxb6613122a
open Go.RowKit
set_option linter.unusedSimpArgs false
set_option linter.unusedVariables false

/-- A result of bytes in new memory. -/
structure NewBytes (w w' : World) (v : Value) (bs : List Int) : Prop where
  own : Bytes w' v bs
  nw : ∀ k, v.ownBlock = some k → w.heap.size ≤ k
  bel : Below w.heap.size w w'

theorem NewBytes.of {w w' : World} {v : Value} {bs : List Int} {o : Obj} (h : Bytes w' v bs) (hA : App (w.alloc o) (.slice none 0 0) w' v) : NewBytes w w' v bs := by
  have hA' := hA.ofAlloc
  refine ⟨h, fun k hk => ?_, hA'.below (Nat.le_refl _) (fun k hk => by simp [Value.ownBlock] at hk)⟩
  rcases hA'.nw k hk with h1 | h1
  · simp [Value.ownBlock] at h1
  · exact h1

theorem box_cells {w w' : World} {o : Obj} {v : Value} (hA : App (w.alloc o) (.slice none 0 0) w' v) (j : Nat) : w'.cell? ⟨w.heap.size, j, none⟩ = (w.alloc o).cell? ⟨w.heap.size, j, none⟩ :=
  (hA.below (B := w.heap.size + 1) (by simp) (fun k hk => by simp [Value.ownBlock] at hk)).cell (p := ⟨w.heap.size, j, none⟩) (Nat.lt_succ_self _)

theorem le8_snoc : ∀ (k u : Nat), le8 (k + 1) u = le8 k u ++ [((u / 256 ^ k % 256 : Nat) : Int)]
  | 0, u => by simp [le8]
  | k + 1, u => by
    rw [le8, le8_snoc k (u / 256), le8]
    simp [Nat.div_div_eq_div_mul, Nat.pow_succ, Nat.mul_comm]

theorem encItem_0 (b : Bool) (s : ByteArray) (bits nl : Int) (w : World) (hs : s.size ≤ 1048576) (b0 : 0 ≤ bits) (b1 : bits ≤ 18446744073709551615) :
    Calls Try.prog 17 #[.agg #[.int .u8 0, .bool b, .string s, .int .u64 bits, .int .i32 nl]] w fun e w' => ∃ v, e = .returned v ∧ NewBytes w w' v (enc ⟨0, b, s, bits, nl⟩) := by
  go_enter Try.func17, Try.ntmps17
  go_wp2_with fail
  go_ret
  have e0 : enc ⟨0, b, s, bits, nl⟩ = [] := by simp [enc]
  rw [e0]
  exact ⟨_, rfl, NewBytes.of ((Bytes.nil w).alloc _) (App.refl _ _)⟩

set_option maxHeartbeats 1000000 in
theorem encItem_1 (b : Bool) (s : ByteArray) (bits nl : Int) (w : World) (hs : s.size ≤ 1048576) (b0 : 0 ≤ bits) (b1 : bits ≤ 18446744073709551615) :
    Calls Try.prog 17 #[.agg #[.int .u8 1, .bool b, .string s, .int .u64 bits, .int .i32 nl]] w fun e w' => ∃ v, e = .returned v ∧ NewBytes w w' v (enc ⟨1, b, s, bits, nl⟩) := by
  have hN := Bytes.nil (w.alloc (Obj.cells #[.int .u8 1, .bool b, .string s, .int .u64 bits, .int .i32 nl] 36))
  go_enter Try.func17, Try.ntmps17
  go_wp2_with (at_builtin; refine wpList_app1 rfl (.tmp 11) (.tmp 12) rfl _ [] rfl hN _ _ rfl (by simp) ?hl ?_)
  case hl => simp
  intro o1 w1 hB1 hA1
  clear hN
  have hc4 : w1.cell? ⟨w.heap.size, 4, none⟩ = some (.int .i32 nl) := (box_cells hA1 4).trans (by simp [go_sem])
  go_wp2_with fail
  rw [wrapN]
  refine (varint_any _ [8] _ _ hB1 (u64_lt _) (by simp)).mono ?_
  rintro e w2 ⟨o2, rfl, hB2, hA2⟩
  go_wp2_with fail
  go_ret
  have e0 : enc ⟨1, b, s, bits, nl⟩ = [8] ++ varint (u64 nl) := by simp [enc]
  rw [e0]
  exact ⟨_, rfl, NewBytes.of hB2 (hA1.trans hA2)⟩

set_option maxHeartbeats 1000000 in
theorem encItem_2 (b : Bool) (s : ByteArray) (bits nl : Int) (w : World) (hs : s.size ≤ 1048576) (b0 : 0 ≤ bits) (b1 : bits ≤ 18446744073709551615) :
    Calls Try.prog 17 #[.agg #[.int .u8 2, .bool b, .string s, .int .u64 bits, .int .i32 nl]] w fun e w' => ∃ v, e = .returned v ∧ NewBytes w w' v (enc ⟨2, b, s, bits, nl⟩) := by
  have hN := Bytes.nil (w.alloc (Obj.cells #[.int .u8 2, .bool b, .string s, .int .u64 bits, .int .i32 nl] 36))
  go_enter Try.func17, Try.ntmps17
  go_wp2_with (at_builtin; refine wpList_app1 rfl (.tmp 21) (.tmp 22) rfl _ [] rfl hN _ _ rfl (by simp) ?hl ?_)
  case hl => simp
  intro o1 w1 hB1 hA1
  clear hN
  have hc3 : w1.cell? ⟨w.heap.size, 3, none⟩ = some (.int .u64 bits) := (box_cells hA1 3).trans (by simp [go_sem])
  obtain ⟨N, rfl⟩ := Int.eq_ofNat_of_zero_le b0
  go_wp2_with fail
  go_loopw [3, 4, 5] (fun o u i wr => ∃ k U : Nat, k ≤ 8 ∧ i = .int .i64 k ∧ u = .int .u64 U ∧ U < 18446744073709551616 ∧ Hid (U = N / 256 ^ k) ∧ Bytes wr o ([17] ++ le8 k N) ∧ App w1 o1 wr o) (fun _ _ i _ => 8 - (intOf i).toNat)
  case atStart => exact ⟨0, N, by omega, rfl, rfl, by omega, by simp [Hid], hB1, App.refl _ _⟩
  case round =>
    obtain ⟨k, U, hk, rfl, rfl, hU, hq, hB, hA⟩ := hrel
    by_cases hlt : (k : Int) < 8
    · go_wp2_with (at_builtin; refine wpList_app1 rfl (.tmp 30) (.tmp 33) rfl _ ([17] ++ le8 k N) rfl hB _ _ rfl rfl ?hl3 ?_)
      case hl3 => simp [le8_length]; omega
      intro o2 w2 hB2 hA2
      have hq2 : Hid (U / 256 = N / 256 ^ (k + 1)) := by
        simp only [Hid]; rw [hq.out, Nat.pow_succ, Nat.div_div_eq_div_mul]
      have hB2' : Bytes w2 o2 ([17] ++ le8 (k + 1) N) := by
        rw [le8_snoc, ← hq.out, ← List.append_assoc]
        exact hB2
      clear hB2
      go_wp2_with fail
      go_roundw
      case rel => exact ⟨k + 1, U / 256, by omega, by go_num, by go_num, by omega, hq2, hB2', hA.trans hA2⟩
      case measure => simp [intOf]; omega
    · have hk8 : k = 8 := by omega
      subst hk8
      go_wp2_with fail
      go_ret
      have e0 : enc ⟨2, b, s, (N : Int), nl⟩ = [17] ++ le8 8 N := by simp [enc]
      rw [e0]
      exact ⟨_, rfl, NewBytes.of hB (hA1.trans hA)⟩

theorem sbytes_take (s : ByteArray) (k : Nat) (h : k < s.size) : (sbytes s).take (k + 1) = (sbytes s).take k ++ [(s[k].toNat : Int)] := by
  unfold sbytes
  rw [List.take_succ_eq_append_getElem (by simpa using h)]
  simp
  rfl

set_option maxHeartbeats 1000000 in
theorem encItem_3 (b : Bool) (s : ByteArray) (bits nl : Int) (w : World) (hs : s.size ≤ 1048576) (b0 : 0 ≤ bits) (b1 : bits ≤ 18446744073709551615) :
    Calls Try.prog 17 #[.agg #[.int .u8 3, .bool b, .string s, .int .u64 bits, .int .i32 nl]] w fun e w' => ∃ v, e = .returned v ∧ NewBytes w w' v (enc ⟨3, b, s, bits, nl⟩) := by
  have hN := Bytes.nil (w.alloc (Obj.cells #[.int .u8 3, .bool b, .string s, .int .u64 bits, .int .i32 nl] 36))
  go_enter Try.func17, Try.ntmps17
  go_wp2_with (at_builtin; refine wpList_app1 rfl (.tmp 39) (.tmp 40) rfl _ [] rfl hN _ _ rfl (by simp) ?hl ?_)
  case hl => simp
  intro o1 w1 hB1 hA1
  clear hN
  have hc2 : w1.cell? ⟨w.heap.size, 2, none⟩ = some (.string s) := (box_cells hA1 2).trans (by simp [go_sem])
  go_wp2_with fail
  refine (varint_any _ [26] _ _ hB1 (by omega) (by simp)).mono ?_
  rintro e w2 ⟨o2, rfl, hB2, hA2⟩
  have hA12 := hA1.trans hA2
  have hc2' : w2.cell? ⟨w.heap.size, 2, none⟩ = some (.string s) := (box_cells hA12 2).trans (by simp [go_sem])
  clear hc2
  have hvl := vlen_small s.size (by omega)
  go_wp2_with fail
  go_loopw [3, 6] (fun o i wr => ∃ k : Nat, k ≤ s.size ∧ i = .int .i64 k ∧ Bytes wr o ([26] ++ varint s.size ++ (sbytes s).take k) ∧ App w2 o2 wr o) (fun _ i _ => s.size - (intOf i).toNat)
  case atStart => exact ⟨0, by omega, rfl, by simpa using hB2, App.refl _ _⟩
  case round =>
    clear hc2' hB2
    obtain ⟨k, hk, rfl, hB, hA⟩ := hrel
    have hc : wr.cell? ⟨w.heap.size, 2, none⟩ = some (.string s) := (box_cells (hA12.trans hA) 2).trans (by simp [go_sem])
    by_cases hlt : k < s.size
    · have hlt' : (k : Int) < s.size := by omega
      go_wp2_with (at_builtin; refine wpList_app1 rfl (.tmp 55) (.tmp 60) rfl _ ([26] ++ varint s.size ++ (sbytes s).take k) rfl hB _ _ rfl rfl ?hl3 ?_)
      case hl3 => simp [varint_length]; omega
      intro o3 w3 hB3 hA3
      have hB3' : Bytes w3 o3 ([26] ++ varint s.size ++ (sbytes s).take (k + 1)) := by
        rw [sbytes_take s k hlt]
        simpa using hB3
      clear hB3
      go_wp2_with fail
      go_roundw
      case rel => exact ⟨k + 1, by omega, by go_num, hB3', hA.trans hA3⟩
      case measure => simp [intOf]; omega
    · have hkn : k = s.size := by omega
      subst hkn
      go_wp2_with fail
      go_ret
      have e0 : enc ⟨3, b, s, bits, nl⟩ = [26] ++ varint s.size ++ (sbytes s).take s.size := by simp [enc, ← sbytes_length s]
      rw [e0]
      exact ⟨_, rfl, NewBytes.of hB (hA12.trans hA)⟩

set_option maxHeartbeats 1000000 in
theorem encItem_4 (b : Bool) (s : ByteArray) (bits nl : Int) (w : World) (hs : s.size ≤ 1048576) (b0 : 0 ≤ bits) (b1 : bits ≤ 18446744073709551615) :
    Calls Try.prog 17 #[.agg #[.int .u8 4, .bool b, .string s, .int .u64 bits, .int .i32 nl]] w fun e w' => ∃ v, e = .returned v ∧ NewBytes w w' v (enc ⟨4, b, s, bits, nl⟩) := by
  have hN := Bytes.nil (w.alloc (Obj.cells #[.int .u8 4, .bool b, .string s, .int .u64 bits, .int .i32 nl] 36))
  go_enter Try.func17, Try.ntmps17
  go_wp2_with (at_builtin; refine wpList_app1 rfl (.tmp 64) (.tmp 65) rfl _ [] rfl hN _ _ rfl (by simp) ?hl ?_)
  case hl => simp
  intro o1 w1 hB1 hA1
  clear hN
  have hc1 : w1.cell? ⟨w.heap.size, 1, none⟩ = some (.bool b) := (box_cells hA1 1).trans (by simp [go_sem])
  cases b with
  | true =>
    go_wp2_with (at_builtin; refine wpList_app1 rfl (.tmp 69) (.tmp 70) rfl _ [32] rfl hB1 _ _ rfl rfl ?hl3 ?_)
    case hl3 => simp
    intro o2 w2 hB2 hA2
    go_wp2_with fail
    go_ret
    have e0 : enc ⟨4, true, s, bits, nl⟩ = [32] ++ [1] := by simp [enc]
    rw [e0]
    exact ⟨_, rfl, NewBytes.of hB2 (hA1.trans hA2)⟩
  | false =>
    go_wp2_with (at_builtin; refine wpList_app1 rfl (.tmp 72) (.tmp 73) rfl _ [32] rfl hB1 _ _ rfl rfl ?hl4 ?_)
    case hl4 => simp
    intro o2 w2 hB2 hA2
    go_wp2_with fail
    go_ret
    have e0 : enc ⟨4, false, s, bits, nl⟩ = [32] ++ [0] := by simp [enc]
    rw [e0]
    exact ⟨_, rfl, NewBytes.of hB2 (hA1.trans hA2)⟩

theorem encItem_any (it : Item) (w : World) (hok : ItemOk it) (h4 : it.kind ≤ 4) (hs : it.s.size ≤ 1048576) :
    Calls Try.prog 17 #[.agg #[.int .u8 it.kind, .bool it.b, .string it.s, .int .u64 it.bits, .int .i32 it.null]] w fun e w' => ∃ v, e = .returned v ∧ NewBytes w w' v (enc it) := by
  obtain ⟨k0, k1, s1, b0, b1, n0, n1⟩ := hok
  obtain ⟨kd, b, s, bits, nl⟩ := it
  simp only at k0 k1 s1 b0 b1 n0 n1 h4 hs
  rcases (show kd = 0 ∨ kd = 1 ∨ kd = 2 ∨ kd = 3 ∨ kd = 4 by omega) with rfl | rfl | rfl | rfl | rfl
  · exact encItem_0 b s bits nl w hs b0 b1
  · exact encItem_1 b s bits nl w hs b0 b1
  · exact encItem_2 b s bits nl w hs b0 b1
  · exact encItem_3 b s bits nl w hs b0 b1
  · exact encItem_4 b s bits nl w hs b0 b1

theorem Bytes.value {w : World} {v : Value} {bs : List Int} (h : Bytes w v bs) : (v = .slice none 0 0 ∧ bs = []) ∨ ∃ g cap, v = .slice (some ⟨g, 0, none⟩) bs.length cap ∧ g < w.heap.size ∧ ∀ j x, bs[j]? = some x → w.cell? ⟨g, j, none⟩ = some (.int .u8 x) := by
  rcases h.2 with ⟨h1, h2⟩ | ⟨g, cap, cur, h1, _, hg, _⟩
  · exact Or.inl ⟨h1, List.eq_nil_of_length_eq_zero h2⟩
  · refine Or.inr ⟨g, cap, h1, (Array.getElem?_eq_some_iff.1 hg).1, fun j x hx => ?_⟩
    have hj : j < bs.length := (List.getElem?_eq_some_iff.1 hx).1
    have := World.ownsRow.cells h (g := g) (by rw [h1]; rfl) j (.int .u8 x) (by simp [hx])
    rwa [show (⟨g, 0, none⟩ : Addr).add j = ⟨g, j, none⟩ by unfold Addr.add; split <;> simp_all] at this

theorem addr_add0 (g j : Nat) : (⟨g, 0, none⟩ : Addr).add j = ⟨g, j, none⟩ := by unfold Addr.add; split <;> simp_all

/-- The round of zzEncList, whatever the record is: nil (an item of no kind) or a slice. -/
structure ListInv (w wr : World) (out : Value) (bs : List Int) : Prop where
  own : Bytes wr out bs
  nw : ∀ k, out.ownBlock = some k → w.heap.size ≤ k
  bel : Below w.heap.size w wr

theorem ListInv.to {w w' : World} {v : Value} {bs : List Int} (h : ListInv w w' v bs) : NewBytes w w' v bs := ⟨h.own, h.nw, h.bel⟩

theorem Bytes.below {w w' : World} {v : Value} {bs : List Int} (h : Bytes w v bs) (hb : Below w.heap.size w w') : Bytes w' v bs := by
  refine ⟨h.1, ?_⟩
  rcases h.2 with h1 | ⟨g, cap, cur, h1, h2, hg, rest⟩
  · exact Or.inl h1
  · exact Or.inr ⟨g, cap, cur, h1, h2, by rw [hb.block g (Array.getElem?_eq_some_iff.1 hg).1]; exact hg, rest⟩

theorem Bytes.lt {w : World} {v : Value} {bs : List Int} (h : Bytes w v bs) : ∀ k, v.ownBlock = some k → k < w.heap.size := fun k hk => (World.ownsRow.lt h k hk).2

/-- The record stays what it is while the bytes of out are appended to. -/
theorem rec_kept {wr w2 w3 : World} {out o1 rec : Value} {bs cs : List Int} (hB : Bytes wr out bs) (hr : NewBytes wr w2 rec cs) (hA : App w2 out w3 o1) : Bytes w3 rec cs := by
  refine hr.own.kept hA.gr ?_
  cases h1 : rec.ownBlock with
  | none => exact Or.inl rfl
  | some k =>
    right
    intro h2
    have := hr.nw k h1
    have := hB.lt k h2.symm
    omega

theorem ListInv.step {w wr w2 w5 : World} {out o3 rec : Value} {bs cs ds : List Int} (hi : ListInv w wr out bs) (hr : NewBytes wr w2 rec cs) (hA : App w2 out w5 o3) (h5 : Bytes w5 o3 ds) : ListInv w w5 o3 ds := by
  have h2 : Below w.heap.size w w2 := hi.bel.trans (hr.bel.mono hi.bel.size)
  refine ⟨h5, fun k hk => ?_, h2.trans (hA.below h2.size hi.nw)⟩
  rcases hA.nw k hk with h1 | h1
  · exact hi.nw k h1
  · exact Nat.le_trans h2.size h1

/-- zzEncList. -/
theorem encList_any (a : Option Addr) (n cap : Nat) (I : Nat → Item) (w : World) (he : ItemsAt w a n I) (h4 : ∀ i, i < n → (I i).kind ≤ 4) (ht : tot I n ≤ 1048576) :
    Calls Try.prog 14 #[.slice a n cap] w fun e w' => ∃ v, e = .returned v ∧ NewBytes w w' v (encSeg I 0 n) := by
  have hn : n ≤ 1048576 := by have := tot_ge I n; omega
  have HT : Hid (tot I n ≤ 1048576) := ht
  have H4 : Hid (∀ i, i < n → (I i).kind ≤ 4) := h4
  clear ht h4
  go_enter Try.func14, Try.ntmps14
  go_wp2_with fail
  go_loopw [3, 4] (fun o i wr => ∃ k : Nat, k ≤ n ∧ i = .int .i64 k ∧ ListInv w wr o (encSeg I 0 k)) (fun _ i _ => n - (intOf i).toNat)
  case atStart => exact ⟨0, Nat.zero_le _, rfl, Bytes.nil w, fun k hk => by simp [Value.ownBlock] at hk, Below.refl _ _⟩
  case round =>
    obtain ⟨k, hk, rfl, hI⟩ := hrel
    have hB := hI.own
    by_cases hlt : k < n
    · obtain ⟨-, hc⟩ := he.below hI.bel
      obtain ⟨b, off, rfl, hb, hc⟩ := hc (by omega)
      obtain ⟨c0, c1, c2, c3, c4, ok⟩ := hc k hlt
      clear hc
      have hsz : (I k).s.size ≤ 1048576 := by have := HT.out; have := tot_item I n k hlt; omega
      have hel := enc_length (I k) hsz
      have hel2 := vlen_pos (enc (I k)).length (by omega)
      have hsl : (encSeg I 0 k).length ≤ 1048576 := by
        have h1 := encSeg_length I n HT.out 0 k (by omega)
        have h2 := tot_mono I n (0 + k) (by omega)
        have h3 := HT.out
        omega
      go_wp2_with fail
      refine (encItem_any (I k) _ ok (H4.out k hlt) hsz).mono ?_
      rintro e w2 ⟨rec, rfl, hr⟩
      have hB2 := hB.below hr.bel
      have hseg : encSeg I 0 k ++ [10] ++ varint (enc (I k)).length ++ enc (I k) = encSeg I 0 (k + 1) := by
        simp [encSeg, rcd]
      have HS : Hid (encSeg I 0 k ++ [10] ++ varint (enc (I k)).length ++ enc (I k) = encSeg I 0 (k + 1)) := hseg
      clear hseg c0 c1 c2 c3 c4
      rcases hr.own.value with ⟨hv, hnil⟩ | ⟨h, c', hv, hlt2, hcells⟩
      · subst hv
        have HNil : Hid (enc (I k) = []) := hnil
        clear hnil
        go_wp2_with (at_builtin; refine wpList_app1 rfl (.tmp 17) (.tmp 18) rfl _ (encSeg I 0 k) rfl hB2 _ _ rfl rfl ?hl1 ?_)
        case hl1 => omega
        intro o1 w3 hB3 hA3
        go_wp2_with fail
        refine (varint_any _ _ 0 _ hB3 (by omega) (by simp; omega)).mono ?_
        rintro e w4 ⟨o2, rfl, hB4, hA4⟩
        have hown4 := hB4
        obtain ⟨i5, hi5, -, -, -⟩ := info_parts (show (Try.prog.info? 5).map (fun i => (i.zero, i.size, i.bytes)) = some (some (.int .u8 0), 1, 1) by kernel_rfl)
        go_wp2_with (at_builtin; refine wpList_append_own_none rfl (.tmp 25) (.tmp 26) 32 rfl 0 5 i5 1 Try.underlying32 hi5 _ _ _ rfl hown4 rfl ?_)
        go_wp2_with fail
        have hI2 : ListInv w w4 o2 (encSeg I 0 (k + 1)) := by
          refine hI.step hr (hA3.trans hA4) ?_
          rw [← HS.out, HNil.out]
          simpa using hB4
        go_roundw
        case rel => exact ⟨k + 1, by omega, by go_num, hI2⟩
        case measure => simp [intOf]; omega
      · subst hv
        go_wp2_with (at_builtin; refine wpList_app1 rfl (.tmp 17) (.tmp 18) rfl _ (encSeg I 0 k) rfl hB2 _ _ rfl rfl ?hl2 ?_)
        case hl2 => omega
        intro o1 w3 hB3 hA3
        go_wp2_with fail
        refine (varint_any _ _ _ _ hB3 (by omega) (by simp; omega)).mono ?_
        rintro e w4 ⟨o2, rfl, hB4, hA4⟩
        have hrec := rec_kept hB hr (hA3.trans hA4)
        have hc4 : ∀ j x, (enc (I k))[j]? = some x → w4.cell? ((⟨h, 0, none⟩ : Addr).add j) = some (.int .u8 x) := by
          intro j x hx
          rw [addr_add0]
          rcases hrec.value with ⟨hv2, _⟩ | ⟨h', c'', hv2, _, hcc⟩
          · cases hv2
          · injection hv2 with e1 e2 e3
            injection e1 with e1
            injection e1 with e1
            subst e1
            exact hcc j x hx
        have HC : Hid (∀ j x, (enc (I k))[j]? = some x → w4.cell? ((⟨h, 0, none⟩ : Addr).add j) = some (.int .u8 x)) := hc4
        clear hc4 hcells hrec
        go_wp2_with (at_builtin; refine wpList_appB rfl (.tmp 25) (.tmp 26) rfl _ (encSeg I 0 k ++ [10] ++ varint (enc (I k)).length) rfl hB4 _ _ _ (enc (I k)) rfl rfl HC.out ?hl4 ?_)
        case hl4 => simp [varint_length]; omega
        intro o3 w5 hB5 hA5
        have hI2 : ListInv w w5 o3 (encSeg I 0 (k + 1)) := by
          refine hI.step hr ((hA3.trans hA4).trans hA5) ?_
          rw [← HS.out]
          simpa using hB5
        clear hB5
        go_wp2_with fail
        go_roundw
        case rel => exact ⟨k + 1, by omega, by go_num, hI2⟩
        case measure => simp [intOf]; omega
    · have hkn : k = n := by omega
      subst hkn
      go_wp2_with fail
      go_ret
      exact ⟨_, rfl, hI.to⟩
end Go.Proofs.Qxb6613122a
