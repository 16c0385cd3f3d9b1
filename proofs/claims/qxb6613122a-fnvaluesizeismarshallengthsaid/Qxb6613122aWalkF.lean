/-
  THE WALKS: wire's writers before an index: PutVarintBefore, PutBoolBefore, PutBytesBefore, PutFixed64Before.
-/
import Derived.Test.Qxb6613122aMid
import Derived.Test.Qxb6613122aWalkD
namespace Go.Proofs.Qxb6613122a
open Go.RowKit
set_option linter.unusedSimpArgs false
set_option linter.unusedVariables false

set_option maxHeartbeats 1000000 in
/-- It writes the varint of v so that it ends just before index i0 + vlen v. -/
theorem putVarint_any (g n cap : Nat) (bs : List Int) (i0 v : Nat) (x y : Int) (w : World) (hB : Buf w g bs) (hn : n ≤ bs.length) (hmax : bs.length ≤ 4294967296) (hi : i0 + vlen v ≤ n) (hx : x = (i0 : Int) + (vlen v : Int)) (hy : y = (v : Int)) (hv : v < 18446744073709551616) :
    Calls Try.prog 36 #[.slice (some ⟨g, 0, none⟩) n cap, .int .i64 x, .int .u64 y] w fun e w' => e = .returned (.int .i64 (i0 : Int)) ∧ Wrote w w' g (mid bs i0 (varint v)) := by
  subst hy
  have hp := vlen_pos v hv
  have HX : Hid (x = (i0 : Int) + (vlen v : Int)) := hx
  have hx0 : (vlen v : Int) ≤ x := by omega
  have hx1 : x ≤ 4294967296 := by omega
  clear hx
  go_enter Try.func36, Try.ntmps36
  go_wp2_with fail
  refine (sizeVarint_any _ _ (by omega) (by omega)).mono ?_
  rintro e w' ⟨rfl, rfl⟩
  rw [Int.toNat_natCast]
  go_wp2_with fail
  have e1 : x - (vlen v : Int) = (i0 : Int) := by have := HX.out; omega
  rw [e1]
  go_loopw [7, 2] (fun j s wr => ∃ (u f p : Nat) (ys : List Int), s = .int .u64 u ∧ j = .int .i64 (p : Int) ∧ Hid (p = i0 + ys.length) ∧ u < 18446744073709551616 ∧ Hid (u < 128 ^ (f + 1)) ∧ Hid (ys ++ varF f u = varint v) ∧ Wrote w' wr g (mid bs i0 ys)) (fun _ s _ => (intOf s).toNat)
  case atStart => exact ⟨v, 9, i0, [], rfl, rfl, by simp [Hid], hv, by simp only [Hid]; omega, rfl, by rw [mid_nil]; exact ⟨hB, grown_refl' _ _⟩⟩
  case round =>
    clear e1
    obtain ⟨u, f, p, ys, rfl, rfl, HP, hu, hf, hq, hW⟩ := hrel
    have hlen : ys.length + (varF f u).length = vlen v := by rw [← List.length_append, hq.out]; rfl
    have hl1 : 1 ≤ (varF f u).length := by
      cases f <;> simp [varF]
      split <;> simp
    have hpn : p < n := by have := HP.out; omega
    have hpn' : (p : Int) < (n : Int) := by omega
    obtain ⟨ov, hcell⟩ : ∃ ov, wr.cell? ⟨g, p, none⟩ = some ov := ⟨_, hW.buf.cell (by rw [mid_length _ _ _ (by omega)]; omega)⟩
    have hfree := hW.buf.free p
    have HS : Hid (∀ x, Wrote w' (wr.setCell ⟨g, p, none⟩ (.int .u8 x)) g (mid bs i0 (ys ++ [x]))) := fun x => by
      have h1 := hW.set p x
      rw [HP.out, mid_set bs i0 ys x (by omega)] at h1
      rw [HP.out]
      exact h1
    clear hlen hl1 hW
    by_cases hb1 : (128 : Int) ≤ u
    · have hvb := vbyte' u hu
      obtain ⟨k, rfl⟩ : ∃ k, f = k + 1 := by
        cases f with
        | zero => have := hf.out; simp at this; omega
        | succ k => exact ⟨k, rfl⟩
      have hq2 : Hid (ys ++ [((u % 128 + 128 : Nat) : Int)] ++ varF k (u / 128) = varint v) := by
        have := hq.out
        rw [varF_big _ _ (by omega)] at this
        simpa [Hid] using this
      have hf2 : Hid (u / 128 < 128 ^ (k + 1)) := by
        have := hf.out
        simp only [Hid]
        rw [Nat.pow_succ] at this
        omega
      have hW2 := HS.out ((u % 128 + 128 : Nat) : Int)
      have HP2 : Hid (p + 1 = i0 + (ys ++ [((u % 128 + 128 : Nat) : Int)]).length) := by have := HP.out; simp [Hid]; omega
      go_wp2_with fail
      go_roundw
      case rel => exact ⟨u / 128, k, p + 1, _, by go_num, by go_num, HP2, by omega, hf2, hq2, hW2⟩
      case measure => simp [intOf]; omega
    · have hW2 := HS.out (u : Int)
      have HQ : Hid (ys ++ [(u : Int)] = varint v) := by
        have := hq.out
        rw [varF_small _ _ (by omega)] at this
        exact this
      rw [HQ.out] at hW2
      have HW2 : Hid (Wrote w' (wr.setCell ⟨g, p, none⟩ (.int .u8 (u : Int))) g (mid bs i0 (varint v))) := hW2
      clear hW2
      go_wp2_with fail
      go_ret
      exact ⟨rfl, HW2.out⟩

/-- The byte of a bool. -/
def bb (b : Bool) : Int := if b then 1 else 0

/-- PutBoolBefore. -/
theorem putBool_any (g n cap : Nat) (bs : List Int) (i0 : Nat) (x : Int) (b : Bool) (w : World) (hB : Buf w g bs) (hn : n ≤ bs.length) (hmax : bs.length ≤ 4294967296) (hi : i0 + 1 ≤ n) (hx : x = (i0 : Int) + 1) :
    Calls Try.prog 38 #[.slice (some ⟨g, 0, none⟩) n cap, .int .i64 x, .bool b] w fun e w' => e = .returned (.int .i64 (i0 : Int)) ∧ Wrote w w' g (mid bs i0 [bb b]) := by
  subst hx
  have hlt : (i0 : Int) < (n : Int) := by omega
  have hcell := hB.cell (j := i0) (by omega)
  have hfree := hB.free i0
  have hW : Wrote w w g bs := ⟨hB, grown_refl' _ _⟩
  have hms := fun x => mid_set bs i0 [] x (by simp; omega)
  simp only [mid_nil, List.length_nil, Nat.add_zero, List.nil_append] at hms
  cases b with
  | false =>
    have hW1 := hW.set i0 0
    rw [hms] at hW1
    have HW : Hid (Wrote w (w.setCell ⟨g, i0, none⟩ (.int .u8 0)) g (mid bs i0 [0])) := hW1
    clear hW1 hms hW
    go_enter Try.func38, Try.ntmps38
    go_wp2_with fail
    go_ret
    exact ⟨rfl, HW.out⟩
  | true =>
    have hW1 := (hW.set i0 0).set i0 1
    rw [List.set_set, hms] at hW1
    have HW : Hid (Wrote w ((w.setCell ⟨g, i0, none⟩ (.int .u8 0)).setCell ⟨g, i0, none⟩ (.int .u8 1)) g (mid bs i0 [1])) := hW1
    clear hW1 hms hW
    go_enter Try.func38, Try.ntmps38
    go_wp2_with fail
    go_ret
    exact ⟨rfl, HW.out⟩

set_option maxRecDepth 100000 in
set_option maxHeartbeats 1000000 in
/-- PutBytesBefore, at a string that is not empty. -/
theorem putBytes_some (g n cap : Nat) (bs : List Int) (i0 : Nat) (x : Int) (s : ByteArray) (w : World) (hB : Buf w g bs) (hn : n ≤ bs.length) (hcap : n ≤ cap) (hmax : bs.length ≤ 4294967296) (hs0 : 0 < s.size) (hi : i0 + vlen s.size + s.size ≤ n) (hx : x = (i0 : Int) + (vlen s.size : Int) + (s.size : Int)) :
    Calls Try.prog 39 #[.slice (some ⟨g, 0, none⟩) n cap, .int .i64 x, .string s] w fun e w' => e = .returned (.int .i64 (i0 : Int)) ∧ Wrote w w' g (mid bs i0 (varint s.size ++ sbytes s)) := by
  have hp := vlen_pos s.size (by omega)
  obtain ⟨i1, hi1⟩ : ∃ i1 : Nat, i1 = i0 + vlen s.size := ⟨_, rfl⟩
  have HI : Hid (i1 = i0 + vlen s.size) := hi1
  have hxx : x = (i1 : Int) + (s.size : Int) := by omega
  have hb1 : i1 + s.size ≤ n := by omega
  clear hx hi1
  subst hxx
  obtain ⟨w1, hcp, hW1⟩ := run_copyStr w g i1 (n - i1) (cap - i1) s bs hB (by omega) (by omega)
  have hin : (i1 : Int) ≤ (n : Int) := by omega
  have hml := mid_length bs i1 (sbytes s) (by rw [sbytes_length]; omega)
  have HML : Hid ((mid bs i1 (sbytes s)).length = bs.length) := hml
  clear hml
  go_enter Try.func39, Try.ntmps39
  go_wp2_with fail
  refine (putVarint_any g n cap _ i0 s.size _ _ _ hW1.buf (by have := HML.out; omega) (by have := HML.out; omega) (by have := HI.out; omega) (by have := HI.out; omega) rfl (by omega)).mono ?_
  rintro e w2 ⟨rfl, hW2⟩
  rw [mid_mid bs i1 i0 (sbytes s) (varint s.size) (by rw [varint_length]; exact HI.out.symm) (by rw [sbytes_length]; omega)] at hW2
  go_wp2_with fail
  go_ret
  exact ⟨rfl, hW1.trans hW2⟩

set_option maxRecDepth 100000 in
set_option maxHeartbeats 1000000 in
/-- PutBytesBefore, at the empty string. -/
theorem putBytes_none (g n cap : Nat) (bs : List Int) (i0 : Nat) (x : Int) (s : ByteArray) (w : World) (hB : Buf w g bs) (hn : n ≤ bs.length) (hcap : n ≤ cap) (hmax : bs.length ≤ 4294967296) (hs0 : s.size = 0) (hi : i0 + vlen s.size + s.size ≤ n) (hx : x = (i0 : Int) + (vlen s.size : Int) + (s.size : Int)) :
    Calls Try.prog 39 #[.slice (some ⟨g, 0, none⟩) n cap, .int .i64 x, .string s] w fun e w' => e = .returned (.int .i64 (i0 : Int)) ∧ Wrote w w' g (mid bs i0 (varint s.size ++ sbytes s)) := by
  have hp := vlen_pos s.size (by omega)
  obtain ⟨i1, hi1⟩ : ∃ i1 : Nat, i1 = i0 + vlen s.size := ⟨_, rfl⟩
  have HI : Hid (i1 = i0 + vlen s.size) := hi1
  have hxx : x = (i1 : Int) := by omega
  have hb1 : i1 ≤ n := by omega
  have hsb : sbytes s = [] := List.eq_nil_of_length_eq_zero (by rw [sbytes_length]; exact hs0)
  have HS : Hid (sbytes s = []) := hsb
  clear hx hi1 hsb
  subst hxx
  have hcp := fun ty d dl dc => Lib.run_copy_empty_string (P := Try.prog) w 32 9 ty 5 d dl dc s Try.underlying32 (by kernel_rfl) hs0
  have hin : (i1 : Int) ≤ (n : Int) := by omega
  have hsz : (s.size : Int) = 0 := by omega
  have HZ : Hid (s.size = 0) := hs0
  clear hs0
  go_enter Try.func39, Try.ntmps39
  go_wp2_with fail
  all_goals
    refine (putVarint_any g n _ _ i0 s.size _ 0 _ hB (by omega) (by omega) (by have := HI.out; omega) (by have := HI.out; omega) (by have := HZ.out; omega) (by have := HZ.out; omega)).mono ?_
    rintro e w2 ⟨rfl, hW2⟩
    go_wp2_with fail
    go_ret
    rw [HS.out, List.append_nil]
    exact ⟨rfl, hW2⟩

theorem putBytes_any (g n cap : Nat) (bs : List Int) (i0 : Nat) (x : Int) (s : ByteArray) (w : World) (hB : Buf w g bs) (hn : n ≤ bs.length) (hcap : n ≤ cap) (hmax : bs.length ≤ 4294967296) (hi : i0 + vlen s.size + s.size ≤ n) (hx : x = (i0 : Int) + (vlen s.size : Int) + (s.size : Int)) :
    Calls Try.prog 39 #[.slice (some ⟨g, 0, none⟩) n cap, .int .i64 x, .string s] w fun e w' => e = .returned (.int .i64 (i0 : Int)) ∧ Wrote w w' g (mid bs i0 (varint s.size ++ sbytes s)) := by
  rcases Nat.eq_zero_or_pos s.size with h | h
  · exact putBytes_none g n cap bs i0 x s w hB hn hcap hmax h hi hx
  · exact putBytes_some g n cap bs i0 x s w hB hn hcap hmax h hi hx

theorem Wrote.alloc {w w1 : World} {g : Nat} {bs : List Int} (h : Wrote w w1 g bs) (o : Obj) : Wrote w (w1.alloc o) g bs :=
  ⟨by have hlt := RowIs.lt h.buf; unfold Buf RowIs; rw [Below.heap_alloc _ _ _ hlt]; exact h.buf, grown_trans h.gr (World.grownBy_alloc w1 o _)⟩

/-- The eight bytes of v. -/
def le64 (v : Nat) : List Int := le8 8 v

theorem Wrote.snoc {w w1 : World} {g off : Nat} {bs ys : List Int} (h : Wrote w w1 g (mid bs off ys)) (j : Nat) (x : Int) (hj : j = off + ys.length) (hlt : j < bs.length) : Wrote w (w1.setCell ⟨g, j, none⟩ (.int .u8 x)) g (mid bs off (ys ++ [x])) := by
  subst hj
  rw [← mid_set bs off ys x hlt]
  exact h.set _ x

set_option maxHeartbeats 2000000 in
/-- (littleEndian).PutUint64. -/
theorem putU64_any (g off m cap v : Nat) (bs : List Int) (w : World) (hB : Buf w g bs) (hm : 8 ≤ m) (hoff : off + 8 ≤ bs.length) (hv : v < 18446744073709551616) :
    Calls Try.prog 46 #[.agg #[], .slice (some ⟨g, off, none⟩) m cap, .int .u64 v] w fun e w' => e = .returned (.tuple #[]) ∧ Wrote w w' g (mid bs off (le64 v)) := by
  have hm' : (7 : Int) < (m : Int) := by omega
  have hm0 : (0 : Int) < (m : Int) := by omega
  have hm1 : (1 : Int) < (m : Int) := by omega
  have hm2 : (2 : Int) < (m : Int) := by omega
  have hm3 : (3 : Int) < (m : Int) := by omega
  have hm4 : (4 : Int) < (m : Int) := by omega
  have hm5 : (5 : Int) < (m : Int) := by omega
  have hm6 : (6 : Int) < (m : Int) := by omega
  have c0 := hB.cell (j := off) (by omega)
  have c1 := hB.cell (j := off + 1) (by omega)
  have c2 := hB.cell (j := off + 2) (by omega)
  have c3 := hB.cell (j := off + 3) (by omega)
  have c4 := hB.cell (j := off + 4) (by omega)
  have c5 := hB.cell (j := off + 5) (by omega)
  have c6 := hB.cell (j := off + 6) (by omega)
  have c7 := hB.cell (j := off + 7) (by omega)
  have fz := fun j => hB.free j
  have hlt := RowIs.lt hB
  have hW : Wrote w w g (mid bs off []) := by rw [mid_nil]; exact ⟨hB, grown_refl' _ _⟩
  have HF : Hid (Wrote w (((((((((w.setCell ⟨g, off, none⟩ (.int .u8 ((v : Int) % 256))).setCell ⟨g, off + 1, none⟩ (.int .u8 ((v : Int) / 256 % 256))).setCell ⟨g, off + 2, none⟩ (.int .u8 ((v : Int) / 65536 % 256))).setCell
      ⟨g, off + 3, none⟩ (.int .u8 ((v : Int) / 16777216 % 256))).setCell ⟨g, off + 4, none⟩ (.int .u8 ((v : Int) / 4294967296 % 256))).setCell ⟨g, off + 5, none⟩ (.int .u8 ((v : Int) / 1099511627776 % 256))).setCell
      ⟨g, off + 6, none⟩ (.int .u8 ((v : Int) / 281474976710656 % 256))).setCell ⟨g, off + 7, none⟩ (.int .u8 ((v : Int) / 72057594037927936))).alloc (.cells #[] 99)) g (mid bs off (le64 v))) := by
    have h0 := hW.snoc off ((v : Int) % 256) (by simp) (by omega)
    have h1 := h0.snoc (off + 1) ((v : Int) / 256 % 256) (by simp) (by omega)
    have h2 := h1.snoc (off + 2) ((v : Int) / 65536 % 256) (by simp) (by omega)
    have h3 := h2.snoc (off + 3) ((v : Int) / 16777216 % 256) (by simp) (by omega)
    have h4 := h3.snoc (off + 4) ((v : Int) / 4294967296 % 256) (by simp) (by omega)
    have h5 := h4.snoc (off + 5) ((v : Int) / 1099511627776 % 256) (by simp) (by omega)
    have h6 := h5.snoc (off + 6) ((v : Int) / 281474976710656 % 256) (by simp) (by omega)
    have h7 := h6.snoc (off + 7) ((v : Int) / 72057594037927936) (by simp) (by omega)
    have hle : le8 8 v = [(v : Int) % 256] ++ [(v : Int) / 256 % 256] ++ [(v : Int) / 65536 % 256] ++ [(v : Int) / 16777216 % 256] ++ [(v : Int) / 4294967296 % 256] ++ [(v : Int) / 1099511627776 % 256] ++ [(v : Int) / 281474976710656 % 256] ++ [(v : Int) / 72057594037927936] := by
      simp only [le8, List.append_assoc, List.cons_append, List.nil_append, List.cons.injEq, and_true]
      refine ⟨?_, ?_, ?_, ?_, ?_, ?_, ?_, ?_⟩ <;> omega
    rw [show le64 v = le8 8 v from rfl, hle]
    exact h7.alloc _
  clear hW
  go_enter Try.func46, Try.ntmps46
  go_wp2
  go_end0
  exact ⟨rfl, HF.out⟩

end Go.Proofs.Qxb6613122a
