/-
  THE WALKS: what only reads: zzBytes.., zzItemsBytes, zzKindsOK; SizeVarint, SizeBytes, zzVarLen, zzInner.
-/
import Derived.Test.Qxb6613122aRows
import Derived.Test.Qxb6613122aLen64
import Derived.Test.Qxb6613122aPlain
import Derived.WalkKit
import Derived.WalkSpells
import Derived.WalkLawsBesides
namespace Go.Proofs.Qxb6613122a
open Go.RowKit
set_option linter.unusedSimpArgs false
set_option linter.unusedVariables false

structure ItemOk (it : Item) : Prop where
  k0 : 0 ≤ it.kind
  k1 : it.kind ≤ 255
  s1 : it.s.size ≤ maxLen
  b0 : 0 ≤ it.bits
  b1 : it.bits ≤ 18446744073709551615
  n0 : -2147483648 ≤ it.null
  n1 : it.null ≤ 2147483647

structure ItemCells (w : World) (b off : Nat) (it : Item) : Prop where
  c0 : w.cell? ⟨b, off, none⟩ = some (.int .u8 it.kind)
  c1 : w.cell? ⟨b, off + 1, none⟩ = some (.bool it.b)
  c2 : w.cell? ⟨b, off + 2, none⟩ = some (.string it.s)
  c3 : w.cell? ⟨b, off + 3, none⟩ = some (.int .u64 it.bits)
  c4 : w.cell? ⟨b, off + 4, none⟩ = some (.int .i32 it.null)
  ok : ItemOk it

/-- A slice of items in memory. -/
def ItemsAt (w : World) (a : Option Addr) (n : Nat) (I : Nat → Item) : Prop :=
  n ≤ maxLen ∧ (0 < n → ∃ b off, a = some ⟨b, off, none⟩ ∧ b < w.heap.size ∧ ∀ i, i < n → ItemCells w b (off + i * 5) (I i))

/-- What zzKindsOK returns. -/
def KindsRet (I : Nat → Item) (n : Nat) (e : Ending) : Prop := ∃ r : Bool, e = .returned (.bool r) ∧ (r = true → ∀ i, i < n → (I i).kind ≤ 4)

theorem kinds_succ {I : Nat → Item} {k : Nat} (h : ∀ j, j < k → (I j).kind ≤ 4) (h4 : ¬ 4 < (I k).kind) : ∀ j, j < k + 1 → (I j).kind ≤ 4 := by
  intro j hj
  rcases Nat.lt_or_ge j k with h1 | h1
  · exact h j h1
  · have : j = k := by omega
    rw [this]; omega

/-- It returns some bool. -/
def RetBool (e : Ending) : Prop := ∃ r : Bool, e = .returned (.bool r)

set_option maxHeartbeats 400000 in
theorem itemsBytes_any (a : Option Addr) (n cap : Nat) (I : Nat → Item) (t : Nat) (w : World) (he : ItemsAt w a n I) (h1 : t ≤ 1048576) :
    Calls Try.prog 8 #[.slice a n cap, .int .i64 t] w fun e w' => (∃ r : Int, e = .returned (.int .i64 r) ∧ (r ≤ 1048576 → t + tot I n ≤ 1048576)) ∧ w' = w := by
  obtain ⟨hn, hc⟩ := he
  unfold maxLen at hn
  go_enter Try.func8, Try.ntmps8
  go_wp2
  go_loop [1, 5] (fun s i => ∃ (k : Nat) (u : Nat), k ≤ n ∧ i = .int .i64 k ∧ s = .int .i64 u ∧ u ≤ 2097200 ∧ Hid (u = t + tot I k)) (fun _ i => n - (intOf i).toNat)
  case atStart => exact ⟨0, t, Nat.zero_le _, rfl, rfl, by omega, by simp [Hid, tot]⟩
  case round =>
    obtain ⟨k, u, hk, rfl, rfl, hu1, hq⟩ := hrel
    by_cases hlt : k < n
    · have hmono := tot_mono I n (k + 1) hlt
      have hq' : Hid (t + tot I (k + 1) = u + 48 + (I k).s.size) := by have := hq.out; simp only [Hid, tot]; omega
      have hm2 : Hid (tot I (k + 1) ≤ tot I n) := hmono
      clear hmono
      obtain ⟨b, off, rfl, hb, hc⟩ := hc (by omega)
      have hi := hc k hlt
      have hcell := hi.c2
      have hsz := hi.ok.s1
      unfold maxLen at hsz
      clear hc hi
      by_cases hbig : (1048576 : Int) < u
      · go_wp2
        go_ret
        exact ⟨⟨_, rfl, by intro h; omega⟩, rfl⟩
      by_cases hbs : (1048576 : Int) < (I k).s.size
      · go_wp2
        go_ret
        exact ⟨⟨_, rfl, by intro h; omega⟩, rfl⟩
      go_wp2
      go_round
      case rel => exact ⟨k + 1, u + 48 + (I k).s.size, by omega, by go_num, by go_num, by omega, hq'.out.symm⟩
      case measure => simp [intOf]; omega
    · clear hc
      have hkn : k = n := by omega
      subst hkn
      go_wp2
      go_ret
      exact ⟨⟨_, rfl, by intro h; have := hq.out; omega⟩, rfl⟩

set_option maxHeartbeats 400000 in
theorem kindsOK_any (a : Option Addr) (n cap : Nat) (I : Nat → Item) (w : World) (he : ItemsAt w a n I) :
    Calls Try.prog 9 #[.slice a n cap] w fun e w' => KindsRet I n e ∧ w' = w := by
  obtain ⟨hn, hc⟩ := he
  unfold maxLen at hn
  go_enter Try.func9, Try.ntmps9
  go_wp2
  go_loop [3] (fun i => ∃ (k : Nat), k ≤ n ∧ i = .int .i64 k ∧ Hid (∀ j, j < k → (I j).kind ≤ 4)) (fun i => n - (intOf i).toNat)
  case atStart => exact ⟨0, Nat.zero_le _, rfl, fun j hj => absurd hj (by omega)⟩
  case round =>
    obtain ⟨k, hk, rfl, hq⟩ := hrel
    by_cases hlt : k < n
    · obtain ⟨b, off, rfl, hb, hc⟩ := hc (by omega)
      have hi := hc k hlt
      have hcell := hi.c0
      have hk0 := hi.ok.k0
      have hk1 := hi.ok.k1
      clear hc hi
      by_cases h4 : (4 : Int) < (I k).kind
      · go_wp2
        go_ret
        exact ⟨⟨false, rfl, by simp⟩, rfl⟩
      · go_wp2
        go_round
        case rel => exact ⟨k + 1, by omega, by go_num, kinds_succ hq.out h4⟩
        case measure => simp [intOf]; omega
    · have hkn : k = n := by omega
      subst hkn
      clear hc
      go_wp2
      go_ret
      exact ⟨⟨true, rfl, fun _ => hq.out⟩, rfl⟩

set_option maxHeartbeats 2000000 in
theorem bytesCut_any (a : Option Addr) (n cap : Nat) (I : Nat → Item) (c : Int) (w : World) (he : ItemsAt w a n I) :
    Calls Try.prog 7 #[.slice a n cap, .int .i64 c] w fun e w' => RetBool e ∧ w' = w := by
  obtain ⟨hn, hc⟩ := he
  unfold maxLen at hn
  by_cases hz : (1048576 : Int) < n
  · go_enter Try.func7, Try.ntmps7
    go_wp2
    go_ret
    exact ⟨⟨_, rfl⟩, rfl⟩
  go_enter Try.func7, Try.ntmps7
  go_wp2
  go_loop [5, 6] (fun s i => ∃ (k : Nat) (u : Int), k ≤ n ∧ i = .int .i64 k ∧ s = .int .i64 u ∧ 0 ≤ u ∧ u ≤ 1048576) (fun _ i => n - (intOf i).toNat)
  case atStart => exact ⟨0, n, Nat.zero_le _, rfl, rfl, by omega, by omega⟩
  case round =>
    obtain ⟨k, u, hk, rfl, rfl, hu0, hu1⟩ := hrel
    by_cases hlt : k < n
    · obtain ⟨b, off, rfl, hb, hc⟩ := hc (by omega)
      have hi := hc k hlt
      have hcell := hi.c2
      have hsz := hi.ok.s1
      unfold maxLen at hsz
      clear hc hi
      go_wp2
      · go_ret
        exact ⟨⟨_, rfl⟩, rfl⟩
      · go_ret
        exact ⟨⟨_, rfl⟩, rfl⟩
      · go_round
        case rel => exact ⟨k + 1, _, by omega, by go_num, rfl, by omega, by omega⟩
        case measure => simp [intOf]; omega
    · clear hc
      go_wp2
      go_ret
      exact ⟨⟨_, rfl⟩, rfl⟩

theorem sizeVarint_any (v : Int) (w : World) (h0 : 0 ≤ v) (h1 : v ≤ 18446744073709551615) :
    Calls Try.prog 27 #[.int .u64 v] w fun e w' => e = .returned (.int .i64 (vlen v.toNat)) ∧ w' = w := by
  have hf := vlen_formula v.toNat (by omega)
  have hb := bitLen_bd v.toNat (by omega) 64 (by omega)
  have hf' : Hid ((9 * Lib.bitLen v.toNat + 64) / 64 = vlen v.toNat) := hf
  clear hf
  go_enter Try.func27, Try.ntmps27
  go_wp2_with (go_at_call 43; refine (Try.bits_Len64 v _ h0 h1).mono ?_; rintro e w' ⟨rfl, rfl⟩)
  go_ret
  refine ⟨?_, rfl⟩
  rw [← hf'.out]
  simp
  omega

theorem sizeBytes_any (n : Nat) (w : World) (h1 : n ≤ 4294967296) :
    Calls Try.prog 28 #[.int .i64 n] w fun e w' => e = .returned (.int .i64 ((vlen n + n : Nat) : Int)) ∧ w' = w := by
  have hp := vlen_pos n (by omega)
  go_enter Try.func28, Try.ntmps28
  go_wp2_with fail
  refine (sizeVarint_any _ _ (by omega) (by omega)).mono ?_
  rintro e w' ⟨rfl, rfl⟩
  rw [Int.toNat_natCast]
  go_wp2_with fail
  go_ret
  exact ⟨by simp, rfl⟩

/-- zzVarLen. -/
theorem varLen_any (v : Nat) (w : World) (h1 : v < 18446744073709551616) :
    Calls Try.prog 26 #[.int .u64 v] w fun e w' => e = .returned (.int .i64 (vlen v)) ∧ w' = w := by
  have hp := vlen_pos v h1
  go_enter Try.func26, Try.ntmps26
  go_wp2
  go_loop [0, 3] (fun s i => ∃ (u f k : Nat), s = .int .u64 u ∧ i = .int .i64 k ∧ u < 18446744073709551616 ∧ k ≤ 10 ∧ Hid (u < 128 ^ (f + 1)) ∧ Hid (k + (varF f u).length = vlen v + 1)) (fun s _ => (intOf s).toNat)
  case atStart => exact ⟨v, 9, 1, rfl, rfl, h1, by omega, by simp only [Hid]; omega, by simp only [Hid, vlen, varint]; omega⟩
  case round =>
    obtain ⟨u, f, k, rfl, rfl, hu, hk, hf, hq⟩ := hrel
    by_cases hb : (128 : Int) ≤ u
    · obtain ⟨g, rfl⟩ : ∃ g, f = g + 1 := by
        cases f with
        | zero => have := hf.out; simp at this; omega
        | succ g => exact ⟨g, rfl⟩
      have hq2 : Hid (k + 1 + (varF g (u / 128)).length = vlen v + 1) := by
        have := hq.out
        rw [varF_big _ _ (by omega)] at this
        simp only [Hid]
        simp at this
        omega
      have hf2 : Hid (u / 128 < 128 ^ (g + 1)) := by
        have := hf.out
        simp only [Hid]
        rw [Nat.pow_succ] at this
        omega
      have hl : 1 ≤ (varF g (u / 128)).length := by
        cases g <;> simp [varF]
        split <;> simp
      have hk2 : k + 1 ≤ 10 := by have := hq2.out; omega
      clear hl
      go_wp2
      go_round
      case rel => exact ⟨u / 128, g, k + 1, by go_num, by go_num, by omega, by omega, hf2, hq2⟩
      case measure => simp [intOf]; omega
    · go_wp2
      go_ret
      have := hq.out
      rw [varF_small _ _ (by omega)] at this
      simp at this
      exact ⟨by rw [this]; rfl, rfl⟩

theorem varLen_int (v : Int) (w : World) (h0 : 0 ≤ v) (h1 : v < 18446744073709551616) :
    Calls Try.prog 26 #[.int .u64 v] w fun e w' => e = .returned (.int .i64 (vlen v.toNat)) ∧ w' = w := by
  have := varLen_any v.toNat w (by omega)
  rwa [Int.toNat_of_nonneg h0] at this

/-- zzInner: the payload's length, read off the whole. -/
theorem inner_any (L : Nat) (w : World) (h1 : L ≤ 4294967296) (T : Nat) (hT : T = 1 + vlen L + L) :
    Calls Try.prog 10 #[.int .i64 T] w fun e w' => e = .returned (.int .i64 L) ∧ w' = w := by
  have hp := vlen_pos L (by omega)
  have HT : Hid (T = 1 + vlen L + L) := hT
  have hT1 : T ≤ 8589934592 := by omega
  clear hT
  go_enter Try.func10, Try.ntmps10
  go_wp2
  go_loop [3] (fun i => ∃ (k : Nat), 1 ≤ k ∧ i = .int .i64 k ∧ Hid (k ≤ vlen L) ∧ k ≤ 10) (fun i => 11 - (intOf i).toNat)
  case atStart => exact ⟨1, by omega, rfl, hp.1, by omega⟩
  case round =>
    obtain ⟨k, hk0, rfl, hkv, hk⟩ := hrel
    have hge : (k : Int) ≤ (T : Int) - 1 := by have := HT.out; have := hkv.out; omega
    by_cases hkk : k = vlen L
    · have hkk' : Hid (k = vlen L) := hkk
      have hlL : Hid ((T : Int) - 1 - k = L) := by have := HT.out; simp only [Hid]; omega
      have hvl : Hid (((vlen ((T : Int) - 1 - k).toNat : Nat) : Int) = k) := by
        simp only [Hid]; rw [hlL.out, Int.toNat_natCast, hkk]
      clear hkk
      go_wp2_with fail
      refine (varLen_int _ _ (by omega) (by omega)).mono ?_
      rintro e w' ⟨rfl, rfl⟩
      rw [hvl.out]
      go_wp2_with fail
      go_ret
      refine ⟨?_, rfl⟩
      rw [← hlL.out]
      rfl
    · have hvl : Hid ((((vlen ((T : Int) - 1 - k).toNat : Nat) : Int) == (k : Int)) = false) := by
        have h2 := HT.out
        have h3 := hkv.out
        have h4 := vlen_mono L ((T : Int) - 1 - k).toNat (by omega) (by omega)
        simp only [Hid, beq_eq_false_iff_ne]
        omega
      have hk9 : k + 1 ≤ 10 := by have := hkv.out; omega
      have hkv' : Hid (k + 1 ≤ vlen L) := by have := hkv.out; simp only [Hid]; omega
      clear hkk
      go_wp2_with fail
      refine (varLen_int _ _ (by omega) (by omega)).mono ?_
      rintro e w' ⟨rfl, rfl⟩
      have hvl' := hvl.out
      generalize ((vlen ((T : Int) - 1 - k).toNat : Nat) : Int) = q at hvl' ⊢
      go_wp2_with fail
      go_round
      case rel => exact ⟨k + 1, by omega, by go_num, hkv', hk9⟩
      case measure => simp [intOf]; omega
end Go.Proofs.Qxb6613122a
