/-
  THE WALKS: what only reads: zzBytes.., zzAdd, zzPairBytes, zzFirst.
-/
import Derived.Test.Qxb6613313aRows
import Derived.WalkKit
import Derived.WalkSpells
import Derived.WalkLawsBesides
import Derived.Deep.DeepFit
import Derived.Deep.QuietTactic
import Derived.BigQuiet
namespace Go.Proofs.Qxb6613313a
open Go.RowKit
set_option linter.unusedSimpArgs false
set_option linter.unusedVariables false

structure PairCells (w : World) (b off : Nat) (s : ByteArray) (x : Int) : Prop where
  c0 : w.cell? ⟨b, off, none⟩ = some (.string s)
  c1 : w.cell? ⟨b, off + 1, none⟩ = some (.int .i64 x)
  ok : s.size ≤ maxLen

/-- A slice of pairs in memory: names N, values V. -/
def PairsAt (w : World) (a : Option Addr) (n : Nat) (N : Nat → ByteArray) (V : Nat → Int) : Prop :=
  n ≤ maxLen ∧ (0 < n → ∃ b off, a = some ⟨b, off, none⟩ ∧ b < w.heap.size ∧ ∀ i, i < n → PairCells w b (off + i * 2) (N i) (V i))

/-- It returns some bool. -/
def RetBool (e : Ending) : Prop := ∃ r : Bool, e = .returned (.bool r)

set_option maxHeartbeats 2000000 in
theorem bytes7_any (a : Option Addr) (n cap : Nat) (N : Nat → ByteArray) (V : Nat → Int) (s : ByteArray) (v k0 : Int) (w : World) (he : PairsAt w a n N V) (hs : s.size ≤ maxLen) :
    Calls Try.prog 7 #[.slice a n cap, .string s, .int .i64 v, .int .i64 k0] w fun e w' => RetBool e ∧ w' = w := by
  obtain ⟨hn, hc⟩ := he
  unfold maxLen at hn hs
  go_enter Try.func7, Try.ntmps7
  go_wp2
  all_goals try (go_ret; exact ⟨⟨_, rfl⟩, rfl⟩)
  go_loop [9, 10] (fun s i => ∃ (k : Nat) (u : Int), k ≤ n ∧ i = .int .i64 k ∧ s = .int .i64 u ∧ 0 ≤ u ∧ u ≤ 1048576) (fun _ i => n - (intOf i).toNat)
  case atStart => exact ⟨0, _, Nat.zero_le _, rfl, rfl, by omega, by omega⟩
  case round =>
    obtain ⟨k, u, hk, rfl, rfl, hu0, hu1⟩ := hrel
    by_cases hlt : k < n
    · obtain ⟨b, off, rfl, hb, hc⟩ := hc (by omega)
      have hi := hc k hlt
      have hcell := hi.c0
      have hsz := hi.ok
      unfold maxLen at hsz
      clear hc hi
      go_wp2
      · go_ret
        exact ⟨⟨_, rfl⟩, rfl⟩
      · go_ret
        exact ⟨⟨_, rfl⟩, rfl⟩
      · go_round
        case rel => exact ⟨k + 1, _, by omega, by go_num, rfl, by omega, by omega⟩
        case measure => simp [intOf]; omega
    · clear hc
      go_wp2
      all_goals
        go_ret
        exact ⟨⟨_, rfl⟩, rfl⟩

/-- What zzAdd answers. -/
def AddRet (x wd : Int) (e : Ending) : Prop := ∃ (t' : Int) (r : Bool), e = .returned (.tuple #[.int .i64 t', .bool r]) ∧ 0 ≤ t' ∧ t' ≤ 1048576 ∧ (r = true → x * wd ≤ 1048576)

theorem add24 (t x : Int) (w : World) (h0 : 0 ≤ t) (h1 : t ≤ 1048576) (hx : 0 ≤ x) (hx2 : x ≤ 9223372036854775807) :
    Calls Try.prog 9 #[.int .i64 t, .int .i64 x, .int .i64 24] w fun e w' => AddRet x 24 e ∧ w' = w := by
  go_enter Try.func9, Try.ntmps9
  go_wp2
  · go_ret2
    exact ⟨⟨_, _, rfl, by omega, by omega, fun h => by cases h⟩, rfl⟩
  · go_ret2
    exact ⟨⟨_, _, rfl, by omega, by omega, fun _ => by omega⟩, rfl⟩

theorem add1 (t x : Int) (w : World) (h0 : 0 ≤ t) (h1 : t ≤ 1048576) (hx : 0 ≤ x) (hx2 : x ≤ 9223372036854775807) :
    Calls Try.prog 9 #[.int .i64 t, .int .i64 x, .int .i64 1] w fun e w' => AddRet x 1 e ∧ w' = w := by
  go_enter Try.func9, Try.ntmps9
  go_wp2
  · go_ret2
    exact ⟨⟨_, _, rfl, by omega, by omega, fun h => by cases h⟩, rfl⟩
  · go_ret2
    exact ⟨⟨_, _, rfl, by omega, by omega, fun _ => by omega⟩, rfl⟩

/-- What zzPairBytes answers. -/
def PairRet (n : Nat) (e : Ending) : Prop := ∃ (t' : Int) (r : Bool), e = .returned (.tuple #[.int .i64 t', .bool r]) ∧ 0 ≤ t' ∧ t' ≤ 1048576 ∧ (r = true → (n : Int) * 24 ≤ 1048576)

set_option maxHeartbeats 1000000 in
theorem pairBytes_any (a : Option Addr) (n cap : Nat) (N : Nat → ByteArray) (V : Nat → Int) (w : World) (he : PairsAt w a n N V) :
    Calls Try.prog 8 #[.slice a n cap, .int .i64 0] w fun e w' => PairRet n e ∧ w' = w := by
  obtain ⟨hn, hc⟩ := he
  unfold maxLen at hn
  go_enter Try.func8, Try.ntmps8
  go_wp2_with fail
  go_fit (add24 0 n _ (by omega) (by omega) (by omega) (by omega))
  rintro e w ⟨⟨t, r, rfl, ht0, ht1, hr⟩, rfl⟩
  cases r with
  | false =>
    go_wp2_with fail
    go_ret2
    exact ⟨⟨_, _, rfl, by omega, by omega, fun h => by cases h⟩, rfl⟩
  | true =>
  have HR := hr rfl
  clear hr
  go_wp2_with fail
  go_loop [6, 8] (fun s i => ∃ (k : Nat) (u : Int), k ≤ n ∧ i = .int .i64 k ∧ s = .int .i64 u ∧ 0 ≤ u ∧ u ≤ 1048576) (fun _ i => n - (intOf i).toNat)
  case atStart => exact ⟨0, _, Nat.zero_le _, rfl, rfl, by omega, by omega⟩
  case round =>
    obtain ⟨k, u, hk, rfl, rfl, hu0, hu1⟩ := hrel
    by_cases hlt : k < n
    · obtain ⟨b, off, rfl, hb, hc⟩ := hc (by omega)
      have hi := hc k hlt
      have hcell := hi.c0
      have hsz := hi.ok
      unfold maxLen at hsz
      clear hc hi
      go_wp2_with fail
      go_fit (add1 u _ _ (by omega) (by omega) (by omega) (by omega))
      rintro e w ⟨⟨t', r, rfl, ht0, ht1, hr⟩, rfl⟩
      clear hr
      cases r with
      | false =>
        go_wp2_with fail
        go_ret2
        exact ⟨⟨_, _, rfl, by omega, by omega, fun h => by cases h⟩, rfl⟩
      | true =>
        go_wp2_with fail
        go_round
        case rel => exact ⟨k + 1, _, by omega, by go_num, rfl, by omega, by omega⟩
        case measure => simp [intOf]; omega
    · clear hc
      go_wp2_with fail
      go_ret2
      exact ⟨⟨_, _, rfl, by omega, by omega, fun _ => HR⟩, rfl⟩

/-- k is the first place (of n) where the name stands; n if there is none. -/
structure IsFirst (N : Nat → ByteArray) (s : ByteArray) (n k : Nat) : Prop where
  le : k ≤ n
  ne : ∀ i, i < k → N i ≠ s
  eq : k < n → N k = s

theorem exists_first (N : Nat → ByteArray) (s : ByteArray) : ∀ n, ∃ k, IsFirst N s n k
  | 0 => ⟨0, Nat.le_refl _, fun i hi => absurd hi (by omega), fun h => absurd h (by omega)⟩
  | n + 1 => by
    obtain ⟨k, h1, h2, h3⟩ := exists_first N s n
    rcases Nat.lt_or_ge k n with h | h
    · exact ⟨k, by omega, h2, fun _ => h3 h⟩
    · have hk : k = n := by omega
      subst hk
      by_cases hs : N k = s
      · exact ⟨k, by omega, h2, fun _ => hs⟩
      · refine ⟨k + 1, Nat.le_refl _, fun i hi => ?_, fun h => absurd h (by omega)⟩
        rcases Nat.lt_or_ge i k with h4 | h4
        · exact h2 i h4
        · have : i = k := by omega
          rw [this]; exact hs

theorem str_eq (a : ByteArray) : (a.toList == a.toList) = true := by simp
theorem toList_inj {a b : ByteArray} (h : a.toList = b.toList) : a = b := by
  rw [ByteArray.toList_eq, ByteArray.toList_eq] at h
  cases a; cases b
  congr
  exact Array.toList_inj.1 h
theorem str_ne {a b : ByteArray} (h : a ≠ b) : (a.toList == b.toList) = false := by
  rw [beq_eq_false_iff_ne]
  exact fun e => h (toList_inj e)

/-- What zzFirst answers. -/
def fidx (n k : Nat) : Int := if k < n then (k : Int) else -1

set_option maxHeartbeats 1000000 in
theorem first_any (a : Option Addr) (n cap : Nat) (N : Nat → ByteArray) (V : Nat → Int) (s : ByteArray) (k : Nat) (w : World) (he : PairsAt w a n N V) (hk : IsFirst N s n k) :
    Calls Try.prog 12 #[.slice a n cap, .string s] w fun e w' => e = .returned (.int .i64 (fidx n k)) ∧ w' = w := by
  obtain ⟨hn, hc⟩ := he
  unfold maxLen at hn
  obtain ⟨hle, hne, heq⟩ := hk
  go_enter Try.func12, Try.ntmps12
  go_wp2_with fail
  go_loop [5] (fun i => ∃ (j : Nat), j ≤ k ∧ i = .int .i64 j) (fun i => n - (intOf i).toNat)
  case atStart => exact ⟨0, Nat.zero_le _, rfl⟩
  case round =>
    obtain ⟨j, hj, rfl⟩ := hrel
    by_cases hlt : j < n
    · obtain ⟨b, off, rfl, hb, hc⟩ := hc (by omega)
      have hcell := (hc j hlt).c0
      by_cases hjk : j < k
      · have hns := str_ne (hne j hjk)
        clear hne heq hc
        go_wp2_with fail
        go_round
        case rel => exact ⟨j + 1, by omega, by go_num⟩
        case measure => simp [intOf]; omega
      · have hjk' : j = k := by omega
        subst hjk'
        have hns : ((N j).toList == s.toList) = true := by rw [heq hlt]; exact str_eq s
        have hf : fidx n j = j := by simp [fidx, hlt]
        clear hne heq hc
        go_wp2_with fail
        go_ret
        exact ⟨by first | rfl | rw [hf], rfl⟩
    · clear hc hne heq
      have hf : fidx n k = -1 := by simp [fidx]; omega
      go_wp2_with fail
      go_ret
      exact ⟨by first | rfl | rw [hf], rfl⟩

set_option maxHeartbeats 2000000 in
theorem bytes19_any (a : Option Addr) (n cap : Nat) (N : Nat → ByteArray) (V : Nat → Int) (s : ByteArray) (v : Int) (s2 : ByteArray) (v2 : Int) (w : World) (he : PairsAt w a n N V) (hs : s.size ≤ maxLen) (hs2 : s2.size ≤ maxLen) :
    Calls Try.prog 19 #[.slice a n cap, .string s, .int .i64 v, .string s2, .int .i64 v2] w fun e w' => RetBool e ∧ w' = w := by
  obtain ⟨hn, hc⟩ := he
  unfold maxLen at hn hs hs2
  go_enter Try.func19, Try.ntmps19
  go_wp2
  all_goals try (go_ret; exact ⟨⟨_, rfl⟩, rfl⟩)
  go_loop [11, 12] (fun s i => ∃ (k : Nat) (u : Int), k ≤ n ∧ i = .int .i64 k ∧ s = .int .i64 u ∧ 0 ≤ u ∧ u ≤ 1048576) (fun _ i => n - (intOf i).toNat)
  case atStart => exact ⟨0, _, Nat.zero_le _, rfl, rfl, by omega, by omega⟩
  case round =>
    obtain ⟨k, u, hk, rfl, rfl, hu0, hu1⟩ := hrel
    by_cases hlt : k < n
    · obtain ⟨b, off, rfl, hb, hc⟩ := hc (by omega)
      have hi := hc k hlt
      have hcell := hi.c0
      have hsz := hi.ok
      unfold maxLen at hsz
      clear hc hi
      go_wp2
      · go_ret
        exact ⟨⟨_, rfl⟩, rfl⟩
      · go_ret
        exact ⟨⟨_, rfl⟩, rfl⟩
      · go_round
        case rel => exact ⟨k + 1, _, by omega, by go_num, rfl, by omega, by omega⟩
        case measure => simp [intOf]; omega
    · clear hc
      go_wp2
      all_goals
        go_ret
        exact ⟨⟨_, rfl⟩, rfl⟩
end Go.Proofs.Qxb6613313a
