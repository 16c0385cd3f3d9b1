/-
  THE WALKS: the functions that only read: zzAddEntries, zzAddText, zzBytes.., zzLastEntry.
-/
import Derived.Test.Qxb6613079aMaps
namespace Go.Proofs.Qxb6613079a
open Go.RowKit
set_option linter.unusedSimpArgs false
set_option linter.unusedVariables false

/-- What the cells of a slice of entries hold: entry i: label 'L i', text 'T i'. -/
def EntsAt (w : World) (a : Option Addr) (n : Nat) (L : Nat → Int) (T : Nat → ByteArray) : Prop :=
  n ≤ maxLen ∧ (0 < n → ∃ b off, a = some ⟨b, off, none⟩ ∧ b < w.heap.size ∧ ∀ i, i < n → w.cell? ⟨b, off + i * 2, none⟩ = some (.int .i64 (L i)) ∧ w.cell? ⟨b, off + i * 2 + 1, none⟩ = some (.string (T i)) ∧ (T i).size ≤ maxLen)

set_option maxHeartbeats 400000 in
theorem addEntries_any (a : Option Addr) (n cap : Nat) (L : Nat → Int) (T : Nat → ByteArray) (t : Int) (w : World) (he : EntsAt w a n L T) (h0 : 0 ≤ t) (h1 : t ≤ 1048576) :
    Calls Try.prog 10 #[.int .i64 t, .slice a n cap] w fun e w' => (∃ r : Int, e = .returned (.int .i64 r) ∧ 0 ≤ r) ∧ w' = w := by
  obtain ⟨hn, hc⟩ := he
  unfold maxLen at hn
  go_enter Try.func10, Try.ntmps10
  go_wp2
  go_loop [0, 5] (fun s i => ∃ (k : Nat) (u : Int), k ≤ n ∧ i = .int .i64 k ∧ s = .int .i64 u ∧ 0 ≤ u ∧ u ≤ 1048576) (fun _ i => n - (intOf i).toNat)
  case atStart => exact ⟨0, t, Nat.zero_le _, rfl, rfl, h0, h1⟩
  case round =>
    obtain ⟨k, u, hk, rfl, rfl, hu0, hu1⟩ := hrel
    by_cases hlt : k < n
    · obtain ⟨b, off, rfl, hb, hc⟩ := hc (by omega)
      obtain ⟨-, hcell, hsz⟩ := hc k hlt
      unfold maxLen at hsz
      clear hc
      go_wp2
      · go_ret
        exact ⟨⟨_, rfl, by omega⟩, rfl⟩
      · go_ret
        exact ⟨⟨_, rfl, by omega⟩, rfl⟩
      · go_round
        case rel => exact ⟨k + 1, _, by omega, by go_num, rfl, by omega, by omega⟩
        case measure => simp [intOf]; omega
    · clear hc
      go_wp2
      go_ret
      exact ⟨⟨_, rfl, hu0⟩, rfl⟩

theorem addText_any (s : ByteArray) (t : Int) (w : World) (hs : s.size ≤ maxLen) (h0 : 0 ≤ t) (h1 : t ≤ 1048576) :
    Calls Try.prog 11 #[.int .i64 t, .string s] w fun e w' => (∃ r : Int, e = .returned (.int .i64 r) ∧ 0 ≤ r) ∧ w' = w := by
  unfold maxLen at hs
  go_enter Try.func11, Try.ntmps11
  go_wp2
  all_goals
    go_ret
    exact ⟨⟨_, rfl, by omega⟩, rfl⟩

/-- It returns some bool. -/
def RetBool (e : Ending) : Prop := ∃ r : Bool, e = .returned (.bool r)

def lastOf (L : Nat → Int) (T : Nat → ByteArray) (l : Int) : Nat → Option ByteArray
  | 0 => none
  | k + 1 => if L k = l then some (T k) else lastOf L T l k

def lastStr (o : Option ByteArray) : ByteArray := o.getD ⟨#[]⟩

set_option maxHeartbeats 400000 in
theorem lastEntry_any (a : Option Addr) (n cap : Nat) (L : Nat → Int) (T : Nat → ByteArray) (l : Int) (w : World) (he : EntsAt w a n L T) :
    Calls Try.prog 12 #[.slice a n cap, .int .i64 l] w fun e w' => e = .returned (.tuple #[.string (lastStr (lastOf L T l n)), .bool (lastOf L T l n).isSome]) ∧ w' = w := by
  obtain ⟨hn, hc⟩ := he
  unfold maxLen at hn
  go_enter Try.func12, Try.ntmps12
  go_wp2
  go_loop [6] (fun i => ∃ (k : Nat), k ≤ n ∧ i = .int .i64 ((k : Int) - 1) ∧ Hid (lastOf L T l n = lastOf L T l k)) (fun i => (intOf i + 1).toNat)
  case atStart => exact ⟨n, Nat.le_refl _, rfl, rfl⟩
  case round =>
    obtain ⟨k, hk, rfl, hq⟩ := hrel
    cases k with
    | zero =>
      clear hc
      go_wp2
      go_ret2
      rw [hq.out]
      exact ⟨rfl, rfl⟩
    | succ k =>
      obtain ⟨b, off, rfl, hb, hc⟩ := hc (by omega)
      obtain ⟨hcell0, hcell, hsz⟩ := hc k (by omega)
      unfold maxLen at hsz
      clear hc
      go_wp2
      · have hh : L k = l := by simp_all
        go_ret2
        rw [hq.out]
        simp [lastOf, hh, lastStr]
      · have hh : ¬ L k = l := by simp_all
        go_round
        case rel => exact ⟨k, by omega, by go_num, hq.out.trans (by simp [lastOf, hh])⟩
        case measure => simp [intOf]

set_option maxHeartbeats 2000000 in
theorem bytesSwapped_any (a : Option Addr) (n cap : Nat) (L : Nat → Int) (T : Nat → ByteArray) (a' : Option Addr) (n' cap' : Nat) (L' : Nat → Int) (T' : Nat → ByteArray) (l : Int) (w : World) (he : EntsAt w a n L T) (he' : EntsAt w a' n' L' T') :
    Calls Try.prog 16 #[.slice a n cap, .slice a' n' cap', .int .i64 l] w fun e w' => RetBool e ∧ w' = w := by
  obtain ⟨hn, hc⟩ := he
  obtain ⟨hn', hc'⟩ := he'
  unfold maxLen at hn hn'
  by_cases hz : (1048576 : Int) < n
  · go_enter Try.func16, Try.ntmps16
    go_wp2
    go_ret
    exact ⟨⟨_, rfl⟩, rfl⟩
  go_enter Try.func16, Try.ntmps16
  go_wp2
  go_loop [7, 8] (fun s i => ∃ (k : Nat) (u : Int), k ≤ n ∧ i = .int .i64 k ∧ s = .int .i64 u ∧ 0 ≤ u ∧ u ≤ 1048576) (fun _ i => n - (intOf i).toNat)
  case atStart => exact ⟨0, n, Nat.zero_le _, rfl, rfl, by omega, by omega⟩
  case round =>
    obtain ⟨k, u, hk, rfl, rfl, hu0, hu1⟩ := hrel
    by_cases hlt : k < n
    · obtain ⟨b, off, rfl, hb, hc⟩ := hc (by omega)
      obtain ⟨-, hcell, hsz⟩ := hc k hlt
      unfold maxLen at hsz
      clear hc hc'
      go_wp2
      · go_ret
        exact ⟨⟨_, rfl⟩, rfl⟩
      · go_ret
        exact ⟨⟨_, rfl⟩, rfl⟩
      · go_round
        case rel => exact ⟨k + 1, _, by omega, by go_num, rfl, by omega, by omega⟩
        case measure => simp [intOf]; omega
    · clear hc
      by_cases hz' : (1048576 : Int) < n'
      · go_wp2
        go_ret
        exact ⟨⟨_, rfl⟩, rfl⟩
      by_cases hz2 : (1048576 : Int) < u + n'
      · go_wp2
        go_ret
        exact ⟨⟨_, rfl⟩, rfl⟩
      go_wp2
      go_loop [7, 9] (fun s i => ∃ (k : Nat) (u : Int), k ≤ n' ∧ i = .int .i64 k ∧ s = .int .i64 u ∧ 0 ≤ u ∧ u ≤ 1048576) (fun _ i => n' - (intOf i).toNat)
      case atStart => exact ⟨0, u + n', Nat.zero_le _, rfl, rfl, by omega, by omega⟩
      case round =>
        obtain ⟨k', u', hk', rfl, rfl, hu0', hu1'⟩ := hrel
        by_cases hlt' : k' < n'
        · obtain ⟨b', off', rfl, hb', hc'⟩ := hc' (by omega)
          obtain ⟨-, hcell', hsz'⟩ := hc' k' hlt'
          unfold maxLen at hsz'
          clear hc'
          go_wp2
          · go_ret
            exact ⟨⟨_, rfl⟩, rfl⟩
          · go_ret
            exact ⟨⟨_, rfl⟩, rfl⟩
          · go_round
            case rel => exact ⟨k' + 1, _, by omega, by go_num, rfl, by omega, by omega⟩
            case measure => simp [intOf]; omega
        · clear hc'
          go_wp2
          go_ret
          exact ⟨⟨_, rfl⟩, rfl⟩

set_option maxHeartbeats 2000000 in
theorem bytesWins_any (a : Option Addr) (n cap : Nat) (L : Nat → Int) (T : Nat → ByteArray) (a' : Option Addr) (n' cap' : Nat) (L' : Nat → Int) (T' : Nat → ByteArray) (l : Int) (x : ByteArray) (hx : x.size ≤ maxLen) (w : World) (he : EntsAt w a n L T) (he' : EntsAt w a' n' L' T') :
    Calls Try.prog 9 #[.slice a n cap, .slice a' n' cap', .int .i64 l, .string x] w fun e w' => RetBool e ∧ w' = w := by
  obtain ⟨hn, hc⟩ := he
  obtain ⟨hn', hc'⟩ := he'
  unfold maxLen at hn hn' hx
  by_cases hz : (1048576 : Int) < n
  · go_enter Try.func9, Try.ntmps9
    go_wp2
    go_ret
    exact ⟨⟨_, rfl⟩, rfl⟩
  go_enter Try.func9, Try.ntmps9
  go_wp2
  go_loop [9, 10] (fun s i => ∃ (k : Nat) (u : Int), k ≤ n ∧ i = .int .i64 k ∧ s = .int .i64 u ∧ 0 ≤ u ∧ u ≤ 1048576) (fun _ i => n - (intOf i).toNat)
  case atStart => exact ⟨0, n, Nat.zero_le _, rfl, rfl, by omega, by omega⟩
  case round =>
    obtain ⟨k, u, hk, rfl, rfl, hu0, hu1⟩ := hrel
    by_cases hlt : k < n
    · obtain ⟨b, off, rfl, hb, hc⟩ := hc (by omega)
      obtain ⟨-, hcell, hsz⟩ := hc k hlt
      unfold maxLen at hsz
      clear hc hc'
      go_wp2
      · go_ret
        exact ⟨⟨_, rfl⟩, rfl⟩
      · go_ret
        exact ⟨⟨_, rfl⟩, rfl⟩
      · go_round
        case rel => exact ⟨k + 1, _, by omega, by go_num, rfl, by omega, by omega⟩
        case measure => simp [intOf]; omega
    · clear hc
      by_cases hz' : (1048576 : Int) < n'
      · go_wp2
        go_ret
        exact ⟨⟨_, rfl⟩, rfl⟩
      by_cases hz2 : (1048576 : Int) < u + n'
      · go_wp2
        go_ret
        exact ⟨⟨_, rfl⟩, rfl⟩
      go_wp2
      go_loop [9, 11] (fun s i => ∃ (k : Nat) (u : Int), k ≤ n' ∧ i = .int .i64 k ∧ s = .int .i64 u ∧ 0 ≤ u ∧ u ≤ 1048576) (fun _ i => n' - (intOf i).toNat)
      case atStart => exact ⟨0, u + n', Nat.zero_le _, rfl, rfl, by omega, by omega⟩
      case round =>
        obtain ⟨k', u', hk', rfl, rfl, hu0', hu1'⟩ := hrel
        by_cases hlt' : k' < n'
        · obtain ⟨b', off', rfl, hb', hc'⟩ := hc' (by omega)
          obtain ⟨-, hcell', hsz'⟩ := hc' k' hlt'
          unfold maxLen at hsz'
          clear hc'
          go_wp2
          · go_ret
            exact ⟨⟨_, rfl⟩, rfl⟩
          · go_ret
            exact ⟨⟨_, rfl⟩, rfl⟩
          · go_round
            case rel => exact ⟨k' + 1, _, by omega, by go_num, rfl, by omega, by omega⟩
            case measure => simp [intOf]; omega
        · clear hc'
          go_wp2
          all_goals
            go_ret
            exact ⟨⟨_, rfl⟩, rfl⟩

end Go.Proofs.Qxb6613079a
