/-
  THE WALKS: zzClone, zzBytes_FnListValueMarshalToEndWritesEncoding.
-/
import Derived.Test.Qxb6613122aWalkL
import Derived.Test.Qxb6613122aGetB
namespace Go.Proofs.Qxb6613122a
open Go.RowKit
set_option linter.unusedSimpArgs false
set_option linter.unusedVariables false

theorem eqNil32 (a : Option Addr) (n c : Nat) (w : World) : (binOp .eql 32 (.slice a n c) (.slice none 0 0)).run Try.prog w = .ok (.bool a.isNone) w :=
  Lib.run_eql_slice_nil w 32 5 a n c 0 0 Try.underlying32

theorem clone_nil (w : World) : Calls Try.prog 24 #[.slice none 0 0] w fun e w' => e = .returned (.slice none 0 0) ∧ w' = w := by
  have hq := eqNil32 none 0 0
  go_enter Try.func24, Try.ntmps24
  go_wp2_with fail
  go_ret
  exact ⟨rfl, rfl⟩

set_option maxHeartbeats 1000000 in
theorem clone_some (ad : Addr) (n cap : Nat) (xs : List Int) (w : World) (hl : xs.length = n) (hn : n ≤ 4294967296) (hr : ∀ (j : Nat) (h : j < xs.length), w.cell? (ad.add j) = some (.int .u8 xs[j])) :
    Calls Try.prog 24 #[.slice (some ad) n cap] w fun e w' => e = .returned (.slice (some ⟨w.heap.size, 0, none⟩) n n) ∧ Buf w' w.heap.size xs ∧ Below w.heap.size w w' ∧ w.heap.size < w'.heap.size := by
  have hq := eqNil32 (some ad) n cap
  have hmk := make32 n hn
  obtain ⟨w1, hcp, hB1, hb1, hsz⟩ : ∃ w1, (∀ ty, (Builtin.copy_ #[32, 32] ty #[.slice (some ⟨w.heap.size, 0, none⟩) n n, .slice (some ad) n cap]).run Try.prog (w.alloc (mkBytes n)) = .ok (goInt n) w1) ∧ Buf w1 w.heap.size xs ∧ Below w.heap.size w w1 ∧ w.heap.size < w1.heap.size := by
    have hB := buf_made w n
    have hrun := fun ty => run_copy_row (P := Try.prog) (w.alloc (mkBytes n)) 32 32 ty 5 w.heap.size 0 n n ad n cap _ 5 (xs.map (Value.int .u8)) Try.underlying32 (by kernel_rfl) hB (by simp [hl]) (by
      intro j v hv
      rw [List.getElem?_map] at hv
      obtain ⟨y, hy, rfl⟩ := Option.map_eq_some_iff.1 hv
      obtain ⟨hj, rfl⟩ := List.getElem?_eq_some_iff.1 hy
      exact cells_below ((Below.refl _ _).alloc (Nat.le_refl _) _) _ _ (hr j hj)) (by simp [hl]) (bytes_one xs)
    have hlen : (xs.map (Value.int .u8)).length = n := by simp [hl]
    rw [hlen] at hrun
    refine ⟨_, hrun, ?_, ?_, ?_⟩
    · have := (wrote_row (cs := xs) hB).buf
      have e1 : (List.take 0 ((List.replicate n (0 : Int)).map (Value.int .u8)).toArray.toList ++ xs.map (Value.int .u8) ++ List.drop (0 + n) ((List.replicate n (0 : Int)).map (Value.int .u8)).toArray.toList) = xs.map (Value.int .u8) := by simp
      rw [e1]
      exact this
    · have h2 : Below w.heap.size w (w.alloc (mkBytes n)) := (Below.refl _ _).alloc (Nat.le_refl _) _
      exact h2.trans ⟨rfl, rfl, rfl, by simp, fun k hk => setRow_other _ _ k _ (by omega)⟩
    · simp
  have HB1 : Hid (Buf w1 w.heap.size xs ∧ Below w.heap.size w w1 ∧ w.heap.size < w1.heap.size) := ⟨hB1, hb1, hsz⟩
  clear hB1 hb1 hsz hr
  go_enter Try.func24, Try.ntmps24
  go_wp2_with fail
  go_ret
  exact ⟨rfl, HB1.out⟩

set_option maxHeartbeats 2000000 in
theorem bytes23_any (a : Option Addr) (n cap : Nat) (I : Nat → Item) (b : Option Addr) (nb cb : Nat) (w : World) (he : ItemsAt w a n I) (hnb : nb ≤ maxLen) :
    Calls Try.prog 23 #[.slice a n cap, .slice b nb cb] w fun e w' => RetBool e ∧ w' = w := by
  obtain ⟨hn, hc⟩ := he
  unfold maxLen at hn hnb
  by_cases hz : (1048576 : Int) < n
  · go_enter Try.func23, Try.ntmps23
    go_wp2
    go_ret
    exact ⟨⟨_, rfl⟩, rfl⟩
  go_enter Try.func23, Try.ntmps23
  go_wp2
  go_loop [5, 6] (fun s i => ∃ (k : Nat) (u : Int), k ≤ n ∧ i = .int .i64 k ∧ s = .int .i64 u ∧ 0 ≤ u ∧ u ≤ 1048576) (fun _ i => n - (intOf i).toNat)
  case atStart => exact ⟨0, n, Nat.zero_le _, rfl, rfl, by omega, by omega⟩
  case round =>
    obtain ⟨k, u, hk, rfl, rfl, hu0, hu1⟩ := hrel
    by_cases hlt : k < n
    · obtain ⟨b, off, rfl, hb, hc⟩ := hc (by omega)
      have hi := hc k hlt
      have hcell := hi.c2
      have hsz := hi.ok.s1
      unfold maxLen at hsz
      clear hc hi
      go_wp2
      · go_ret
        exact ⟨⟨_, rfl⟩, rfl⟩
      · go_ret
        exact ⟨⟨_, rfl⟩, rfl⟩
      · go_round
        case rel => exact ⟨k + 1, _, by omega, by go_num, rfl, by omega, by omega⟩
        case measure => simp [intOf]; omega
    · clear hc
      go_wp2
      all_goals
        go_ret
        exact ⟨⟨_, rfl⟩, rfl⟩
end Go.Proofs.Qxb6613122a
