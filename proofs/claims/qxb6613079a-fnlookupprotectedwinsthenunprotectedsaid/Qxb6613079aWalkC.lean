/-
  THE WALK of zzBuildEntries.
-/
import Derived.Test.Qxb6613079aWalkB
import Derived.Deep.RegionWith
import Derived.Deep.QuietTactic
import Derived.BigQuiet
namespace Go.Proofs.Qxb6613079a
open Go.RowKit
set_option linter.unusedSimpArgs false
set_option linter.unusedVariables false

theorem upd_last (L : Nat → Int) (T : Nat → ByteArray) (k : Nat) : upd (fun l => lastOf L T l k) (L k) (T k) = fun l => lastOf L T l (k + 1) := by
  funext l
  simp only [upd, lastOf, eq_comm]

theorem Msg.drew {w : World} {base B r1 r2 : Nat} {g1 g2 : Int → Option ByteArray} (h : Msg w base B r1 r2 g1 g2) : Msg w.drew base B r1 r2 g1 g2 := ⟨h.c2, h.c3, h.m1, h.m2, h.ne, h.b1, h.b2, h.bB⟩

theorem EntsAt.below {w w' : World} {a : Option Addr} {n : Nat} {L : Nat → Int} {T : Nat → ByteArray} (h : EntsAt w a n L T) (hb : Below w.heap.size w w') : EntsAt w' a n L T := by
  obtain ⟨hn, hc⟩ := h
  refine ⟨hn, fun h0 => ?_⟩
  obtain ⟨b, off, ha, hlt, hcell⟩ := hc h0
  refine ⟨b, off, ha, Nat.lt_of_lt_of_le hlt hb.size, fun i hi => ?_⟩
  obtain ⟨h1, h2, h3⟩ := hcell i hi
  exact ⟨(hb.cell (p := ⟨b, off + i * 2, none⟩) hlt).trans h1, (hb.cell (p := ⟨b, off + i * 2 + 1, none⟩) hlt).trans h2, h3⟩

set_option maxHeartbeats 1000000 in
theorem build_any (a : Option Addr) (n cap : Nat) (L : Nat → Int) (T : Nat → ByteArray) (a' : Option Addr) (n' cap' : Nat) (L' : Nat → Int) (T' : Nat → ByteArray) (w : World) (he : EntsAt w a n L T) (he' : EntsAt w a' n' L' T') :
    Calls Try.prog 13 #[.slice a n cap, .slice a' n' cap'] w fun e w' => ∃ B r1 r2, e = .returned (.pointer (some ⟨B, 0, none⟩)) ∧
      Msg w' w.heap.size B r1 r2 (fun l => lastOf L T l n) (fun l => lastOf L' T' l n') ∧ Below w.heap.size w w' := by
  go_enter Try.func13, Try.ntmps13
  go_wp2_with fail
  refine (newSign1_any _).mono ?_
  rintro e w1 ⟨B, r1, r2, rfl, hM, hB⟩
  go_wp2_with fail
  go_loopw [6] (fun i wr => ∃ k : Nat, k ≤ n ∧ i = .int .i64 k ∧ Msg wr w.heap.size B r1 r2 (fun l => lastOf L T l k) (fun _ => none) ∧ Below w.heap.size w wr) (fun i _ => n - (intOf i).toNat)
  case atStart => exact ⟨0, Nat.zero_le _, rfl, hM, hB⟩
  case round =>
    clear hM hB
    obtain ⟨k, hk, rfl, hM, hB⟩ := hrel
    have hn := he.1
    have hn' := he'.1
    unfold maxLen at hn hn'
    by_cases hlt : k < n
    · obtain ⟨-, hc⟩ := he.below hB
      obtain ⟨b, off, rfl, hb, hc⟩ := hc (by omega)
      obtain ⟨hcell0, hcell, hsz⟩ := hc k hlt
      clear hc he he'
      have hlt' : (k : Int) < n := by omega
      go_wp2_with fail
      go_region_with (go_at_call 27; refine (putP_any w.heap.size B r1 r2 (fun l => lastOf L T l k) (fun _ => none) (L k) (T k) _ hM.drew).mono ?_; rintro e w2 ⟨rfl, hM2, hB2⟩)
      all_goals
        rw [upd_last] at hM2
        go_wp2
        go_roundw
        case rel => exact ⟨k + 1, by omega, by go_num, hM2, hB.drew.trans hB2⟩
        case measure => simp [intOf]; omega
    · have hkn : k = n := by omega
      subst hkn
      clear he
      go_wp2_with fail
      go_loopw [7] (fun i wq => ∃ j : Nat, j ≤ n' ∧ i = .int .i64 j ∧ Msg wq w.heap.size B r1 r2 (fun l => lastOf L T l k) (fun l => lastOf L' T' l j) ∧ Below w.heap.size w wq) (fun i _ => n' - (intOf i).toNat)
      case atStart => exact ⟨0, Nat.zero_le _, rfl, hM, hB⟩
      case round =>
        clear hM hB
        obtain ⟨j, hj, rfl, hM, hB⟩ := hrel
        by_cases hlt : j < n'
        · obtain ⟨-, hc⟩ := he'.below hB
          obtain ⟨b, off, rfl, hb, hc⟩ := hc (by omega)
          obtain ⟨hcell0, hcell, hsz⟩ := hc j hlt
          clear hc he'
          have hlt' : (j : Int) < n' := by omega
          go_wp2_with fail
          go_region_with (go_at_call 15; refine (putU_any w.heap.size B r1 r2 (fun l => lastOf L T l k) (fun l => lastOf L' T' l j) (L' j) (T' j) _ hM.drew).mono ?_; rintro e w2 ⟨rfl, hM2, hB2⟩)
          all_goals
            rw [upd_last] at hM2
            go_wp2
            go_roundw
            case rel => exact ⟨j + 1, by omega, by go_num, hM2, hB.drew.trans hB2⟩
            case measure => simp [intOf]; omega
        · have hjn : j = n' := by omega
          subst hjn
          go_wp2
          go_ret
          exact ⟨B, r1, r2, rfl, hM, hB⟩
end Go.Proofs.Qxb6613079a
