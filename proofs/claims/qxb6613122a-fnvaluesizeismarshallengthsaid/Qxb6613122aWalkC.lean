/-
  THE WALKS: sizes: (*Value).Size, (*ListValue).Size.
-/
import Derived.Test.Qxb6613122aWalkB
namespace Go.Proofs.Qxb6613122a
open Go.RowKit
set_option linter.unusedSimpArgs false
set_option linter.unusedVariables false

/-! ### What an assertion on a Value's kind answers -/
theorem ta57_57 (v : Value) (w : World) : (Instr.typeAssert (.iface 57 v) 54 57 true).run Try.prog w = .ok (.tuple #[v, .bool true]) w := by kernel_rfl
theorem ta57_62 (v : Value) (w : World) : (Instr.typeAssert (.iface 57 v) 54 62 true).run Try.prog w = .ok (.tuple #[.pointer none, .bool false]) w := by kernel_rfl
theorem ta57_64 (v : Value) (w : World) : (Instr.typeAssert (.iface 57 v) 54 64 true).run Try.prog w = .ok (.tuple #[.pointer none, .bool false]) w := by kernel_rfl
theorem ta57_68 (v : Value) (w : World) : (Instr.typeAssert (.iface 57 v) 54 68 true).run Try.prog w = .ok (.tuple #[.pointer none, .bool false]) w := by kernel_rfl
theorem ta57_70 (v : Value) (w : World) : (Instr.typeAssert (.iface 57 v) 54 70 true).run Try.prog w = .ok (.tuple #[.pointer none, .bool false]) w := by kernel_rfl
theorem ta57_50 (v : Value) (w : World) : (Instr.typeAssert (.iface 57 v) 54 50 true).run Try.prog w = .ok (.tuple #[.pointer none, .bool false]) w := by kernel_rfl
theorem ta62_57 (v : Value) (w : World) : (Instr.typeAssert (.iface 62 v) 54 57 true).run Try.prog w = .ok (.tuple #[.pointer none, .bool false]) w := by kernel_rfl
theorem ta62_62 (v : Value) (w : World) : (Instr.typeAssert (.iface 62 v) 54 62 true).run Try.prog w = .ok (.tuple #[v, .bool true]) w := by kernel_rfl
theorem ta62_64 (v : Value) (w : World) : (Instr.typeAssert (.iface 62 v) 54 64 true).run Try.prog w = .ok (.tuple #[.pointer none, .bool false]) w := by kernel_rfl
theorem ta62_68 (v : Value) (w : World) : (Instr.typeAssert (.iface 62 v) 54 68 true).run Try.prog w = .ok (.tuple #[.pointer none, .bool false]) w := by kernel_rfl
theorem ta62_70 (v : Value) (w : World) : (Instr.typeAssert (.iface 62 v) 54 70 true).run Try.prog w = .ok (.tuple #[.pointer none, .bool false]) w := by kernel_rfl
theorem ta62_50 (v : Value) (w : World) : (Instr.typeAssert (.iface 62 v) 54 50 true).run Try.prog w = .ok (.tuple #[.pointer none, .bool false]) w := by kernel_rfl
theorem ta64_57 (v : Value) (w : World) : (Instr.typeAssert (.iface 64 v) 54 57 true).run Try.prog w = .ok (.tuple #[.pointer none, .bool false]) w := by kernel_rfl
theorem ta64_62 (v : Value) (w : World) : (Instr.typeAssert (.iface 64 v) 54 62 true).run Try.prog w = .ok (.tuple #[.pointer none, .bool false]) w := by kernel_rfl
theorem ta64_64 (v : Value) (w : World) : (Instr.typeAssert (.iface 64 v) 54 64 true).run Try.prog w = .ok (.tuple #[v, .bool true]) w := by kernel_rfl
theorem ta64_68 (v : Value) (w : World) : (Instr.typeAssert (.iface 64 v) 54 68 true).run Try.prog w = .ok (.tuple #[.pointer none, .bool false]) w := by kernel_rfl
theorem ta64_70 (v : Value) (w : World) : (Instr.typeAssert (.iface 64 v) 54 70 true).run Try.prog w = .ok (.tuple #[.pointer none, .bool false]) w := by kernel_rfl
theorem ta64_50 (v : Value) (w : World) : (Instr.typeAssert (.iface 64 v) 54 50 true).run Try.prog w = .ok (.tuple #[.pointer none, .bool false]) w := by kernel_rfl
theorem ta68_57 (v : Value) (w : World) : (Instr.typeAssert (.iface 68 v) 54 57 true).run Try.prog w = .ok (.tuple #[.pointer none, .bool false]) w := by kernel_rfl
theorem ta68_62 (v : Value) (w : World) : (Instr.typeAssert (.iface 68 v) 54 62 true).run Try.prog w = .ok (.tuple #[.pointer none, .bool false]) w := by kernel_rfl
theorem ta68_64 (v : Value) (w : World) : (Instr.typeAssert (.iface 68 v) 54 64 true).run Try.prog w = .ok (.tuple #[.pointer none, .bool false]) w := by kernel_rfl
theorem ta68_68 (v : Value) (w : World) : (Instr.typeAssert (.iface 68 v) 54 68 true).run Try.prog w = .ok (.tuple #[v, .bool true]) w := by kernel_rfl
theorem ta68_70 (v : Value) (w : World) : (Instr.typeAssert (.iface 68 v) 54 70 true).run Try.prog w = .ok (.tuple #[.pointer none, .bool false]) w := by kernel_rfl
theorem ta68_50 (v : Value) (w : World) : (Instr.typeAssert (.iface 68 v) 54 50 true).run Try.prog w = .ok (.tuple #[.pointer none, .bool false]) w := by kernel_rfl
theorem ta50_57 (v : Value) (w : World) : (Instr.typeAssert (.iface 50 v) 54 57 true).run Try.prog w = .ok (.tuple #[.pointer none, .bool false]) w := by kernel_rfl
theorem ta50_62 (v : Value) (w : World) : (Instr.typeAssert (.iface 50 v) 54 62 true).run Try.prog w = .ok (.tuple #[.pointer none, .bool false]) w := by kernel_rfl
theorem ta50_64 (v : Value) (w : World) : (Instr.typeAssert (.iface 50 v) 54 64 true).run Try.prog w = .ok (.tuple #[.pointer none, .bool false]) w := by kernel_rfl
theorem ta50_68 (v : Value) (w : World) : (Instr.typeAssert (.iface 50 v) 54 68 true).run Try.prog w = .ok (.tuple #[.pointer none, .bool false]) w := by kernel_rfl
theorem ta50_70 (v : Value) (w : World) : (Instr.typeAssert (.iface 50 v) 54 70 true).run Try.prog w = .ok (.tuple #[.pointer none, .bool false]) w := by kernel_rfl
theorem ta50_50 (v : Value) (w : World) : (Instr.typeAssert (.iface 50 v) 54 50 true).run Try.prog w = .ok (.tuple #[v, .bool true]) w := by kernel_rfl
theorem ta0_57 (w : World) : (Instr.typeAssert .nilIface 54 57 true).run Try.prog w = .ok (.tuple #[.pointer none, .bool false]) w := by kernel_rfl
theorem ta0_62 (w : World) : (Instr.typeAssert .nilIface 54 62 true).run Try.prog w = .ok (.tuple #[.pointer none, .bool false]) w := by kernel_rfl
theorem ta0_64 (w : World) : (Instr.typeAssert .nilIface 54 64 true).run Try.prog w = .ok (.tuple #[.pointer none, .bool false]) w := by kernel_rfl
theorem ta0_68 (w : World) : (Instr.typeAssert .nilIface 54 68 true).run Try.prog w = .ok (.tuple #[.pointer none, .bool false]) w := by kernel_rfl
theorem ta0_70 (w : World) : (Instr.typeAssert .nilIface 54 70 true).run Try.prog w = .ok (.tuple #[.pointer none, .bool false]) w := by kernel_rfl
theorem ta0_50 (w : World) : (Instr.typeAssert .nilIface 54 50 true).run Try.prog w = .ok (.tuple #[.pointer none, .bool false]) w := by kernel_rfl

theorem wrapN (n : Int) : IntKind.u64.wrap n = ((u64 n : Nat) : Int) := by
  rw [IntKind.wrap_u64, u64]
  omega

set_option maxRecDepth 100000 in
set_option maxHeartbeats 2000000 in
theorem size_any (q : Nat) (it : Item) (w : World) (h : ValAt w q it) (hok : ItemOk it) (hs : it.s.size ≤ 1048576) :
    Calls Try.prog 13 #[.pointer (some ⟨q, 0, none⟩)] w fun e w' => e = .returned (.int .i64 ((enc it).length : Nat)) ∧ w' = w := by
  obtain ⟨k0, k1, s1, b0, b1, n0, n1⟩ := hok
  obtain ⟨hu, h⟩ := h
  rcases h with ⟨hk, h2⟩ | ⟨hk, p, h2, h3⟩ | ⟨hk, p, h2, h3⟩ | ⟨hk, p, h2, h3⟩ | ⟨hk, p, h2, h3⟩
  · have hE : Hid ((enc it).length = 0) := by simp [Hid, enc, hk]
    clear hk
    have t57 := ta0_57
    have t62 := ta0_62
    have t64 := ta0_64
    have t68 := ta0_68
    have t70 := ta0_70
    have t50 := ta0_50
    go_enter Try.func13, Try.ntmps13
    go_wp2_with fail
    go_ret
    rw [hE.out]
    exact ⟨rfl, rfl⟩
  · have hE : Hid ((enc it).length = 1 + vlen (u64 it.null)) := by simp [Hid, enc, hk, varint_length]; omega
    have hp := vlen_pos (u64 it.null) (u64_lt _)
    clear hk
    have t57 := ta57_57
    have t62 := ta57_62
    have t64 := ta57_64
    have t68 := ta57_68
    have t70 := ta57_70
    have t50 := ta57_50
    go_enter Try.func13, Try.ntmps13
    go_wp2_with fail
    rw [wrapN]
    refine (sizeVarint_any _ _ (by omega) (by have := u64_lt it.null; omega)).mono ?_
    rintro e w' ⟨rfl, rfl⟩
    rw [Int.toNat_natCast]
    go_wp2_with fail
    go_ret
    rw [hE.out]
    exact ⟨by simp, rfl⟩
  · have hE : Hid ((enc it).length = 9) := by simp [Hid, enc, hk, le8_length]
    clear hk
    have t57 := ta62_57
    have t62 := ta62_62
    have t64 := ta62_64
    have t68 := ta62_68
    have t70 := ta62_70
    have t50 := ta62_50
    go_enter Try.func13, Try.ntmps13
    go_wp2_with fail
    go_ret
    rw [hE.out]
    exact ⟨rfl, rfl⟩
  · have hE : Hid ((enc it).length = 1 + (vlen it.s.size + it.s.size)) := by simp [Hid, enc, hk, varint_length, sbytes_length]; omega
    have hp := vlen_pos it.s.size (by omega)
    clear hk
    have t57 := ta64_57
    have t62 := ta64_62
    have t64 := ta64_64
    have t68 := ta64_68
    have t70 := ta64_70
    have t50 := ta64_50
    go_enter Try.func13, Try.ntmps13
    go_wp2_with fail
    refine (sizeBytes_any it.s.size _ (by omega)).mono ?_
    rintro e w' ⟨rfl, rfl⟩
    go_wp2_with fail
    go_ret
    rw [hE.out]
    exact ⟨by simp, rfl⟩
  · have hE : Hid ((enc it).length = 2) := by simp [Hid, enc, hk]
    clear hk
    have t57 := ta68_57
    have t62 := ta68_62
    have t64 := ta68_64
    have t68 := ta68_68
    have t70 := ta68_70
    have t50 := ta68_50
    go_enter Try.func13, Try.ntmps13
    go_wp2_with fail
    go_ret
    rw [hE.out]
    exact ⟨rfl, rfl⟩

/-- (*ListValue).Size. -/
theorem listSize_any (l g n : Nat) (Q : Nat → Nat) (I : Nat → Item) (w : World) (hv : w.cell? ⟨l, 0, none⟩ = some (.slice (some ⟨g, 0, none⟩) n n)) (hu : w.cell? ⟨l, 1, none⟩ = some (.slice none 0 0)) (h : ValsAt w g n Q I)
    (hok : ∀ i, i < n → ItemOk (I i)) (ht : tot I n ≤ 1048576) :
    Calls Try.prog 30 #[.pointer (some ⟨l, 0, none⟩)] w fun e w' => e = .returned (.int .i64 ((encSeg I 0 n).length : Nat)) ∧ w' = w := by
  have hn := tot_ge I n
  go_enter Try.func30, Try.ntmps30
  go_wp2_with fail
  go_outline
  go_loop [3, 19] (fun s i => ∃ k : Nat, k ≤ n ∧ i = .int .i64 k ∧ s = .int .i64 ((encSeg I 0 k).length : Nat)) (fun _ i => n - (intOf i).toNat)
  case atStart => exact ⟨0, Nat.zero_le _, rfl, rfl⟩
  case round =>
    obtain ⟨k, hk, rfl, rfl⟩ := hrel
    by_cases hlt : k < n
    · obtain ⟨hcell, hval⟩ := h k hlt
      have hlt' : (k : Int) < n := by omega
      have hti := tot_item I n k hlt
      have hel := enc_length (I k) (by omega)
      have hvl := vlen_pos (enc (I k)).length (by omega)
      have hsl := encSeg_length I n ht 0 (k + 1) (by omega)
      have hm := tot_mono I n (0 + (k + 1)) (by omega)
      have hE : Hid ((encSeg I 0 (k + 1)).length = (encSeg I 0 k).length + (1 + vlen (enc (I k)).length + (enc (I k)).length)) := by
        simp only [Hid, encSeg, List.length_append, rcd_eq_length, Nat.zero_add]
      have hb1 : (encSeg I 0 k).length ≤ 1048576 := by have := hE.out; omega
      have hb2 : (enc (I k)).length ≤ 1048576 := by omega
      have HL : Hid (tot I n ≤ 1048576) := ht
      clear h hti hsl hm hel
      go_wp2_with fail
      refine (size_any (Q k) (I k) _ hval (hok k hlt) (by have := HL.out; have := tot_item I n k hlt; omega)).mono ?_
      rintro e w' ⟨rfl, rfl⟩
      go_wp2_with fail
      refine (sizeVarint_any _ _ (by omega) (by omega)).mono ?_
      rintro e w' ⟨rfl, rfl⟩
      rw [Int.toNat_natCast]
      go_wp2_with fail
      go_round
      case rel => exact ⟨k + 1, by omega, by go_num, by rw [hE.out]; go_num⟩
      case measure => simp [intOf]; omega
    · have hkn : k = n := by omega
      subst hkn
      go_wp2_with fail
      go_ret
      exact ⟨rfl, rfl⟩
end Go.Proofs.Qxb6613122a
