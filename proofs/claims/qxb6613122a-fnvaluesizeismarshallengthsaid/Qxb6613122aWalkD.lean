/-
  THE WALKS: zzVarint, zzEncItem, zzEncList, zzEncValueList: the plain encoder.
-/
import Derived.Test.Qxb6613122aApp
namespace Go.Proofs.Qxb6613122a
open Go.RowKit
set_option linter.unusedSimpArgs false
set_option linter.unusedVariables false

theorem or128_fin : ∀ a : Fin 256, a.val ||| 128 = a.val % 128 + 128 := by decide +kernel

theorem vbyte (u : Nat) (hu : u < 18446744073709551616) : bits .or .u8 (bits .and .u64 (u : Int) 127 % 256) 128 = ((u % 128 + 128 : Nat) : Int) := by
  have h1 := bits_and_u64_nat u 127 hu (by decide)
  have h2 : u &&& 127 = u % 128 := Nat.and_two_pow_sub_one_eq_mod u 7
  have h3 : bits .and .u64 (u : Int) 127 % 256 = ((u % 128 : Nat) : Int) := by
    rw [show (127 : Int) = ((127 : Nat) : Int) from rfl, h1, h2]; omega
  rw [h3, u8_or128_right _ (by omega) (by omega)]
  omega

theorem vbyte' (u : Nat) (hu : u < 18446744073709551616) : bits .or .u8 ((u : Int) % 256) 128 = ((u % 128 + 128 : Nat) : Int) := by
  have h1 := u8_or_nat (u % 256) 128 (by omega) (by decide)
  have h2 := or128_fin ⟨u % 256, by omega⟩
  simp only at h2
  rw [show (u : Int) % 256 = ((u % 256 : Nat) : Int) by omega, show (128 : Int) = ((128 : Nat) : Int) from rfl, h1, h2]
  omega

set_option maxHeartbeats 1000000 in
theorem varint_any (out : Value) (bs : List Int) (v : Nat) (w : World) (h : Bytes w out bs) (hv : v < 18446744073709551616) (hb : bs.length ≤ 4294967296) :
    Calls Try.prog 31 #[out, .int .u64 v] w fun e w' => ∃ out', e = .returned out' ∧ Bytes w' out' (bs ++ varint v) ∧ App w out w' out' := by
  go_enter Try.func31, Try.ntmps31
  go_wp2
  go_loopw [0, 1] (fun o s wr => ∃ (u f : Nat) (ys : List Int), s = .int .u64 u ∧ u < 18446744073709551616 ∧ ys.length ≤ 10 ∧ Hid (u < 128 ^ (f + 1)) ∧ Hid (ys ++ varF f u = varint v) ∧ Bytes wr o (bs ++ ys) ∧ App w out wr o) (fun _ s _ => (intOf s).toNat)
  case atStart => exact ⟨v, 9, [], rfl, hv, by simp, by simp only [Hid]; omega, rfl, by simpa using h, App.refl _ _⟩
  case round =>
    obtain ⟨u, f, ys, rfl, hu, hy, hf, hq, hB, hA⟩ := hrel
    by_cases hb1 : (128 : Int) ≤ u
    · go_wp2_with (at_builtin; refine wpList_app1 rfl (.tmp 7) (.tmp 12) rfl _ (bs ++ ys) rfl hB _ _ rfl rfl ?hl ?_)
      case hl => simp; omega
      intro o1 w1 hB1 hA1
      rw [vbyte u hu] at hB1
      obtain ⟨g, rfl⟩ : ∃ g, f = g + 1 := by
        cases f with
        | zero => have := hf.out; simp at this; omega
        | succ g => exact ⟨g, rfl⟩
      have hq2 : Hid (ys ++ [((u % 128 + 128 : Nat) : Int)] ++ varF g (u / 128) = varint v) := by
        have := hq.out
        rw [varF_big _ _ (by omega)] at this
        simpa [Hid] using this
      have hf2 : Hid (u / 128 < 128 ^ (g + 1)) := by
        have := hf.out
        simp only [Hid]
        rw [Nat.pow_succ] at this
        omega
      have hl : 1 ≤ (varF g (u / 128)).length := by
        cases g <;> simp [varF]
        split <;> simp
      have hy2 : (ys ++ [((u % 128 + 128 : Nat) : Int)]).length ≤ 10 := by
        have h1 := congrArg List.length hq2.out
        have h2 := vlen_pos v hv
        rw [List.length_append, varint_length] at h1
        omega
      clear hl
      go_wp2_with fail
      go_roundw
      case rel => exact ⟨u / 128, g, _, by go_num, by omega, hy2, hf2, hq2, by rw [← List.append_assoc] at hB1 ⊢; exact hB1, hA.trans hA1⟩
      case measure => simp [intOf]; omega
    · go_wp2_with (at_builtin; refine wpList_app1 rfl (.tmp 16) (.tmp 19) rfl _ (bs ++ ys) rfl hB _ _ rfl rfl ?hl2 ?_)
      case hl2 => first | omega | (simp; omega)
      intro o1 w1 hB1 hA1
      go_wp2_with fail
      go_ret
      have := hq.out
      rw [varF_small _ _ (by omega)] at this
      rw [← this]
      exact ⟨o1, rfl, by simpa using hB1, hA.trans hA1⟩
end Go.Proofs.Qxb6613122a
