/-
  THE WALK of FnLookupSwappedHeaders.
-/
import Derived.Test.Qxb6613079aWalkC
namespace Go.Proofs.Qxb6613079a
open Go.RowKit
set_option linter.unusedSimpArgs false
set_option linter.unusedVariables false

theorem lastStr_none : (lastStr none).toList = [] := by decide +kernel

/-- What the law's message answers. -/
theorem textOf_at (L : Nat → Int) (T : Nat → ByteArray) (n : Nat) (L' : Nat → Int) (T' : Nat → ByteArray) (n' : Nat) (l : Int) (base B r1 r2 : Nat) (w : World) (h : Msg w base B r1 r2 (fun l => lastOf L T l n) (fun l => lastOf L' T' l n')) (o1 o2 : Option ByteArray) (h1 : lastOf L T l n = o1) (h2 : lastOf L' T' l n' = o2) :
    Calls Try.prog 14 #[.pointer (some ⟨B, 0, none⟩), .int .i64 l] w fun e w' => e = .returned (.tuple #[.string (lastStr (o1.or o2)), .bool (o1.or o2).isSome, .bool o1.isSome, .bool (o1.or o2).isSome]) ∧ w' = w := by
  have := lookupText_any base B r1 r2 _ _ l w h
  simp only [h1, h2] at this
  exact this

theorem last_at (a : Option Addr) (n cap : Nat) (L : Nat → Int) (T : Nat → ByteArray) (l : Int) (w : World) (he : EntsAt w a n L T) (o : Option ByteArray) (h1 : lastOf L T l n = o) :
    Calls Try.prog 12 #[.slice a n cap, .int .i64 l] w fun e w' => e = .returned (.tuple #[.string (lastStr o), .bool o.isSome]) ∧ w' = w := by
  have := lastEntry_any a n cap L T l w he
  rw [h1] at this
  exact this

set_option maxRecDepth 100000 in
set_option maxHeartbeats 1000000 in
theorem swap_any (a : Option Addr) (n cap : Nat) (L : Nat → Int) (T : Nat → ByteArray) (a' : Option Addr) (n' cap' : Nat) (L' : Nat → Int) (T' : Nat → ByteArray) (l : Int) (w : World) (he : EntsAt w a n L T) (he' : EntsAt w a' n' L' T') :
    Calls Try.prog 4 #[.slice a n cap, .slice a' n' cap', .int .i64 l] w fun e w' => e = .returned (.bool true) ∧ Below w.heap.size w w' := by
  go_enter Try.func4, Try.ntmps4
  go_wp2_with fail
  refine (bytesSwapped_any a n cap L T a' n' cap' L' T' l _ he he').mono ?_
  rintro e w1 ⟨⟨r, rfl⟩, rfl⟩
  cases r with
  | false =>
    go_wp2_with fail
    go_ret
    exact ⟨rfl, Below.refl _ _⟩
  | true =>
    go_wp2_with fail
    refine (addEntries_any a n cap L T _ _ he (by omega) (by omega)).mono ?_
    rintro e w1 ⟨⟨t, rfl, ht0⟩, rfl⟩
    by_cases ht : 1048576 < t
    · go_wp2_with fail
      go_ret
      exact ⟨rfl, Below.refl _ _⟩
    go_wp2_with fail
    refine (addEntries_any a' n' cap' L' T' _ _ he' ht0 (by omega)).mono ?_
    rintro e w1 ⟨⟨t', rfl, ht0'⟩, rfl⟩
    by_cases ht' : 1048576 < t'
    · go_wp2_with fail
      go_ret
      exact ⟨rfl, Below.refl _ _⟩
    go_wp2_with fail
    obtain ⟨o1, h1⟩ : ∃ o, lastOf L T l n = o := ⟨_, rfl⟩
    obtain ⟨o2, h2⟩ : ∃ o, lastOf L' T' l n' = o := ⟨_, rfl⟩
    have H1 : Hid _ := h1
    have H2 : Hid _ := h2
    clear h1 h2
    refine (last_at a n cap L T l _ he o1 H1.out).mono ?_
    rintro e w1 ⟨rfl, rfl⟩
    go_wp2_with fail
    refine (last_at a' n' cap' L' T' l _ he' o2 H2.out).mono ?_
    rintro e w1 ⟨rfl, rfl⟩
    go_wp2_with fail
    refine (build_any a n cap L T a' n' cap' L' T' _ he he').mono ?_
    rintro e w1 ⟨B, r1, r2, rfl, hM, hB⟩
    go_wp2_with fail
    refine (textOf_at L T n L' T' n' l _ B r1 r2 _ hM o1 o2 H1.out H2.out).mono ?_
    rintro e w2 ⟨rfl, rfl⟩
    go_wp2_with fail
    refine (build_any a' n' cap' L' T' a n cap L T _ (he'.below hB) (he.below hB)).mono ?_
    rintro e w2 ⟨B2, r3, r4, rfl, hM2, hB2⟩
    go_wp2_with fail
    refine (textOf_at L' T' n' L T n l _ B2 r3 r4 _ hM2 o2 o1 H2.out H1.out).mono ?_
    rintro e w3 ⟨rfl, rfl⟩
    have hfin := hB.trans (hB2.mono hB.size)
    cases o1 with
    | none =>
      cases o2 with
      | none =>
        have hln := lastStr_none
        go_wp2
        go_ret
        exact ⟨rfl, hfin⟩
      | some s2 =>
        go_wp2
        go_ret
        exact ⟨rfl, hfin⟩
    | some s1 =>
      cases o2 with
      | none =>
        go_wp2
        go_ret
        exact ⟨rfl, hfin⟩
      | some s2 =>
        go_wp2
        go_ret
        exact ⟨rfl, hfin⟩
end Go.Proofs.Qxb6613079a
