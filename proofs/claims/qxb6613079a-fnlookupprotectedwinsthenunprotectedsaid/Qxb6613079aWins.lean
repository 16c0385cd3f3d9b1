/-
  'Rows.FnLookupProtectedWinsThenUnprotectedSaid', PROVED: the walk and the row.
-/
import Derived.Test.Qxb6613079aSwap
import Derived.Test.Qxb6613079aLift
namespace Go.Proofs.Qxb6613079a
open Go.ChangeShapes Go.WideShapes Go.ChangeAt Go.RowKit
set_option linter.unusedSimpArgs false
set_option linter.unusedVariables false

theorem textOf_put (g1 g2 : Int → Option ByteArray) (l : Int) (x : ByteArray) (base B r1 r2 : Nat) (w : World) (h : Msg w base B r1 r2 g1 (upd g2 l x)) (o1 : Option ByteArray) (h1 : g1 l = o1) :
    Calls Try.prog 14 #[.pointer (some ⟨B, 0, none⟩), .int .i64 l] w fun e w' => e = .returned (.tuple #[.string (lastStr (o1.or (some x))), .bool (o1.or (some x)).isSome, .bool o1.isSome, .bool (o1.or (some x)).isSome]) ∧ w' = w := by
  have := lookupText_any base B r1 r2 _ _ l w h
  have h2 : upd g2 l x l = some x := by simp [upd]
  rw [h1, h2] at this
  exact this

set_option maxRecDepth 100000 in
set_option maxHeartbeats 2000000 in
theorem wins_any (a : Option Addr) (n cap : Nat) (L : Nat → Int) (T : Nat → ByteArray) (a' : Option Addr) (n' cap' : Nat) (L' : Nat → Int) (T' : Nat → ByteArray) (l : Int) (x : ByteArray) (hx : x.size ≤ maxLen) (w : World) (he : EntsAt w a n L T) (he' : EntsAt w a' n' L' T') :
    Calls Try.prog 3 #[.slice a n cap, .slice a' n' cap', .int .i64 l, .string x] w fun e w' => e = .returned (.bool true) ∧ Below w.heap.size w w' := by
  go_enter Try.func3, Try.ntmps3
  go_wp2_with fail
  refine (bytesWins_any a n cap L T a' n' cap' L' T' l x hx _ he he').mono ?_
  rintro e w1 ⟨⟨r, rfl⟩, rfl⟩
  cases r with
  | false =>
    go_wp2_with fail
    go_ret
    exact ⟨rfl, Below.refl _ _⟩
  | true =>
    go_wp2_with fail
    refine (addEntries_any a n cap L T _ _ he (by omega) (by omega)).mono ?_
    rintro e w1 ⟨⟨t, rfl, ht0⟩, rfl⟩
    by_cases ht : 1048576 < t
    · go_wp2_with fail
      go_ret
      exact ⟨rfl, Below.refl _ _⟩
    go_wp2_with fail
    refine (addEntries_any a' n' cap' L' T' _ _ he' ht0 (by omega)).mono ?_
    rintro e w1 ⟨⟨t', rfl, ht0'⟩, rfl⟩
    by_cases ht' : 1048576 < t'
    · go_wp2_with fail
      go_ret
      exact ⟨rfl, Below.refl _ _⟩
    go_wp2_with fail
    refine (addText_any x _ _ hx ht0' (by omega)).mono ?_
    rintro e w1 ⟨⟨t2, rfl, ht02⟩, rfl⟩
    by_cases ht2 : 1048576 < t2
    · go_wp2_with fail
      go_ret
      exact ⟨rfl, Below.refl _ _⟩
    go_wp2_with fail
    obtain ⟨o1, h1⟩ : ∃ o, lastOf L T l n = o := ⟨_, rfl⟩
    obtain ⟨o2, h2⟩ : ∃ o, lastOf L' T' l n' = o := ⟨_, rfl⟩
    have H1 : Hid _ := h1
    have H2 : Hid _ := h2
    clear h1 h2
    refine (last_at a n cap L T l _ he o1 H1.out).mono ?_
    rintro e w1 ⟨rfl, rfl⟩
    go_wp2_with fail
    refine (last_at a' n' cap' L' T' l _ he' o2 H2.out).mono ?_
    rintro e w1 ⟨rfl, rfl⟩
    go_wp2_with fail
    refine (build_any a n cap L T a' n' cap' L' T' _ he he').mono ?_
    rintro e w1 ⟨B, r1, r2, rfl, hM, hB⟩
    go_wp2_with fail
    refine (textOf_at L T n L' T' n' l _ B r1 r2 _ hM o1 o2 H1.out H2.out).mono ?_
    rintro e w2 ⟨rfl, rfl⟩
    go_wp2_with fail
    refine (putU_any _ B r1 r2 _ _ l x _ hM).mono ?_
    rintro e w2 ⟨rfl, hM2, hB2⟩
    go_wp2_with fail
    refine (textOf_put _ _ l x _ B r1 r2 _ hM2 o1 H1.out).mono ?_
    rintro e w3 ⟨rfl, rfl⟩
    have hfin := hB.trans hB2
    cases o1 with
    | none =>
      cases o2 with
      | none =>
        have hln := lastStr_none
        go_wp2
        all_goals
          go_ret
          exact ⟨rfl, hfin⟩
      | some s2 =>
        go_wp2
        all_goals
          go_ret
          exact ⟨rfl, hfin⟩
    | some s1 =>
      cases o2 with
      | none =>
        go_wp2
        all_goals
          go_ret
          exact ⟨rfl, hfin⟩
      | some s2 =>
        go_wp2
        all_goals
          go_ret
          exact ⟨rfl, hfin⟩

set_option maxRecDepth 100000 in
theorem wins_lifted (os : Os) (started : os.Started) (H : Type) (enc : TypeId × Value → H) :
    ReturnsInHanded {} Try.checked os 3 .any (Rows.fnLookupProtectedWinsThenUnprotectedSpec.pre6 enc Try.prog Try.f3 Rows.fnLookupProtectedWinsThenUnprotectedRow.domain false) (Rows.fnLookupProtectedWinsThenUnprotectedSpec.post enc Try.prog Try.f3 false true false false) := by
  refine returnsInHanded_of_change (C := Try.checked) Try.own started (by kernel_rfl) Try.func3
    (ChangeSpec.witness6 (enc := enc) (C := Try.checked) false ⟨#[], #[.slice none 0 0, .slice none 0 0, .int .i64 0, .string ⟨#[]⟩], []⟩ 8 (by kernel_rfl) (by kernel_rfl) (by kernel_rfl) (by kernel_rfl)) ?_
  intro W base args ds gs before hval0 hW hcnd _
  have hval : ∀ (j : Nat) t v, Try.f3.params[j]? = some t → args[j]? = some v → Value.okWide Try.prog W .any base t v := hval0
  have hW' := hW
  have hlt := hW.lt
  obtain ⟨p, q, hA0, hV, rfl, hfz, hnd⟩ := hW
  have hA : DataW.TrodAll enc Try.prog W 0 (fun _ => true) true Try.f3.params.toList args.toList ds p := hA0
  rw [Try.params3] at hA hval
  obtain ⟨v0, v1, v2, v3, d0, d1, d2, d3, p0, p1, p2, p3, rfl, rfl, rfl, h0, h1, h2, h3⟩ := trodAll_four hA
  obtain ⟨rfl, rfl⟩ := trodVars_none hV
  obtain ⟨a, n, cap, L, T, rfl, he⟩ := open_ents (hval 0 22 v0 rfl rfl) (fun x hx => hlt x (by simp [hx])) h0
  obtain ⟨a', n', cap', L', T', rfl, he'⟩ := open_ents (hval 1 22 v1 rfl rfl) (fun x hx => hlt x (by simp [hx])) h1
  obtain ⟨l, rfl, rfl, rfl, wl⟩ := open_int Try.underlying2 (hval 2 2 v2 rfl rfl) h2
  obtain ⟨x, rfl, hx⟩ : ∃ x : ByteArray, v3 = .string x ∧ x.size ≤ maxLen := by
    obtain ⟨x, rfl, -, -, hx⟩ := ChangeMaps.open_string Try.underlying9 (hval 3 9 v3 rfl rfl) h3
    exact ⟨x, rfl, hx⟩
  refine (wins_any a n cap L T a' n' cap' L' T' l x hx W he he').mono fun e W' ⟨hr, hb⟩ => ?_
  subst hr
  exact ⟨_, rfl, law_post (tb := 4) Try.laidOut (by rw [Try.params3]; decide +kernel) (by kernel_rfl) Try.underlying4 rfl hW' hb rfl⟩

theorem wins_holds : Rows.FnLookupProtectedWinsThenUnprotectedSaid :=
  OpenClaim.holds_of_wide 3 Try.f3 rfl rfl rfl rfl rfl rfl rfl ⟨rfl, rfl, rfl, rfl, rfl⟩ rfl rfl rfl rfl rfl (by kernel_rfl) Try.func3 (by kernel_rfl)
    (of_decide_eq_true (by kernel_rfl)) (by unfold Func.isWrapper; first | (rw [if_pos (by decide +kernel)]; kernel_rfl) | (rw [if_neg (by decide +kernel)]; exact ⟨rfl, rfl⟩))
    (fun os started H enc _ => wins_lifted os started H enc)

end Go.Proofs.Qxb6613079a
