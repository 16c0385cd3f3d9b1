/-
  'Rows.FnLookupSwappedHeadersSaid', PROVED.
-/
import Derived.Test.Qxb6613079aSwap
import Derived.Test.Qxb6613079aLift
namespace Go.Proofs.Qxb6613079a
open Go.ChangeShapes Go.WideShapes Go.ChangeAt Go.RowKit

set_option maxRecDepth 100000 in
theorem swapped_lifted (os : Os) (started : os.Started) (H : Type) (enc : TypeId × Value → H) :
    ReturnsInHanded {} Try.checked os 4 .any (Rows.fnLookupSwappedHeadersSpec.pre6 enc Try.prog Try.f4 Rows.fnLookupSwappedHeadersRow.domain false) (Rows.fnLookupSwappedHeadersSpec.post enc Try.prog Try.f4 false true false false) := by
  refine returnsInHanded_of_change (C := Try.checked) Try.own started (by kernel_rfl) Try.func4
    (ChangeSpec.witness6 (enc := enc) (C := Try.checked) false ⟨#[], #[.slice none 0 0, .slice none 0 0, .int .i64 0], []⟩ 8 (by kernel_rfl) (by kernel_rfl) (by kernel_rfl) (by kernel_rfl)) ?_
  intro W base args ds gs before hval0 hW hcnd _
  have hval : ∀ (j : Nat) t v, Try.f4.params[j]? = some t → args[j]? = some v → Value.okWide Try.prog W .any base t v := hval0
  have hW' := hW
  have hlt := hW.lt
  obtain ⟨p, q, hA0, hV, rfl, hfz, hnd⟩ := hW
  have hA : DataW.TrodAll enc Try.prog W 0 (fun _ => true) true Try.f4.params.toList args.toList ds p := hA0
  rw [Try.params4] at hA hval
  obtain ⟨v0, v1, v2, d0, d1, d2, p0, p1, p2, rfl, rfl, rfl, h0, h1, h2⟩ := trodAll_three hA
  obtain ⟨rfl, rfl⟩ := trodVars_none hV
  obtain ⟨a, n, cap, L, T, rfl, he⟩ := open_ents (hval 0 22 v0 rfl rfl) (fun x hx => hlt x (by simp [hx])) h0
  obtain ⟨a', n', cap', L', T', rfl, he'⟩ := open_ents (hval 1 22 v1 rfl rfl) (fun x hx => hlt x (by simp [hx])) h1
  obtain ⟨l, rfl, rfl, rfl, wl⟩ := open_int Try.underlying2 (hval 2 2 v2 rfl rfl) h2
  refine (swap_any a n cap L T a' n' cap' L' T' l W he he').mono fun e W' ⟨hr, hb⟩ => ?_
  subst hr
  exact ⟨_, rfl, law_post (tb := 4) Try.laidOut (by rw [Try.params4]; decide +kernel) (by kernel_rfl) Try.underlying4 rfl hW' hb rfl⟩

theorem swapped_holds : Rows.FnLookupSwappedHeadersSaid :=
  OpenClaim.holds_of_wide 4 Try.f4 rfl rfl rfl rfl rfl rfl rfl ⟨rfl, rfl, rfl, rfl, rfl⟩ rfl rfl rfl rfl rfl (by kernel_rfl) Try.func4 (by kernel_rfl)
    (of_decide_eq_true (by kernel_rfl)) (by unfold Func.isWrapper; first | (rw [if_pos (by decide +kernel)]; kernel_rfl) | (rw [if_neg (by decide +kernel)]; exact ⟨rfl, rfl⟩))
    (fun os started H enc _ => swapped_lifted os started H enc)

end Go.Proofs.Qxb6613079a
