/-
  'Rows.FnValueSizeAdditiveOverListCutSaid', PROVED.
-/
import Derived.Test.Qxb6613122aCut
import Derived.Test.Qxb6613122aLift
namespace Go.Proofs.Qxb6613122a
open Go.ChangeShapes Go.WideShapes Go.ChangeAt Go.RowKit

set_option maxRecDepth 100000 in
theorem cut_lifted (os : Os) (started : os.Started) (H : Type) (enc : TypeId × Value → H) :
    ReturnsInHanded {} Try.checked os 3 .any (Rows.fnValueSizeAdditiveOverListCutSpec.pre6 enc Try.prog Try.f3 Rows.fnValueSizeAdditiveOverListCutRow.domain false) (Rows.fnValueSizeAdditiveOverListCutSpec.post enc Try.prog Try.f3 false true false false) := by
  refine returnsInHanded_of_change (C := Try.checked) Try.own started (by kernel_rfl) Try.func3
    (ChangeSpec.witness6 (enc := enc) (C := Try.checked) false ⟨#[], #[.slice none 0 0, .int .i64 0], []⟩ 8 (by kernel_rfl) (by kernel_rfl) (by kernel_rfl) (by kernel_rfl)) ?_
  intro W base args ds gs before hval0 hW hcnd _
  have hval : ∀ (j : Nat) t v, Try.f3.params[j]? = some t → args[j]? = some v → Value.okWide Try.prog W .any base t v := hval0
  have hW' := hW
  have hlt := hW.lt
  obtain ⟨p, q, hA0, hV, rfl, hfz, hnd⟩ := hW
  have hA : DataW.TrodAll enc Try.prog W 0 (fun _ => true) true Try.f3.params.toList args.toList ds p := hA0
  rw [Try.params3] at hA hval
  obtain ⟨v0, v1, d0, d1, p0, p1, rfl, rfl, rfl, h0, h1⟩ := trodAll_two hA
  obtain ⟨rfl, rfl⟩ := trodVars_none hV
  obtain ⟨a, n, cp, I, rfl, he, hok, hcap⟩ := open_items (hval 0 22 v0 rfl rfl) (fun x hx => hlt x (by simp [hx])) h0
  obtain ⟨c, rfl, rfl, rfl, wl⟩ := open_int Try.underlying3 (hval 1 3 v1 rfl rfl) h1
  refine (cut_any a n cp I c W he hok hcap).mono fun e W' ⟨hr, hb⟩ => ?_
  subst hr
  exact ⟨_, rfl, law_post (tb := 4) Try.laidOut (by rw [Try.params3]; decide +kernel) (by kernel_rfl) Try.underlying4 rfl hW' hb rfl⟩

theorem cut_holds : Rows.FnValueSizeAdditiveOverListCutSaid :=
  OpenClaim.holds_of_wide 3 Try.f3 rfl rfl rfl rfl rfl rfl rfl ⟨rfl, rfl, rfl, rfl, rfl⟩ rfl rfl rfl rfl rfl (by kernel_rfl) Try.func3 (by kernel_rfl)
    (of_decide_eq_true (by kernel_rfl)) (by unfold Func.isWrapper; first | (rw [if_pos (by decide +kernel)]; kernel_rfl) | (rw [if_neg (by decide +kernel)]; exact ⟨rfl, rfl⟩))
    (fun os started H enc _ => cut_lifted os started H enc)

end Go.Proofs.Qxb6613122a
