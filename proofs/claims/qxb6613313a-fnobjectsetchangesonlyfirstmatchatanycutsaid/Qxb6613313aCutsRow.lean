/-
  'Rows.FnObjectSetChangesOnlyFirstMatchAtAnyCutSaid', PROVED.
-/
import Derived.Test.Qxb6613313aCuts
import Derived.Test.Qxb6613313aLift
namespace Go.Proofs.Qxb6613313a
open Go.ChangeShapes Go.WideShapes Go.ChangeAt Go.RowKit

set_option maxRecDepth 100000 in
theorem cuts_lifted (os : Os) (started : os.Started) (H : Type) (enc : TypeId × Value → H) :
    ReturnsInHanded {} Try.checked os 3 .any (Rows.fnObjectSetChangesOnlyFirstMatchAtAnyCutSpec.pre6 enc Try.prog Try.f3 Rows.fnObjectSetChangesOnlyFirstMatchAtAnyCutRow.domain false) (Rows.fnObjectSetChangesOnlyFirstMatchAtAnyCutSpec.post enc Try.prog Try.f3 false true false false) := by
  refine returnsInHanded_of_change (C := Try.checked) Try.own started (by kernel_rfl) Try.func3
    (ChangeSpec.witness6 (enc := enc) (C := Try.checked) false ⟨#[], #[.slice none 0 0, .string ⟨#[]⟩, .int .i64 0, .int .i64 0], []⟩ 8 (by kernel_rfl) (by kernel_rfl) (by kernel_rfl) (by kernel_rfl)) ?_
  intro W base args ds gs before hval0 hW hcnd _
  have hval : ∀ (j : Nat) t v, Try.f3.params[j]? = some t → args[j]? = some v → Value.okWide Try.prog W .any base t v := hval0
  have hW' := hW
  have hlt := hW.lt
  obtain ⟨p, q, hA0, hV, rfl, hfz, hnd⟩ := hW
  have hA : DataW.TrodAll enc Try.prog W 0 (fun _ => true) true Try.f3.params.toList args.toList ds p := hA0
  rw [Try.params3] at hA hval
  obtain ⟨v0, vs0, d0, ds0, p0, q0, hv0, rfl, rfl, h0, hA⟩ := trodAll_cons hA
  obtain ⟨v1, vs1, d1, ds1, p1, q1, rfl, rfl, rfl, h1, hA⟩ := trodAll_cons hA
  obtain ⟨v2, vs2, d2, ds2, p2, q2, rfl, rfl, rfl, h2, hA⟩ := trodAll_cons hA
  obtain ⟨v3, vs3, d3, ds3, p3, q3, rfl, rfl, rfl, h3, hA⟩ := trodAll_cons hA
  obtain ⟨rfl, rfl, rfl⟩ := trodAll_nil hA
  have harg : args = #[v0, v1, v2, v3] := by rw [← Array.toList_inj]; exact hv0
  subst harg
  obtain ⟨rfl, rfl⟩ := trodVars_none hV
  obtain ⟨a, n, cp, N, V, rfl, he, hcap⟩ := open_pairs (hval 0 22 v0 rfl rfl) (fun x hx => hlt x (by simp [hx])) h0
  obtain ⟨s1, rfl, rfl, rfl, hs1⟩ := ChangeMaps.open_string Try.underlying9 (hval 1 9 v1 rfl rfl) h1
  obtain ⟨x1, rfl, rfl, rfl, wl1⟩ := open_int Try.underlying2 (hval 2 2 v2 rfl rfl) h2
  obtain ⟨x2, rfl, rfl, rfl, wl2⟩ := open_int Try.underlying3 (hval 3 3 v3 rfl rfl) h3
  refine (cuts_any a n cp N V s1 x1 x2 W he hs1 hcap).mono fun e W' ⟨hr, hb⟩ => ?_
  subst hr
  exact ⟨_, rfl, law_post (tb := 4) Try.laidOut (by rw [Try.params3]; decide +kernel) (by kernel_rfl) Try.underlying4 rfl hW' hb rfl⟩

theorem cuts_holds : Rows.FnObjectSetChangesOnlyFirstMatchAtAnyCutSaid :=
  OpenClaim.holds_of_wide 3 Try.f3 rfl rfl rfl rfl rfl rfl rfl ⟨rfl, rfl, rfl, rfl, rfl⟩ rfl rfl rfl rfl rfl (by kernel_rfl) Try.func3 (by kernel_rfl)
    (of_decide_eq_true (by kernel_rfl)) (by unfold Func.isWrapper; first | (rw [if_pos (by decide +kernel)]; kernel_rfl) | (rw [if_neg (by decide +kernel)]; exact ⟨rfl, rfl⟩))
    (fun os started H enc _ => cuts_lifted os started H enc)

end Go.Proofs.Qxb6613313a
