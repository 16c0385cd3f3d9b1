/-
  'Rows.FnValueSizeIsMarshalLengthSaid', PROVED.
-/
import Derived.Test.Qxb6613122aSizeM
import Derived.Test.Qxb6613122aGetBRow
import Derived.Test.Qxb6613122aLift
namespace Go.Proofs.Qxb6613122a
open Go.ChangeShapes Go.WideShapes Go.ChangeAt Go.RowKit

set_option maxRecDepth 100000 in
theorem sizeM_lifted (os : Os) (started : os.Started) (H : Type) (enc : TypeId × Value → H) :
    ReturnsInHanded {} Try.checked os 5 .any (Rows.fnValueSizeIsMarshalLengthSpec.pre6 enc Try.prog Try.f5 Rows.fnValueSizeIsMarshalLengthRow.domain false) (Rows.fnValueSizeIsMarshalLengthSpec.post enc Try.prog Try.f5 false true false false) := by
  refine returnsInHanded_of_change (C := Try.checked) Try.own started (by kernel_rfl) Try.func5
    (ChangeSpec.witness6 (enc := enc) (C := Try.checked) false ⟨#[], #[.agg #[.int .u8 0, .bool false, .string ⟨#[]⟩, .int .u64 0, .int .i32 0], .bool false, .slice none 0 0, .bool false], []⟩ 8 (by kernel_rfl) (by kernel_rfl) (by kernel_rfl) (by kernel_rfl)) ?_
  intro W base args ds gs before hval0 hW hcnd _
  have hval : ∀ (j : Nat) t v, Try.f5.params[j]? = some t → args[j]? = some v → Value.okWide Try.prog W .any base t v := hval0
  have hW' := hW
  have hlt := hW.lt
  obtain ⟨p, q, hA0, hV, rfl, hfz, hnd⟩ := hW
  have hA : DataW.TrodAll enc Try.prog W 0 (fun _ => true) true Try.f5.params.toList args.toList ds p := hA0
  rw [Try.params5] at hA hval
  obtain ⟨v0, vs0, d0, ds0, p0, q0, hv0, rfl, rfl, h0, hA⟩ := trodAll_cons hA
  obtain ⟨v1, vs1, d1, ds1, p1, q1, rfl, rfl, rfl, h1, hA⟩ := trodAll_cons hA
  obtain ⟨v2, vs2, d2, ds2, p2, q2, rfl, rfl, rfl, h2, hA⟩ := trodAll_cons hA
  obtain ⟨v3, vs3, d3, ds3, p3, q3, rfl, rfl, rfl, h3, hA⟩ := trodAll_cons hA
  obtain ⟨rfl, rfl, rfl⟩ := trodAll_nil hA
  have harg : args = #[v0, v1, v2, v3] := by rw [← Array.toList_inj]; exact hv0
  subst harg
  obtain ⟨rfl, rfl⟩ := trodVars_none hV
  obtain ⟨it, rfl, hok⟩ := open_item h0
  obtain ⟨b1, rfl, rfl, rfl⟩ := open_bool Try.underlying4 (hval 1 4 v1 rfl rfl) h1
  obtain ⟨a, n, cp, I, rfl, he, hokI, hcap⟩ := open_items (hval 2 22 v2 rfl rfl) (fun x hx => hlt x (by simp [hx])) h2
  obtain ⟨b2, rfl, rfl, rfl⟩ := open_bool Try.underlying4 (hval 3 4 v3 rfl rfl) h3
  have key : Calls Try.prog 5 #[.agg #[.int .u8 it.kind, .bool it.b, .string it.s, .int .u64 it.bits, .int .i32 it.null], .bool b1, .slice a n cp, .bool b2] W fun e w' => e = .returned (.bool true) ∧ Below W.heap.size W w' := by
    cases b2 with
    | true => exact sizeM_nil it b1 a n cp I W hok he hokI
    | false =>
      cases b1 with
      | true => exact sizeM_list it a n cp I W hok he hokI
      | false => exact sizeM_item it a n cp I W hok he hokI
  refine key.mono fun e W' ⟨hr, hb⟩ => ?_
  subst hr
  exact ⟨_, rfl, law_post (tb := 4) Try.laidOut (by rw [Try.params5]; decide +kernel) (by kernel_rfl) Try.underlying4 rfl hW' hb rfl⟩

theorem sizeM_holds : Rows.FnValueSizeIsMarshalLengthSaid :=
  OpenClaim.holds_of_wide 5 Try.f5 rfl rfl rfl rfl rfl rfl rfl ⟨rfl, rfl, rfl, rfl, rfl⟩ rfl rfl rfl rfl rfl (by kernel_rfl) Try.func5 (by kernel_rfl)
    (of_decide_eq_true (by kernel_rfl)) (by unfold Func.isWrapper; first | (rw [if_pos (by decide +kernel)]; kernel_rfl) | (rw [if_neg (by decide +kernel)]; exact ⟨rfl, rfl⟩))
    (fun os started H enc _ => sizeM_lifted os started H enc)

end Go.Proofs.Qxb6613122a
