/-
  'Rows.FnGetBoolValueAgreesWithEncodingSaid', PROVED.
-/
import Derived.Test.Qxb6613122aGetB
import Derived.Test.Qxb6613122aLift
namespace Go.Proofs.Qxb6613122a
open Go.ChangeShapes Go.WideShapes Go.ChangeAt Go.RowKit

/-- AN ARGUMENT THAT IS AN ITEM, by value. -/
theorem open_item {H : Type} {enc : TypeId × Value → H} {W : World} {v : Value} {d : DataW H} {ps : List MemPlace}
    (h : DataW.Trod enc Try.prog W 0 (fun _ => true) true 36 v d ps) : ∃ it : Item, v = .agg #[.int .u8 it.kind, .bool it.b, .string it.s, .int .u64 it.bits, .int .i32 it.null] ∧ ItemOk it := by
  obtain ⟨fuel, hf⟩ := h
  obtain ⟨it, hc, hok⟩ := open_item_cells hf
  refine ⟨it, ?_, hok⟩
  cases v with
  | agg cs =>
    simp only [Value.cells] at hc
    rw [← hc]
  | _ => simp [Value.cells] at hc

set_option maxRecDepth 100000 in
theorem getb_lifted (os : Os) (started : os.Started) (H : Type) (enc : TypeId × Value → H) :
    ReturnsInHanded {} Try.checked os 4 .any (Rows.fnGetBoolValueAgreesWithEncodingSpec.pre6 enc Try.prog Try.f4 Rows.fnGetBoolValueAgreesWithEncodingRow.domain false) (Rows.fnGetBoolValueAgreesWithEncodingSpec.post enc Try.prog Try.f4 false true false false) := by
  refine returnsInHanded_of_change (C := Try.checked) Try.own started (by kernel_rfl) Try.func4
    (ChangeSpec.witness6 (enc := enc) (C := Try.checked) false ⟨#[], #[.agg #[.int .u8 0, .bool false, .string ⟨#[]⟩, .int .u64 0, .int .i32 0], .bool false], []⟩ 8 (by kernel_rfl) (by kernel_rfl) (by kernel_rfl) (by kernel_rfl)) ?_
  intro W base args ds gs before hval0 hW hcnd _
  have hval : ∀ (j : Nat) t v, Try.f4.params[j]? = some t → args[j]? = some v → Value.okWide Try.prog W .any base t v := hval0
  have hW' := hW
  obtain ⟨p, q, hA0, hV, rfl, hfz, hnd⟩ := hW
  have hA : DataW.TrodAll enc Try.prog W 0 (fun _ => true) true Try.f4.params.toList args.toList ds p := hA0
  rw [Try.params4] at hA hval
  obtain ⟨v0, v1, d0, d1, p0, p1, rfl, rfl, rfl, h0, h1⟩ := trodAll_two hA
  obtain ⟨rfl, rfl⟩ := trodVars_none hV
  obtain ⟨it, rfl, hok⟩ := open_item h0
  obtain ⟨b, rfl, rfl, rfl⟩ := open_bool Try.underlying4 (hval 1 4 v1 rfl rfl) h1
  have key : Calls Try.prog 4 #[.agg #[.int .u8 it.kind, .bool it.b, .string it.s, .int .u64 it.bits, .int .i32 it.null], .bool b] W fun e w' => e = .returned (.bool true) ∧ Below W.heap.size W w' := by
    cases b with
    | true => exact getb_nil it W hok
    | false => exact getb_some it W hok
  refine key.mono fun e W' ⟨hr, hb⟩ => ?_
  subst hr
  exact ⟨_, rfl, law_post (tb := 4) Try.laidOut (by rw [Try.params4]; decide +kernel) (by kernel_rfl) Try.underlying4 rfl hW' hb rfl⟩

theorem getb_holds : Rows.FnGetBoolValueAgreesWithEncodingSaid :=
  OpenClaim.holds_of_wide 4 Try.f4 rfl rfl rfl rfl rfl rfl rfl ⟨rfl, rfl, rfl, rfl, rfl⟩ rfl rfl rfl rfl rfl (by kernel_rfl) Try.func4 (by kernel_rfl)
    (of_decide_eq_true (by kernel_rfl)) (by unfold Func.isWrapper; first | (rw [if_pos (by decide +kernel)]; kernel_rfl) | (rw [if_neg (by decide +kernel)]; exact ⟨rfl, rfl⟩))
    (fun os started H enc _ => getb_lifted os started H enc)

end Go.Proofs.Qxb6613122a
