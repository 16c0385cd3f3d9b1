/-
  'Rows.FnListValueMarshalToEndWritesEncodingSaid', PROVED.
-/
import Derived.Test.Qxb6613122aListL
import Derived.Test.Qxb6613122aLift
namespace Go.Proofs.Qxb6613122a
open Go.ChangeShapes Go.WideShapes Go.ChangeAt Go.RowKit

set_option maxRecDepth 100000 in
/-- AN ARGUMENT THAT IS A SLICE OF BYTES. -/
theorem open_bytes {H : Type} {enc : TypeId × Value → H} {W : World} {b0 : Nat} {r : Reach} {v : Value} {d : DataW H} {ps : List MemPlace} (hval : Value.okWide Try.prog W r b0 32 v)
    (h : DataW.Trod enc Try.prog W 0 (fun _ => true) true 32 v d ps) : ∃ a n cap xs, v = .slice a n cap ∧ ByteArg W a n cap xs := by
  obtain ⟨a0, len0, cap0, rfl⟩ := okWide_slice Try.underlying32 hval
  obtain ⟨fuel, hf⟩ := h
  rcases open_ints Try.underlying32 Try.underlying5 c5 hf with ⟨hcs, -⟩ | ⟨a, len, cap, zs, hcs, -, hle, hmax, hlen, -, hcell, -⟩
  · simp [Value.cells] at hcs
    obtain ⟨rfl, rfl, rfl⟩ := hcs
    exact ⟨none, 0, 0, [], rfl, rfl, Nat.le_refl _, by unfold maxLen; omega, Or.inl ⟨rfl, rfl, rfl⟩⟩
  · simp [Value.cells] at hcs
    obtain ⟨rfl, rfl, rfl⟩ := hcs
    simp only [if_true] at hlen
    refine ⟨some a, len0, cap0, zs.take len0, rfl, by simp; omega, hle, hmax, Or.inr ⟨a, rfl, fun j hj => ?_⟩⟩
    have hj' : j < zs.length := by simp at hj; omega
    rw [hcell j hj']
    simp [List.getD, hj']

set_option maxRecDepth 100000 in
theorem listL_lifted (os : Os) (started : os.Started) (H : Type) (enc : TypeId × Value → H) :
    ReturnsInHanded {} Try.checked os 6 .any (Rows.fnListValueMarshalToEndWritesEncodingSpec.pre6 enc Try.prog Try.f6 Rows.fnListValueMarshalToEndWritesEncodingRow.domain false) (Rows.fnListValueMarshalToEndWritesEncodingSpec.post enc Try.prog Try.f6 false true false false) := by
  refine returnsInHanded_of_change (C := Try.checked) Try.own started (by kernel_rfl) Try.func6
    (ChangeSpec.witness6 (enc := enc) (C := Try.checked) false ⟨#[], #[.slice none 0 0, .slice none 0 0], []⟩ 8 (by kernel_rfl) (by kernel_rfl) (by kernel_rfl) (by kernel_rfl)) ?_
  intro W base args ds gs before hval0 hW hcnd _
  have hval : ∀ (j : Nat) t v, Try.f6.params[j]? = some t → args[j]? = some v → Value.okWide Try.prog W .any base t v := hval0
  have hW' := hW
  have hlt := hW.lt
  obtain ⟨p, q, hA0, hV, rfl, hfz, hnd⟩ := hW
  have hA : DataW.TrodAll enc Try.prog W 0 (fun _ => true) true Try.f6.params.toList args.toList ds p := hA0
  rw [Try.params6] at hA hval
  obtain ⟨v0, v1, d0, d1, p0, p1, rfl, rfl, rfl, h0, h1⟩ := trodAll_two hA
  obtain ⟨rfl, rfl⟩ := trodVars_none hV
  obtain ⟨a, n, cp, I, rfl, he, hok, hcap⟩ := open_items (hval 0 22 v0 rfl rfl) (fun x hx => hlt x (by simp [hx])) h0
  obtain ⟨b, nb, cb, xs, rfl, hb⟩ := open_bytes (hval 1 32 v1 rfl rfl) h1
  refine (listL_any a n cp I b nb cb xs W he hok hb).mono fun e W' ⟨hr, hbel⟩ => ?_
  subst hr
  exact ⟨_, rfl, law_post (tb := 4) Try.laidOut (by rw [Try.params6]; decide +kernel) (by kernel_rfl) Try.underlying4 rfl hW' hbel rfl⟩

theorem listL_holds : Rows.FnListValueMarshalToEndWritesEncodingSaid :=
  OpenClaim.holds_of_wide 6 Try.f6 rfl rfl rfl rfl rfl rfl rfl ⟨rfl, rfl, rfl, rfl, rfl⟩ rfl rfl rfl rfl rfl (by kernel_rfl) Try.func6 (by kernel_rfl)
    (of_decide_eq_true (by kernel_rfl)) (by unfold Func.isWrapper; first | (rw [if_pos (by decide +kernel)]; kernel_rfl) | (rw [if_neg (by decide +kernel)]; exact ⟨rfl, rfl⟩))
    (fun os started H enc _ => listL_lifted os started H enc)

end Go.Proofs.Qxb6613122a
