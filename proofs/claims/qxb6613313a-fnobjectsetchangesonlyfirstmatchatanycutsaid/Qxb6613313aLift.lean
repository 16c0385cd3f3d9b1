/-
  FROM A LAW's WALK TO ITS ROW's POST; an argument that is a slice of pairs, opened.
-/
import Derived.Test.Qxb6613313aWalkA
import Derived.ProofKit
import Derived.Deep.Slices
import Derived.Deep.SlicePairs
namespace Go.Proofs.Qxb6613313a
open Go.ChangeShapes Go.WideShapes Go.ChangeAt Go.RowKit
set_option linter.unusedSimpArgs false
set_option linter.unusedVariables false

theorem Try.own : ownKnob Try.prog.godebug = none := by kernel_rfl
theorem Try.laidOut : laidOutB Try.prog = true := by kernel_rfl

theorem all_below {H : Type} {enc : TypeId × Value → H} {P : Program} (hl : laidOutB P = true) {W W' : World} (hb : Below W.heap.size W W') :
    ∀ {ts : List TypeId} {vs : List Value} {ds : List (DataW H)} {ps : List MemPlace}, (∀ t ∈ ts, P.readableRec t = true ∧ t < P.types.size) → (∀ x ∈ ps, x.block < W.heap.size) →
      DataW.TrodAll enc P W 0 (fun _ => true) true ts vs ds ps → DataW.TrodAll enc P W' 0 (fun b => decide (b < W.heap.size)) true ts vs ds ps
  | [], vs, ds, ps, _, _, h => by
    obtain ⟨rfl, rfl, rfl⟩ := trodAll_nil h
    exact trodAll_mk0
  | t :: ts, vs, ds, ps, hr, hp, h => by
    obtain ⟨v, vs', d, ds', p, q, rfl, rfl, rfl, h1, h2⟩ := trodAll_cons h
    exact ⟨_, _, (Below.trod hl (hr t (by simp)).1 (hr t (by simp)).2 h1 hb (fun x hx => hp x (by simp [hx]))),
      (all_below hl hb (fun u hu => hr u (by simp [hu])) (fun x hx => hp x (by simp [hx])) h2), rfl⟩

theorem law_post {H : Type} {enc : TypeId × Value → H} {P : Program} (hl : laidOutB P = true) {f : Func} {s : ChangeSpec} {apart : Bool} {W W' : World} {args : Array Value} {ds gs : List (DataW H)} {before : List MemPlace} {tb : TypeId}
    (hr : ∀ t ∈ f.params.toList, P.readableRec t = true ∧ t < P.types.size) (hres : f.resultTypes = #[tb]) (htb : P.underlying tb = some .bool) (hvars : s.vars = [])
    (hW : DataW.Whole enc P f.params.toList s.vars apart W args.toList ds gs before) (hb : Below W.heap.size W W')
    (hs : s.fn H (ds ++ gs) = { results := [.lit (.bool true)], args := ds }) : s.post enc P f apart true false false W args (.bool true) W' := by
  have hlt := hW.lt
  obtain ⟨p, q, hA, hV, hp, hz, hn⟩ := id hW
  rw [hvars] at hV
  obtain ⟨rfl, rfl⟩ := trodVars_none hV
  have hp' : before = p := by simpa using hp
  refine ⟨ds, [], before, [], p, [], hW, ?_, ?_, ?_, hb.frame _, fun h => by cases h⟩
  · rw [hs, hres]
    exact trodAll_mk1 (shut_bool htb true)
  · rw [hs]
    exact all_below hl hb hr (fun x hx => hlt x (by rw [hp']; exact hx)) hA
  · rw [hs, hvars]
    rfl

set_option maxRecDepth 100000 in
/-- AN ARGUMENT THAT IS A SLICE OF PAIRS. -/
theorem open_pairs {H : Type} {enc : TypeId × Value → H} {W : World} {b0 : Nat} {r : Reach} {v : Value} {d : DataW H} {ps : List MemPlace} (hval : Value.okWide Try.prog W r b0 22 v) (hlt : ∀ x ∈ ps, x.block < W.heap.size)
    (h : DataW.Trod enc Try.prog W 0 (fun _ => true) true 22 v d ps) : ∃ a n cap N V, v = .slice a n cap ∧ PairsAt W a n N V ∧ n ≤ cap := by
  obtain ⟨a0, len0, cap0, rfl⟩ := okWide_slice Try.underlying22 hval
  obtain ⟨fuel, hf⟩ := h
  have c2 : Try.prog.cellsOf 2 = 1 := by kernel_rfl
  have c9 : Try.prog.cellsOf 9 = 1 := by kernel_rfl
  have c41 : Try.prog.cellsOf 41 = 2 := by kernel_rfl
  rcases Deep.open_slice_pairs Try.underlying22 Try.underlying41 c41 rfl rfl c9 c2 hf with ⟨hcs, -⟩ | ⟨a, len, cap, m, n, V0, V1, D0, D1, P0, P1, hcs, -, hle, hmax, hm, hx, hall⟩
  · simp [Value.cells] at hcs
    obtain ⟨rfl, rfl, rfl⟩ := hcs
    exact ⟨none, 0, 0, fun _ => ⟨#[]⟩, fun _ => 0, rfl, ⟨by unfold maxLen; omega, fun h => absurd h (by omega)⟩, Nat.le_refl _⟩
  · simp [Value.cells] at hcs
    obtain ⟨rfl, rfl, rfl⟩ := hcs
    simp only [if_true] at hm
    subst hm
    have each : ∀ i, i < m → ∃ q : Int × ByteArray, V0 i = .string q.2 ∧ V1 i = .int .i64 q.1 ∧ q.2.size ≤ maxLen := fun i hi => by
      obtain ⟨-, -, h0, h1⟩ := hall i hi
      obtain ⟨x, hx1, -⟩ := DataW.trod_int Try.underlying2 h1
      obtain ⟨s, hs1, -, hs3⟩ := DataW.trod_string Try.underlying9 h0
      exact ⟨(x, s), by simpa using hs1, by simpa using hx1, hs3⟩
    obtain ⟨Q, hQ⟩ := Deep.choose_lt each
    refine ⟨some a, len0, m, fun i => (Q i).2, fun i => (Q i).1, rfl, ⟨by omega, fun h0 => ?_⟩, hle⟩
    obtain ⟨b, off, spot⟩ := a
    have hspot : spot = none := by simpa [Addr.add] using World.cell?_spot (hall 0 (by omega)).1
    subst hspot
    refine ⟨b, off, rfl, ?_, fun i hi => ?_⟩
    · have : MemPlace.cell b off ∈ ps := by
        simp only [Prod.mk.injEq] at hx
        rw [hx.2]
        exact List.mem_append_left _ (MemPlace.mem_row.2 ⟨0, by omega, by simp⟩)
      exact hlt _ this
    · obtain ⟨h1, h2, -, -⟩ := hall i (by omega)
      obtain ⟨q1, q2, q3⟩ := hQ i (by omega)
      rw [q1, add_plain] at h1
      rw [q2, add_plain] at h2
      exact ⟨h1, by rw [Nat.add_assoc]; exact h2, q3⟩

end Go.Proofs.Qxb6613313a
