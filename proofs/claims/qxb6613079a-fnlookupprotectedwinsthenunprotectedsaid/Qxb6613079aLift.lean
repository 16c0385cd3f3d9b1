/-
  FROM A LAW's WALK TO ITS ROW's POST: the call returned true, and below the heap's old size nothing has turned. And: an argument that is a slice of entries, opened.
-/
import Derived.Test.Qxb6613079aWalkA
import Derived.ProofKit
import Derived.Deep.SlicePairs
namespace Go.Proofs.Qxb6613079a
open Go.ChangeShapes Go.WideShapes Go.ChangeAt Go.RowKit
set_option linter.unusedSimpArgs false
set_option linter.unusedVariables false

theorem Try.own : ownKnob Try.prog.godebug = none := by kernel_rfl
theorem Try.laidOut : laidOutB Try.prog = true := by kernel_rfl

theorem all_below {H : Type} {enc : TypeId × Value → H} {P : Program} (hl : laidOutB P = true) {W W' : World} (hb : Below W.heap.size W W') :
    ∀ {ts : List TypeId} {vs : List Value} {ds : List (DataW H)} {ps : List MemPlace}, (∀ t ∈ ts, P.readableRec t = true ∧ t < P.types.size) → (∀ x ∈ ps, x.block < W.heap.size) →
      DataW.TrodAll enc P W 0 (fun _ => true) true ts vs ds ps → DataW.TrodAll enc P W' 0 (fun b => decide (b < W.heap.size)) true ts vs ds ps
  | [], vs, ds, ps, _, _, h => by
    obtain ⟨rfl, rfl, rfl⟩ := trodAll_nil h
    exact trodAll_mk0
  | t :: ts, vs, ds, ps, hr, hp, h => by
    obtain ⟨v, vs', d, ds', p, q, rfl, rfl, rfl, h1, h2⟩ := trodAll_cons h
    exact ⟨_, _, (Below.trod hl (hr t (by simp)).1 (hr t (by simp)).2 h1 hb (fun x hx => hp x (by simp [hx]))),
      (all_below hl hb (fun u hu => hr u (by simp [hu])) (fun x hx => hp x (by simp [hx])) h2), rfl⟩

theorem law_post {H : Type} {enc : TypeId × Value → H} {P : Program} (hl : laidOutB P = true) {f : Func} {s : ChangeSpec} {apart : Bool} {W W' : World} {args : Array Value} {ds gs : List (DataW H)} {before : List MemPlace} {tb : TypeId}
    (hr : ∀ t ∈ f.params.toList, P.readableRec t = true ∧ t < P.types.size) (hres : f.resultTypes = #[tb]) (htb : P.underlying tb = some .bool) (hvars : s.vars = [])
    (hW : DataW.Whole enc P f.params.toList s.vars apart W args.toList ds gs before) (hb : Below W.heap.size W W')
    (hs : s.fn H (ds ++ gs) = { results := [.lit (.bool true)], args := ds }) : s.post enc P f apart true false false W args (.bool true) W' := by
  have hlt := hW.lt
  obtain ⟨p, q, hA, hV, hp, hz, hn⟩ := id hW
  rw [hvars] at hV
  obtain ⟨rfl, rfl⟩ := trodVars_none hV
  have hp' : before = p := by simpa using hp
  refine ⟨ds, [], before, [], p, [], hW, ?_, ?_, ?_, hb.frame _, fun h => by cases h⟩
  · rw [hs, hres]
    exact trodAll_mk1 (shut_bool htb true)
  · rw [hs]
    exact all_below hl hb hr (fun x hx => hlt x (by rw [hp']; exact hx)) hA
  · rw [hs, hvars]
    rfl

/-- AN ARGUMENT THAT IS A SLICE OF ENTRIES. -/
theorem open_ents {H : Type} {enc : TypeId × Value → H} {W : World} {b0 : Nat} {r : Reach} {v : Value} {d : DataW H} {ps : List MemPlace} (hval : Value.okWide Try.prog W r b0 22 v) (hlt : ∀ x ∈ ps, x.block < W.heap.size)
    (h : DataW.Trod enc Try.prog W 0 (fun _ => true) true 22 v d ps) : ∃ a n cap L T, v = .slice a n cap ∧ EntsAt W a n L T := by
  obtain ⟨a0, len0, cap0, rfl⟩ := okWide_slice Try.underlying22 hval
  obtain ⟨fuel, hf⟩ := h
  have c2 : Try.prog.cellsOf 2 = 1 := by kernel_rfl
  have c9 : Try.prog.cellsOf 9 = 1 := by kernel_rfl
  have c55 : Try.prog.cellsOf 55 = 2 := by kernel_rfl
  rcases Deep.open_slice_pairs Try.underlying22 Try.underlying55 c55 rfl rfl c2 c9 hf with ⟨hcs, -⟩ | ⟨a, len, cap, m, n, V0, V1, D0, D1, P0, P1, hcs, -, hle, hmax, hm, hx, hall⟩
  · simp [Value.cells] at hcs
    obtain ⟨rfl, rfl, rfl⟩ := hcs
    exact ⟨none, 0, 0, fun _ => 0, fun _ => ⟨#[]⟩, rfl, by unfold maxLen; omega, fun h => absurd h (by omega)⟩
  · simp [Value.cells] at hcs
    obtain ⟨rfl, rfl, rfl⟩ := hcs
    simp only [if_true] at hm
    subst hm
    have each : ∀ i, i < m → ∃ q : Int × ByteArray, V0 i = .int .i64 q.1 ∧ V1 i = .string q.2 ∧ q.2.size ≤ maxLen := fun i hi => by
      obtain ⟨-, -, h0, h1⟩ := hall i hi
      obtain ⟨x, hx1, -⟩ := DataW.trod_int Try.underlying2 h0
      obtain ⟨s, hs1, -, hs3⟩ := DataW.trod_string Try.underlying9 h1
      exact ⟨(x, s), by simpa using hx1, by simpa using hs1, hs3⟩
    obtain ⟨Q, hQ⟩ := Deep.choose_lt each
    refine ⟨some a, len0, m, fun i => (Q i).1, fun i => (Q i).2, rfl, by omega, fun h0 => ?_⟩
    obtain ⟨b, off, spot⟩ := a
    have hspot : spot = none := by simpa [Addr.add] using World.cell?_spot (hall 0 (by omega)).1
    subst hspot
    refine ⟨b, off, rfl, ?_, fun i hi => ?_⟩
    · have : MemPlace.cell b off ∈ ps := by
        simp only [Prod.mk.injEq] at hx
        rw [hx.2]
        exact List.mem_append_left _ (MemPlace.mem_row.2 ⟨0, by omega, by simp⟩)
      exact hlt _ this
    · obtain ⟨h1, h2, -, -⟩ := hall i (by omega)
      obtain ⟨q1, q2, q3⟩ := hQ i (by omega)
      rw [q1, add_plain] at h1
      rw [q2, add_plain] at h2
      exact ⟨h1, by rw [Nat.add_assoc]; exact h2, q3⟩

end Go.Proofs.Qxb6613079a
