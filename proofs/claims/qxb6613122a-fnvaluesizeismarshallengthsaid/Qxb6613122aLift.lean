/-
  FROM A LAW's WALK TO ITS ROW's POST: the call returned true, and below the heap's old size nothing has turned. And: an argument that is a slice of items, opened.
-/
import Derived.Test.Qxb6613122aWalkA
import Derived.ProofKit
import Derived.Deep.Slices
namespace Go.Proofs.Qxb6613122a
open Go.ChangeShapes Go.WideShapes Go.ChangeAt Go.RowKit
set_option linter.unusedSimpArgs false
set_option linter.unusedVariables false

theorem Try.own : ownKnob Try.prog.godebug = none := by kernel_rfl
theorem c5 : Try.prog.cellsOf 5 = 1 := by kernel_rfl
theorem c4 : Try.prog.cellsOf 4 = 1 := by kernel_rfl
theorem c9 : Try.prog.cellsOf 9 = 1 := by kernel_rfl
theorem c34 : Try.prog.cellsOf 34 = 1 := by kernel_rfl
theorem c21 : Try.prog.cellsOf 21 = 1 := by kernel_rfl
theorem c36 : Try.prog.cellsOf 36 = 5 := by kernel_rfl
theorem Try.laidOut : laidOutB Try.prog = true := by kernel_rfl

theorem all_below {H : Type} {enc : TypeId × Value → H} {P : Program} (hl : laidOutB P = true) {W W' : World} (hb : Below W.heap.size W W') :
    ∀ {ts : List TypeId} {vs : List Value} {ds : List (DataW H)} {ps : List MemPlace}, (∀ t ∈ ts, P.readableRec t = true ∧ t < P.types.size) → (∀ x ∈ ps, x.block < W.heap.size) →
      DataW.TrodAll enc P W 0 (fun _ => true) true ts vs ds ps → DataW.TrodAll enc P W' 0 (fun b => decide (b < W.heap.size)) true ts vs ds ps
  | [], vs, ds, ps, _, _, h => by
    obtain ⟨rfl, rfl, rfl⟩ := trodAll_nil h
    exact trodAll_mk0
  | t :: ts, vs, ds, ps, hr, hp, h => by
    obtain ⟨v, vs', d, ds', p, q, rfl, rfl, rfl, h1, h2⟩ := trodAll_cons h
    exact ⟨_, _, (Below.trod hl (hr t (by simp)).1 (hr t (by simp)).2 h1 hb (fun x hx => hp x (by simp [hx]))),
      (all_below hl hb (fun u hu => hr u (by simp [hu])) (fun x hx => hp x (by simp [hx])) h2), rfl⟩

theorem law_post {H : Type} {enc : TypeId × Value → H} {P : Program} (hl : laidOutB P = true) {f : Func} {s : ChangeSpec} {apart : Bool} {W W' : World} {args : Array Value} {ds gs : List (DataW H)} {before : List MemPlace} {tb : TypeId}
    (hr : ∀ t ∈ f.params.toList, P.readableRec t = true ∧ t < P.types.size) (hres : f.resultTypes = #[tb]) (htb : P.underlying tb = some .bool) (hvars : s.vars = [])
    (hW : DataW.Whole enc P f.params.toList s.vars apart W args.toList ds gs before) (hb : Below W.heap.size W W')
    (hs : s.fn H (ds ++ gs) = { results := [.lit (.bool true)], args := ds }) : s.post enc P f apart true false false W args (.bool true) W' := by
  have hlt := hW.lt
  obtain ⟨p, q, hA, hV, hp, hz, hn⟩ := id hW
  rw [hvars] at hV
  obtain ⟨rfl, rfl⟩ := trodVars_none hV
  have hp' : before = p := by simpa using hp
  refine ⟨ds, [], before, [], p, [], hW, ?_, ?_, ?_, hb.frame _, fun h => by cases h⟩
  · rw [hs, hres]
    exact trodAll_mk1 (shut_bool htb true)
  · rw [hs]
    exact all_below hl hb hr (fun x hx => hlt x (by rw [hp']; exact hx)) hA
  · rw [hs, hvars]
    rfl

theorem okItem {kd bits nl : Int} {b : Bool} {s : ByteArray} (wk : (Lit.int .u8 kd).wf = true) (wb : (Lit.int .u64 bits).wf = true) (wn : (Lit.int .i32 nl).wf = true) (hs : s.size ≤ maxLen) : ItemOk ⟨kd, b, s, bits, nl⟩ := by
  simp [Lit.wf, IntKind.min, IntKind.max, IntKind.signed, IntKind.bits] at wk wb wn
  exact ⟨by simp; omega, by simp; omega, hs, by simp; omega, by simp; omega, by simp; omega, by simp; omega⟩

set_option maxRecDepth 100000 in
/-- The five cells of an item. -/
theorem open_item_cells {H : Type} {enc : TypeId × Value → H} {W : World} {base fuel : Nat} {sp : Nat → Bool} {held : Bool} {cs : List Value} {x : DataW H × List MemPlace}
    (h : DataW.trod enc Try.prog W base sp held fuel 36 cs = some x) : ∃ it : Item, cs = [.int .u8 it.kind, .bool it.b, .string it.s, .int .u64 it.bits, .int .i32 it.null] ∧ ItemOk it := by
  obtain ⟨xs, k, hk, hxy, hlen, hxl, hf⟩ := DataW.trod_struct Try.underlying36 h
  rw [c36] at hlen
  match xs, hxl, cs, hlen with
  | [y0, y1, y2, y3, y4], _, [v0, v1, v2, v3, v4], _ =>
    have g0 := hf 0 _ rfl
    have g1 := hf 1 _ rfl
    have g2 := hf 2 _ rfl
    have g3 := hf 3 _ rfl
    have g4 := hf 4 _ rfl
    simp [c5, c4, c9, c34, c21] at g0 g1 g2 g3 g4
    obtain ⟨kd, e0, -, wk⟩ := DataW.trod_int Try.underlying5 g0
    obtain ⟨b, e1, -⟩ := DataW.trod_bool Try.underlying4 g1
    obtain ⟨s, e2, -, hs⟩ := DataW.trod_string Try.underlying9 g2
    obtain ⟨bits, e3, -, wb⟩ := DataW.trod_int Try.underlying34 g3
    obtain ⟨nl, e4, -, wn⟩ := DataW.trod_int Try.underlying21 g4
    simp at e0 e1 e2 e3 e4
    subst e0 e1 e2 e3 e4
    exact ⟨⟨kd, b, s, bits, nl⟩, rfl, okItem wk wb wn hs⟩

set_option maxRecDepth 100000 in
/-- AN ARGUMENT THAT IS A SLICE OF ITEMS. -/
theorem open_items {H : Type} {enc : TypeId × Value → H} {W : World} {b0 : Nat} {r : Reach} {v : Value} {d : DataW H} {ps : List MemPlace} (hval : Value.okWide Try.prog W r b0 22 v) (hlt : ∀ x ∈ ps, x.block < W.heap.size)
    (h : DataW.Trod enc Try.prog W 0 (fun _ => true) true 22 v d ps) : ∃ a n cap I, v = .slice a n cap ∧ ItemsAt W a n I ∧ (∀ i, i < n → ItemOk (I i)) ∧ n ≤ cap := by
  obtain ⟨a0, len0, cap0, rfl⟩ := okWide_slice Try.underlying22 hval
  obtain ⟨fuel, hf⟩ := h
  rcases Deep.open_slice Try.underlying22 hf with ⟨hcs, -⟩ | ⟨a, len, cap, m, n, D, Pl, hcs, -, hle, hmax, hm, hx, hall⟩
  · simp [Value.cells] at hcs
    obtain ⟨rfl, rfl, rfl⟩ := hcs
    exact ⟨none, 0, 0, fun _ => ⟨0, false, ⟨#[]⟩, 0, 0⟩, rfl, ⟨by unfold maxLen; omega, fun h => absurd h (by omega)⟩, fun i hi => absurd hi (by omega), Nat.le_refl _⟩
  · simp [Value.cells] at hcs
    obtain ⟨rfl, rfl, rfl⟩ := hcs
    simp only [if_true] at hm
    subst hm
    rw [c36] at hall hx
    have each : ∀ i, i < m → ∃ it : Item, (∀ j, j < 5 → W.cell? ((a.add (i * 5)).add j) = [Value.int .u8 it.kind, .bool it.b, .string it.s, .int .u64 it.bits, .int .i32 it.null][j]?) ∧ ItemOk it := fun i hi => by
      obtain ⟨cs', h1, h2⟩ := hall i hi
      obtain ⟨it, rfl, hok⟩ := open_item_cells h2
      obtain ⟨_, hl, hc⟩ := World.cells?_some h1
      exact ⟨it, hc, hok⟩
    have : Inhabited Item := ⟨⟨0, false, ⟨#[]⟩, 0, 0⟩⟩
    obtain ⟨I, hI⟩ := Deep.choose_lt each
    refine ⟨some a, len0, m, I, rfl, ⟨by omega, fun h0 => ?_⟩, fun i hi => (hI i (by omega)).2, hle⟩
    obtain ⟨b, off, spot⟩ := a
    have hspot : spot = none := by
      have := (hI 0 (by omega)).1 0 (by omega)
      simpa [Addr.add] using World.cell?_spot this
    subst hspot
    refine ⟨b, off, rfl, ?_, fun i hi => ?_⟩
    · have : MemPlace.cell b off ∈ ps := by
        simp only [Prod.mk.injEq] at hx
        rw [hx.2]
        exact List.mem_append_left _ (MemPlace.mem_row.2 ⟨0, by omega, by simp⟩)
      exact hlt _ this
    · obtain ⟨hc, hok⟩ := hI i (by omega)
      have hc' : ∀ j, j < 5 → W.cell? ⟨b, off + i * 5 + j, none⟩ = [Value.int .u8 (I i).kind, .bool (I i).b, .string (I i).s, .int .u64 (I i).bits, .int .i32 (I i).null][j]? := fun j hj => by
        have := hc j hj
        rwa [Deep.add_add, add_plain, ← Nat.add_assoc] at this
      exact ⟨hc' 0 (by omega), hc' 1 (by omega), hc' 2 (by omega), hc' 3 (by omega), hc' 4 (by omega), hok⟩

end Go.Proofs.Qxb6613122a
