/-
  'append' on a slice of bytes that is the call's own: what is owned behind it, and which blocks may have been written.
-/
import Derived.Test.Qxb6613122aWalkB
namespace Go.Proofs.Qxb6613122a
open Go.RowKit
set_option linter.unusedSimpArgs false
set_option linter.unusedVariables false

/-- The slice value v (nil, or at the head of a block of its own) holds the bytes bs. -/
def Bytes (w : World) (v : Value) (bs : List Int) : Prop := w.ownsRow 0 5 1 v bs.length (bs.map (Value.int .u8))

/-- From v in w to v' in w': no block of w but v's own has turned; v' lies where v lay, or in a new block. -/
structure App (w : World) (v : Value) (w' : World) (v' : Value) : Prop where
  gr : w.grownBy w' v.ownBlock
  nw : ∀ k, v'.ownBlock = some k → v.ownBlock = some k ∨ w.heap.size ≤ k

theorem grown_refl (w : World) (r : Option Nat) : w.grownBy w r := ⟨rfl, rfl, rfl, Nat.le_refl _, fun _ _ _ => rfl⟩

theorem App.refl (w : World) (v : Value) : App w v w v := ⟨grown_refl w _, fun k hk => Or.inl hk⟩

theorem App.trans {w w1 w2 : World} {v v1 v2 : Value} (h : App w v w1 v1) (h' : App w1 v1 w2 v2) : App w v w2 v2 := by
  refine ⟨⟨h'.gr.os.trans h.gr.os, h'.gr.tape.trans h.gr.tape, h'.gr.output.trans h.gr.output, Nat.le_trans h.gr.size h'.gr.size, fun k hk hne => ?_⟩, fun k hk => ?_⟩
  · refine (h'.gr.block k (Nat.lt_of_lt_of_le hk h.gr.size) (fun e => ?_)).trans (h.gr.block k hk hne)
    rcases h.nw k e.symm with h1 | h1
    · exact hne h1.symm
    · omega
  · rcases h'.nw k hk with h1 | h1
    · exact h.nw k h1
    · exact Or.inr (Nat.le_trans h.gr.size h1)

/-- A new block ahead of it. -/
theorem App.ofAlloc {w w' : World} {v v' : Value} {o : Obj} (h : App (w.alloc o) v w' v') : App w v w' v' := by
  have hs := h.gr.size
  refine ⟨⟨h.gr.os, h.gr.tape, h.gr.output, by simp at hs; omega, fun k hk hne => ?_⟩, fun k hk => ?_⟩
  · rw [h.gr.block k (by simp; omega) hne]
    exact Below.heap_alloc w o k hk
  · rcases h.nw k hk with h1 | h1
    · exact Or.inl h1
    · simp at h1; exact Or.inr (by omega)

/-- Nothing below the old size has turned where v has no block, or a new one. -/
theorem App.below {w w' : World} {v v' : Value} (h : App w v w' v') {B : Nat} (hB : B ≤ w.heap.size) (hv : ∀ k, v.ownBlock = some k → B ≤ k) : Below B w w' :=
  ⟨h.gr.os, h.gr.tape, h.gr.output, h.gr.size, fun k hk => h.gr.block k (by omega) (fun e => by have := hv k e.symm; omega)⟩

theorem Bytes.nil (w : World) : Bytes w (.slice none 0 0) [] := World.ownsRow_nil w 0 5 1
theorem Bytes.alloc {w : World} {v : Value} {bs : List Int} (h : Bytes w v bs) (o : Obj) : Bytes (w.alloc o) v bs := World.ownsRow.alloc h o
theorem Bytes.drew {w : World} {v : Value} {bs : List Int} (h : Bytes w v bs) : Bytes w.drew v bs := h
theorem Bytes.kept {w w' : World} {v : Value} {bs : List Int} {row : Option Nat} (h : Bytes w v bs) (hg : w.grownBy w' row) (hne : v.ownBlock = none ∨ v.ownBlock ≠ row) : Bytes w' v bs := World.ownsRow.kept h hg hne

theorem bytes_one (l : List Int) : ∀ u ∈ l.map (Value.int .u8), u.oneCell' = true := by
  intro u hu
  obtain ⟨x, _, rfl⟩ := List.mem_map.1 hu
  rfl

theorem run_appB (w : World) (ty : TypeId) (v : Value) (bs : List Int) (hown : Bytes w v bs) (ad : Addr) (m c : Nat) (ns : List Int) (hl : ns.length = m)
    (hnews : ∀ j x, ns[j]? = some x → w.cell? (ad.add j) = some (.int .u8 x)) (hb : bs.length + m ≤ 1099511627776) :
    ∃ v' w', (Builtin.append_ #[32, 32] ty #[v, .slice (some ad) m c]).run Try.prog w = .ok v' w' ∧ Bytes w' v' (bs ++ ns) ∧ App w v w' v' := by
  obtain ⟨i, hi, hz0, hz1, hz2⟩ := info_parts (show (Try.prog.info? 5).map (fun i => (i.zero, i.size, i.bytes)) = some (some (.int .u8 0), 1, 1) by kernel_rfl)
  have hl' : (ns.map (Value.int .u8)).length = m * 1 := by simpa using hl
  have hn' : ∀ j u, (ns.map (Value.int .u8))[j]? = some u → w.cell? (ad.add j) = some u := by
    intro j u hu
    rw [List.getElem?_map] at hu
    obtain ⟨x, hx, rfl⟩ := Option.map_eq_some_iff.1 hu
    exact hnews j x hx
  have hmax : bs.length + m ≤ maxLen := by unfold maxLen; omega
  obtain ⟨v', w', hr, h2, h3, h4⟩ := run_append_own (P := Try.prog) w 0 32 ty 5 i (.int .u8 0) 1 1 Try.underlying32 hi hz0 hz1 hz2 rfl (by decide) v bs.length _ hown ad m c _ hl' hn' (bytes_one ns) hmax (by omega) (Nat.zero_le _)
  refine ⟨v', w', hr, ?_, h3, ?_⟩
  · unfold Bytes
    rw [List.length_append, hl, List.map_append]
    exact h2
  · intro k hk
    rcases hown.2 with ⟨hv, hn0⟩ | ⟨g, cap, cur, hv, _, hg, hnc, hcm, hcs, htake⟩
    · by_cases hm : m = 0
      · have : v' = .slice none 0 0 := h4.2 ⟨hv, hm⟩
        rw [this] at hk
        simp [Value.ownBlock] at hk
      · have hr2 := run_append_nil (P := Try.prog) w 32 ty 5 i (.int .u8 0) Try.underlying32 hi hz0 ad m c _ (by rw [hz1]; exact hl') hn' (by omega) (by omega) (by rw [hz2]; omega)
        rw [hv, hr2] at hr
        injection hr with e1 e2
        rw [← e1] at hk
        simp [Value.ownBlock] at hk
        exact Or.inr (by omega)
    · by_cases hroom : bs.length + m ≤ cap
      · have hr2 := run_append_room (P := Try.prog) w 32 ty 5 i Try.underlying32 hi g bs.length cap cur hg ad m c _ (by rw [hz1]; exact hl') hn' (bytes_one ns) hroom (by rw [hz1]; simp [hl]; omega)
        rw [hv, hr2] at hr
        injection hr with e1 e2
        rw [← e1] at hk
        left
        rw [hv]
        exact hk
      · have holds : ∀ j u, (bs.map (Value.int .u8))[j]? = some u → w.cell? ((⟨g, 0, none⟩ : Addr).add j) = some u := World.ownsRow.cells hown (g := g) (by rw [hv]; rfl)
        have hr2 := run_append_grow (P := Try.prog) w 32 ty 5 i (.int .u8 0) Try.underlying32 hi hz0 ⟨g, 0, none⟩ bs.length cap _ (by rw [hz1]; simp) holds ad m c _ (by rw [hz1]; exact hl') hn' (by omega) (by omega) (growslice_fits (by omega) (by rw [hz2]; omega))
        rw [hv, hr2] at hr
        injection hr with e1 e2
        rw [← e1] at hk
        simp [Value.ownBlock] at hk
        exact Or.inr (by omega)

/-- The append at its operation. -/
theorem wpList_appB {w : World} {ops : Array Oper} {rest : List Oper} {o : Oper} {a : Act} {Q : Exit → Act → World → Prop} (hgd : o.guard = none) (s x : Operand)
    (ho : o.op = .call { callee := .builtin .append, args := #[s, x], argTypes := #[32, 32] })
    (v : Value) (bs : List Int) (hs : a.eval s = v) (hown : Bytes w v bs) (ad : Addr) (m c : Nat) (ns : List Int) (hx : a.eval x = .slice (some ad) m c) (hl : ns.length = m)
    (hnews : ∀ j x, ns[j]? = some x → w.cell? (ad.add j) = some (.int .u8 x)) (hb : bs.length + m ≤ 1099511627776)
    (h : ∀ v' w', Bytes w' v' (bs ++ ns) → App w v w' v' → wpList Try.prog ops Q rest (a.put o.dst v') w') : wpList Try.prog ops Q (o :: rest) a w := by
  refine wpList_plain hgd fun K hK => ?_
  obtain ⟨v', w', hr, h2, h3⟩ := run_appB w o.type v bs hown ad m c ns hl hnews hb
  unfold Oper.wp execOp
  simp only [ho, resolve, invoke, builtin, Sem.run_bind, Sem.run_pure, Result.andThen_ok, List.map_toArray, List.map_cons, List.map_nil, hs, hx, hr]
  exact hK _ _ (h v' w' h2 h3)

/-- One byte, laid in a new block of its own first. -/
theorem one_cell (w : World) (x : Int) : ∀ j y, [x][j]? = some y → (w.alloc (.cells #[.int .u8 x] 5)).cell? ((⟨w.heap.size, 0, none⟩ : Addr).add j) = some (.int .u8 y) := by
  intro j y hj
  match j, hj with
  | 0, hj =>
    simp at hj
    subst hj
    simp [Addr.add]

theorem wpList_app1 {w : World} {ops : Array Oper} {rest : List Oper} {o : Oper} {a : Act} {Q : Exit → Act → World → Prop} (hgd : o.guard = none) (s x : Operand)
    (ho : o.op = .call { callee := .builtin .append, args := #[s, x], argTypes := #[32, 32] })
    (v : Value) (bs : List Int) (hs : a.eval s = v) (hown : Bytes w v bs) (y : Int) (N : Nat) (hx : a.eval x = .slice (some ⟨N, 0, none⟩) 1 1) (hN : w.heap.size = N) (hb : bs.length + 1 ≤ 1099511627776)
    (h : ∀ v' w', Bytes w' v' (bs ++ [y]) → App w v w' v' → wpList Try.prog ops Q rest (a.put o.dst v') w') : wpList Try.prog ops Q (o :: rest) a (w.alloc (.cells #[.int .u8 y] 5)) := by
  subst hN
  exact wpList_appB hgd s x ho v bs hs (hown.alloc _) _ 1 1 [y] hx rfl (one_cell w y) hb (fun v' w' h1 h2 => h v' w' h1 h2.ofAlloc)

end Go.Proofs.Qxb6613122a
