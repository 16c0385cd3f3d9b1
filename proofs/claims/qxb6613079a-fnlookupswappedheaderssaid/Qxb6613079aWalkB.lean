/-
  THE WALKS: the message: its making, its puts, its look-ups.
-/
import Derived.Test.Qxb6613079aWalkA
namespace Go.Proofs.Qxb6613079a
open Go.RowKit
set_option linter.unusedSimpArgs false
set_option linter.unusedVariables false

/-- A message at block B: its first header is the map at r1, its second one the map at r2. -/
structure Msg (w : World) (base B r1 r2 : Nat) (g1 g2 : Int → Option ByteArray) : Prop where
  c2 : w.cell? ⟨B, 2, none⟩ = some (.map (some r1))
  c3 : w.cell? ⟨B, 3, none⟩ = some (.map (some r2))
  m1 : MapIs w r1 g1
  m2 : MapIs w r2 g2
  ne : r1 ≠ r2
  b1 : base ≤ r1
  b2 : base ≤ r2
  bB : base ≤ B

theorem MapIs.alloc {w : World} {r : Nat} {g : Int → Option ByteArray} (h : MapIs w r g) (o : Obj) : MapIs (w.alloc o) r g := by
  have hlt := h.lt
  obtain ⟨es, clock, hr, rest⟩ := h
  exact ⟨es, clock, by rw [Below.heap_alloc _ _ _ hlt]; exact hr, rest⟩

theorem MapIs.drew {w : World} {r : Nat} {g : Int → Option ByteArray} (h : MapIs w r g) : MapIs w.drew r g := h

theorem MapIs.made (w : World) : MapIs (w.alloc (.map #[] 0)) w.heap.size (fun _ => none) :=
  ⟨#[], 0, (MapKept.heap_alloc w _).1, by intro e he; simp at he, fun _ => rfl⟩

theorem newSign1_any (w : World) :
    Calls Try.prog 20 #[] w fun e w' => ∃ B r1 r2, e = .returned (.pointer (some ⟨B, 0, none⟩)) ∧ Msg w' w.heap.size B r1 r2 (fun _ => none) (fun _ => none) ∧ Below w.heap.size w w' := by
  have hmm := @run_makeMap Try.prog
  go_enter Try.func20, Try.ntmps20
  go_wp2
  go_ret
  have s1 : (w.alloc (.map #[] 0)).heap.size = w.heap.size + 1 := by simp
  have m2 := MapIs.made (w.alloc (.map #[] 0))
  rw [s1] at m2
  exact ⟨_, _, _, rfl, ⟨by simp [go_sem], by simp [go_sem], ((MapIs.made w).alloc _).alloc _, m2.alloc _, by omega, by omega, by omega, by omega⟩,
    (((Below.refl _ _).alloc (Nat.le_refl _) _).alloc (by simp) _).alloc (by simp; omega) _⟩

theorem get_some (r : Nat) (g : Int → Option ByteArray) (l : Int) (s : ByteArray) (w : World) (h : MapIs w r g) (hg : g l = some s) :
    Calls Try.prog 38 #[.map (some r), .int .i64 l] w fun e w' => e = .returned (.tuple #[.iface 9 (.string s), .bool true]) ∧ w' = w := by
  have hl := look_some h hg
  go_enter Try.func38, Try.ntmps38
  go_wp2
  go_ret2
  exact ⟨rfl, rfl⟩

theorem get_none (r : Nat) (g : Int → Option ByteArray) (l : Int) (w : World) (h : MapIs w r g) (hg : g l = none) :
    Calls Try.prog 38 #[.map (some r), .int .i64 l] w fun e w' => e = .returned (.tuple #[.nilIface, .bool false]) ∧ w' = w := by
  have hl := look_none h hg
  go_enter Try.func38, Try.ntmps38
  go_wp2
  go_ret2
  exact ⟨rfl, rfl⟩

/-- What 'Lookup' answers: the value, whether it stands in the first header, whether there is one. -/
theorem lookup_p (base B r1 r2 : Nat) (g1 g2 : Int → Option ByteArray) (l : Int) (s : ByteArray) (w : World) (h : Msg w base B r1 r2 g1 g2) (hg : g1 l = some s) :
    Calls Try.prog 34 #[.pointer (some ⟨B, 0, none⟩), .int .i64 l] w fun e w' => e = .returned (.tuple #[.iface 9 (.string s), .bool true, .bool true]) ∧ w' = w := by
  obtain ⟨c2, c3, m1, m2, -, -, -, -⟩ := h
  go_enter Try.func34, Try.ntmps34
  go_wp2_with (go_at_call 38; refine (get_some r1 g1 l s _ m1 hg).mono ?_; rintro e w' ⟨rfl, rfl⟩)
  go_ret3
  exact ⟨rfl, rfl⟩

theorem lookup_u (base B r1 r2 : Nat) (g1 g2 : Int → Option ByteArray) (l : Int) (s : ByteArray) (w : World) (h : Msg w base B r1 r2 g1 g2) (hg : g1 l = none) (hg2 : g2 l = some s) :
    Calls Try.prog 34 #[.pointer (some ⟨B, 0, none⟩), .int .i64 l] w fun e w' => e = .returned (.tuple #[.iface 9 (.string s), .bool false, .bool true]) ∧ w' = w := by
  obtain ⟨c2, c3, m1, m2, -, -, -, -⟩ := h
  go_enter Try.func34, Try.ntmps34
  go_wp2_with fail
  refine (get_none r1 g1 l _ m1 hg).mono ?_
  rintro e w' ⟨rfl, rfl⟩
  go_wp2_with fail
  refine (get_some r2 g2 l s _ m2 hg2).mono ?_
  rintro e w' ⟨rfl, rfl⟩
  go_wp2_with fail
  go_ret3
  exact ⟨rfl, rfl⟩

theorem lookup_n (base B r1 r2 : Nat) (g1 g2 : Int → Option ByteArray) (l : Int) (w : World) (h : Msg w base B r1 r2 g1 g2) (hg : g1 l = none) (hg2 : g2 l = none) :
    Calls Try.prog 34 #[.pointer (some ⟨B, 0, none⟩), .int .i64 l] w fun e w' => e = .returned (.tuple #[.nilIface, .bool false, .bool false]) ∧ w' = w := by
  obtain ⟨c2, c3, m1, m2, -, -, -, -⟩ := h
  go_enter Try.func34, Try.ntmps34
  go_wp2_with fail
  refine (get_none r1 g1 l _ m1 hg).mono ?_
  rintro e w' ⟨rfl, rfl⟩
  go_wp2_with fail
  refine (get_none r2 g2 l _ m2 hg2).mono ?_
  rintro e w' ⟨rfl, rfl⟩
  go_wp2_with fail
  go_ret3
  exact ⟨rfl, rfl⟩

/-- What 'ZZLookupText' answers of a message. -/
def textOf (o1 o2 : Option ByteArray) : Value := .tuple #[.string (lastStr (o1.or o2)), .bool (o1.or o2).isSome, .bool o1.isSome, .bool (o1.or o2).isSome]

theorem ta_some (s : ByteArray) (w : World) : (Instr.typeAssert (.iface 9 (.string s)) 20 9 true).run Try.prog w = .ok (.tuple #[.string s, .bool true]) w := by kernel_rfl
theorem ta_none (w : World) : (Instr.typeAssert .nilIface 20 9 true).run Try.prog w = .ok (.tuple #[.string ⟨#[]⟩, .bool false]) w := by kernel_rfl

theorem lookupText_any (base B r1 r2 : Nat) (g1 g2 : Int → Option ByteArray) (l : Int) (w : World) (h : Msg w base B r1 r2 g1 g2) :
    Calls Try.prog 14 #[.pointer (some ⟨B, 0, none⟩), .int .i64 l] w fun e w' => e = .returned (textOf (g1 l) (g2 l)) ∧ w' = w := by
  have t1 := ta_some
  have t2 := ta_none
  cases hg : g1 l with
  | some s =>
    go_enter Try.func14, Try.ntmps14
    go_wp2_with (go_at_call 34; refine (lookup_p base B r1 r2 g1 g2 l s _ h hg).mono ?_; rintro e w' ⟨rfl, rfl⟩)
    refine bodyPost_ret (v := .tuple #[.string s, .bool true, .bool true, .bool true]) (by simp [results, Try.results14, go_sem]) rfl ⟨?_, rfl⟩
    simp [textOf, lastStr]
  | none =>
    cases hg2 : g2 l with
    | some s =>
      go_enter Try.func14, Try.ntmps14
      go_wp2_with (go_at_call 34; refine (lookup_u base B r1 r2 g1 g2 l s _ h hg hg2).mono ?_; rintro e w' ⟨rfl, rfl⟩)
      refine bodyPost_ret (v := .tuple #[.string s, .bool true, .bool false, .bool true]) (by simp [results, Try.results14, go_sem]) rfl ⟨?_, rfl⟩
      simp [textOf, lastStr]
    | none =>
      go_enter Try.func14, Try.ntmps14
      go_wp2_with (go_at_call 34; refine (lookup_n base B r1 r2 g1 g2 l _ h hg hg2).mono ?_; rintro e w' ⟨rfl, rfl⟩)
      refine bodyPost_ret (v := .tuple #[.string ⟨#[]⟩, .bool false, .bool false, .bool false]) (by simp [results, Try.results14, go_sem]) rfl ⟨?_, rfl⟩
      simp [textOf, lastStr]

theorem cell_setB {w : World} {r : Nat} {g : Int → Option ByteArray} (h : MapIs w r g) (o : Obj) {a : Addr} {v : Value} (ha : w.cell? a = some v) : (setB w r o).cell? a = some v := by
  obtain ⟨es, clock, hr, _⟩ := h
  have hne : a.block ≠ r := fun e => by simp [World.cell?, e, hr] at ha
  rw [World.cell?_of_block (w := w) (a := a)]
  · exact ha
  · simp [setB, Ne.symm hne]

theorem putP_any (base B r1 r2 : Nat) (g1 g2 : Int → Option ByteArray) (l : Int) (s : ByteArray) (w : World) (h : Msg w base B r1 r2 g1 g2) :
    Calls Try.prog 27 #[.pointer (some ⟨B, 0, none⟩), .int .i64 l, .string s] w fun e w' => e = .returned (.tuple #[]) ∧ Msg w' base B r1 r2 (upd g1 l s) g2 ∧ Below base w w' := by
  obtain ⟨o, hrun, hm⟩ := store_kk h.m1 l s
  have c2 := h.c2
  go_enter Try.func27, Try.ntmps27
  go_wp2
  go_end0
  exact ⟨rfl, ⟨cell_setB h.m1 o h.c2, cell_setB h.m1 o h.c3, hm, h.m2.other h.ne.symm, h.ne, h.b1, h.b2, h.bB⟩, below_setB o h.b1⟩

theorem putU_any (base B r1 r2 : Nat) (g1 g2 : Int → Option ByteArray) (l : Int) (s : ByteArray) (w : World) (h : Msg w base B r1 r2 g1 g2) :
    Calls Try.prog 15 #[.pointer (some ⟨B, 0, none⟩), .int .i64 l, .string s] w fun e w' => e = .returned (.tuple #[]) ∧ Msg w' base B r1 r2 g1 (upd g2 l s) ∧ Below base w w' := by
  obtain ⟨o, hrun, hm⟩ := store_kk h.m2 l s
  have c3 := h.c3
  go_enter Try.func15, Try.ntmps15
  go_wp2
  go_end0
  exact ⟨rfl, ⟨cell_setB h.m2 o h.c2, cell_setB h.m2 o h.c3, h.m1.other h.ne, hm, h.ne, h.b1, h.b2, h.bB⟩, below_setB o h.b2⟩

end Go.Proofs.Qxb6613079a
