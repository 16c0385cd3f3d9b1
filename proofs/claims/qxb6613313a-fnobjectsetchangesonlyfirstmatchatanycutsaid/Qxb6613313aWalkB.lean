/-
  THE WALKS: ZZnewObject, zzObject, Set, ZZsetInt.
-/
import Derived.Test.Qxb6613313aWalkA
import Derived.Deep.OwnRows
namespace Go.Proofs.Qxb6613313a
open Go.RowKit
set_option linter.unusedSimpArgs false
set_option linter.unusedVariables false

theorem info9 : (Try.prog.info? 9).map (fun i => (i.zero, i.size, i.bytes)) = some (some (.string ⟨#[]⟩), 1, 16) := by kernel_rfl
theorem info2 : (Try.prog.info? 2).map (fun i => (i.zero, i.size, i.bytes)) = some (some (.int .i64 0), 1, 8) := by kernel_rfl
theorem info63 : (Try.prog.info? 63).map (fun i => (i.zero, i.size, i.bytes)) = some (some (.agg #[.string ⟨#[]⟩, .nilIface]), 2, 32) := by kernel_rfl

def mkStrs (n : Nat) : Obj := .cells (madeCells #[.string ⟨#[]⟩] n) 9
def mkInts (n : Nat) : Obj := .cells (madeCells #[.int .i64 0] n) 2
def mkObj (n : Nat) : Obj := .cells (madeCells #[.string ⟨#[]⟩, .nilIface] (n * 2)) 63

theorem make32 (n : Nat) (hn : n ≤ 100000) (w : World) : (Instr.makeSlice 32 (.int .i64 n) (.int .i64 n)).run Try.prog w = .ok (.slice (some ⟨w.heap.size, 0, none⟩) n n) (w.alloc (mkStrs n)) :=
  run_make_row' (P := Try.prog) 32 9 _ 16 Try.underlying32 info9 rfl .i64 .i64 n (by omega) (by omega) w
theorem make34 (n : Nat) (hn : n ≤ 100000) (w : World) : (Instr.makeSlice 34 (.int .i64 n) (.int .i64 n)).run Try.prog w = .ok (.slice (some ⟨w.heap.size, 0, none⟩) n n) (w.alloc (mkInts n)) :=
  run_make_row' (P := Try.prog) 34 2 _ 8 Try.underlying34 info2 rfl .i64 .i64 n (by omega) (by omega) w
theorem make28 (n : Nat) (hn : n ≤ 100000) (w : World) : (Instr.makeSlice 28 (.int .i64 n) (.int .i64 n)).run Try.prog w = .ok (.slice (some ⟨w.heap.size, 0, none⟩) n n) (w.alloc (mkObj n)) := by
  obtain ⟨i, hi, hz0, hz1, hz2⟩ := info_parts info63
  have := run_make (P := Try.prog) w 28 63 i _ Try.underlying28 hi hz0 .i64 .i64 n n (by omega) (by omega) (by rw [hz2]; omega) (by omega)
  rw [this]
  simp [hz1, Value.cells, mkObj]

/-- The cells of an object. -/
def objF (N : Nat → ByteArray) (V : Nat → Int) : Nat → Value := fun j => if j % 2 = 0 then .string (N (j / 2)) else .iface 2 (.int .i64 (V (j / 2)))
def objZ : Nat → Value := fun j => if j % 2 = 0 then .string ⟨#[]⟩ else .nilIface
/-- The first k members laid. -/
def part (N : Nat → ByteArray) (V : Nat → Int) (k : Nat) : Nat → Value := fun j => if j < k * 2 then objF N V j else objZ j

theorem obj_made (w : World) (n : Nat) : (w.alloc (mkObj n)).rowIs w.heap.size 63 (n * 2) objZ := by
  refine ⟨_, heap_alloc_new _ _, size_madeCells _ _, fun i hi => ?_⟩
  simp [madeCells, hi, objZ]
  have := Nat.mod_two_eq_zero_or_one i
  rcases this with h | h <;> simp [h]

theorem cells_below {w w' : World} (hb : Below w.heap.size w w') : ∀ a v, w.cell? a = some v → w'.cell? a = some v := fun a v h =>
  (hb.cell (p := a) (World.block_lt_of_cell? w a h)).trans h

theorem PairsAt.below {w w' : World} {a : Option Addr} {n : Nat} {N : Nat → ByteArray} {V : Nat → Int} (h : PairsAt w a n N V) (hb : Below w.heap.size w w') : PairsAt w' a n N V := by
  obtain ⟨hn, hc⟩ := h
  refine ⟨hn, fun h0 => ?_⟩
  obtain ⟨b, off, ha, hlt, hcell⟩ := hc h0
  refine ⟨b, off, ha, Nat.lt_of_lt_of_le hlt hb.size, fun i hi => ?_⟩
  obtain ⟨c0, c1, ok⟩ := hcell i hi
  exact ⟨cells_below hb _ _ c0, cells_below hb _ _ c1, ok⟩

theorem rowBelow {w w' : World} {g B n : Nat} {e : TypeId} {f : Nat → Value} (h : w.rowIs g e n f) (hb : Below B w w') (hg : g < B) : w'.rowIs g e n f := h.of_block (hb.block g hg)

theorem part_step {w : World} {g n k : Nat} {N : Nat → ByteArray} {V : Nat → Int} (h : w.rowIs g 63 (n * 2) (part N V k)) :
    ((w.setCell ⟨g, k * 2, none⟩ (.string (N k))).setCell ⟨g, k * 2 + 1, none⟩ (.iface 2 (.int .i64 (V k)))).rowIs g 63 (n * 2) (part N V (k + 1)) := by
  refine ((h.set (k * 2) _).set (k * 2 + 1) _).congr fun j hj => ?_
  unfold part objF
  by_cases h1 : j = k * 2 + 1
  · subst h1
    have e1 : (k * 2 + 1) % 2 = 1 := by omega
    have e2 : (k * 2 + 1) / 2 = k := by omega
    have e3 : k * 2 + 1 < (k + 1) * 2 := by omega
    simp [e1, e2, e3]
  · rw [if_neg h1]
    by_cases h2 : j = k * 2
    · subst h2
      have e1 : (k * 2) % 2 = 0 := by omega
      have e2 : (k * 2) / 2 = k := by omega
      have e3 : k * 2 < (k + 1) * 2 := by omega
      simp [e1, e2, e3]
    · rw [if_neg h2]
      by_cases h3 : j < k * 2
      · simp [h3, show j < (k + 1) * 2 by omega]
      · simp [h3, show ¬ j < (k + 1) * 2 by omega]

set_option maxHeartbeats 1000000 in
theorem newObject_any (gn gv n : Nat) (N : Nat → ByteArray) (V : Nat → Int) (w : World) (hn : n ≤ 100000) (h1 : w.rowIs gn 9 n (fun i => .string (N i))) (h2 : w.rowIs gv 2 n (fun i => .int .i64 (V i))) :
    Calls Try.prog 30 #[.slice (some ⟨gn, 0, none⟩) n n, .slice (some ⟨gv, 0, none⟩) n n] w fun e w' => e = .returned (.slice (some ⟨w.heap.size, 0, none⟩) n n) ∧ w'.rowIs w.heap.size 63 (n * 2) (objF N V) ∧ Below w.heap.size w w' := by
  have hmk := make28 n hn
  go_enter Try.func30, Try.ntmps30
  go_wp2_with fail
  have hinv0 : (w.alloc (mkObj n)).rowIs w.heap.size 63 (n * 2) (part N V 0) := (obj_made w n).congr fun i hi => by simp [part]
  have hb0 : Below w.heap.size w (w.alloc (mkObj n)) := (Below.refl _ _).alloc (Nat.le_refl _) _
  go_loopw [12] (fun i wr => ∃ k : Nat, k ≤ n ∧ i = .int .i64 k ∧ wr.rowIs w.heap.size 63 (n * 2) (part N V k) ∧ Below w.heap.size w wr) (fun i _ => n - (intOf i).toNat)
  case atStart => exact ⟨0, Nat.zero_le _, rfl, hinv0, hb0⟩
  case round =>
    clear hinv0 hb0 hmk
    obtain ⟨k, hk, rfl, hrow, hbel⟩ := hrel
    by_cases hlt : k < n
    · have c1 := (rowBelow h1 hbel h1.lt).cell hlt
      have c2 := (rowBelow h2 hbel h2.lt).cell hlt
      have f1 := hrow.frozen (k * 2)
      have f2 := hrow.frozen (k * 2 + 1)
      have d1 := hrow.cell (i := k * 2) (by omega)
      have d2 := hrow.cell (i := k * 2 + 1) (by omega)
      have hlt' : (k : Int) < n := by omega
      generalize part N V k (k * 2) = x1 at d1
      generalize part N V k (k * 2 + 1) = x2 at d2
      have HROW : Hid (wr.rowIs w.heap.size 63 (n * 2) (part N V k)) := hrow
      clear hrow h1 h2
      go_wp2_with fail
      go_region
      all_goals
        go_wp2_with fail
        go_roundw
        case rel => exact ⟨k + 1, by omega, by go_num, (part_step HROW.out).drew, ((hbel.setCell (p := ⟨w.heap.size, k * 2, none⟩) (Nat.le_refl _) _).setCell (p := ⟨w.heap.size, k * 2 + 1, none⟩) (Nat.le_refl _) _).trans ⟨rfl, rfl, rfl, Nat.le_refl _, fun _ _ => rfl⟩⟩
        case measure => simp [intOf]; omega
    · have hkn : k = n := by omega
      subst hkn
      go_wp2_with fail
      go_ret
      refine ⟨rfl, hrow.congr fun i hi => by simp [part, hi], hbel⟩

/-- A row, its first k cells laid. -/
def fill (f : Nat → Value) (z : Value) (k : Nat) : Nat → Value := fun j => if j < k then f j else z

theorem fill_step {w : World} {g n k : Nat} {e : TypeId} {f : Nat → Value} {z : Value} (h : w.rowIs g e n (fill f z k)) : (w.setCell ⟨g, k, none⟩ (f k)).rowIs g e n (fill f z (k + 1)) := by
  refine (h.set k _).congr fun j hj => ?_
  unfold fill
  by_cases h1 : j = k
  · subst h1; simp
  · rw [if_neg h1]
    by_cases h3 : j < k
    · simp [h3, show j < k + 1 by omega]
    · simp [h3, show ¬ j < k + 1 by omega]

theorem fill_all {w : World} {g n : Nat} {e : TypeId} {f : Nat → Value} {z : Value} (h : w.rowIs g e n (fill f z n)) : w.rowIs g e n f := h.congr fun i hi => by simp [fill, hi]

theorem fill_zero {w : World} {g n : Nat} {e : TypeId} {f : Nat → Value} {z : Value} (h : w.rowIs g e n (fun _ => z)) : w.rowIs g e n (fill f z 0) := h.congr fun i hi => by simp [fill]

set_option maxHeartbeats 1000000 in
/-- zzObject. -/
theorem object_any (a : Option Addr) (n cap : Nat) (N : Nat → ByteArray) (V : Nat → Int) (w : World) (he : PairsAt w a n N V) (hn : n ≤ 100000) :
    Calls Try.prog 10 #[.slice a n cap] w fun e w' => ∃ g, e = .returned (.slice (some ⟨g, 0, none⟩) n n) ∧ w.heap.size ≤ g ∧ w'.rowIs g 63 (n * 2) (objF N V) ∧ Below w.heap.size w w' := by
  have hmk := make32 n hn
  have hmk2 := make34 n hn
  go_enter Try.func10, Try.ntmps10
  go_wp2_with fail
  have hs1 : (w.alloc (mkStrs n)).heap.size = w.heap.size + 1 := by simp
  have hinv1 : ((w.alloc (mkStrs n)).alloc (mkInts n)).rowIs w.heap.size 9 n (fill (fun i => .string (N i)) (.string ⟨#[]⟩) 0) := fill_zero ((World.rowIs_made w _ n 9).alloc _)
  have hinv2 : ((w.alloc (mkStrs n)).alloc (mkInts n)).rowIs (w.heap.size + 1) 2 n (fill (fun i => .int .i64 (V i)) (.int .i64 0) 0) := by
    rw [← hs1]; exact fill_zero (World.rowIs_made (w.alloc (mkStrs n)) _ n 2)
  have hb0 : Below w.heap.size w ((w.alloc (mkStrs n)).alloc (mkInts n)) := ((Below.refl _ _).alloc (Nat.le_refl _) _).alloc (by simp) _
  go_loopw [5] (fun i wr => ∃ k : Nat, k ≤ n ∧ i = .int .i64 k ∧ wr.rowIs w.heap.size 9 n (fill (fun i => .string (N i)) (.string ⟨#[]⟩) k) ∧ wr.rowIs (w.heap.size + 1) 2 n (fill (fun i => .int .i64 (V i)) (.int .i64 0) k) ∧ Below w.heap.size w wr) (fun i _ => n - (intOf i).toNat)
  case atStart => exact ⟨0, Nat.zero_le _, rfl, hinv1, hinv2, hb0⟩
  case round =>
    clear hinv1 hinv2 hb0 hmk hmk2
    obtain ⟨k, hk, rfl, hrow1, hrow2, hbel⟩ := hrel
    by_cases hlt : k < n
    · obtain ⟨-, hc⟩ := he.below hbel
      obtain ⟨b, off, rfl, hb, hc⟩ := hc (by omega)
      obtain ⟨c0, c1, -⟩ := hc k hlt
      clear hc
      have f1 := hrow1.frozen k
      have f2 := hrow2.frozen k
      have d1 := hrow1.cell (i := k) hlt
      have d2 := hrow2.cell (i := k) hlt
      have hlt' : (k : Int) < n := by omega
      generalize fill (fun i => .string (N i)) (.string ⟨#[]⟩) k k = x1 at d1
      generalize fill (fun i => .int .i64 (V i)) (.int .i64 0) k k = x2 at d2
      have hbw : b < w.heap.size := by
        obtain ⟨-, hc'⟩ := he
        obtain ⟨b', off', e1, hb', -⟩ := hc' (by omega)
        injection e1 with e1
        injection e1 with e1
        rw [e1]; exact hb'
      have hbel2 := (hbel.setCell (p := ⟨w.heap.size, k, none⟩) (Nat.le_refl _) (.string (N k))).setCell (p := ⟨w.heap.size + 1, k, none⟩) (Nat.le_succ _) (.int .i64 (V k))
      have r1 := (fill_step (f := fun i => .string (N i)) hrow1).setOther (a := ⟨w.heap.size + 1, k, none⟩) (by simp) (.int .i64 (V k))
      have r2 := fill_step (f := fun i => .int .i64 (V i)) (hrow2.setOther (a := ⟨w.heap.size, k, none⟩) (by simp) (.string (N k)))
      have HR : Hid (((wr.setCell ⟨w.heap.size, k, none⟩ (.string (N k))).setCell ⟨w.heap.size + 1, k, none⟩ (.int .i64 (V k))).rowIs w.heap.size 9 n (fill (fun i => .string (N i)) (.string ⟨#[]⟩) (k + 1)) ∧ ((wr.setCell ⟨w.heap.size, k, none⟩ (.string (N k))).setCell ⟨w.heap.size + 1, k, none⟩ (.int .i64 (V k))).rowIs (w.heap.size + 1) 2 n (fill (fun i => .int .i64 (V i)) (.int .i64 0) (k + 1)) ∧ Below w.heap.size w ((wr.setCell ⟨w.heap.size, k, none⟩ (.string (N k))).setCell ⟨w.heap.size + 1, k, none⟩ (.int .i64 (V k)))) := ⟨r1, r2, hbel2⟩
      have hne : b ≠ w.heap.size := by omega
      clear hrow1 hrow2 hbel hbel2 r1 r2 he
      go_wp2_with fail
      go_roundw
      case rel => exact ⟨k + 1, by omega, by go_num, HR.out⟩
      case measure => simp [intOf]; omega
    · have hkn : k = n := by omega
      subst hkn
      go_wp2_with fail
      go_fit (newObject_any w.heap.size (w.heap.size + 1) k N V _ hn (fill_all hrow1) (fill_all hrow2))
      rintro e w2 ⟨rfl, hr, hb2⟩
      have hsz := hbel.size
      go_wp2_with fail
      go_ret
      exact ⟨_, rfl, hsz, hr, hbel.trans (hb2.mono hsz)⟩
end Go.Proofs.Qxb6613313a
