/-
  THE WALKS: Set, ZZsetInt, ZZobjectNames, ZZobjectInts, zzSameStrings, zzSameInts.
-/
import Derived.Test.Qxb6613313aWalkB
namespace Go.Proofs.Qxb6613313a
open Go.RowKit
set_option linter.unusedSimpArgs false
set_option linter.unusedVariables false

/-- V, with v at place k. -/
def upd (V : Nat → Int) (k : Nat) (v : Int) : Nat → Int := fun i => if i = k then v else V i

theorem obj_set {w : World} {g n k : Nat} {N : Nat → ByteArray} {V : Nat → Int} (h : w.rowIs g 63 (n * 2) (objF N V)) (v : Int) :
    (w.setCell ⟨g, k * 2 + 1, none⟩ (.iface 2 (.int .i64 v))).rowIs g 63 (n * 2) (objF N (upd V k v)) := by
  refine (h.set (k * 2 + 1) _).congr fun j hj => ?_
  unfold objF upd
  by_cases h1 : j = k * 2 + 1
  · subst h1
    have e1 : (k * 2 + 1) % 2 = 1 := by omega
    have e2 : (k * 2 + 1) / 2 = k := by omega
    simp [e1, e2]
  · rw [if_neg h1]
    by_cases h2 : j % 2 = 0
    · simp [h2]
    · simp [h2, show ¬ j / 2 = k by omega]

theorem obj_out {w : World} {g n k : Nat} {N : Nat → ByteArray} {V : Nat → Int} (h : w.rowIs g 63 (n * 2) (objF N V)) (hk : n ≤ k) (v : Int) : w.rowIs g 63 (n * 2) (objF N (upd V k v)) := by
  refine h.congr fun j hj => ?_
  unfold objF upd
  simp [show ¬ j / 2 = k by omega]

theorem obj_name {w : World} {g n k : Nat} {N : Nat → ByteArray} {V : Nat → Int} (h : w.rowIs g 63 (n * 2) (objF N V)) (hk : k < n) : w.cell? ⟨g, k * 2, none⟩ = some (.string (N k)) := by
  have := h.cell (i := k * 2) (by omega)
  simpa [objF, show (k * 2) % 2 = 0 by omega] using this

theorem obj_val {w : World} {g n k : Nat} {N : Nat → ByteArray} {V : Nat → Int} (h : w.rowIs g 63 (n * 2) (objF N V)) (hk : k < n) : w.cell? ⟨g, k * 2 + 1, none⟩ = some (.iface 2 (.int .i64 (V k))) := by
  have := h.cell (i := k * 2 + 1) (by omega)
  simpa [objF, show (k * 2 + 1) % 2 = 1 by omega, show (k * 2 + 1) / 2 = k by omega] using this

theorem grown_set (w : World) (g j : Nat) (v : Value) : w.grownBy (w.setCell ⟨g, j, none⟩ v) (some g) :=
  ⟨rfl, rfl, rfl, by simp, fun k _ hk => heap_setCell_other w ⟨g, j, none⟩ k v (fun e => hk (by simp [e]))⟩
theorem grown_refl' (w : World) (r : Option Nat) : w.grownBy w r := ⟨rfl, rfl, rfl, Nat.le_refl _, fun _ _ _ => rfl⟩

set_option maxHeartbeats 1000000 in
/-- (Object).Set. -/
theorem set_any (g n : Nat) (N : Nat → ByteArray) (V : Nat → Int) (s : ByteArray) (v : Int) (k : Nat) (w : World) (hn : n ≤ 100000) (h : w.rowIs g 63 (n * 2) (objF N V)) (hk : IsFirst N s n k) :
    Calls Try.prog 31 #[.slice (some ⟨g, 0, none⟩) n n, .string s, .iface 2 (.int .i64 v)] w fun e w' => (∃ r, e = .returned r) ∧ w'.rowIs g 63 (n * 2) (objF N (upd V k v)) ∧ w.grownBy w' (some g) := by
  obtain ⟨hle, hne, heq⟩ := hk
  have HX : Hid (w.rowIs g 63 (n * 2) (objF N V)) := h
  clear h
  go_enter Try.func31, Try.ntmps31
  go_wp2_with fail
  go_loop [9] (fun i => ∃ (j : Nat), j ≤ k ∧ i = .int .i64 j) (fun i => n - (intOf i).toNat)
  case atStart => exact ⟨0, Nat.zero_le _, rfl⟩
  case round =>
    obtain ⟨j, hj, rfl⟩ := hrel
    by_cases hlt : j < n
    · have hcell := obj_name HX.out hlt
      have hlt' : (j : Int) < n := by omega
      by_cases hjk : j < k
      · have hns := str_ne (hne j hjk)
        clear hne heq
        go_wp2_with fail
        go_round
        case rel => exact ⟨j + 1, by omega, by go_num⟩
        case measure => simp [intOf]; omega
      · have hjk' : j = k := by omega
        subst hjk'
        have hns : ((N j).toList == s.toList) = true := by rw [heq hlt]; exact str_eq s
        have c2 := obj_val HX.out hlt
        have f2 := HX.out.frozen (j * 2 + 1)
        clear hne heq
        go_wp2_with fail
        refine bodyPost_ret (results_none rfl _ _ _) rfl ?_
        exact ⟨⟨_, rfl⟩, obj_set HX.out v, grown_set _ _ _ _⟩
    · have hkn : n ≤ k := by omega
      clear hne heq
      go_wp2_with fail
      go_end0
      exact ⟨⟨_, rfl⟩, obj_out HX.out hkn v, grown_refl' _ _⟩

theorem setInt_any (g n : Nat) (N : Nat → ByteArray) (V : Nat → Int) (s : ByteArray) (v : Int) (k : Nat) (w : World) (hn : n ≤ 100000) (h : w.rowIs g 63 (n * 2) (objF N V)) (hk : IsFirst N s n k) :
    Calls Try.prog 11 #[.slice (some ⟨g, 0, none⟩) n n, .string s, .int .i64 v] w fun e w' => (∃ r, e = .returned r) ∧ w'.rowIs g 63 (n * 2) (objF N (upd V k v)) ∧ w.grownBy w' (some g) := by
  have HK : Hid (IsFirst N s n k) := hk
  have HX : Hid (w.rowIs g 63 (n * 2) (objF N V)) := h
  clear hk h
  go_enter Try.func11, Try.ntmps11
  go_wp2_with fail
  go_fit (set_any g n N V s v k _ hn HX.out HK.out)
  rintro e w' ⟨⟨r, rfl⟩, h1, h2⟩
  have HH : Hid (w'.rowIs g 63 (n * 2) (objF N (upd V k v)) ∧ w.grownBy w' (some g)) := ⟨h1, h2⟩
  clear h1 h2
  go_wp2_with fail
  go_end0
  exact ⟨⟨_, rfl⟩, HH.out⟩

set_option maxHeartbeats 1000000 in
/-- ZZobjectNames. -/
theorem names_any (g n : Nat) (N : Nat → ByteArray) (V : Nat → Int) (w : World) (hn : n ≤ 100000) (h : w.rowIs g 63 (n * 2) (objF N V)) :
    Calls Try.prog 13 #[.slice (some ⟨g, 0, none⟩) n n] w fun e w' => e = .returned (.slice (some ⟨w.heap.size, 0, none⟩) n n) ∧ w'.rowIs w.heap.size 9 n (fun i => .string (N i)) ∧ Below w.heap.size w w' := by
  have hmk := make32 n hn
  go_enter Try.func13, Try.ntmps13
  go_wp2_with fail
  have hinv1 : (w.alloc (mkStrs n)).rowIs w.heap.size 9 n (fill (fun i => .string (N i)) (.string ⟨#[]⟩) 0) := fill_zero (World.rowIs_made w _ n 9)
  have hb0 : Below w.heap.size w (w.alloc (mkStrs n)) := (Below.refl _ _).alloc (Nat.le_refl _) _
  go_loopw [10] (fun i wr => ∃ k : Nat, k ≤ n ∧ i = .int .i64 k ∧ wr.rowIs w.heap.size 9 n (fill (fun i => .string (N i)) (.string ⟨#[]⟩) k) ∧ Below w.heap.size w wr) (fun i _ => n - (intOf i).toNat)
  case atStart => exact ⟨0, Nat.zero_le _, rfl, hinv1, hb0⟩
  case round =>
    clear hinv1 hb0 hmk
    obtain ⟨k, hk, rfl, hrow1, hbel⟩ := hrel
    by_cases hlt : k < n
    · have c0 := obj_name (rowBelow h hbel h.lt) hlt
      have f1 := hrow1.frozen k
      have d1 := hrow1.cell (i := k) hlt
      have hlt' : (k : Int) < n := by omega
      generalize fill (fun i => .string (N i)) (.string ⟨#[]⟩) k k = x1 at d1
      have HR : Hid ((wr.setCell ⟨w.heap.size, k, none⟩ (.string (N k))).rowIs w.heap.size 9 n (fill (fun i => .string (N i)) (.string ⟨#[]⟩) (k + 1)) ∧ Below w.heap.size w (wr.setCell ⟨w.heap.size, k, none⟩ (.string (N k)))) := ⟨fill_step (f := fun i => .string (N i)) hrow1, hbel.setCell (p := ⟨w.heap.size, k, none⟩) (Nat.le_refl _) _⟩
      clear hrow1 hbel h
      go_wp2_with fail
      go_roundw
      case rel => exact ⟨k + 1, by omega, by go_num, HR.out⟩
      case measure => simp [intOf]; omega
    · have hkn : k = n := by omega
      subst hkn
      go_wp2_with fail
      go_ret
      exact ⟨rfl, fill_all hrow1, hbel⟩

theorem ta2 (x : Int) (w : World) : (Instr.typeAssert (.iface 2 (.int .i64 x)) 20 2 true).run Try.prog w = .ok (.tuple #[.int .i64 x, .bool true]) w := by kernel_rfl

set_option maxHeartbeats 1000000 in
/-- ZZobjectInts. -/
theorem ints_any (g n : Nat) (N : Nat → ByteArray) (V : Nat → Int) (w : World) (hn : n ≤ 100000) (h : w.rowIs g 63 (n * 2) (objF N V)) :
    Calls Try.prog 14 #[.slice (some ⟨g, 0, none⟩) n n] w fun e w' => e = .returned (.slice (some ⟨w.heap.size, 0, none⟩) n n) ∧ w'.rowIs w.heap.size 2 n (fun i => .int .i64 (V i)) ∧ Below w.heap.size w w' := by
  have hmk := make34 n hn
  have hta := ta2
  go_enter Try.func14, Try.ntmps14
  go_wp2_with fail
  have hinv1 : (w.alloc (mkInts n)).rowIs w.heap.size 2 n (fill (fun i => .int .i64 (V i)) (.int .i64 0) 0) := fill_zero (World.rowIs_made w _ n 2)
  have hb0 : Below w.heap.size w (w.alloc (mkInts n)) := (Below.refl _ _).alloc (Nat.le_refl _) _
  go_loopw [12] (fun i wr => ∃ k : Nat, k ≤ n ∧ i = .int .i64 k ∧ wr.rowIs w.heap.size 2 n (fill (fun i => .int .i64 (V i)) (.int .i64 0) k) ∧ Below w.heap.size w wr) (fun i _ => n - (intOf i).toNat)
  case atStart => exact ⟨0, Nat.zero_le _, rfl, hinv1, hb0⟩
  case round =>
    clear hinv1 hb0 hmk
    obtain ⟨k, hk, rfl, hrow1, hbel⟩ := hrel
    by_cases hlt : k < n
    · have c0 := obj_val (rowBelow h hbel h.lt) hlt
      have f1 := hrow1.frozen k
      have d1 := hrow1.cell (i := k) hlt
      have hlt' : (k : Int) < n := by omega
      generalize fill (fun i => .int .i64 (V i)) (.int .i64 0) k k = x1 at d1
      have HR : Hid ((wr.setCell ⟨w.heap.size, k, none⟩ (.int .i64 (V k))).rowIs w.heap.size 2 n (fill (fun i => .int .i64 (V i)) (.int .i64 0) (k + 1)) ∧ Below w.heap.size w (wr.setCell ⟨w.heap.size, k, none⟩ (.int .i64 (V k)))) := ⟨fill_step (f := fun i => .int .i64 (V i)) hrow1, hbel.setCell (p := ⟨w.heap.size, k, none⟩) (Nat.le_refl _) _⟩
      clear hrow1 hbel h
      go_wp2_with fail
      go_roundw
      case rel => exact ⟨k + 1, by omega, by go_num, HR.out⟩
      case measure => simp [intOf]; omega
    · have hkn : k = n := by omega
      subst hkn
      go_wp2_with fail
      go_ret
      exact ⟨rfl, fill_all hrow1, hbel⟩

set_option maxHeartbeats 1000000 in
theorem sameStrs_any (ga gb n ca cb : Nat) (N : Nat → ByteArray) (w : World) (hn : n ≤ 1000000) (h1 : w.rowIs ga 9 n (fun i => .string (N i))) (h2 : w.rowIs gb 9 n (fun i => .string (N i))) :
    Calls Try.prog 15 #[.slice (some ⟨ga, 0, none⟩) n ca, .slice (some ⟨gb, 0, none⟩) n cb] w fun e w' => e = .returned (.bool true) ∧ ∃ d, w' = w.drewN d := by
  go_enter Try.func15, Try.ntmps15
  go_wp2_with fail
  go_loopw [5] (fun i wr => ∃ k d : Nat, k ≤ n ∧ i = .int .i64 k ∧ wr = w.drewN d) (fun i _ => n - (intOf i).toNat)
  case atStart => exact ⟨0, 0, Nat.zero_le _, rfl, rfl⟩
  case round =>
    obtain ⟨k, d, hk, rfl, rfl⟩ := hrel
    by_cases hlt : k < n
    · have c1 := h1.cell hlt
      have c2 := h2.cell hlt
      have hlt' : (k : Int) < (n : Int) := by omega
      generalize N k = x at c1 c2
      clear h1 h2
      go_wp2_with fail
      go_quiet (fail)
      go_wp2_with fail
      go_roundw
      case rel => exact ⟨k + 1, d + nq, by omega, by go_num, rfl⟩
      case measure => simp [intOf]; omega
    · clear h1 h2
      have hkn : k = n := by omega
      subst hkn
      go_wp2_with fail
      go_ret
      exact ⟨rfl, d, rfl⟩

set_option maxHeartbeats 1000000 in
theorem sameInts_any (ga gb n ca cb : Nat) (V : Nat → Int) (w : World) (hn : n ≤ 1000000) (h1 : w.rowIs ga 2 n (fun i => .int .i64 (V i))) (h2 : w.rowIs gb 2 n (fun i => .int .i64 (V i))) :
    Calls Try.prog 17 #[.slice (some ⟨ga, 0, none⟩) n ca, .slice (some ⟨gb, 0, none⟩) n cb] w fun e w' => e = .returned (.bool true) ∧ ∃ d, w' = w.drewN d := by
  go_enter Try.func17, Try.ntmps17
  go_wp2_with fail
  go_loopw [5] (fun i wr => ∃ k d : Nat, k ≤ n ∧ i = .int .i64 k ∧ wr = w.drewN d) (fun i _ => n - (intOf i).toNat)
  case atStart => exact ⟨0, 0, Nat.zero_le _, rfl, rfl⟩
  case round =>
    obtain ⟨k, d, hk, rfl, rfl⟩ := hrel
    by_cases hlt : k < n
    · have c1 := h1.cell hlt
      have c2 := h2.cell hlt
      have hlt' : (k : Int) < (n : Int) := by omega
      generalize V k = x at c1 c2
      clear h1 h2
      go_wp2_with fail
      go_quiet (fail)
      go_wp2_with fail
      go_roundw
      case rel => exact ⟨k + 1, d + nq, by omega, by go_num, rfl⟩
      case measure => simp [intOf]; omega
    · clear h1 h2
      have hkn : k = n := by omega
      subst hkn
      go_wp2_with fail
      go_ret
      exact ⟨rfl, d, rfl⟩
end Go.Proofs.Qxb6613313a
