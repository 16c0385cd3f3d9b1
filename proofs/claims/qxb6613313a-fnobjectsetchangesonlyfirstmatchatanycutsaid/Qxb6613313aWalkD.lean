/-
  THE WALKS: zzCatStrings, zzCatInts.
-/
import Derived.Test.Qxb6613313aWalkC
import Derived.ArgAppend
namespace Go.Proofs.Qxb6613313a
open Go.RowKit
set_option linter.unusedSimpArgs false
set_option linter.unusedVariables false

/-- One element appended to a row that has room; it lies in a new block of its own first. -/
theorem wpList_room {w : World} {ops : Array Oper} {rest : List Oper} {o : Oper} {a : Act} {Q : Exit → Act → World → Prop} (hgd : o.guard = none) (s x : Operand) (t e : TypeId) (i : TypeInfo) (ht : Try.prog.underlying t = some (.slice e)) (hi : Try.prog.info? e = some i) (hi1 : i.size = 1)
    (ho : o.op = .call { callee := .builtin .append, args := #[s, x], argTypes := #[t, t] }) (g k C : Nat) (f : Nat → Value) (hrow : w.rowIs g e C f) (hk : k < C) (hs : a.eval s = .slice (some ⟨g, 0, none⟩) k C)
    (y : Value) (hy : y.oneCell' = true) (M : Nat) (hx : a.eval x = .slice (some ⟨M, 0, none⟩) 1 1) (hM : w.heap.size = M)
    (h : wpList Try.prog ops Q rest (a.put o.dst (.slice (some ⟨g, 0, none⟩) (k + 1) C)) ((w.alloc (.cells #[y] e)).setCell ⟨g, k, none⟩ y)) : wpList Try.prog ops Q (o :: rest) a (w.alloc (.cells #[y] e)) := by
  subst hM
  refine wpList_plain hgd fun K hK => ?_
  have hr := run_append_room_cells (P := Try.prog) (w := w.alloc (.cells #[y] e)) t o.type e i ht hi g 0 k C ⟨w.heap.size, 0, none⟩ 1 1 [y] (by simp [hi1]) (by
      intro j u hj
      match j, hj with
      | 0, hj =>
        simp at hj
        subst hj
        simp [Addr.add]) (by simp [hy]) (by omega) (by
      intro j hj
      have hj0 : j = 0 := by simp at hj; omega
      subst hj0
      rw [hi1]
      simp only [Nat.zero_add, Nat.mul_one, Nat.add_zero]
      rw [(hrow.alloc (.cells #[y] e)).cell hk]
      rfl) (by
      intro j hj
      exact (hrow.alloc (.cells #[y] e)).frozen _)
  rw [hi1] at hr
  simp only [Nat.zero_add, Nat.mul_one, World.setCells] at hr
  unfold Oper.wp execOp
  simp only [ho, resolve, invoke, builtin, Sem.run_bind, Sem.run_pure, Result.andThen_ok, List.map_toArray, List.map_cons, List.map_nil, hs, hx, hr]
  exact hK _ _ h

/-- What catStrs lays. -/
def catStrsF (A B : Nat → ByteArray) (n1 : Nat) : Nat → Value := fun i => if i < n1 then .string (A i) else .string (B (i - n1))

theorem make32c (n1 n2 : Nat) (hn : n1 + n2 ≤ 100000) (w : World) : (Instr.makeSlice 32 (.int .i64 0) (.int .i64 ((n1 : Int) + (n2 : Int)))).run Try.prog w = .ok (.slice (some ⟨w.heap.size, 0, none⟩) 0 (n1 + n2)) (w.alloc (mkStrs (n1 + n2))) := by
  obtain ⟨i, hi, hz0, hz1, hz2⟩ := info_parts info9
  have := run_make (P := Try.prog) w 32 9 i _ Try.underlying32 hi hz0 .i64 .i64 0 ((n1 + n2 : Nat) : Int) (by omega) (by omega) (by rw [hz2]; omega) (by omega)
  rw [show (n1 : Int) + (n2 : Int) = ((n1 + n2 : Nat) : Int) by omega, this]
  rw [Int.toNat_natCast, hz1, Nat.mul_one]
  rfl

set_option maxHeartbeats 2000000 in
theorem catStrs_any (ga gb n1 n2 ca cb : Nat) (A B : Nat → ByteArray) (w : World) (hn : n1 + n2 ≤ 100000) (h1 : w.rowIs ga 9 n1 (fun i => .string (A i))) (h2 : w.rowIs gb 9 n2 (fun i => .string (B i))) :
    Calls Try.prog 16 #[.slice (some ⟨ga, 0, none⟩) n1 ca, .slice (some ⟨gb, 0, none⟩) n2 cb] w fun e w' => e = .returned (.slice (some ⟨w.heap.size, 0, none⟩) (n1 + n2) (n1 + n2)) ∧ w'.rowIs w.heap.size 9 (n1 + n2) (catStrsF A B n1) ∧ Below w.heap.size w w' := by
  have hmk := make32c n1 n2 hn
  obtain ⟨ti, hti, -, hts, -⟩ := info_parts info9
  go_enter Try.func16, Try.ntmps16
  go_wp2_with fail
  have hinv : (w.alloc (mkStrs (n1 + n2))).rowIs w.heap.size 9 (n1 + n2) (fill (catStrsF A B n1) (.string ⟨#[]⟩) 0) := fill_zero (World.rowIs_made w _ _ 9)
  have hb0 : Below w.heap.size w (w.alloc (mkStrs (n1 + n2))) := (Below.refl _ _).alloc (Nat.le_refl _) _
  go_loopw [5, 6] (fun c i wr => ∃ k : Nat, k ≤ n1 ∧ i = .int .i64 k ∧ c = .slice (some ⟨w.heap.size, 0, none⟩) k (n1 + n2) ∧ wr.rowIs w.heap.size 9 (n1 + n2) (fill (catStrsF A B n1) (.string ⟨#[]⟩) k) ∧ Below w.heap.size w wr) (fun _ i _ => n1 - (intOf i).toNat)
  case atStart => exact ⟨0, Nat.zero_le _, rfl, rfl, hinv, hb0⟩
  case round =>
    clear hinv hb0 hmk
    obtain ⟨k, hk, rfl, rfl, hrow, hbel⟩ := hrel
    by_cases hlt : k < n1
    · have c0 := (rowBelow h1 hbel h1.lt).cell hlt
      have hlt' : (k : Int) < n1 := by omega
      have hkc : k < n1 + n2 := by omega
      have HF : Hid (catStrsF A B n1 k = .string (A k)) := by simp [Hid, catStrsF, hlt]
      have HROW : Hid (wr.rowIs w.heap.size 9 (n1 + n2) (fill (catStrsF A B n1) (.string ⟨#[]⟩) k) ∧ Below w.heap.size w wr) := ⟨hrow, hbel⟩
      clear hrow hbel
      go_wp2_with (at_builtin; refine wpList_room rfl (.tmp 20) (.tmp 25) 32 9 ti Try.underlying32 hti hts rfl w.heap.size k (n1 + n2) _ HROW.out.1 hkc rfl _ rfl _ rfl rfl ?_)
      have HR : Hid (((wr.alloc (.cells #[.string (A k)] 9)).setCell ⟨w.heap.size, k, none⟩ (.string (A k))).rowIs w.heap.size 9 (n1 + n2) (fill (catStrsF A B n1) (.string ⟨#[]⟩) (k + 1)) ∧ Below w.heap.size w ((wr.alloc (.cells #[.string (A k)] 9)).setCell ⟨w.heap.size, k, none⟩ (.string (A k)))) := by
        refine ⟨?_, (HROW.out.2.alloc HROW.out.2.size _).setCell (p := ⟨w.heap.size, k, none⟩) (Nat.le_refl _) _⟩
        rw [← HF.out]
        exact fill_step (HROW.out.1.alloc _)
      clear HROW
      go_wp2_with fail
      go_roundw
      case rel => exact ⟨k + 1, by omega, by go_num, rfl, HR.out⟩
      case measure => simp [intOf]; omega
    · have hkn : k = n1 := by omega
      subst hkn
      go_wp2_with fail
      go_loopw [5, 7] (fun c i wr => ∃ j : Nat, j ≤ n2 ∧ i = .int .i64 j ∧ c = .slice (some ⟨w.heap.size, 0, none⟩) (k + j) (k + n2) ∧ wr.rowIs w.heap.size 9 (k + n2) (fill (catStrsF A B k) (.string ⟨#[]⟩) (k + j)) ∧ Below w.heap.size w wr) (fun _ i _ => n2 - (intOf i).toNat)
      case atStart => exact ⟨0, Nat.zero_le _, rfl, rfl, hrow, hbel⟩
      case round =>
        clear hrow hbel
        obtain ⟨j, hj, rfl, rfl, hrow, hbel⟩ := hrel
        by_cases hlt2 : j < n2
        · have c0 := (rowBelow h2 hbel h2.lt).cell hlt2
          have hlt' : (j : Int) < n2 := by omega
          have hkc : k + j < k + n2 := by omega
          have HF : Hid (catStrsF A B k (k + j) = .string (B j)) := by simp [Hid, catStrsF, show ¬ k + j < k by omega]
          have HROW : Hid (wr.rowIs w.heap.size 9 (k + n2) (fill (catStrsF A B k) (.string ⟨#[]⟩) (k + j)) ∧ Below w.heap.size w wr) := ⟨hrow, hbel⟩
          clear hrow hbel
          go_wp2_with (at_builtin; refine wpList_room rfl (.tmp 33) (.tmp 38) 32 9 ti Try.underlying32 hti hts rfl w.heap.size (k + j) (k + n2) _ HROW.out.1 hkc rfl _ rfl _ rfl rfl ?_)
          have HR : Hid (((wr.alloc (.cells #[.string (B j)] 9)).setCell ⟨w.heap.size, k + j, none⟩ (.string (B j))).rowIs w.heap.size 9 (k + n2) (fill (catStrsF A B k) (.string ⟨#[]⟩) (k + j + 1)) ∧ Below w.heap.size w ((wr.alloc (.cells #[.string (B j)] 9)).setCell ⟨w.heap.size, k + j, none⟩ (.string (B j)))) := by
            refine ⟨?_, (HROW.out.2.alloc HROW.out.2.size _).setCell (p := ⟨w.heap.size, k + j, none⟩) (Nat.le_refl _) _⟩
            rw [← HF.out]
            exact fill_step (HROW.out.1.alloc _)
          clear HROW
          go_wp2_with fail
          go_roundw
          case rel => exact ⟨j + 1, by omega, by go_num, rfl, HR.out⟩
          case measure => simp [intOf]; omega
        · have hjn : j = n2 := by omega
          subst hjn
          go_wp2_with fail
          go_ret
          exact ⟨rfl, fill_all hrow, hbel⟩

/-- What catInts lays. -/
def catIntsF (A B : Nat → Int) (n1 : Nat) : Nat → Value := fun i => if i < n1 then .int .i64 (A i) else .int .i64 (B (i - n1))

theorem make34c (n1 n2 : Nat) (hn : n1 + n2 ≤ 100000) (w : World) : (Instr.makeSlice 34 (.int .i64 0) (.int .i64 ((n1 : Int) + (n2 : Int)))).run Try.prog w = .ok (.slice (some ⟨w.heap.size, 0, none⟩) 0 (n1 + n2)) (w.alloc (mkInts (n1 + n2))) := by
  obtain ⟨i, hi, hz0, hz1, hz2⟩ := info_parts info2
  have := run_make (P := Try.prog) w 34 2 i _ Try.underlying34 hi hz0 .i64 .i64 0 ((n1 + n2 : Nat) : Int) (by omega) (by omega) (by rw [hz2]; omega) (by omega)
  rw [show (n1 : Int) + (n2 : Int) = ((n1 + n2 : Nat) : Int) by omega, this]
  rw [Int.toNat_natCast, hz1, Nat.mul_one]
  rfl

set_option maxHeartbeats 2000000 in
theorem catInts_any (ga gb n1 n2 ca cb : Nat) (A B : Nat → Int) (w : World) (hn : n1 + n2 ≤ 100000) (h1 : w.rowIs ga 2 n1 (fun i => .int .i64 (A i))) (h2 : w.rowIs gb 2 n2 (fun i => .int .i64 (B i))) :
    Calls Try.prog 18 #[.slice (some ⟨ga, 0, none⟩) n1 ca, .slice (some ⟨gb, 0, none⟩) n2 cb] w fun e w' => e = .returned (.slice (some ⟨w.heap.size, 0, none⟩) (n1 + n2) (n1 + n2)) ∧ w'.rowIs w.heap.size 2 (n1 + n2) (catIntsF A B n1) ∧ Below w.heap.size w w' := by
  have hmk := make34c n1 n2 hn
  obtain ⟨ti, hti, -, hts, -⟩ := info_parts info2
  go_enter Try.func18, Try.ntmps18
  go_wp2_with fail
  have hinv : (w.alloc (mkInts (n1 + n2))).rowIs w.heap.size 2 (n1 + n2) (fill (catIntsF A B n1) (.int .i64 0) 0) := fill_zero (World.rowIs_made w _ _ 2)
  have hb0 : Below w.heap.size w (w.alloc (mkInts (n1 + n2))) := (Below.refl _ _).alloc (Nat.le_refl _) _
  go_loopw [5, 6] (fun c i wr => ∃ k : Nat, k ≤ n1 ∧ i = .int .i64 k ∧ c = .slice (some ⟨w.heap.size, 0, none⟩) k (n1 + n2) ∧ wr.rowIs w.heap.size 2 (n1 + n2) (fill (catIntsF A B n1) (.int .i64 0) k) ∧ Below w.heap.size w wr) (fun _ i _ => n1 - (intOf i).toNat)
  case atStart => exact ⟨0, Nat.zero_le _, rfl, rfl, hinv, hb0⟩
  case round =>
    clear hinv hb0 hmk
    obtain ⟨k, hk, rfl, rfl, hrow, hbel⟩ := hrel
    by_cases hlt : k < n1
    · have c0 := (rowBelow h1 hbel h1.lt).cell hlt
      have hlt' : (k : Int) < n1 := by omega
      have hkc : k < n1 + n2 := by omega
      have HF : Hid (catIntsF A B n1 k = .int .i64 (A k)) := by simp [Hid, catIntsF, hlt]
      have HROW : Hid (wr.rowIs w.heap.size 2 (n1 + n2) (fill (catIntsF A B n1) (.int .i64 0) k) ∧ Below w.heap.size w wr) := ⟨hrow, hbel⟩
      clear hrow hbel
      go_wp2_with (at_builtin; refine wpList_room rfl (.tmp 20) (.tmp 25) 34 2 ti Try.underlying34 hti hts rfl w.heap.size k (n1 + n2) _ HROW.out.1 hkc rfl _ rfl _ rfl rfl ?_)
      have HR : Hid (((wr.alloc (.cells #[.int .i64 (A k)] 2)).setCell ⟨w.heap.size, k, none⟩ (.int .i64 (A k))).rowIs w.heap.size 2 (n1 + n2) (fill (catIntsF A B n1) (.int .i64 0) (k + 1)) ∧ Below w.heap.size w ((wr.alloc (.cells #[.int .i64 (A k)] 2)).setCell ⟨w.heap.size, k, none⟩ (.int .i64 (A k)))) := by
        refine ⟨?_, (HROW.out.2.alloc HROW.out.2.size _).setCell (p := ⟨w.heap.size, k, none⟩) (Nat.le_refl _) _⟩
        rw [← HF.out]
        exact fill_step (HROW.out.1.alloc _)
      clear HROW
      go_wp2_with fail
      go_roundw
      case rel => exact ⟨k + 1, by omega, by go_num, rfl, HR.out⟩
      case measure => simp [intOf]; omega
    · have hkn : k = n1 := by omega
      subst hkn
      go_wp2_with fail
      go_loopw [5, 7] (fun c i wr => ∃ j : Nat, j ≤ n2 ∧ i = .int .i64 j ∧ c = .slice (some ⟨w.heap.size, 0, none⟩) (k + j) (k + n2) ∧ wr.rowIs w.heap.size 2 (k + n2) (fill (catIntsF A B k) (.int .i64 0) (k + j)) ∧ Below w.heap.size w wr) (fun _ i _ => n2 - (intOf i).toNat)
      case atStart => exact ⟨0, Nat.zero_le _, rfl, rfl, hrow, hbel⟩
      case round =>
        clear hrow hbel
        obtain ⟨j, hj, rfl, rfl, hrow, hbel⟩ := hrel
        by_cases hlt2 : j < n2
        · have c0 := (rowBelow h2 hbel h2.lt).cell hlt2
          have hlt' : (j : Int) < n2 := by omega
          have hkc : k + j < k + n2 := by omega
          have HF : Hid (catIntsF A B k (k + j) = .int .i64 (B j)) := by simp [Hid, catIntsF, show ¬ k + j < k by omega]
          have HROW : Hid (wr.rowIs w.heap.size 2 (k + n2) (fill (catIntsF A B k) (.int .i64 0) (k + j)) ∧ Below w.heap.size w wr) := ⟨hrow, hbel⟩
          clear hrow hbel
          go_wp2_with (at_builtin; refine wpList_room rfl (.tmp 33) (.tmp 38) 34 2 ti Try.underlying34 hti hts rfl w.heap.size (k + j) (k + n2) _ HROW.out.1 hkc rfl _ rfl _ rfl rfl ?_)
          have HR : Hid (((wr.alloc (.cells #[.int .i64 (B j)] 2)).setCell ⟨w.heap.size, k + j, none⟩ (.int .i64 (B j))).rowIs w.heap.size 2 (k + n2) (fill (catIntsF A B k) (.int .i64 0) (k + j + 1)) ∧ Below w.heap.size w ((wr.alloc (.cells #[.int .i64 (B j)] 2)).setCell ⟨w.heap.size, k + j, none⟩ (.int .i64 (B j)))) := by
            refine ⟨?_, (HROW.out.2.alloc HROW.out.2.size _).setCell (p := ⟨w.heap.size, k + j, none⟩) (Nat.le_refl _) _⟩
            rw [← HF.out]
            exact fill_step (HROW.out.1.alloc _)
          clear HROW
          go_wp2_with fail
          go_roundw
          case rel => exact ⟨j + 1, by omega, by go_num, rfl, HR.out⟩
          case measure => simp [intOf]; omega
        · have hjn : j = n2 := by omega
          subst hjn
          go_wp2_with fail
          go_ret
          exact ⟨rfl, fill_all hrow, hbel⟩
end Go.Proofs.Qxb6613313a
