/-
  A BUFFER WRITTEN FROM ITS END: plain lists, and the buffer's block in memory.
-/
import Derived.Test.Qxb6613122aWalkB
import Derived.Lib.BufferWrite
namespace Go.Proofs.Qxb6613122a
open Go.RowKit
set_option linter.unusedSimpArgs false
set_option linter.unusedVariables false

/-- bs, with ys laid over it from place i on. -/
def mid (bs : List Int) (i : Nat) (ys : List Int) : List Int := bs.take i ++ ys ++ bs.drop (i + ys.length)

theorem mid_nil (bs : List Int) (i : Nat) : mid bs i [] = bs := by simp [mid]

theorem mid_length (bs : List Int) (i : Nat) (ys : List Int) (h : i + ys.length ≤ bs.length) : (mid bs i ys).length = bs.length := by
  simp [mid]; omega

theorem mid_set (bs : List Int) (i : Nat) (ys : List Int) (x : Int) (h : i + ys.length < bs.length) : (mid bs i ys).set (i + ys.length) x = mid bs i (ys ++ [x]) := by
  have h1 : (bs.take i ++ ys).length = i + ys.length := by simp; omega
  unfold mid
  rw [← h1, List.set_append_right _ _ (Nat.le_refl _), Nat.sub_self, h1, List.drop_eq_getElem_cons h]
  simp [Nat.add_assoc]

theorem mid_mid (bs : List Int) (i j : Nat) (ys zs : List Int) (hj : j + zs.length = i) (h : i + ys.length ≤ bs.length) : mid (mid bs i ys) j zs = mid bs j (zs ++ ys) := by
  subst hj
  unfold mid
  have h1 : (List.take (j + zs.length) bs).length = j + zs.length := by simp; omega
  rw [List.append_assoc (List.take (j + zs.length) bs), List.take_append_of_le_length (by rw [h1]; omega), List.drop_append_of_le_length (by rw [h1]; omega), List.take_take, List.drop_take]
  simp [Nat.add_assoc]

theorem mid_cons (bs : List Int) (i : Nat) (ys : List Int) (x : Int) (h : i + 1 + ys.length ≤ bs.length) : (mid bs (i + 1) ys).set i x = mid bs i (x :: ys) := by
  have h1 := mid_mid bs (i + 1) i ys [x] rfl h
  have h2 := mid_set (mid bs (i + 1) ys) i [] x (by rw [mid_length _ _ _ h]; simp; omega)
  rw [mid_nil] at h2
  simp at h1 h2
  rw [h2, h1]

/-- Block g of w is a buffer that holds bs. -/
def Buf (w : World) (g : Nat) (bs : List Int) : Prop := RowIs w g 5 (bs.map (Value.int .u8))

theorem Buf.cell {w : World} {g : Nat} {bs : List Int} (h : Buf w g bs) {j : Nat} (hj : j < bs.length) : w.cell? ⟨g, j, none⟩ = some (.int .u8 (bs[j]'hj)) := by
  rw [RowIs.cell h]; simp [hj]

theorem Buf.free {w : World} {g : Nat} {bs : List Int} (h : Buf w g bs) (j : Nat) : w.frozen? ⟨g, j, none⟩ = false := RowIs.free h j

theorem Buf.set {w : World} {g : Nat} {bs : List Int} (h : Buf w g bs) (j : Nat) (x : Int) : Buf (w.setCell ⟨g, j, none⟩ (.int .u8 x)) g (bs.set j x) := by
  have := RowIs.set h j (.int .u8 x)
  unfold Buf
  rw [List.map_set]
  exact this

theorem Buf.drew {w : World} {g : Nat} {bs : List Int} (h : Buf w g bs) : Buf w.drew g bs := h

theorem Buf.dull {w : World} {g : Nat} {bs : List Int} (h : Buf w g bs) : ∀ x ∈ bs.map (Value.int .u8), Dull x := by
  intro x hx
  obtain ⟨y, _, rfl⟩ := List.mem_map.1 hx
  exact Or.inr ⟨y, rfl⟩

theorem ValAt.buf {w w' : World} {q g : Nat} {it : Item} {bs : List Int} (h : ValAt w q it) (hb : Buf w g bs) (hg : w.grownBy w' (some g)) : ValAt w' q it := h.keptBy hb hb.dull hg

theorem grown_trans {w w1 w2 : World} {r : Option Nat} (h : w.grownBy w1 r) (h' : w1.grownBy w2 r) : w.grownBy w2 r :=
  ⟨h'.os.trans h.os, h'.tape.trans h.tape, h'.output.trans h.output, Nat.le_trans h.size h'.size, fun k hk hne => (h'.block k (Nat.lt_of_lt_of_le hk h.size) hne).trans (h.block k hk hne)⟩

theorem grown_refl' (w : World) (r : Option Nat) : w.grownBy w r := ⟨rfl, rfl, rfl, Nat.le_refl _, fun _ _ _ => rfl⟩
theorem grown_drew (w : World) (r : Option Nat) : w.grownBy w.drew r := ⟨rfl, rfl, rfl, Nat.le_refl _, fun _ _ _ => rfl⟩

/-- A buffer written: the bytes behind it, and that no other block has turned. -/
structure Wrote (w w' : World) (g : Nat) (bs : List Int) : Prop where
  buf : Buf w' g bs
  gr : w.grownBy w' (some g)

theorem Wrote.trans {w w1 w2 : World} {g : Nat} {bs cs : List Int} (h : Wrote w w1 g bs) (h' : Wrote w1 w2 g cs) : Wrote w w2 g cs := ⟨h'.buf, grown_trans h.gr h'.gr⟩

theorem Wrote.set {w w1 : World} {g : Nat} {bs : List Int} (h : Wrote w w1 g bs) (j : Nat) (x : Int) : Wrote w (w1.setCell ⟨g, j, none⟩ (.int .u8 x)) g (bs.set j x) :=
  ⟨h.buf.set j x, grown_trans h.gr (grown_set w1 g j _)⟩


theorem byteCells_sbytes (s : ByteArray) : Lib.byteCells s.data.toList = (sbytes s).map (Value.int .u8) := by
  simp [Lib.byteCells, sbytes, Function.comp_def]

theorem wrote_row {w : World} {g : Nat} {bs cs : List Int} (h : Buf w g bs) : Wrote w (w.setRow g (cs.map (Value.int .u8)).toArray) g cs :=
  ⟨by unfold Buf RowIs; exact setRow_heap w g _ _ 5 _ h, ⟨rfl, rfl, rfl, by simp, fun k _ hk => setRow_other w g k _ (fun e => hk (by simp [e]))⟩⟩

/-- copy(b[off:], s), s a string that fits. -/
theorem run_copyStr (w : World) (g off dl dc : Nat) (s : ByteArray) (bs : List Int) (hB : Buf w g bs) (hle : s.size ≤ dl) (hfit : off + s.size ≤ bs.length) :
    ∃ w', (∀ ty, (Builtin.copy_ #[32, 9] ty #[.slice (some ⟨g, off, none⟩) dl dc, .string s]).run Try.prog w = .ok (goInt s.size) w') ∧ Wrote w w' g (mid bs off (sbytes s)) := by
  have hr := fun ty => Lib.run_copy_row_string (P := Try.prog) w 32 9 ty 5 g off dl dc s _ 5 Try.underlying32 (by kernel_rfl) hB hle (by simpa using hfit)
  refine ⟨_, hr, ?_⟩
  have := wrote_row (cs := mid bs off (sbytes s)) hB
  rw [byteCells_sbytes]
  unfold mid at this ⊢
  rw [List.map_append, List.map_append, List.map_take, List.map_drop] at this
  rw [sbytes_length] at this ⊢
  exact this

end Go.Proofs.Qxb6613122a
