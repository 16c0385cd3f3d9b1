/-
  THE WALKS: values in memory: zzBuild, zzBuildAll, ZZnewList.
-/
import Derived.Test.Qxb6613122aWalkA
namespace Go.Proofs.Qxb6613122a
open Go.RowKit
set_option linter.unusedSimpArgs false
set_option linter.unusedVariables false

/-- A Value at block q that pictures the item. -/
def ValAt (w : World) (q : Nat) (it : Item) : Prop :=
  w.cell? ⟨q, 1, none⟩ = some (.slice none 0 0) ∧
  ((it.kind = 0 ∧ w.cell? ⟨q, 0, none⟩ = some .nilIface) ∨
   (it.kind = 1 ∧ ∃ p, w.cell? ⟨q, 0, none⟩ = some (.iface 57 (.pointer (some ⟨p, 0, none⟩))) ∧ w.cell? ⟨p, 0, none⟩ = some (.int .i32 it.null)) ∨
   (it.kind = 2 ∧ ∃ p, w.cell? ⟨q, 0, none⟩ = some (.iface 62 (.pointer (some ⟨p, 0, none⟩))) ∧ w.cell? ⟨p, 0, none⟩ = some (.float .f64 it.bits.toNat)) ∨
   (it.kind = 3 ∧ ∃ p, w.cell? ⟨q, 0, none⟩ = some (.iface 64 (.pointer (some ⟨p, 0, none⟩))) ∧ w.cell? ⟨p, 0, none⟩ = some (.string it.s)) ∨
   (it.kind = 4 ∧ ∃ p, w.cell? ⟨q, 0, none⟩ = some (.iface 68 (.pointer (some ⟨p, 0, none⟩))) ∧ w.cell? ⟨p, 0, none⟩ = some (.bool it.b)))

abbrev itemVal (it : Item) : Value := .agg #[.int .u8 it.kind, .bool it.b, .string it.s, .int .u64 it.bits, .int .i32 it.null]

theorem frombits_run (x : Int) (w : World) : (callFunc 44 #[.int .u64 x]).run Try.prog w = .ok (.value (.float .f64 x.toNat)) w := by kernel_rfl
theorem bits_run (x : Nat) (w : World) : (callFunc 41 #[.float .f64 x]).run Try.prog w = .ok (.value (.int .u64 x)) w := by kernel_rfl

theorem build_any (it : Item) (w : World) (hok : ItemOk it) (h4 : it.kind ≤ 4) :
    Calls Try.prog 16 #[.agg #[.int .u8 it.kind, .bool it.b, .string it.s, .int .u64 it.bits, .int .i32 it.null]] w fun e w' => ∃ q, e = .returned (.pointer (some ⟨q, 0, none⟩)) ∧ w.heap.size ≤ q ∧ ValAt w' q it ∧ Below w.heap.size w w' := by
  obtain ⟨k0, k1, s1, b0, b1, n0, n1⟩ := hok
  obtain ⟨kd, b, s, bits, nl⟩ := it
  simp only at k0 k1 s1 b0 b1 n0 n1 h4
  rcases (show kd = 0 ∨ kd = 1 ∨ kd = 2 ∨ kd = 3 ∨ kd = 4 by omega) with rfl | rfl | rfl | rfl | rfl
  · go_enter Try.func16, Try.ntmps16
    go_wp2
    go_ret
    exact ⟨_, rfl, by omega, ⟨by simp [go_sem], Or.inl ⟨rfl, by simp [go_sem]⟩⟩, ((Below.refl _ _).alloc (Nat.le_refl _) _).alloc (by simp) _⟩
  · go_enter Try.func16, Try.ntmps16
    go_wp2
    go_ret
    exact ⟨_, rfl, by omega, ⟨by simp [go_sem], Or.inr (Or.inl ⟨rfl, _, by simp [go_sem]; rfl, by simp [go_sem]⟩)⟩, (((Below.refl _ _).alloc (Nat.le_refl _) _).alloc (by simp) _).alloc (by simp; omega) _⟩
  · have hfb := frombits_run
    go_enter Try.func16, Try.ntmps16
    go_wp2
    go_ret
    exact ⟨_, rfl, by omega, ⟨by simp [go_sem], Or.inr (Or.inr (Or.inl ⟨rfl, _, by simp [go_sem]; rfl, by simp [go_sem]⟩))⟩, (((Below.refl _ _).alloc (Nat.le_refl _) _).alloc (by simp) _).alloc (by simp; omega) _⟩
  · go_enter Try.func16, Try.ntmps16
    go_wp2
    go_ret
    exact ⟨_, rfl, by omega, ⟨by simp [go_sem], Or.inr (Or.inr (Or.inr (Or.inl ⟨rfl, _, by simp [go_sem]; rfl, by simp [go_sem]⟩)))⟩, (((Below.refl _ _).alloc (Nat.le_refl _) _).alloc (by simp) _).alloc (by simp; omega) _⟩
  · go_enter Try.func16, Try.ntmps16
    go_wp2
    go_ret
    exact ⟨_, rfl, by omega, ⟨by simp [go_sem], Or.inr (Or.inr (Or.inr (Or.inr ⟨rfl, _, by simp [go_sem]; rfl, by simp [go_sem]⟩)))⟩, (((Below.refl _ _).alloc (Nat.le_refl _) _).alloc (by simp) _).alloc (by simp; omega) _⟩

theorem ValAt.below {w w' : World} {q : Nat} {it : Item} (h : ValAt w q it) (hb : ∀ a v, w.cell? a = some v → w'.cell? a = some v) : ValAt w' q it := by
  obtain ⟨h1, h2⟩ := h
  refine ⟨hb _ _ h1, ?_⟩
  rcases h2 with ⟨k, h2⟩ | ⟨k, p, h2, h3⟩ | ⟨k, p, h2, h3⟩ | ⟨k, p, h2, h3⟩ | ⟨k, p, h2, h3⟩
  · exact Or.inl ⟨k, hb _ _ h2⟩
  · exact Or.inr (Or.inl ⟨k, p, hb _ _ h2, hb _ _ h3⟩)
  · exact Or.inr (Or.inr (Or.inl ⟨k, p, hb _ _ h2, hb _ _ h3⟩))
  · exact Or.inr (Or.inr (Or.inr (Or.inl ⟨k, p, hb _ _ h2, hb _ _ h3⟩)))
  · exact Or.inr (Or.inr (Or.inr (Or.inr ⟨k, p, hb _ _ h2, hb _ _ h3⟩)))

theorem cells_below {w w' : World} (hb : Below w.heap.size w w') : ∀ a v, w.cell? a = some v → w'.cell? a = some v := fun a v h =>
  (hb.cell (p := a) (World.block_lt_of_cell? w a h)).trans h

theorem ItemsAt.below {w w' : World} {a : Option Addr} {n : Nat} {I : Nat → Item} (h : ItemsAt w a n I) (hb : Below w.heap.size w w') : ItemsAt w' a n I := by
  obtain ⟨hn, hc⟩ := h
  refine ⟨hn, fun h0 => ?_⟩
  obtain ⟨b, off, ha, hlt, hcell⟩ := hc h0
  refine ⟨b, off, ha, Nat.lt_of_lt_of_le hlt hb.size, fun i hi => ?_⟩
  obtain ⟨c0, c1, c2, c3, c4, ok⟩ := hcell i hi
  exact ⟨cells_below hb _ _ c0, cells_below hb _ _ c1, cells_below hb _ _ c2, cells_below hb _ _ c3, cells_below hb _ _ c4, ok⟩

/-! ### A row of one-cell elements at the head of a block -/

def RowIs (w : World) (g : Nat) (e : TypeId) (cs : List Value) : Prop := w.heap[g]? = some (.cells cs.toArray e (0, 0))

theorem RowIs.lt {w : World} {g : Nat} {e : TypeId} {cs : List Value} (h : RowIs w g e cs) : g < w.heap.size := (Array.getElem?_eq_some_iff.1 h).1

theorem RowIs.cell {w : World} {g : Nat} {e : TypeId} {cs : List Value} (h : RowIs w g e cs) (j : Nat) : w.cell? ⟨g, j, none⟩ = cs[j]? := by
  unfold RowIs at h
  simp [World.cell?, h]

theorem RowIs.free {w : World} {g : Nat} {e : TypeId} {cs : List Value} (h : RowIs w g e cs) (j : Nat) : w.frozen? ⟨g, j, none⟩ = false := by
  unfold RowIs at h
  simp [World.frozen?, h]

theorem RowIs.set {w : World} {g : Nat} {e : TypeId} {cs : List Value} (h : RowIs w g e cs) (j : Nat) (v : Value) : RowIs (w.setCell ⟨g, j, none⟩ v) g e (cs.set j v) := by
  have hlt := h.lt
  unfold RowIs at h ⊢
  simp only [World.setCell, Array.getElem?_modify, if_true, h]
  simp

theorem RowIs.below {w w' : World} {g B : Nat} {e : TypeId} {cs : List Value} (h : RowIs w g e cs) (hb : Below B w w') (hg : g < B) : RowIs w' g e cs := by
  unfold RowIs at h ⊢
  rw [hb.block g hg, h]

theorem RowIs.drew {w : World} {g : Nat} {e : TypeId} {cs : List Value} (h : RowIs w g e cs) : RowIs w.drew g e cs := h

theorem RowIs.made (w : World) (e : TypeId) (z : Value) (n : Nat) : RowIs (w.alloc (.cells (madeCells #[z] n) e)) w.heap.size e (List.replicate n z) := by
  unfold RowIs
  rw [heap_alloc_new, ← toList_madeCells_one z n]

theorem below_set {w : World} {g j : Nat} (v : Value) : Below g w (w.setCell ⟨g, j, none⟩ v) := (Below.refl g w).setCell (Nat.le_refl g) v

/-- A slice of values at the head of block g: its i-th cell is the pointer to block Q i, which pictures item i. -/
def ValsAt (w : World) (g n : Nat) (Q : Nat → Nat) (I : Nat → Item) : Prop :=
  ∀ i, i < n → w.cell? ⟨g, i, none⟩ = some (.pointer (some ⟨Q i, 0, none⟩)) ∧ ValAt w (Q i) (I i)

def mkPtrs (n : Nat) : Obj := .cells (madeCells #[.pointer none] n) 27

theorem make29 (n : Nat) (hn : n ≤ 1048576) (w : World) : (Instr.makeSlice 29 (.int .i64 n) (.int .i64 n)).run Try.prog w = .ok (.slice (some ⟨w.heap.size, 0, none⟩) n n) (w.alloc (mkPtrs n)) := by
  obtain ⟨i, hi, hz0, hz1, hz2⟩ := info_parts (show (Try.prog.info? 27).map (fun i => (i.zero, i.size, i.bytes)) = some (some (.pointer none), 1, 8) by kernel_rfl)
  have := run_make (P := Try.prog) w 29 27 i (.pointer none) Try.underlying29 hi hz0 .i64 .i64 n n (by omega) (by omega) (by rw [hz2]; omega) (by omega)
  rw [this]
  simp [hz1, Value.cells, mkPtrs]

/-- A pointer or a byte: what stands in a row of values or in a buffer, and in no cell of a Value. -/
def Dull (x : Value) : Prop := (∃ p, x = .pointer p) ∨ (∃ z, x = .int .u8 z)

theorem RowIs.other {w : World} {g : Nat} {e : TypeId} {cs : List Value} (h : RowIs w g e cs) (hd : ∀ x ∈ cs, Dull x) {a : Addr} {v : Value} (ha : w.cell? a = some v) (hv : ¬ Dull v) : some a.block ≠ some g := by
  intro hb
  have hb' : a.block = g := by simpa using hb
  unfold RowIs at h
  rw [← hb'] at h
  simp only [World.cell?, h] at ha
  split at ha
  · cases ha
  · simp at ha
    exact hv (hd v (List.mem_of_getElem? ha))

theorem ValAt.keptBy {w w' : World} {q g : Nat} {e : TypeId} {it : Item} {cs : List Value} (h : ValAt w q it) (hr : RowIs w g e cs) (hd : ∀ x ∈ cs, Dull x) (hg : w.grownBy w' (some g)) : ValAt w' q it := by
  have keep : ∀ a v, ¬ Dull v → w.cell? a = some v → w'.cell? a = some v := fun a v hv ha => hg.cell ha (hr.other hd ha hv)
  obtain ⟨h1, h2⟩ := h
  refine ⟨keep _ _ (by simp [Dull]) h1, ?_⟩
  rcases h2 with ⟨k, h2⟩ | ⟨k, p, h2, h3⟩ | ⟨k, p, h2, h3⟩ | ⟨k, p, h2, h3⟩ | ⟨k, p, h2, h3⟩
  · exact Or.inl ⟨k, keep _ _ (by simp [Dull]) h2⟩
  · exact Or.inr (Or.inl ⟨k, p, keep _ _ (by simp [Dull]) h2, keep _ _ (by simp [Dull]) h3⟩)
  · exact Or.inr (Or.inr (Or.inl ⟨k, p, keep _ _ (by simp [Dull]) h2, keep _ _ (by simp [Dull]) h3⟩))
  · exact Or.inr (Or.inr (Or.inr (Or.inl ⟨k, p, keep _ _ (by simp [Dull]) h2, keep _ _ (by simp [Dull]) h3⟩)))
  · exact Or.inr (Or.inr (Or.inr (Or.inr ⟨k, p, keep _ _ (by simp [Dull]) h2, keep _ _ (by simp [Dull]) h3⟩)))

theorem grown_set (w : World) (g j : Nat) (v : Value) : w.grownBy (w.setCell ⟨g, j, none⟩ v) (some g) :=
  ⟨rfl, rfl, rfl, by simp, fun k _ hk => heap_setCell_other w ⟨g, j, none⟩ k v (fun e => hk (by simp [e]))⟩

/-- What the loop of zzBuildAll holds at round k. -/
structure BuildInv (w wr : World) (g n k : Nat) (Q : Nat → Nat) (I : Nat → Item) : Prop where
  row : ∃ cs, RowIs wr g 27 cs ∧ cs.length = n ∧ (∀ x ∈ cs, ∃ p, x = .pointer p) ∧ ∀ i, i < k → cs[i]? = some (.pointer (some ⟨Q i, 0, none⟩))
  vals : ∀ i, i < k → ValAt wr (Q i) (I i)
  bel : Below w.heap.size w wr

theorem BuildInv.step {w wr w2 : World} {g n k q : Nat} {Q : Nat → Nat} {I : Nat → Item} (h : BuildInv w wr g n k Q I) (hk : k < n) (hg : w.heap.size ≤ g) (hv : ValAt w2 q (I k)) (hb : Below wr.heap.size wr w2) :
    (∃ v, w2.cell? ⟨g, k, none⟩ = some v) ∧ w2.frozen? ⟨g, k, none⟩ = false ∧ BuildInv w (w2.setCell ⟨g, k, none⟩ (.pointer (some ⟨q, 0, none⟩))) g n (k + 1) (fun i => if i = k then q else Q i) I := by
  obtain ⟨⟨cs, hrow, hlen, hptr, hcs⟩, hvals, hbel⟩ := h
  have hrow2 := hrow.below hb hrow.lt
  have hd : ∀ x ∈ cs, Dull x := fun x hx => Or.inl (hptr x hx)
  have hgr := grown_set w2 g k (.pointer (some ⟨q, 0, none⟩))
  refine ⟨⟨cs[k]'(by omega), by rw [hrow2.cell]; simp⟩, hrow2.free k, ⟨_, hrow2.set k _, by simpa using hlen, ?_, ?_⟩, ?_, ?_⟩
  · intro x hx
    rcases List.mem_or_eq_of_mem_set hx with h1 | h1
    · exact hptr x h1
    · exact ⟨_, h1⟩
  · intro i hi
    rw [List.getElem?_set]
    by_cases hik : k = i
    · subst hik; simp [hlen, hk]
    · rw [if_neg hik, if_neg (Ne.symm hik)]
      exact hcs i (by omega)
  · intro i hi
    by_cases hik : i = k
    · subst hik
      simp only [if_true]
      exact hv.keptBy hrow2 hd hgr
    · simp only [if_neg hik]
      exact ((hvals i (by omega)).below (cells_below hb)).keptBy hrow2 hd hgr
  · exact (hbel.trans (hb.mono hbel.size)).setCell (p := ⟨g, k, none⟩) hg _

set_option maxHeartbeats 1000000 in
theorem buildAll_any (a : Option Addr) (n cap : Nat) (I : Nat → Item) (w : World) (he : ItemsAt w a n I) (h4 : ∀ i, i < n → (I i).kind ≤ 4) (hnn : n ≤ 1048576) :
    Calls Try.prog 12 #[.slice a n cap] w fun e w' => ∃ g Q, e = .returned (.slice (some ⟨g, 0, none⟩) n n) ∧ w.heap.size ≤ g ∧ ValsAt w' g n Q I ∧ Below w.heap.size w w' := by
  have hmk := make29 n hnn
  have h4' : Hid (∀ i, i < n → (I i).kind ≤ 4) := h4
  clear h4
  go_enter Try.func12, Try.ntmps12
  go_wp2
  have hinv0 : BuildInv w (w.alloc (mkPtrs n)) w.heap.size n 0 (fun _ => 0) I :=
    ⟨⟨_, RowIs.made w 27 (.pointer none) n, by simp, fun x hx => ⟨_, (List.mem_replicate.1 hx).2⟩, fun i hi => absurd hi (by omega)⟩, fun i hi => absurd hi (by omega), (Below.refl _ _).alloc (Nat.le_refl _) _⟩
  go_loopw [4] (fun i wr => ∃ k : Nat, k ≤ n ∧ i = .int .i64 k ∧ ∃ Q, BuildInv w wr w.heap.size n k Q I) (fun i _ => n - (intOf i).toNat)
  case atStart => exact ⟨0, Nat.zero_le _, rfl, _, hinv0⟩
  case round =>
    clear hinv0 hmk
    obtain ⟨k, hk, rfl, Q, hinv⟩ := hrel
    by_cases hlt : k < n
    · have hii := he.below hinv.bel
      obtain ⟨-, hc⟩ := hii
      obtain ⟨b, off, rfl, hb, hc⟩ := hc (by omega)
      obtain ⟨c0, c1, c2, c3, c4, ok⟩ := hc k hlt
      clear hc he
      go_wp2_with fail
      refine (build_any (I k) _ ok (h4'.out k hlt)).mono ?_
      rintro e w2 ⟨q, rfl, hq, hv, hb2⟩
      obtain ⟨⟨ov, hov⟩, hfr, hinv2⟩ := hinv.step hlt (Nat.le_refl _) hv hb2
      have hlt' : (k : Int) < n := by omega
      clear c0 c1 c2 c3 c4 hinv hv hb2
      go_wp2
      go_roundw
      case rel => exact ⟨k + 1, by omega, by go_num, _, hinv2⟩
      case measure => simp [intOf]; omega
    · have hkn : k = n := by omega
      subst hkn
      go_wp2
      go_ret
      obtain ⟨⟨cs, hrow, hlen, hptr, hcs⟩, hvals, hbel⟩ := hinv
      exact ⟨w.heap.size, Q, rfl, Nat.le_refl _, fun i hi => ⟨by rw [hrow.cell]; exact hcs i hi, hvals i hi⟩, hbel⟩

/-- A list Value at block q: its ListValue lies at block l, its values at the head of block g. -/
structure ListAt (w : World) (q l g n : Nat) (Q : Nat → Nat) (I : Nat → Item) : Prop where
  unk : w.cell? ⟨q, 1, none⟩ = some (.slice none 0 0)
  knd : ∃ p, w.cell? ⟨q, 0, none⟩ = some (.iface 50 (.pointer (some ⟨p, 0, none⟩))) ∧ w.cell? ⟨p, 0, none⟩ = some (.pointer (some ⟨l, 0, none⟩))
  vals : w.cell? ⟨l, 0, none⟩ = some (.slice (some ⟨g, 0, none⟩) n n)
  unk2 : w.cell? ⟨l, 1, none⟩ = some (.slice none 0 0)
  each : ValsAt w g n Q I

theorem newList_any (g n : Nat) (Q : Nat → Nat) (I : Nat → Item) (w : World) (h : ValsAt w g n Q I) :
    Calls Try.prog 11 #[.slice (some ⟨g, 0, none⟩) n n] w fun e w' => ∃ q l, e = .returned (.pointer (some ⟨q, 0, none⟩)) ∧ w.heap.size ≤ q ∧ ListAt w' q l g n Q I ∧ Below w.heap.size w w' := by
  go_enter Try.func11, Try.ntmps11
  go_wp2
  go_ret
  have hb : Below w.heap.size w (((w.alloc (.cells #[.slice (some ⟨g, 0, none⟩) n n, .slice none 0 0] 48)).alloc (.cells #[.pointer (some ⟨w.heap.size, 0, none⟩)] 52)).alloc (.cells #[.iface 50 (.pointer (some ⟨w.heap.size + 1, 0, none⟩)), .slice none 0 0] 56)) :=
    (((Below.refl _ _).alloc (Nat.le_refl _) _).alloc (by simp) _).alloc (by simp; omega) _
  exact ⟨_, w.heap.size, rfl, by omega, ⟨by simp [go_sem], ⟨w.heap.size + 1, by simp [go_sem], by simp [go_sem]⟩, by simp [go_sem], by simp [go_sem], fun i hi => ⟨cells_below hb _ _ (h i hi).1, (h i hi).2.below (cells_below hb)⟩⟩, hb⟩
end Go.Proofs.Qxb6613122a
