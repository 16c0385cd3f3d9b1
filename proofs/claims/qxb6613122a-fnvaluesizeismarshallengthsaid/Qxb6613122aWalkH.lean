/-
  THE WALKS: zzEqual, GetKind, GetBoolValue, MarshalToEnd at nil, make of bytes.
-/
import Derived.Test.Qxb6613122aWalkG
import Derived.Test.Qxb6613122aWalkE
namespace Go.Proofs.Qxb6613122a
open Go.RowKit
set_option linter.unusedSimpArgs false
set_option linter.unusedVariables false

/-- A slice at address a reads as the bytes xs. -/
def Reads (w : World) (a : Option Addr) (xs : List Int) : Prop :=
  0 < xs.length → ∃ g off, a = some ⟨g, off, none⟩ ∧ ∀ (j : Nat) (h : j < xs.length), w.cell? ⟨g, off + j, none⟩ = some (.int .u8 xs[j])

set_option maxHeartbeats 1000000 in
theorem equal_any (a b : Option Addr) (n ca cb : Nat) (xs : List Int) (w : World) (hl : xs.length = n) (hn : n ≤ 4294967296) (ha : Reads w a xs) (hb : Reads w b xs) :
    Calls Try.prog 19 #[.slice a n ca, .slice b n cb] w fun e w' => e = .returned (.bool true) ∧ ∃ d, w' = w.drewN d := by
  go_enter Try.func19, Try.ntmps19
  go_wp2_with fail
  go_loopw [5] (fun i wr => ∃ k d : Nat, k ≤ n ∧ i = .int .i64 k ∧ wr = w.drewN d) (fun i _ => n - (intOf i).toNat)
  case atStart => exact ⟨0, 0, Nat.zero_le _, rfl, rfl⟩
  case round =>
    obtain ⟨k, d, hk, rfl, rfl⟩ := hrel
    by_cases hlt : k < n
    · obtain ⟨ga, oa, rfl, hca⟩ := ha (by omega)
      obtain ⟨gb, ob, rfl, hcb⟩ := hb (by omega)
      have c1 := hca k (by omega)
      have c2 := hcb k (by omega)
      have hlt' : (k : Int) < (n : Int) := by omega
      generalize xs[k] = x at c1 c2
      clear hca hcb ha hb
      go_wp2_with fail
      go_quiet (fail)
      go_wp2_with fail
      go_roundw
      case rel => exact ⟨k + 1, d + nq, by omega, by go_num, rfl⟩
      case measure => simp [intOf]; omega
    · clear ha hb
      have hkn : k = n := by omega
      subst hkn
      go_wp2_with fail
      go_ret
      exact ⟨rfl, d, rfl⟩

theorem getKind_some (q : Nat) (kv : Value) (w : World) (h : w.cell? ⟨q, 0, none⟩ = some kv) :
    Calls Try.prog 42 #[.pointer (some ⟨q, 0, none⟩)] w fun e w' => e = .returned kv ∧ w' = w := by
  go_enter Try.func42, Try.ntmps42
  go_wp2_with fail
  go_ret
  exact ⟨rfl, rfl⟩

theorem getKind_nil (w : World) : Calls Try.prog 42 #[.pointer none] w fun e w' => e = .returned .nilIface ∧ w' = w := by
  go_enter Try.func42, Try.ntmps42
  go_wp2_with fail
  go_ret
  exact ⟨rfl, rfl⟩

theorem getBool_nil (w : World) : Calls Try.prog 20 #[.pointer none] w fun e w' => e = .returned (.bool false) ∧ w' = w := by
  have t := ta0_68
  go_enter Try.func20, Try.ntmps20
  go_wp2_with fail
  go_fit (getKind_nil _)
  rintro e w' ⟨rfl, rfl⟩
  go_wp2_with fail
  go_ret
  exact ⟨rfl, rfl⟩

theorem getBool_4 (q p : Nat) (b : Bool) (w : World) (h2 : w.cell? ⟨q, 0, none⟩ = some (.iface 68 (.pointer (some ⟨p, 0, none⟩)))) (h3 : w.cell? ⟨p, 0, none⟩ = some (.bool b)) :
    Calls Try.prog 20 #[.pointer (some ⟨q, 0, none⟩)] w fun e w' => e = .returned (.bool b) ∧ w' = w := by
  have t := ta68_68
  go_enter Try.func20, Try.ntmps20
  go_wp2_with fail
  go_fit (getKind_some q _ _ h2)
  rintro e w' ⟨rfl, rfl⟩
  go_wp2_with fail
  go_ret
  exact ⟨rfl, rfl⟩

theorem getBool_no (q : Nat) (kv : Value) (w : World) (h2 : w.cell? ⟨q, 0, none⟩ = some kv) (t : ∀ w, (Instr.typeAssert kv 54 68 true).run Try.prog w = .ok (.tuple #[.pointer none, .bool false]) w) :
    Calls Try.prog 20 #[.pointer (some ⟨q, 0, none⟩)] w fun e w' => e = .returned (.bool false) ∧ w' = w := by
  go_enter Try.func20, Try.ntmps20
  go_wp2_with fail
  go_fit (getKind_some q _ _ h2)
  rintro e w' ⟨rfl, rfl⟩
  go_wp2_with fail
  go_ret
  exact ⟨rfl, rfl⟩

/-- What GetBoolValue answers. -/
def gb (it : Item) : Bool := decide (it.kind = 4) && it.b

theorem getBool_any (q : Nat) (it : Item) (w : World) (h : ValAt w q it) :
    Calls Try.prog 20 #[.pointer (some ⟨q, 0, none⟩)] w fun e w' => e = .returned (.bool (gb it)) ∧ w' = w := by
  obtain ⟨hu, h⟩ := h
  rcases h with ⟨hk, h2⟩ | ⟨hk, p, h2, h3⟩ | ⟨hk, p, h2, h3⟩ | ⟨hk, p, h2, h3⟩ | ⟨hk, p, h2, h3⟩
  · rw [show gb it = false by simp [gb, hk]]; exact getBool_no q _ w h2 (fun w => ta0_68 w)
  · rw [show gb it = false by simp [gb, hk]]; exact getBool_no q _ w h2 (fun w => ta57_68 _ w)
  · rw [show gb it = false by simp [gb, hk]]; exact getBool_no q _ w h2 (fun w => ta62_68 _ w)
  · rw [show gb it = false by simp [gb, hk]]; exact getBool_no q _ w h2 (fun w => ta64_68 _ w)
  · rw [show gb it = it.b by simp [gb, hk]]; exact getBool_4 q p it.b w h2 h3

set_option maxRecDepth 100000 in
/-- (*Value).MarshalToEnd at nil. -/
theorem marshal_nil (a : Option Addr) (n cap : Nat) (w : World) : Calls Try.prog 18 #[.pointer none, .slice a n cap] w fun e w' => e = .returned (.int .i64 0) ∧ w' = w := by
  go_enter Try.func18, Try.ntmps18
  go_wp2_with fail
  go_ret
  exact ⟨rfl, rfl⟩

def mkBytes (n : Nat) : Obj := .cells (madeCells #[.int .u8 0] n) 5

theorem make32 (n : Nat) (hn : n ≤ 4294967296) (w : World) : (Instr.makeSlice 32 (.int .i64 n) (.int .i64 n)).run Try.prog w = .ok (.slice (some ⟨w.heap.size, 0, none⟩) n n) (w.alloc (mkBytes n)) := by
  obtain ⟨i, hi, hz0, hz1, hz2⟩ := info_parts (show (Try.prog.info? 5).map (fun i => (i.zero, i.size, i.bytes)) = some (some (.int .u8 0), 1, 1) by kernel_rfl)
  have := run_make (P := Try.prog) w 32 5 i (.int .u8 0) Try.underlying32 hi hz0 .i64 .i64 n n (by omega) (by omega) (by rw [hz2]; omega) (by omega)
  rw [this]
  simp [hz1, Value.cells, mkBytes]

theorem buf_made (w : World) (n : Nat) : Buf (w.alloc (mkBytes n)) w.heap.size (List.replicate n 0) := by
  have := RowIs.made w 5 (.int .u8 0) n
  unfold Buf
  rw [List.map_replicate]
  exact this

theorem bytes15_any (it : Item) (b : Bool) (w : World) (hok : ItemOk it) :
    Calls Try.prog 15 #[.agg #[.int .u8 it.kind, .bool it.b, .string it.s, .int .u64 it.bits, .int .i32 it.null], .bool b] w fun e w' => RetBool e ∧ Below w.heap.size w w' := by
  have s1 := hok.s1
  unfold maxLen at s1
  go_enter Try.func15, Try.ntmps15
  go_wp2
  all_goals
    go_ret
    exact ⟨⟨_, rfl⟩, (Below.refl _ _).alloc (Nat.le_refl _) _⟩
end Go.Proofs.Qxb6613122a
