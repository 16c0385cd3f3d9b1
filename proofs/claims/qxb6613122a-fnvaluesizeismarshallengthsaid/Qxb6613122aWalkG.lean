/-
  THE WALKS: PutFixed64Before; (*Value).MarshalToEnd; (*ListValue).MarshalToEnd.
-/
import Derived.Test.Qxb6613122aWalkF
import Derived.Test.Qxb6613122aWalkC
import Derived.Deep.RegionWith
import Derived.Deep.QuietTactic
import Derived.BigQuiet
import Derived.Deep.DeepFit
namespace Go.Proofs.Qxb6613122a
open Go.RowKit
set_option linter.unusedSimpArgs false
set_option linter.unusedVariables false

theorem Wrote.ofDrew {w w1 : World} {g : Nat} {bs : List Int} (h : Wrote w.drew w1 g bs) : Wrote w w1 g bs := ⟨h.buf, grown_trans (grown_drew w _) h.gr⟩

set_option maxHeartbeats 1000000 in
theorem putFixed_any (g n cap : Nat) (bs : List Int) (i0 v : Nat) (x : Int) (w : World) (hB : Buf w g bs) (hn : n ≤ bs.length) (hcap : n ≤ cap) (hmax : bs.length ≤ 4294967296) (hi : i0 + 8 ≤ n) (hx : x = (i0 : Int) + 8) (hv : v < 18446744073709551616) :
    Calls Try.prog 40 #[.slice (some ⟨g, 0, none⟩) n cap, .int .i64 x, .int .u64 v] w fun e w' => e = .returned (.int .i64 (i0 : Int)) ∧ Wrote w w' g (mid bs i0 (le64 v)) := by
  subst hx
  have hin : (i0 : Int) ≤ (n : Int) := by omega
  go_enter Try.func40, Try.ntmps40
  go_wp2_with fail
  go_region_with (go_at_call 46; go_fit (putU64_any g i0 (n - i0) (cap - i0) v bs w.drew hB.drew (by omega) (by omega) hv); rintro e w2 ⟨rfl, hW⟩)
  all_goals
    go_wp2_with fail
    go_ret
    exact ⟨rfl, hW.ofDrew⟩

theorem copyNil (w : World) (ty : TypeId) (d : Option Addr) (dl dc : Nat) : (Builtin.copy_ #[32, 32] ty #[.slice d dl dc, .slice none 0 0]).run Try.prog w = .ok (goInt 0) w :=
  run_copy_none (P := Try.prog) w 32 32 ty 5 d none dl dc 0 0 Try.underlying32 (by kernel_rfl) (by simp)

theorem kept_cell {w w2 : World} {g : Nat} {bs cs : List Int} {a : Addr} {v : Value} (hB : Buf w g bs) (hW : Wrote w w2 g cs) (h : w.cell? a = some v) (hv : ¬ Dull v) : w2.cell? a = some v :=
  hW.gr.cell h (RowIs.other hB hB.dull h hv)

theorem Wrote.cons {w w1 : World} {g i : Nat} {bs ys : List Int} (h : Wrote w w1 g (mid bs (i + 1) ys)) (x : Int) (hl : i + 1 + ys.length ≤ bs.length) : Wrote w (w1.setCell ⟨g, i, none⟩ (.int .u8 x)) g (mid bs i (x :: ys)) := by
  rw [← mid_cons bs i ys x hl]
  exact h.set i x

theorem after_put {w w2 : World} {g m : Nat} {bs ys : List Int} (hB : Buf w g bs) (hW : Wrote w w2 g (mid bs (m + 1) ys)) (x : Int) (hl : m + 1 + ys.length ≤ bs.length) {q : Addr} {kv : Value} (h2 : w.cell? q = some kv) (hkv : ¬ Dull kv) :
    (∃ ov, w2.cell? ⟨g, m, none⟩ = some ov) ∧ w2.frozen? ⟨g, m, none⟩ = false ∧ Hid (Wrote w (w2.setCell ⟨g, m, none⟩ (.int .u8 x)) g (mid bs m (x :: ys))) ∧ (w2.setCell ⟨g, m, none⟩ (.int .u8 x)).cell? q = some kv := by
  have hW3 := hW.cons x hl
  exact ⟨⟨_, hW.buf.cell (j := m) (by rw [mid_length _ _ _ hl]; omega)⟩, hW.buf.free m, hW3, kept_cell hB hW3 h2 hkv⟩

set_option maxRecDepth 100000 in
set_option maxHeartbeats 1000000 in
theorem marshal_0x (q g n cap : Nat) (bs : List Int) (w : World) (hu : w.cell? ⟨q, 1, none⟩ = some (.slice none 0 0)) (h2 : w.cell? ⟨q, 0, none⟩ = some .nilIface) (hB : Buf w g bs) (hn : n ≤ bs.length) (hmax : bs.length ≤ 4294967296) (hcap : n ≤ cap) (hcn : ¬ cap = n) :
    Calls Try.prog 18 #[.pointer (some ⟨q, 0, none⟩), .slice (some ⟨g, 0, none⟩) n cap] w fun e w' => e = .returned (.int .i64 0) ∧ Wrote w w' g bs := by
  have t57 := ta0_57
  have t62 := ta0_62
  have t64 := ta0_64
  have t68 := ta0_68
  have t70 := ta0_70
  have t50 := ta0_50
  have hcpn := copyNil
  go_enter Try.func18, Try.ntmps18
  go_wp2_with fail
  go_region
  go_wp2_with fail
  go_ret
  exact ⟨rfl, hB, grown_drew w _⟩

set_option maxRecDepth 100000 in
set_option maxHeartbeats 1000000 in
theorem marshal_4x (q g m n cap p : Nat) (b : Bool) (bs : List Int) (w : World) (hu : w.cell? ⟨q, 1, none⟩ = some (.slice none 0 0)) (h2 : w.cell? ⟨q, 0, none⟩ = some (.iface 68 (.pointer (some ⟨p, 0, none⟩)))) (h3 : w.cell? ⟨p, 0, none⟩ = some (.bool b)) (hB : Buf w g bs) (hn : n ≤ bs.length) (hmax : bs.length ≤ 4294967296) (hcap : n ≤ cap) (hcn : ¬ cap = n) (hm : n = m + 2) :
    Calls Try.prog 18 #[.pointer (some ⟨q, 0, none⟩), .slice (some ⟨g, 0, none⟩) n cap] w fun e w' => e = .returned (.int .i64 ((2 : Nat) : Int)) ∧ Wrote w w' g (mid bs m (32 :: [bb b])) := by
  have HM : Hid (n = m + 2) := hm
  have hmn : m + 2 ≤ n := by omega
  have hlt : (m : Int) < (n : Int) := by omega
  have hnm : (n : Int) - (m : Int) = 2 := by omega
  clear hm
  have t57 := ta68_57
  have t62 := ta68_62
  have t64 := ta68_64
  have t68 := ta68_68
  have t70 := ta68_70
  have t50 := ta68_50
  have hcpn := copyNil
  go_enter Try.func18, Try.ntmps18
  go_wp2_with fail
  go_region
  go_wp2_with fail
  go_fit (putBool_any g n _ bs (m + 1) _ b _ hB.drew hn hmax (by omega) (by have := HM.out; omega))
  rintro e w2 ⟨rfl, hW⟩
  obtain ⟨⟨ov, c1⟩, f1, HW3, k0⟩ := after_put hB hW.ofDrew 32 (by simp; omega) h2 (by simp [Dull])
  clear hW
  go_wp2_with fail
  go_ret
  exact ⟨by first | rfl | simp, HW3.out⟩

set_option maxRecDepth 100000 in
set_option maxHeartbeats 1000000 in
theorem marshal_3x (q g m n cap p : Nat) (s : ByteArray) (bs : List Int) (w : World) (hu : w.cell? ⟨q, 1, none⟩ = some (.slice none 0 0)) (h2 : w.cell? ⟨q, 0, none⟩ = some (.iface 64 (.pointer (some ⟨p, 0, none⟩)))) (h3 : w.cell? ⟨p, 0, none⟩ = some (.string s)) (hB : Buf w g bs) (hn : n ≤ bs.length) (hmax : bs.length ≤ 4294967296) (hcap : n ≤ cap) (hcn : ¬ cap = n) (hm : n = m + (1 + vlen s.size + s.size)) :
    Calls Try.prog 18 #[.pointer (some ⟨q, 0, none⟩), .slice (some ⟨g, 0, none⟩) n cap] w fun e w' => e = .returned (.int .i64 (((1 + vlen s.size + s.size) : Nat) : Int)) ∧ Wrote w w' g (mid bs m (26 :: (varint s.size ++ sbytes s))) := by
  have HM : Hid (n = m + (1 + vlen s.size + s.size)) := hm
  have hmn : m + (1 + vlen s.size + s.size) ≤ n := by omega
  have hlt : (m : Int) < (n : Int) := by omega
  have hnm : (n : Int) - (m : Int) = ((1 + vlen s.size + s.size : Nat) : Int) := by omega
  clear hm
  have t57 := ta64_57
  have t62 := ta64_62
  have t64 := ta64_64
  have t68 := ta64_68
  have t70 := ta64_70
  have t50 := ta64_50
  have hcpn := copyNil
  go_enter Try.func18, Try.ntmps18
  go_wp2_with fail
  go_region
  go_wp2_with fail
  go_fit (putBytes_any g n _ bs (m + 1) _ s _ hB.drew hn hcap hmax (by omega) (by have := HM.out; omega))
  rintro e w2 ⟨rfl, hW⟩
  obtain ⟨⟨ov, c1⟩, f1, HW3, k0⟩ := after_put hB hW.ofDrew 26 (by simp [varint_length, sbytes_length]; omega) h2 (by simp [Dull])
  clear hW
  go_wp2_with fail
  go_ret
  exact ⟨by first | rfl | simp, HW3.out⟩

set_option maxRecDepth 100000 in
set_option maxHeartbeats 1000000 in
theorem marshal_2x (q g m n cap p : Nat) (v : Nat) (bs : List Int) (w : World) (hu : w.cell? ⟨q, 1, none⟩ = some (.slice none 0 0)) (h2 : w.cell? ⟨q, 0, none⟩ = some (.iface 62 (.pointer (some ⟨p, 0, none⟩)))) (h3 : w.cell? ⟨p, 0, none⟩ = some (.float .f64 v)) (hB : Buf w g bs) (hn : n ≤ bs.length) (hmax : bs.length ≤ 4294967296) (hcap : n ≤ cap) (hcn : ¬ cap = n) (hv : v < 18446744073709551616) (hm : n = m + 9) :
    Calls Try.prog 18 #[.pointer (some ⟨q, 0, none⟩), .slice (some ⟨g, 0, none⟩) n cap] w fun e w' => e = .returned (.int .i64 ((9 : Nat) : Int)) ∧ Wrote w w' g (mid bs m (17 :: le64 v)) := by
  have HM : Hid (n = m + 9) := hm
  have hmn : m + 9 ≤ n := by omega
  have hlt : (m : Int) < (n : Int) := by omega
  have hnm : (n : Int) - (m : Int) = 9 := by omega
  have hbr := bits_run
  clear hm
  have t57 := ta62_57
  have t62 := ta62_62
  have t64 := ta62_64
  have t68 := ta62_68
  have t70 := ta62_70
  have t50 := ta62_50
  have hcpn := copyNil
  go_enter Try.func18, Try.ntmps18
  go_wp2_with fail
  go_region
  go_wp2_with fail
  go_fit (putFixed_any g n _ bs (m + 1) v _ _ hB.drew hn hcap hmax (by omega) (by have := HM.out; omega) hv)
  rintro e w2 ⟨rfl, hW⟩
  obtain ⟨⟨ov, c1⟩, f1, HW3, k0⟩ := after_put hB hW.ofDrew 17 (by have : (le64 v).length = 8 := le8_length 8 v; omega) h2 (by simp [Dull])
  clear hW
  go_wp2_with fail
  go_ret
  exact ⟨by first | rfl | simp, HW3.out⟩

set_option maxRecDepth 100000 in
set_option maxHeartbeats 1000000 in
theorem marshal_1x (q g m n cap p : Nat) (nl : Int) (bs : List Int) (w : World) (hu : w.cell? ⟨q, 1, none⟩ = some (.slice none 0 0)) (h2 : w.cell? ⟨q, 0, none⟩ = some (.iface 57 (.pointer (some ⟨p, 0, none⟩)))) (h3 : w.cell? ⟨p, 0, none⟩ = some (.int .i32 nl)) (hB : Buf w g bs) (hn : n ≤ bs.length) (hmax : bs.length ≤ 4294967296) (hcap : n ≤ cap) (hcn : ¬ cap = n) (hm : n = m + (1 + vlen (u64 nl))) :
    Calls Try.prog 18 #[.pointer (some ⟨q, 0, none⟩), .slice (some ⟨g, 0, none⟩) n cap] w fun e w' => e = .returned (.int .i64 (((1 + vlen (u64 nl)) : Nat) : Int)) ∧ Wrote w w' g (mid bs m (8 :: varint (u64 nl))) := by
  have HM : Hid (n = m + (1 + vlen (u64 nl))) := hm
  have hmn : m + (1 + vlen (u64 nl)) ≤ n := by omega
  have hlt : (m : Int) < (n : Int) := by omega
  have hnm : (n : Int) - (m : Int) = ((1 + vlen (u64 nl) : Nat) : Int) := by omega
  clear hm
  have t57 := ta57_57
  have t62 := ta57_62
  have t64 := ta57_64
  have t68 := ta57_68
  have t70 := ta57_70
  have t50 := ta57_50
  have hcpn := copyNil
  go_enter Try.func18, Try.ntmps18
  go_wp2_with fail
  go_region
  go_wp2_with fail
  rw [wrapN]
  go_fit (putVarint_any g n _ bs (m + 1) (u64 nl) _ _ _ hB.drew hn hmax (by omega) (by have := HM.out; omega) rfl (u64_lt nl))
  rintro e w2 ⟨rfl, hW⟩
  obtain ⟨⟨ov, c1⟩, f1, HW3, k0⟩ := after_put hB hW.ofDrew 8 (by simp [varint_length]; omega) h2 (by simp [Dull])
  clear hW
  go_wp2_with fail
  go_ret
  exact ⟨by first | rfl | simp, HW3.out⟩

set_option maxRecDepth 100000 in
set_option maxHeartbeats 1000000 in
theorem marshal_0e (q g n : Nat) (bs : List Int) (w : World) (hu : w.cell? ⟨q, 1, none⟩ = some (.slice none 0 0)) (h2 : w.cell? ⟨q, 0, none⟩ = some .nilIface) (hB : Buf w g bs) (hn : n ≤ bs.length) (hmax : bs.length ≤ 4294967296) :
    Calls Try.prog 18 #[.pointer (some ⟨q, 0, none⟩), .slice (some ⟨g, 0, none⟩) n n] w fun e w' => e = .returned (.int .i64 0) ∧ Wrote w w' g bs := by
  have t57 := ta0_57
  have t62 := ta0_62
  have t64 := ta0_64
  have t68 := ta0_68
  have t70 := ta0_70
  have t50 := ta0_50
  have hcpn := copyNil
  go_enter Try.func18, Try.ntmps18
  go_wp2_with fail
  go_region
  go_wp2_with fail
  go_ret
  exact ⟨rfl, hB, grown_drew w _⟩

set_option maxRecDepth 100000 in
set_option maxHeartbeats 1000000 in
theorem marshal_4e (q g m n p : Nat) (b : Bool) (bs : List Int) (w : World) (hu : w.cell? ⟨q, 1, none⟩ = some (.slice none 0 0)) (h2 : w.cell? ⟨q, 0, none⟩ = some (.iface 68 (.pointer (some ⟨p, 0, none⟩)))) (h3 : w.cell? ⟨p, 0, none⟩ = some (.bool b)) (hB : Buf w g bs) (hn : n ≤ bs.length) (hmax : bs.length ≤ 4294967296) (hm : n = m + 2) :
    Calls Try.prog 18 #[.pointer (some ⟨q, 0, none⟩), .slice (some ⟨g, 0, none⟩) n n] w fun e w' => e = .returned (.int .i64 ((2 : Nat) : Int)) ∧ Wrote w w' g (mid bs m (32 :: [bb b])) := by
  have HM : Hid (n = m + 2) := hm
  have hmn : m + 2 ≤ n := by omega
  have hlt : (m : Int) < (n : Int) := by omega
  have hnm : (n : Int) - (m : Int) = 2 := by omega
  clear hm
  have t57 := ta68_57
  have t62 := ta68_62
  have t64 := ta68_64
  have t68 := ta68_68
  have t70 := ta68_70
  have t50 := ta68_50
  have hcpn := copyNil
  go_enter Try.func18, Try.ntmps18
  go_wp2_with fail
  go_region
  go_wp2_with fail
  go_fit (putBool_any g n _ bs (m + 1) _ b _ hB.drew hn hmax (by omega) (by have := HM.out; omega))
  rintro e w2 ⟨rfl, hW⟩
  obtain ⟨⟨ov, c1⟩, f1, HW3, k0⟩ := after_put hB hW.ofDrew 32 (by simp; omega) h2 (by simp [Dull])
  clear hW
  go_wp2_with fail
  go_ret
  exact ⟨by first | rfl | simp, HW3.out⟩

set_option maxRecDepth 100000 in
set_option maxHeartbeats 1000000 in
theorem marshal_3e (q g m n p : Nat) (s : ByteArray) (bs : List Int) (w : World) (hu : w.cell? ⟨q, 1, none⟩ = some (.slice none 0 0)) (h2 : w.cell? ⟨q, 0, none⟩ = some (.iface 64 (.pointer (some ⟨p, 0, none⟩)))) (h3 : w.cell? ⟨p, 0, none⟩ = some (.string s)) (hB : Buf w g bs) (hn : n ≤ bs.length) (hmax : bs.length ≤ 4294967296) (hm : n = m + (1 + vlen s.size + s.size)) :
    Calls Try.prog 18 #[.pointer (some ⟨q, 0, none⟩), .slice (some ⟨g, 0, none⟩) n n] w fun e w' => e = .returned (.int .i64 (((1 + vlen s.size + s.size) : Nat) : Int)) ∧ Wrote w w' g (mid bs m (26 :: (varint s.size ++ sbytes s))) := by
  have HM : Hid (n = m + (1 + vlen s.size + s.size)) := hm
  have hmn : m + (1 + vlen s.size + s.size) ≤ n := by omega
  have hlt : (m : Int) < (n : Int) := by omega
  have hnm : (n : Int) - (m : Int) = ((1 + vlen s.size + s.size : Nat) : Int) := by omega
  clear hm
  have t57 := ta64_57
  have t62 := ta64_62
  have t64 := ta64_64
  have t68 := ta64_68
  have t70 := ta64_70
  have t50 := ta64_50
  have hcpn := copyNil
  go_enter Try.func18, Try.ntmps18
  go_wp2_with fail
  go_region
  go_wp2_with fail
  go_fit (putBytes_any g n _ bs (m + 1) _ s _ hB.drew hn (Nat.le_refl _) hmax (by omega) (by have := HM.out; omega))
  rintro e w2 ⟨rfl, hW⟩
  obtain ⟨⟨ov, c1⟩, f1, HW3, k0⟩ := after_put hB hW.ofDrew 26 (by simp [varint_length, sbytes_length]; omega) h2 (by simp [Dull])
  clear hW
  go_wp2_with fail
  go_ret
  exact ⟨by first | rfl | simp, HW3.out⟩

set_option maxRecDepth 100000 in
set_option maxHeartbeats 1000000 in
theorem marshal_2e (q g m n p : Nat) (v : Nat) (bs : List Int) (w : World) (hu : w.cell? ⟨q, 1, none⟩ = some (.slice none 0 0)) (h2 : w.cell? ⟨q, 0, none⟩ = some (.iface 62 (.pointer (some ⟨p, 0, none⟩)))) (h3 : w.cell? ⟨p, 0, none⟩ = some (.float .f64 v)) (hB : Buf w g bs) (hn : n ≤ bs.length) (hmax : bs.length ≤ 4294967296) (hv : v < 18446744073709551616) (hm : n = m + 9) :
    Calls Try.prog 18 #[.pointer (some ⟨q, 0, none⟩), .slice (some ⟨g, 0, none⟩) n n] w fun e w' => e = .returned (.int .i64 ((9 : Nat) : Int)) ∧ Wrote w w' g (mid bs m (17 :: le64 v)) := by
  have HM : Hid (n = m + 9) := hm
  have hmn : m + 9 ≤ n := by omega
  have hlt : (m : Int) < (n : Int) := by omega
  have hnm : (n : Int) - (m : Int) = 9 := by omega
  have hbr := bits_run
  clear hm
  have t57 := ta62_57
  have t62 := ta62_62
  have t64 := ta62_64
  have t68 := ta62_68
  have t70 := ta62_70
  have t50 := ta62_50
  have hcpn := copyNil
  go_enter Try.func18, Try.ntmps18
  go_wp2_with fail
  go_region
  go_wp2_with fail
  go_fit (putFixed_any g n _ bs (m + 1) v _ _ hB.drew hn (Nat.le_refl _) hmax (by omega) (by have := HM.out; omega) hv)
  rintro e w2 ⟨rfl, hW⟩
  obtain ⟨⟨ov, c1⟩, f1, HW3, k0⟩ := after_put hB hW.ofDrew 17 (by have : (le64 v).length = 8 := le8_length 8 v; omega) h2 (by simp [Dull])
  clear hW
  go_wp2_with fail
  go_ret
  exact ⟨by first | rfl | simp, HW3.out⟩

set_option maxRecDepth 100000 in
set_option maxHeartbeats 1000000 in
theorem marshal_1e (q g m n p : Nat) (nl : Int) (bs : List Int) (w : World) (hu : w.cell? ⟨q, 1, none⟩ = some (.slice none 0 0)) (h2 : w.cell? ⟨q, 0, none⟩ = some (.iface 57 (.pointer (some ⟨p, 0, none⟩)))) (h3 : w.cell? ⟨p, 0, none⟩ = some (.int .i32 nl)) (hB : Buf w g bs) (hn : n ≤ bs.length) (hmax : bs.length ≤ 4294967296) (hm : n = m + (1 + vlen (u64 nl))) :
    Calls Try.prog 18 #[.pointer (some ⟨q, 0, none⟩), .slice (some ⟨g, 0, none⟩) n n] w fun e w' => e = .returned (.int .i64 (((1 + vlen (u64 nl)) : Nat) : Int)) ∧ Wrote w w' g (mid bs m (8 :: varint (u64 nl))) := by
  have HM : Hid (n = m + (1 + vlen (u64 nl))) := hm
  have hmn : m + (1 + vlen (u64 nl)) ≤ n := by omega
  have hlt : (m : Int) < (n : Int) := by omega
  have hnm : (n : Int) - (m : Int) = ((1 + vlen (u64 nl) : Nat) : Int) := by omega
  clear hm
  have t57 := ta57_57
  have t62 := ta57_62
  have t64 := ta57_64
  have t68 := ta57_68
  have t70 := ta57_70
  have t50 := ta57_50
  have hcpn := copyNil
  go_enter Try.func18, Try.ntmps18
  go_wp2_with fail
  go_region
  go_wp2_with fail
  rw [wrapN]
  go_fit (putVarint_any g n _ bs (m + 1) (u64 nl) _ _ _ hB.drew hn hmax (by omega) (by have := HM.out; omega) rfl (u64_lt nl))
  rintro e w2 ⟨rfl, hW⟩
  obtain ⟨⟨ov, c1⟩, f1, HW3, k0⟩ := after_put hB hW.ofDrew 8 (by simp [varint_length]; omega) h2 (by simp [Dull])
  clear hW
  go_wp2_with fail
  go_ret
  exact ⟨by first | rfl | simp, HW3.out⟩


/-- (*Value).MarshalToEnd at an item: the item's bytes, at the end of b; their number. -/
theorem marshal_any (q g m n cap : Nat) (it : Item) (bs : List Int) (w : World) (h : ValAt w q it) (hok : ItemOk it) (hB : Buf w g bs) (hn : n ≤ bs.length) (hcap : n ≤ cap) (hmax : bs.length ≤ 4294967296) (hm : n = m + (enc it).length) :
    Calls Try.prog 18 #[.pointer (some ⟨q, 0, none⟩), .slice (some ⟨g, 0, none⟩) n cap] w fun e w' => e = .returned (.int .i64 (((enc it).length : Nat) : Int)) ∧ Wrote w w' g (mid bs m (enc it)) := by
  obtain ⟨hu, h⟩ := h
  rcases h with ⟨hk, h2⟩ | ⟨hk, p, h2, h3⟩ | ⟨hk, p, h2, h3⟩ | ⟨hk, p, h2, h3⟩ | ⟨hk, p, h2, h3⟩
  · have hE : enc it = [] := by simp [enc, hk]
    rw [hE, mid_nil]
    by_cases hc : cap = n
    · subst hc; exact marshal_0e q g _ bs w hu h2 hB hn hmax
    · exact marshal_0x q g n cap bs w hu h2 hB hn hmax hcap hc
  · have hE : enc it = 8 :: varint (u64 it.null) := by simp [enc, hk]
    have hL : (enc it).length = 1 + vlen (u64 it.null) := by rw [hE]; simp [varint_length]; omega
    rw [hL] at hm ⊢
    rw [hE]
    by_cases hc : cap = n
    · subst hc; exact marshal_1e q g m _ p it.null bs w hu h2 h3 hB hn hmax hm
    · exact marshal_1x q g m n cap p it.null bs w hu h2 h3 hB hn hmax hcap hc hm
  · have hE : enc it = 17 :: le64 it.bits.toNat := by simp [enc, hk, le64]
    have hL : (enc it).length = 9 := by rw [hE]; simp [le64, le8_length]
    rw [hL] at hm ⊢
    rw [hE]
    have hb0 := hok.b0
    have hb1 := hok.b1
    by_cases hc : cap = n
    · subst hc; exact marshal_2e q g m _ p it.bits.toNat bs w hu h2 h3 hB hn hmax (by omega) hm
    · exact marshal_2x q g m n cap p it.bits.toNat bs w hu h2 h3 hB hn hmax hcap hc (by omega) hm
  · have hE : enc it = 26 :: (varint it.s.size ++ sbytes it.s) := by simp [enc, hk]
    have hL : (enc it).length = 1 + vlen it.s.size + it.s.size := by rw [hE]; simp [varint_length, sbytes_length]; omega
    rw [hL] at hm ⊢
    rw [hE]
    by_cases hc : cap = n
    · subst hc; exact marshal_3e q g m _ p it.s bs w hu h2 h3 hB hn hmax hm
    · exact marshal_3x q g m n cap p it.s bs w hu h2 h3 hB hn hmax hcap hc hm
  · have hE : enc it = 32 :: [bb it.b] := by simp [enc, hk, bb]
    have hL : (enc it).length = 2 := by rw [hE]; simp
    rw [hL] at hm ⊢
    rw [hE]
    by_cases hc : cap = n
    · subst hc; exact marshal_4e q g m _ p it.b bs w hu h2 h3 hB hn hmax hm
    · exact marshal_4x q g m n cap p it.b bs w hu h2 h3 hB hn hmax hcap hc hm
end Go.Proofs.Qxb6613122a
