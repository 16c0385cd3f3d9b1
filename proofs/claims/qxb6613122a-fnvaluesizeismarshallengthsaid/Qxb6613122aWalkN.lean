/-
  THE WALKS: zzBytes_FnValueSizeIsMarshalLength, zzEncValueList, (*Value).MarshalToEnd at a list, (*Value).Size at nil.
-/
import Derived.Test.Qxb6613122aWalkM
namespace Go.Proofs.Qxb6613122a
open Go.RowKit
set_option linter.unusedSimpArgs false
set_option linter.unusedVariables false

set_option maxRecDepth 100000 in
theorem size_nil (w : World) : Calls Try.prog 13 #[.pointer none] w fun e w' => e = .returned (.int .i64 0) ∧ w' = w := by
  go_enter Try.func13, Try.ntmps13
  go_wp2_with fail
  go_ret
  exact ⟨rfl, rfl⟩

set_option maxHeartbeats 2000000 in
theorem bytes21_any (it : Item) (b1 : Bool) (a : Option Addr) (n cap : Nat) (I : Nat → Item) (b2 : Bool) (w : World) (hok : ItemOk it) (he : ItemsAt w a n I) :
    Calls Try.prog 21 #[.agg #[.int .u8 it.kind, .bool it.b, .string it.s, .int .u64 it.bits, .int .i32 it.null], .bool b1, .slice a n cap, .bool b2] w fun e w' => RetBool e ∧ Below w.heap.size w w' := by
  have s1 := hok.s1
  have he' := he.below ((Below.refl _ _).alloc (Nat.le_refl _) (.cells #[.int .u8 it.kind, .bool it.b, .string it.s, .int .u64 it.bits, .int .i32 it.null] 36))
  obtain ⟨hn, hc⟩ := he'
  clear he
  unfold maxLen at hn s1
  have HB : Hid (Below w.heap.size w (w.alloc (.cells #[.int .u8 it.kind, .bool it.b, .string it.s, .int .u64 it.bits, .int .i32 it.null] 36))) := (Below.refl _ _).alloc (Nat.le_refl _) _
  have HC : Hid (0 < n → ∃ b off, a = some ⟨b, off, none⟩ ∧ b < (w.alloc (.cells #[.int .u8 it.kind, .bool it.b, .string it.s, .int .u64 it.bits, .int .i32 it.null] 36)).heap.size ∧ ∀ i, i < n → ItemCells (w.alloc (.cells #[.int .u8 it.kind, .bool it.b, .string it.s, .int .u64 it.bits, .int .i32 it.null] 36)) b (off + i * 5) (I i)) := hc
  clear hc
  go_enter Try.func21, Try.ntmps21
  go_wp2
  all_goals try (go_ret; exact ⟨⟨_, rfl⟩, HB.out⟩)
  go_loop [9, 10] (fun s i => ∃ (k : Nat) (u : Int), k ≤ n ∧ i = .int .i64 k ∧ s = .int .i64 u ∧ 0 ≤ u ∧ u ≤ 1048576) (fun _ i => n - (intOf i).toNat)
  case atStart => exact ⟨0, _, Nat.zero_le _, rfl, rfl, by omega, by omega⟩
  case round =>
    obtain ⟨k, u, hk, rfl, rfl, hu0, hu1⟩ := hrel
    by_cases hlt : k < n
    · obtain ⟨b, off, rfl, hb, hc⟩ := HC.out (by omega)
      have hi := hc k hlt
      have hcell := hi.c2
      have hsz := hi.ok.s1
      unfold maxLen at hsz
      clear hc hi HC
      go_wp2
      · go_ret
        exact ⟨⟨_, rfl⟩, HB.out⟩
      · go_ret
        exact ⟨⟨_, rfl⟩, HB.out⟩
      · go_round
        case rel => exact ⟨k + 1, _, by omega, by go_num, rfl, by omega, by omega⟩
        case measure => simp [intOf]; omega
    · clear HC
      go_wp2
      all_goals
        go_ret
        exact ⟨⟨_, rfl⟩, HB.out⟩

/-- One byte in a block of its own. -/
theorem bytes_one_new (w : World) (x : Int) : Bytes (w.alloc (.cells #[.int .u8 x] 5)) (.slice (some ⟨w.heap.size, 0, none⟩) 1 1) [x] := by
  exact ⟨rfl, Or.inr ⟨w.heap.size, 1, _, rfl, Nat.zero_le _, heap_alloc_new w _, by simp, by decide, rfl, rfl⟩⟩

set_option maxHeartbeats 1000000 in
theorem encValueList_any (a : Option Addr) (n cap : Nat) (I : Nat → Item) (w : World) (he : ItemsAt w a n I) (h4 : ∀ i, i < n → (I i).kind ≤ 4) (ht : tot I n ≤ 1048576) :
    Calls Try.prog 22 #[.slice a n cap] w fun e w' => ∃ v, e = .returned v ∧ NewBytes w w' v (50 :: (varint (encSeg I 0 n).length ++ encSeg I 0 n)) := by
  have hL : (encSeg I 0 n).length ≤ 1048576 := by have := encSeg_length I n ht 0 n (by omega); simp at *; omega
  have hvp := vlen_pos (encSeg I 0 n).length (by omega)
  go_enter Try.func22, Try.ntmps22
  go_wp2_with fail
  go_fit (encList_any a n _ I _ he h4 ht)
  rintro e w2 ⟨v, rfl, hN⟩
  clear h4 ht he
  have hone := bytes_one_new w2 50
  have hr2 := hN.own.alloc (.cells #[.int .u8 50] 5)
  have hb2 : Below w.heap.size w (w2.alloc (.cells #[.int .u8 50] 5)) := hN.bel.alloc hN.bel.size _
  rcases hN.own.value with ⟨hv, hnil⟩ | ⟨h, c', hv, hlt2, -⟩
  · subst hv
    have HNil : Hid (encSeg I 0 n = []) := hnil
    clear hnil
    have hl0 : (encSeg I 0 n).length = 0 := by rw [HNil.out]; rfl
    go_wp2_with fail
    go_fit (varint_any _ [50] 0 _ hone (by omega) (by simp))
    rintro e w4 ⟨o2, rfl, hB4, hA4⟩
    obtain ⟨i5, hi5, -, -, -⟩ := info_parts (show (Try.prog.info? 5).map (fun i => (i.zero, i.size, i.bytes)) = some (some (.int .u8 0), 1, 1) by kernel_rfl)
    go_wp2_with (at_builtin; refine wpList_append_own_none rfl (.tmp 13) (.tmp 14) 32 rfl 0 5 i5 1 Try.underlying32 hi5 _ _ _ rfl hB4 rfl ?_)
    go_wp2_with fail
    go_ret
    refine ⟨_, rfl, ?_, ?_, ?_⟩
    · rw [HNil.out]
      simpa using hB4
    · intro k hk
      have := hN.bel.size
      rcases hA4.nw k hk with h1 | h1
      · simp [Value.ownBlock] at h1; omega
      · simp at h1; omega
    · exact hb2.trans (hA4.below hb2.size (fun k hk => by simp [Value.ownBlock] at hk; have := hN.bel.size; omega))
  · subst hv
    go_wp2_with fail
    go_fit (varint_any _ [50] _ _ hone (by omega) (by simp))
    rintro e w4 ⟨o2, rfl, hB4, hA4⟩
    have hrec : Bytes w4 (.slice (some ⟨h, 0, none⟩) (encSeg I 0 n).length c') (encSeg I 0 n) := by
      refine hr2.kept hA4.gr (Or.inr ?_)
      simp [Value.ownBlock]
      omega
    have hc4 : ∀ j x, (encSeg I 0 n)[j]? = some x → w4.cell? ((⟨h, 0, none⟩ : Addr).add j) = some (.int .u8 x) := by
      intro j x hx
      rw [addr_add0]
      rcases hrec.value with ⟨hv2, _⟩ | ⟨h', c'', hv2, _, hcc⟩
      · cases hv2
      · injection hv2 with e1 e2 e3
        injection e1 with e1
        injection e1 with e1
        subst e1
        exact hcc j x hx
    have HC : Hid (∀ j x, (encSeg I 0 n)[j]? = some x → w4.cell? ((⟨h, 0, none⟩ : Addr).add j) = some (.int .u8 x)) := hc4
    clear hc4 hrec
    go_wp2_with (at_builtin; refine wpList_appB rfl (.tmp 13) (.tmp 14) rfl _ ([50] ++ varint (encSeg I 0 n).length) rfl hB4 _ _ _ (encSeg I 0 n) rfl rfl HC.out ?hl4 ?_)
    case hl4 => simp [varint_length]; omega
    intro o3 w5 hB5 hA5
    have hA := hA4.trans hA5
    go_wp2_with fail
    go_ret
    refine ⟨_, rfl, ?_, ?_, ?_⟩
    · simpa using hB5
    · intro k hk
      have := hN.bel.size
      rcases hA.nw k hk with h1 | h1
      · simp [Value.ownBlock] at h1; omega
      · simp at h1; omega
    · exact hb2.trans (hA.below hb2.size (fun k hk => by simp [Value.ownBlock] at hk; have := hN.bel.size; omega))

/-- The bytes of a list Value. -/
def encL (I : Nat → Item) (n : Nat) : List Int := 50 :: (varint (encSeg I 0 n).length ++ encSeg I 0 n)

theorem encL_length (I : Nat → Item) (n : Nat) : (encL I n).length = 1 + vlen (encSeg I 0 n).length + (encSeg I 0 n).length := by
  simp [encL, varint_length]; omega

set_option maxRecDepth 100000 in
set_option maxHeartbeats 1000000 in
/-- (*Value).MarshalToEnd at a list, into a slice without spare capacity. -/
theorem marshalList_e (q l g gv n N m : Nat) (Q : Nat → Nat) (I : Nat → Item) (bs : List Int) (w : World) (h : ListAt w q l gv n Q I) (hgv : gv ≠ g)
    (hok : ∀ i, i < n → ItemOk (I i)) (ht : tot I n ≤ 1048576) (hB : Buf w g bs) (hN : N ≤ bs.length) (hmax : bs.length ≤ 4294967296) (hm : N = m + (encL I n).length) :
    Calls Try.prog 18 #[.pointer (some ⟨q, 0, none⟩), .slice (some ⟨g, 0, none⟩) N N] w fun e w' => e = .returned (.int .i64 (((encL I n).length : Nat) : Int)) ∧ Wrote w w' g (mid bs m (encL I n)) := by
  obtain ⟨hu, ⟨p, h2, h3⟩, hv, hu2, heach⟩ := h
  have hL : (encSeg I 0 n).length ≤ 1048576 := by have := encSeg_length I n ht 0 n (by omega); simp at *; omega
  have hvp := vlen_pos (encSeg I 0 n).length (by omega)
  have heL := encL_length I n
  have HM : Hid (N = m + 1 + vlen (encSeg I 0 n).length + (encSeg I 0 n).length) := by simp only [Hid]; omega
  have hnm : (N : Int) - (m : Int) = (((encL I n).length : Nat) : Int) := by omega
  have hmn : (m : Int) < (N : Int) := by omega
  have hle : (((encSeg I 0 n).length : Nat) : Int) ≤ (N : Int) := by omega
  have HC : Hid (Calls Try.prog 25 #[.pointer (some ⟨l, 0, none⟩), .slice (some ⟨g, 0, none⟩) N N] w.drew.drew fun e w' => e = .returned (.int .i64 (((encSeg I 0 n).length : Nat) : Int)) ∧ Wrote w.drew.drew w' g (mid bs (m + 1 + vlen (encSeg I 0 n).length) (encSeg I 0 n))) :=
    listMarshal_any l g gv n N N (m + 1 + vlen (encSeg I 0 n).length) Q I bs w.drew.drew hv hu2 (fun i hi => ⟨(heach i hi).1, (heach i hi).2.below (fun _ _ h => h)⟩) hgv hok ht hB hN hmax (Nat.le_refl _) HM.out
  have HL : Hid ((encL I n).length = 1 + vlen (encSeg I 0 n).length + (encSeg I 0 n).length) := heL
  clear hm heL heach hv hu2 hok ht hgv
  have t57 := ta50_57
  have t62 := ta50_62
  have t64 := ta50_64
  have t68 := ta50_68
  have t70 := ta50_70
  have t50 := ta50_50
  have hcpn := copyNil
  go_enter Try.func18, Try.ntmps18
  go_wp2_with fail
  go_region
  go_wp2_with fail
  go_region_with (go_at_call 25; go_fit HC.out; rintro e w2 ⟨rfl, hW⟩)
  all_goals
    have hW2 : Wrote w w2 g (mid bs (m + 1 + vlen (encSeg I 0 n).length) (encSeg I 0 n)) := hW.ofDrew.ofDrew
    have hseg : m + 1 + vlen (encSeg I 0 n).length + (encSeg I 0 n).length ≤ bs.length := by have := HM.out; omega
    have HBL : Hid ((mid bs (m + 1 + vlen (encSeg I 0 n).length) (encSeg I 0 n)).length = bs.length) := mid_length _ _ _ hseg
    clear hW HC
    go_wp2_with fail
    go_fit (putVarint_any g N _ _ (m + 1) (encSeg I 0 n).length _ _ _ hW2.buf (by rw [HBL.out]; omega) (by rw [HBL.out]; omega) (by have := HM.out; omega) (by have := HM.out; omega) rfl (by omega))
    rintro e w3 ⟨rfl, hW3⟩
    rw [mid_mid bs _ (m + 1) _ (varint (encSeg I 0 n).length) (by rw [varint_length]) hseg] at hW3
    have hW3' := hW2.trans hW3
    have hseg3 : m + 1 + (varint (encSeg I 0 n).length ++ encSeg I 0 n).length ≤ bs.length := by rw [List.length_append, varint_length]; omega
    obtain ⟨⟨ov, c1⟩, f1, HW4, k0⟩ := after_put hB hW3' 50 hseg3 h2 (by simp [Dull])
    clear hW3 hW3' hW2 hseg hseg3
    go_wp2_with fail
    go_ret
    exact ⟨by first | rfl | simp, HW4.out⟩
end Go.Proofs.Qxb6613122a
