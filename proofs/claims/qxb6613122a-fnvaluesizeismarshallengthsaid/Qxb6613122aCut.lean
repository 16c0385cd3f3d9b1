/-
  THE WALK of FnValueSizeAdditiveOverListCut.
-/
import Derived.Test.Qxb6613122aWalkE
namespace Go.Proofs.Qxb6613122a
open Go.RowKit
set_option linter.unusedSimpArgs false
set_option linter.unusedVariables false

theorem tot_shift (I : Nat → Item) (d : Nat) : ∀ m, tot I (d + m) = tot I d + tot (fun i => I (d + i)) m
  | 0 => rfl
  | m + 1 => by rw [← Nat.add_assoc, tot, tot_shift I d m, tot]; omega

set_option maxRecDepth 100000 in
set_option maxHeartbeats 2000000 in
/-- (*Value).Size at a list. -/
theorem sizeList_any (q l g n : Nat) (Q : Nat → Nat) (I : Nat → Item) (w : World) (h : ListAt w q l g n Q I) (hok : ∀ i, i < n → ItemOk (I i)) (ht : tot I n ≤ 1048576) :
    Calls Try.prog 13 #[.pointer (some ⟨q, 0, none⟩)] w fun e w' => e = .returned (.int .i64 ((1 + vlen (encSeg I 0 n).length + (encSeg I 0 n).length : Nat) : Int)) ∧ w' = w := by
  obtain ⟨hu, ⟨p, h2, h3⟩, hv, hu2, heach⟩ := h
  have hL : (encSeg I 0 n).length ≤ 1048576 := by have := encSeg_length I n ht 0 n (by omega); simp at this; omega
  have hvp := vlen_pos (encSeg I 0 n).length (by omega)
  have t57 := ta50_57
  have t62 := ta50_62
  have t64 := ta50_64
  have t68 := ta50_68
  have t70 := ta50_70
  have t50 := ta50_50
  go_enter Try.func13, Try.ntmps13
  go_wp2_with fail
  refine (listSize_any l g n Q I _ hv hu2 heach hok ht).mono ?_
  rintro e w' ⟨rfl, rfl⟩
  go_wp2_with fail
  refine (sizeVarint_any _ _ (by omega) (by omega)).mono ?_
  rintro e w' ⟨rfl, rfl⟩
  rw [Int.toNat_natCast]
  go_wp2_with fail
  go_ret
  exact ⟨by simp, rfl⟩

theorem inner_int (L : Nat) (w : World) (h1 : L ≤ 4294967296) (T : Int) (hT : T = 1 + (vlen L : Int) + (L : Int)) :
    Calls Try.prog 10 #[.int .i64 T] w fun e w' => e = .returned (.int .i64 L) ∧ w' = w := by
  have := inner_any L w h1 _ rfl
  rwa [show ((1 + vlen L + L : Nat) : Int) = T by omega] at this

/-- The items, cut. -/
theorem ItemsAt.take {w : World} {a : Option Addr} {n c : Nat} {I : Nat → Item} (h : ItemsAt w a n I) (hc : c ≤ n) : ItemsAt w a c I := by
  obtain ⟨hn, hx⟩ := h
  refine ⟨by omega, fun h0 => ?_⟩
  obtain ⟨b, off, ha, hb, hcell⟩ := hx (by omega)
  exact ⟨b, off, ha, hb, fun i hi => hcell i (by omega)⟩

theorem ItemsAt.drop {w : World} {a : Option Addr} {n c : Nat} {I : Nat → Item} (h : ItemsAt w a n I) (hc : c ≤ n) : ItemsAt w (a.map fun x => x.add (c * 5)) (n - c) (fun i => I (c + i)) := by
  obtain ⟨hn, hx⟩ := h
  refine ⟨by omega, fun h0 => ?_⟩
  obtain ⟨b, off, ha, hb, hcell⟩ := hx (by omega)
  refine ⟨b, off + c * 5, ?_, hb, fun i hi => ?_⟩
  · subst ha
    simp only [Option.map_some, Option.some.injEq]
    unfold Addr.add
    split
    · rename_i h1; rw [h1]; rfl
    · rfl
  · have := hcell (c + i) (by omega)
    rwa [show off + (c + i) * 5 = off + c * 5 + i * 5 by omega] at this

theorem ItemsAt.none {w : World} {a : Option Addr} {n : Nat} {I : Nat → Item} (h : n = 0) : ItemsAt w a n I := by
  subst h
  exact ⟨Nat.zero_le _, fun h0 => absurd h0 (by omega)⟩

set_option maxRecDepth 100000 in
set_option maxHeartbeats 2000000 in
theorem cut_any (a : Option Addr) (n cap : Nat) (I : Nat → Item) (c : Int) (w : World) (he : ItemsAt w a n I) (hok : ∀ i, i < n → ItemOk (I i)) (hcap : n ≤ cap) :
    Calls Try.prog 3 #[.slice a n cap, .int .i64 c] w fun e w' => e = .returned (.bool true) ∧ Below w.heap.size w w' := by
  have hnmax := he.1
  unfold maxLen at hnmax
  go_enter Try.func3, Try.ntmps3
  go_wp2_with fail
  refine (bytesCut_any a n cap I c _ he).mono ?_
  rintro e w1 ⟨⟨r, rfl⟩, rfl⟩
  cases r with
  | false =>
    go_wp2_with fail
    go_ret
    exact ⟨rfl, Below.refl _ _⟩
  | true =>
  go_wp2_with fail
  refine (itemsBytes_any a n cap I 0 _ he (by omega)).mono ?_
  rintro e w1 ⟨⟨r, rfl, ht⟩, rfl⟩
  by_cases hr : 1048576 < r
  · clear ht
    go_wp2_with fail
    go_ret
    exact ⟨rfl, Below.refl _ _⟩
  have HT : Hid (tot I n ≤ 1048576) := by have := ht (by omega); simp only [Hid]; omega
  clear ht
  go_wp2_with fail
  refine (kindsOK_any a n cap I _ he).mono ?_
  rintro e w1 ⟨⟨r2, rfl, h4⟩, rfl⟩
  cases r2 with
  | false =>
    clear h4
    go_wp2_with fail
    go_ret
    exact ⟨rfl, Below.refl _ _⟩
  | true =>
  have H4 : Hid (∀ i, i < n → (I i).kind ≤ 4) := h4 rfl
  clear h4
  by_cases hc0 : c < 0
  · go_wp2_with fail
    go_ret
    exact ⟨rfl, Below.refl _ _⟩
  by_cases hcn : (n : Int) < c
  · go_wp2_with fail
    go_ret
    exact ⟨rfl, Below.refl _ _⟩
  obtain ⟨k, rfl⟩ := Int.eq_ofNat_of_zero_le (show 0 ≤ c by omega)
  go_wp2_with fail
  have hnn : n ≤ 1048576 := by have := tot_ge I n; have := HT.out; omega
  refine (buildAll_any a n cap I _ he H4.out hnn).mono ?_
  rintro e w2 ⟨g, Q, rfl, hg, hV, hb2⟩
  go_wp2_with fail
  refine (newList_any g n Q I _ hV).mono ?_
  rintro e w3 ⟨q, l, rfl, hq, hLst, hb3⟩
  go_wp2_with fail
  refine (sizeList_any q l g n Q I _ hLst hok HT.out).mono ?_
  rintro e w4 ⟨rfl, rfl⟩
  have hL1 : (encSeg I 0 n).length ≤ 1048576 := by have := encSeg_length I n HT.out 0 n (by omega); have := HT.out; simp at *; omega
  go_wp2_with fail
  refine (inner_int (encSeg I 0 n).length _ (by omega) _ rfl).mono ?_
  rintro e w5 ⟨rfl, rfl⟩
  have hb : Below w1.heap.size w1 w5 := hb2.trans (hb3.mono hb2.size)
  clear hLst hV hb2 hb3
  have hkn : k ≤ n := by omega
  have HTk : Hid (tot I k ≤ 1048576) := by have := tot_mono I n k hkn; have := HT.out; simp only [Hid]; omega
  go_wp2_with fail
  refine (buildAll_any a k cap I _ ((he.take hkn).below hb) (fun i hi => H4.out i (by omega)) (by omega)).mono ?_
  rintro e w6 ⟨g2, Q2, rfl, hg2, hV2, hb6⟩
  go_wp2_with fail
  refine (newList_any g2 k Q2 I _ hV2).mono ?_
  rintro e w7 ⟨q2, l2, rfl, hq2, hLst2, hb7⟩
  go_wp2_with fail
  refine (sizeList_any q2 l2 g2 k Q2 I _ hLst2 (fun i hi => hok i (by omega)) HTk.out).mono ?_
  rintro e w8 ⟨rfl, rfl⟩
  have hL2 : (encSeg I 0 k).length ≤ 1048576 := by have := encSeg_length I k HTk.out 0 k (by omega); have := HTk.out; simp at *; omega
  go_wp2_with fail
  refine (inner_int (encSeg I 0 k).length _ (by omega) _ rfl).mono ?_
  rintro e w9 ⟨rfl, rfl⟩
  have hbB : Below w1.heap.size w1 w9 := (hb.trans (hb6.mono hb.size)).trans (hb7.mono (Nat.le_trans hb.size hb6.size))
  clear hLst2 hV2 hb6 hb7
  have HTd : Hid (tot (fun i => I (k + i)) (n - k) ≤ 1048576) := by
    have h1 := tot_shift I k (n - k)
    rw [show k + (n - k) = n by omega] at h1
    have := HT.out
    simp only [Hid]; omega
  have hL3 : (encSeg (fun i => I (k + i)) 0 (n - k)).length ≤ 1048576 := by have := encSeg_length (fun i => I (k + i)) (n - k) HTd.out 0 (n - k) (by omega); have := HTd.out; simp at *; omega
  have HSum : Hid ((encSeg I 0 n).length = (encSeg I 0 k).length + (encSeg (fun i => I (k + i)) 0 (n - k)).length) := by
    have h1 := encSeg_cut I 0 k (n - k)
    rw [show k + (n - k) = n by omega] at h1
    simp only [Hid]
    rw [h1, List.length_append, encSeg_shift I k 0 (n - k)]
    simp
  by_cases hkc : k = cap
  · have hI3 : ItemsAt w9 a (n - k) (fun i => I (k + i)) := ItemsAt.none (by omega)
    subst hkc
    clear hcap
    go_wp2_with fail
    refine (buildAll_any _ (n - k) _ (fun i => I (k + i)) _ hI3 (fun i hi => H4.out (k + i) (by omega)) (by omega)).mono ?_
    rintro e w10 ⟨g3, Q3, rfl, hg3, hV3, hb10⟩
    go_wp2_with fail
    refine (newList_any g3 (n - k) Q3 (fun i => I (k + i)) _ hV3).mono ?_
    rintro e w11 ⟨q3, l3, rfl, hq3, hLst3, hb11⟩
    go_wp2_with fail
    refine (sizeList_any q3 l3 g3 (n - k) Q3 (fun i => I (k + i)) _ hLst3 (fun i hi => hok (k + i) (by omega)) HTd.out).mono ?_
    rintro e w12 ⟨rfl, rfl⟩
    go_wp2_with fail
    refine (inner_int (encSeg (fun i => I (k + i)) 0 (n - k)).length _ (by omega) _ rfl).mono ?_
    rintro e w13 ⟨rfl, rfl⟩
    have hbC : Below w1.heap.size w1 w13 := (hbB.trans (hb10.mono hbB.size)).trans (hb11.mono (Nat.le_trans hbB.size hb10.size))
    clear hLst3 hV3 hb10 hb11
    have hsum : (((encSeg I 0 n).length : Nat) : Int) = (((encSeg I 0 k).length : Nat) : Int) + (((encSeg (fun i => I (k + i)) 0 (n - k)).length : Nat) : Int) := by have := HSum.out; omega
    go_wp2_with fail
    refine (encList_any a n _ I _ (he.below hbC) H4.out HT.out).mono ?_
    rintro e w14 ⟨v, rfl, hv⟩
    rcases hv.own.value with ⟨hv1, hv2⟩ | ⟨gg, cc, hv1, -, -⟩
    · subst hv1
      have hz : (encSeg I 0 n).length = 0 := by rw [hv2]; rfl
      clear hv2
      have hz1 : (((encSeg I 0 k).length : Nat) : Int) = 0 := by omega
      have hz2 : (((encSeg (fun i => I (k + i)) 0 (n - k)).length : Nat) : Int) = 0 := by omega
      clear hz
      go_wp2_with fail
      go_ret
      exact ⟨rfl, hbC.trans (hv.bel.mono hbC.size)⟩
    · subst hv1
      go_wp2_with fail
      go_ret
      exact ⟨rfl, hbC.trans (hv.bel.mono hbC.size)⟩
  · have hI3 : ItemsAt w9 (a.map fun x => x.add (k * 5)) (n - k) (fun i => I (k + i)) := (he.below hbB).drop hkn
    go_wp2_with fail
    refine (buildAll_any _ (n - k) _ (fun i => I (k + i)) _ hI3 (fun i hi => H4.out (k + i) (by omega)) (by omega)).mono ?_
    rintro e w10 ⟨g3, Q3, rfl, hg3, hV3, hb10⟩
    go_wp2_with fail
    refine (newList_any g3 (n - k) Q3 (fun i => I (k + i)) _ hV3).mono ?_
    rintro e w11 ⟨q3, l3, rfl, hq3, hLst3, hb11⟩
    go_wp2_with fail
    refine (sizeList_any q3 l3 g3 (n - k) Q3 (fun i => I (k + i)) _ hLst3 (fun i hi => hok (k + i) (by omega)) HTd.out).mono ?_
    rintro e w12 ⟨rfl, rfl⟩
    go_wp2_with fail
    refine (inner_int (encSeg (fun i => I (k + i)) 0 (n - k)).length _ (by omega) _ rfl).mono ?_
    rintro e w13 ⟨rfl, rfl⟩
    have hbC : Below w1.heap.size w1 w13 := (hbB.trans (hb10.mono hbB.size)).trans (hb11.mono (Nat.le_trans hbB.size hb10.size))
    clear hLst3 hV3 hb10 hb11
    have hsum : (((encSeg I 0 n).length : Nat) : Int) = (((encSeg I 0 k).length : Nat) : Int) + (((encSeg (fun i => I (k + i)) 0 (n - k)).length : Nat) : Int) := by have := HSum.out; omega
    go_wp2_with fail
    refine (encList_any a n _ I _ (he.below hbC) H4.out HT.out).mono ?_
    rintro e w14 ⟨v, rfl, hv⟩
    rcases hv.own.value with ⟨hv1, hv2⟩ | ⟨gg, cc, hv1, -, -⟩
    · subst hv1
      have hz : (encSeg I 0 n).length = 0 := by rw [hv2]; rfl
      clear hv2
      have hz1 : (((encSeg I 0 k).length : Nat) : Int) = 0 := by omega
      have hz2 : (((encSeg (fun i => I (k + i)) 0 (n - k)).length : Nat) : Int) = 0 := by omega
      clear hz
      go_wp2_with fail
      go_ret
      exact ⟨rfl, hbC.trans (hv.bel.mono hbC.size)⟩
    · subst hv1
      go_wp2_with fail
      go_ret
      exact ⟨rfl, hbC.trans (hv.bel.mono hbC.size)⟩
end Go.Proofs.Qxb6613122a
