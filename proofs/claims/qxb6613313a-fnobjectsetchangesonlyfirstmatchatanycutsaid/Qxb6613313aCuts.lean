/-
  THE WALK of FnObjectSetChangesOnlyFirstMatchAtAnyCut.
-/
import Derived.Test.Qxb6613313aWalkD
import Derived.Test.Qxb6613313aLast
namespace Go.Proofs.Qxb6613313a
open Go.RowKit
set_option linter.unusedSimpArgs false
set_option linter.unusedVariables false

theorem PairsAt.take {w : World} {a : Option Addr} {n c : Nat} {N : Nat → ByteArray} {V : Nat → Int} (h : PairsAt w a n N V) (hc : c ≤ n) : PairsAt w a c N V := by
  obtain ⟨hn, hx⟩ := h
  refine ⟨by omega, fun h0 => ?_⟩
  obtain ⟨b, off, ha, hb, hcell⟩ := hx (by omega)
  exact ⟨b, off, ha, hb, fun i hi => hcell i (by omega)⟩

theorem PairsAt.drop {w : World} {a : Option Addr} {n c : Nat} {N : Nat → ByteArray} {V : Nat → Int} (h : PairsAt w a n N V) (hc : c ≤ n) : PairsAt w (a.map fun x => x.add (c * 2)) (n - c) (fun i => N (c + i)) (fun i => V (c + i)) := by
  obtain ⟨hn, hx⟩ := h
  refine ⟨by omega, fun h0 => ?_⟩
  obtain ⟨b, off, ha, hb, hcell⟩ := hx (by omega)
  refine ⟨b, off + c * 2, ?_, hb, fun i hi => ?_⟩
  · subst ha
    simp only [Option.map_some, Option.some.injEq]
    unfold Addr.add
    split
    · rename_i h1; rw [h1]; rfl
    · rfl
  · have := hcell (c + i) (by omega)
    rwa [show off + (c + i) * 2 = off + c * 2 + i * 2 by omega] at this

theorem PairsAt.zero {w : World} {a : Option Addr} {n : Nat} {N : Nat → ByteArray} {V : Nat → Int} (h : n = 0) : PairsAt w a n N V := by
  subst h
  exact ⟨Nat.zero_le _, fun h0 => absurd h0 (by omega)⟩

/-- Three objects side by side in new memory: the whole, the left part, the right part. -/
structure Three (w0 w : World) (g1 g2 g3 n c : Nat) (N : Nat → ByteArray) (V1 V2 V3 : Nat → Int) : Prop where
  r1 : w.rowIs g1 63 (n * 2) (objF N V1)
  r2 : w.rowIs g2 63 (c * 2) (objF N V2)
  r3 : w.rowIs g3 63 ((n - c) * 2) (objF (fun i => N (c + i)) V3)
  n12 : g1 ≠ g2
  n13 : g1 ≠ g3
  n23 : g2 ≠ g3
  l2 : w0.heap.size ≤ g2
  l3 : w0.heap.size ≤ g3
  bel : Below w0.heap.size w0 w

theorem Three.below {w0 w w' : World} {g1 g2 g3 n c : Nat} {N : Nat → ByteArray} {V1 V2 V3 : Nat → Int} (h : Three w0 w g1 g2 g3 n c N V1 V2 V3) (hb : Below w.heap.size w w') : Three w0 w' g1 g2 g3 n c N V1 V2 V3 :=
  ⟨rowBelow h.r1 hb h.r1.lt, rowBelow h.r2 hb h.r2.lt, rowBelow h.r3 hb h.r3.lt, h.n12, h.n13, h.n23, h.l2, h.l3, h.bel.trans (hb.mono h.bel.size)⟩

theorem Three.set2 {w0 w w' : World} {g1 g2 g3 n c : Nat} {N : Nat → ByteArray} {V1 V2 V3 V4 : Nat → Int} (h : Three w0 w g1 g2 g3 n c N V1 V2 V3) (hr : w'.rowIs g2 63 (c * 2) (objF N V4)) (hg : w.grownBy w' (some g2)) : Three w0 w' g1 g2 g3 n c N V1 V4 V3 :=
  ⟨rowKept h.r1 hg h.n12, hr, rowKept h.r3 hg (Ne.symm h.n23), h.n12, h.n13, h.n23, h.l2, h.l3, Below.grownTo h.bel (Nat.le_refl _) hg h.l2⟩

theorem Three.set3 {w0 w w' : World} {g1 g2 g3 n c : Nat} {N : Nat → ByteArray} {V1 V2 V3 V4 : Nat → Int} (h : Three w0 w g1 g2 g3 n c N V1 V2 V3) (hr : w'.rowIs g3 63 ((n - c) * 2) (objF (fun i => N (c + i)) V4)) (hg : w.grownBy w' (some g3)) : Three w0 w' g1 g2 g3 n c N V1 V2 V4 :=
  ⟨rowKept h.r1 hg h.n13, rowKept h.r2 hg h.n23, hr, h.n12, h.n13, h.n23, h.l2, h.l3, Below.grownTo h.bel (Nat.le_refl _) hg h.l3⟩

theorem strsCongr {w : World} {g n : Nat} {f : Nat → Value} {N : Nat → ByteArray} (h : w.rowIs g 9 n f) (e : ∀ i, i < n → f i = .string (N i)) : w.rowIs g 9 n (fun i => .string (N i)) := h.congr e
theorem intsCongr' {w : World} {g n : Nat} {f : Nat → Value} {V : Nat → Int} (h : w.rowIs g 2 n f) (e : ∀ i, i < n → f i = .int .i64 (V i)) : w.rowIs g 2 n (fun i => .int .i64 (V i)) := h.congr e

theorem catStrs_len (ga gb n1 n2 ca cb m : Nat) (A B : Nat → ByteArray) (w : World) (hm : n1 + n2 = m) (hn : m ≤ 100000) (h1 : w.rowIs ga 9 n1 (fun i => .string (A i))) (h2 : w.rowIs gb 9 n2 (fun i => .string (B i))) :
    Calls Try.prog 16 #[.slice (some ⟨ga, 0, none⟩) n1 ca, .slice (some ⟨gb, 0, none⟩) n2 cb] w fun e w' => e = .returned (.slice (some ⟨w.heap.size, 0, none⟩) m m) ∧ w'.rowIs w.heap.size 9 m (catStrsF A B n1) ∧ Below w.heap.size w w' := by
  subst hm
  exact catStrs_any ga gb n1 n2 ca cb A B w hn h1 h2

theorem catInts_len (ga gb n1 n2 ca cb m : Nat) (A B : Nat → Int) (w : World) (hm : n1 + n2 = m) (hn : m ≤ 100000) (h1 : w.rowIs ga 2 n1 (fun i => .int .i64 (A i))) (h2 : w.rowIs gb 2 n2 (fun i => .int .i64 (B i))) :
    Calls Try.prog 18 #[.slice (some ⟨ga, 0, none⟩) n1 ca, .slice (some ⟨gb, 0, none⟩) n2 cb] w fun e w' => e = .returned (.slice (some ⟨w.heap.size, 0, none⟩) m m) ∧ w'.rowIs w.heap.size 2 m (catIntsF A B n1) ∧ Below w.heap.size w w' := by
  subst hm
  exact catInts_any ga gb n1 n2 ca cb A B w hn h1 h2

theorem cat_names (N : Nat → ByteArray) (c i : Nat) : catStrsF N (fun i => N (c + i)) c i = .string (N i) := by
  unfold catStrsF
  by_cases h : i < c
  · simp [h]
  · simp [h, show c + (i - c) = i by omega]

theorem cat_left (V : Nat → Int) (c k i : Nat) (v : Int) (hk : k < c) : catIntsF (upd V k v) (fun i => V (c + i)) c i = .int .i64 (upd V k v i) := by
  unfold catIntsF
  by_cases h : i < c
  · simp [h]
  · simp [h, upd, show c + (i - c) = i by omega, show ¬ i = k by omega]

theorem cat_right (V : Nat → Int) (c k i : Nat) (v : Int) (hk : c ≤ k) : catIntsF V (upd (fun i => V (c + i)) (k - c) v) c i = .int .i64 (upd V k v i) := by
  unfold catIntsF
  by_cases h : i < c
  · simp [h, upd, show ¬ i = k by omega]
  · by_cases h2 : i = k
    · subst h2; simp [h, upd]
    · simp [h, upd, h2, show c + (i - c) = i by omega, show ¬ i - c = k - c by omega]

theorem IsFirst.left {N : Nat → ByteArray} {s : ByteArray} {n c k : Nat} (h : IsFirst N s n k) (hk : k < c) (hc : c ≤ n) : IsFirst N s c k := ⟨by omega, h.ne, fun _ => h.eq (by omega)⟩
theorem IsFirst.leftNone {N : Nat → ByteArray} {s : ByteArray} {n c k : Nat} (h : IsFirst N s n k) (hk : c ≤ k) : IsFirst N s c c := ⟨Nat.le_refl _, fun i hi => h.ne i (by omega), fun h => absurd h (by omega)⟩
theorem IsFirst.right {N : Nat → ByteArray} {s : ByteArray} {n c k : Nat} (h : IsFirst N s n k) (hk : c ≤ k) (hc : c ≤ n) : IsFirst (fun i => N (c + i)) s (n - c) (k - c) :=
  ⟨by have := h.le; omega, fun i hi => h.ne (c + i) (by omega), fun hlt => by show N (c + (k - c)) = s; rw [show c + (k - c) = k by omega]; exact h.eq (by omega)⟩

set_option maxRecDepth 100000 in
set_option maxHeartbeats 4000000 in
theorem cuts_le (a : Option Addr) (n cap : Nat) (N : Nat → ByteArray) (V : Nat → Int) (s : ByteArray) (v : Int) (c k1 : Nat) (w : World) (he : PairsAt w a n N V) (h1 : s.size ≤ maxLen) (hcap : n ≤ cap) (hk1 : IsFirst N s n k1) (hcn : c ≤ n) (hkc : k1 < c) (hcc : c = cap) :
    Calls Try.prog 3 #[.slice a n cap, .string s, .int .i64 v, .int .i64 c] w fun e w' => e = .returned (.bool true) ∧ Below w.heap.size w w' := by
  have HE : Hid (PairsAt w a n N V) := he
  have HS : Hid (s.size ≤ maxLen) := h1
  have hnmax := he.1
  unfold maxLen at h1 hnmax
  have HK : Hid (IsFirst N s n k1) := hk1
  have HKC : Hid (k1 < c) := hkc
  clear hk1 he hkc
  have HCC : Hid (c = cap) := hcc
  clear hcc
  have hcn' : (c : Int) ≤ n := by omega
  go_enter Try.func3, Try.ntmps3
  go_wp2_with fail
  go_fit (bytes7_any a n _ N V s v _ _ HE.out HS.out)
  rintro e w ⟨⟨r, rfl⟩, rfl⟩
  cases r with
  | false =>
    go_wp2_with fail
    go_ret
    exact ⟨rfl, Below.refl _ _⟩
  | true =>
  go_wp2_with fail
  go_fit (pairBytes_any a n _ N V _ HE.out)
  rintro e w ⟨⟨t, r, rfl, ht0, ht1, hr⟩, rfl⟩
  cases r with
  | false =>
    clear hr
    go_wp2_with fail
    go_ret
    exact ⟨rfl, Below.refl _ _⟩
  | true =>
  have hn : n ≤ 100000 := by have := hr rfl; omega
  clear hr
  go_wp2_with fail
  go_fit (add1 t s.size _ ht0 ht1 (by omega) (by omega))
  rintro e w ⟨⟨t2, r, rfl, hu0, hu1, hr⟩, rfl⟩
  clear hr
  cases r with
  | false =>
    go_wp2_with fail
    go_ret
    exact ⟨rfl, Below.refl _ _⟩
  | true =>
  go_wp2_with fail
  go_fit (object_any a n _ N V _ HE.out hn)
  rintro e w1 ⟨g1, rfl, hl1, hr1, hb1⟩
  have H1 : Hid (w1.rowIs g1 63 (n * 2) (objF N V) ∧ Below w.heap.size w w1 ∧ w.heap.size ≤ g1) := ⟨hr1, hb1, hl1⟩
  clear hr1 hb1 hl1
  go_wp2_with fail
  go_fit (setInt_any g1 n N V s v k1 _ hn H1.out.1 HK.out)
  rintro e w2 ⟨⟨r0, rfl⟩, hr2, hg2⟩
  have H2 : Hid (w2.rowIs g1 63 (n * 2) (objF N (upd V k1 v)) ∧ Below w.heap.size w w2 ∧ w.heap.size ≤ g1) := ⟨hr2, Below.grownTo H1.out.2.1 (Nat.le_refl _) hg2 H1.out.2.2, H1.out.2.2⟩
  clear hr2 hg2 H1
  go_wp2_with fail
  go_fit (object_any a c _ N V _ ((HE.out.below H2.out.2.1).take hcn) (by omega))
  rintro e w3 ⟨g2, rfl, hl2, hr2, hb2⟩
  have H3 : Hid (w3.rowIs g1 63 (n * 2) (objF N (upd V k1 v)) ∧ w3.rowIs g2 63 (c * 2) (objF N V) ∧ g1 < g2 ∧ w.heap.size ≤ g1 ∧ Below w.heap.size w w3) := ⟨rowBelow H2.out.1 hb2 H2.out.1.lt, hr2, by have := H2.out.1.lt; omega, H2.out.2.2, H2.out.2.1.trans (hb2.mono H2.out.2.1.size)⟩
  clear hr2 hb2 hl2 H2
  have HP : Hid (PairsAt w3 a (n - c) (fun i => N (c + i)) (fun i => V (c + i))) := PairsAt.zero (by have := HCC.out; omega)
  have hcc := HCC.out
  clear HCC
  subst hcc
  clear hcap
  go_wp2_with fail
  go_fit (object_any _ (n - c) _ (fun i => N (c + i)) (fun i => V (c + i)) _ HP.out (by omega))
  rintro e w4 ⟨g3, rfl, hl3, hr3, hb3⟩
  have H4 : Hid (Three w w4 g1 g2 g3 n c N (upd V k1 v) V (fun i => V (c + i))) := ⟨rowBelow H3.out.1 hb3 H3.out.1.lt, rowBelow H3.out.2.1 hb3 H3.out.2.1.lt, hr3, by have := H3.out.2.2.1; omega, by have := H3.out.1.lt; omega, by have := H3.out.2.1.lt; omega, by have := H3.out.2.2; omega, by have := H3.out.2.2.2.2.size; omega, H3.out.2.2.2.2.trans (hb3.mono H3.out.2.2.2.2.size)⟩
  clear hr3 hb3 hl3 H3 HP
  go_wp2_with fail
  go_fit (first_any a c _ N V s k1 _ ((HE.out.below H4.out.bel).take hcn) (HK.out.left HKC.out hcn))
  rintro e w4 ⟨rfl, rfl⟩
  have hfl : fidx c k1 = (k1 : Int) := by simp [fidx, HKC.out]
  rw [hfl]
  clear hfl
  go_wp2_with fail
  go_fit (setInt_any g2 c N V s v k1 _ (by omega) H4.out.r2 (HK.out.left HKC.out hcn))
  rintro e w5 ⟨⟨r0, rfl⟩, hr2, hg2⟩
  have S5 : Hid (Three w w5 g1 g2 g3 n c N (upd V k1 v) (upd V k1 v) (fun i => V (c + i))) := H4.out.set2 hr2 hg2
  have HCAT : Hid (∀ i, catIntsF (upd V k1 v) (fun i => V (c + i)) c i = .int .i64 (upd V k1 v i)) := fun i => cat_left V c k1 i v HKC.out
  clear hr2 hg2 H4
  go_wp2_with fail
  go_fit (names_any g1 n N _ _ hn S5.out.r1)
  rintro e w6 ⟨rfl, hr, hb⟩
  have S6 : Hid (Three w w6 g1 g2 g3 n c N (upd V k1 v) (upd V k1 v) (fun i => V (c + i)) ∧ w6.rowIs w5.heap.size 9 n (fun i => .string (N i))) := ⟨S5.out.below hb, hr⟩
  clear hr hb S5
  go_wp2_with fail
  go_fit (ints_any g1 n N _ _ hn S6.out.1.r1)
  rintro e w7 ⟨rfl, hr, hb⟩
  have S7 : Hid (Three w w7 g1 g2 g3 n c N (upd V k1 v) (upd V k1 v) (fun i => V (c + i)) ∧ w7.rowIs w5.heap.size 9 n (fun i => .string (N i)) ∧ w7.rowIs w6.heap.size 2 n (fun i => .int .i64 (upd V k1 v i))) := ⟨S6.out.1.below hb, rowBelow S6.out.2 hb S6.out.2.lt, hr⟩
  clear hr hb S6
  go_wp2_with fail
  go_fit (names_any g2 c N _ _ (by omega) S7.out.1.r2)
  rintro e w8 ⟨rfl, hr, hb⟩
  have S8 : Hid (Three w w8 g1 g2 g3 n c N (upd V k1 v) (upd V k1 v) (fun i => V (c + i)) ∧ w8.rowIs w5.heap.size 9 n (fun i => .string (N i)) ∧ w8.rowIs w6.heap.size 2 n (fun i => .int .i64 (upd V k1 v i)) ∧ w8.rowIs w7.heap.size 9 c (fun i => .string (N i))) := ⟨S7.out.1.below hb, rowBelow S7.out.2.1 hb S7.out.2.1.lt, rowBelow S7.out.2.2 hb S7.out.2.2.lt, hr⟩
  clear hr hb S7
  go_wp2_with fail
  go_fit (names_any g3 (n - c) (fun i => N (c + i)) _ _ (by omega) S8.out.1.r3)
  rintro e w9 ⟨rfl, hr, hb⟩
  have S9 : Hid (Three w w9 g1 g2 g3 n c N (upd V k1 v) (upd V k1 v) (fun i => V (c + i)) ∧ w9.rowIs w5.heap.size 9 n (fun i => .string (N i)) ∧ w9.rowIs w6.heap.size 2 n (fun i => .int .i64 (upd V k1 v i)) ∧ w9.rowIs w7.heap.size 9 c (fun i => .string (N i)) ∧ w9.rowIs w8.heap.size 9 (n - c) (fun i => .string (N (c + i)))) := ⟨S8.out.1.below hb, rowBelow S8.out.2.1 hb S8.out.2.1.lt, rowBelow S8.out.2.2.1 hb S8.out.2.2.1.lt, rowBelow S8.out.2.2.2 hb S8.out.2.2.2.lt, hr⟩
  clear hr hb S8
  go_wp2_with fail
  go_fit (catStrs_len w7.heap.size w8.heap.size c (n - c) _ _ n N (fun i => N (c + i)) _ (by omega) hn S9.out.2.2.2.1 S9.out.2.2.2.2)
  rintro e w10 ⟨rfl, hr, hb⟩
  have S10 : Hid (Three w w10 g1 g2 g3 n c N (upd V k1 v) (upd V k1 v) (fun i => V (c + i)) ∧ w10.rowIs w5.heap.size 9 n (fun i => .string (N i)) ∧ w10.rowIs w6.heap.size 2 n (fun i => .int .i64 (upd V k1 v i)) ∧ w10.rowIs w9.heap.size 9 n (fun i => .string (N i))) := ⟨S9.out.1.below hb, rowBelow S9.out.2.1 hb S9.out.2.1.lt, rowBelow S9.out.2.2.1 hb S9.out.2.2.1.lt, strsCongr hr fun i _ => cat_names N c i⟩
  clear hr hb S9
  go_wp2_with fail
  go_fit (sameStrs_any w5.heap.size w9.heap.size n _ _ N _ (by omega) S10.out.2.1 S10.out.2.2.2)
  rintro e w11 ⟨rfl, d, hw⟩
  have hb : Below w10.heap.size w10 w11 := by rw [hw]; exact drewN_below _ _ _
  have S11 : Hid (Three w w11 g1 g2 g3 n c N (upd V k1 v) (upd V k1 v) (fun i => V (c + i)) ∧ w11.rowIs w5.heap.size 9 n (fun i => .string (N i)) ∧ w11.rowIs w6.heap.size 2 n (fun i => .int .i64 (upd V k1 v i))) := ⟨S10.out.1.below hb, rowBelow S10.out.2.1 hb S10.out.2.1.lt, rowBelow S10.out.2.2.1 hb S10.out.2.2.1.lt⟩
  clear hw hb S10
  go_wp2_with fail
  go_fit (ints_any g2 c N _ _ (by omega) S11.out.1.r2)
  rintro e w12 ⟨rfl, hr, hb⟩
  have S12 : Hid (Three w w12 g1 g2 g3 n c N (upd V k1 v) (upd V k1 v) (fun i => V (c + i)) ∧ w12.rowIs w5.heap.size 9 n (fun i => .string (N i)) ∧ w12.rowIs w6.heap.size 2 n (fun i => .int .i64 (upd V k1 v i)) ∧ w12.rowIs w11.heap.size 2 c (fun i => .int .i64 ((upd V k1 v) i))) := ⟨S11.out.1.below hb, rowBelow S11.out.2.1 hb S11.out.2.1.lt, rowBelow S11.out.2.2 hb S11.out.2.2.lt, hr⟩
  clear hr hb S11
  go_wp2_with fail
  go_fit (ints_any g3 (n - c) (fun i => N (c + i)) _ _ (by omega) S12.out.1.r3)
  rintro e w13 ⟨rfl, hr, hb⟩
  have S13 : Hid (Three w w13 g1 g2 g3 n c N (upd V k1 v) (upd V k1 v) (fun i => V (c + i)) ∧ w13.rowIs w5.heap.size 9 n (fun i => .string (N i)) ∧ w13.rowIs w6.heap.size 2 n (fun i => .int .i64 (upd V k1 v i)) ∧ w13.rowIs w11.heap.size 2 c (fun i => .int .i64 ((upd V k1 v) i)) ∧ w13.rowIs w12.heap.size 2 (n - c) (fun i => .int .i64 ((fun i => V (c + i)) i))) := ⟨S12.out.1.below hb, rowBelow S12.out.2.1 hb S12.out.2.1.lt, rowBelow S12.out.2.2.1 hb S12.out.2.2.1.lt, rowBelow S12.out.2.2.2 hb S12.out.2.2.2.lt, hr⟩
  clear hr hb S12
  go_wp2_with fail
  go_fit (catInts_len w11.heap.size w12.heap.size c (n - c) _ _ n (upd V k1 v) (fun i => V (c + i)) _ (by omega) hn S13.out.2.2.2.1 S13.out.2.2.2.2)
  rintro e w14 ⟨rfl, hr, hb⟩
  have S14 : Hid (Three w w14 g1 g2 g3 n c N (upd V k1 v) (upd V k1 v) (fun i => V (c + i)) ∧ w14.rowIs w5.heap.size 9 n (fun i => .string (N i)) ∧ w14.rowIs w6.heap.size 2 n (fun i => .int .i64 (upd V k1 v i)) ∧ w14.rowIs w13.heap.size 2 n (fun i => .int .i64 (upd V k1 v i))) := ⟨S13.out.1.below hb, rowBelow S13.out.2.1 hb S13.out.2.1.lt, rowBelow S13.out.2.2.1 hb S13.out.2.2.1.lt, intsCongr' hr fun i _ => HCAT.out i⟩
  clear hr hb S13
  go_wp2_with fail
  go_fit (sameInts_any w6.heap.size w13.heap.size n _ _ (upd V k1 v) _ (by omega) S14.out.2.2.1 S14.out.2.2.2)
  rintro e w15 ⟨rfl, d, hw⟩
  have hb : Below w14.heap.size w14 w15 := by rw [hw]; exact drewN_below _ _ _
  have S15 : Hid (w15.rowIs w5.heap.size 9 n (fun i => .string (N i)) ∧ w15.rowIs w6.heap.size 2 n (fun i => .int .i64 (upd V k1 v i)) ∧ Below w.heap.size w w15) := ⟨rowBelow S14.out.2.1 hb S14.out.2.1.lt, rowBelow S14.out.2.2.1 hb S14.out.2.2.1.lt, (S14.out.1.below hb).bel⟩
  clear hw hb S14
  go_wp2_with fail
  go_loopw [16] (fun i wr => ∃ k d : Nat, k ≤ n ∧ i = .int .i64 k ∧ wr = w15.drewN d) (fun i _ => n - (intOf i).toNat)
  case atStart => exact ⟨0, 0, Nat.zero_le _, rfl, rfl⟩
  case round =>
    obtain ⟨k, d, hk, rfl, rfl⟩ := hrel
    by_cases hlt : k < n
    · have c1 := S15.out.1.cell hlt
      obtain ⟨-, hc⟩ := HE.out.below S15.out.2.2
      obtain ⟨b, off, rfl, hb, hc⟩ := hc (by omega)
      have c2 := (hc k hlt).c0
      clear hc
      have hlt' : (k : Int) < n := by omega
      go_wp2_with fail
      go_quiet (fail)
      go_wp2_with fail
      go_roundw
      case rel => exact ⟨k + 1, d + nq, by omega, by go_num, rfl⟩
      case measure => simp [intOf]; omega
    · have hkn : k = n := by omega
      subst hkn
      have hb16 : Below w.heap.size w (w15.drewN d) := S15.out.2.2.trans (drewN_below _ _ _)
      have HB16 : Hid (Below w.heap.size w (w15.drewN d)) := hb16
      go_wp2_with fail
      go_fit (first_any a k _ N V s k1 _ (HE.out.below hb16) HK.out)
      rintro e w16 ⟨rfl, hw16⟩
      by_cases hk2 : k1 < k
      · have hf2 : fidx k k1 = (k1 : Int) := by simp [fidx, hk2]
        have c3 : w16.cell? ⟨w6.heap.size, k1, none⟩ = some (.int .i64 v) := by
          rw [hw16]
          have := S15.out.2.1.cell hk2
          rwa [upd_self] at this
        have hlt2 : (k1 : Int) < k := by omega
        have HB17 : Hid (Below w.heap.size w w16) := by rw [hw16]; exact hb16
        clear hw16 hb16
        rw [hf2]
        go_wp2_with fail
        go_ret
        exact ⟨rfl, HB17.out⟩
      · have hf2 : fidx k k1 = -1 := by simp [fidx]; omega
        have HB17 : Hid (Below w.heap.size w w16) := by rw [hw16]; exact hb16
        clear hw16 hb16
        rw [hf2]
        go_wp2_with fail
        go_ret
        exact ⟨rfl, HB17.out⟩

set_option maxRecDepth 100000 in
set_option maxHeartbeats 4000000 in
theorem cuts_lx (a : Option Addr) (n cap : Nat) (N : Nat → ByteArray) (V : Nat → Int) (s : ByteArray) (v : Int) (c k1 : Nat) (w : World) (he : PairsAt w a n N V) (h1 : s.size ≤ maxLen) (hcap : n ≤ cap) (hk1 : IsFirst N s n k1) (hcn : c ≤ n) (hkc : k1 < c) (hcc : ¬ c = cap) :
    Calls Try.prog 3 #[.slice a n cap, .string s, .int .i64 v, .int .i64 c] w fun e w' => e = .returned (.bool true) ∧ Below w.heap.size w w' := by
  have HE : Hid (PairsAt w a n N V) := he
  have HS : Hid (s.size ≤ maxLen) := h1
  have hnmax := he.1
  unfold maxLen at h1 hnmax
  have HK : Hid (IsFirst N s n k1) := hk1
  have HKC : Hid (k1 < c) := hkc
  clear hk1 he hkc
  have hcn' : (c : Int) ≤ n := by omega
  go_enter Try.func3, Try.ntmps3
  go_wp2_with fail
  go_fit (bytes7_any a n _ N V s v _ _ HE.out HS.out)
  rintro e w ⟨⟨r, rfl⟩, rfl⟩
  cases r with
  | false =>
    go_wp2_with fail
    go_ret
    exact ⟨rfl, Below.refl _ _⟩
  | true =>
  go_wp2_with fail
  go_fit (pairBytes_any a n _ N V _ HE.out)
  rintro e w ⟨⟨t, r, rfl, ht0, ht1, hr⟩, rfl⟩
  cases r with
  | false =>
    clear hr
    go_wp2_with fail
    go_ret
    exact ⟨rfl, Below.refl _ _⟩
  | true =>
  have hn : n ≤ 100000 := by have := hr rfl; omega
  clear hr
  go_wp2_with fail
  go_fit (add1 t s.size _ ht0 ht1 (by omega) (by omega))
  rintro e w ⟨⟨t2, r, rfl, hu0, hu1, hr⟩, rfl⟩
  clear hr
  cases r with
  | false =>
    go_wp2_with fail
    go_ret
    exact ⟨rfl, Below.refl _ _⟩
  | true =>
  go_wp2_with fail
  go_fit (object_any a n _ N V _ HE.out hn)
  rintro e w1 ⟨g1, rfl, hl1, hr1, hb1⟩
  have H1 : Hid (w1.rowIs g1 63 (n * 2) (objF N V) ∧ Below w.heap.size w w1 ∧ w.heap.size ≤ g1) := ⟨hr1, hb1, hl1⟩
  clear hr1 hb1 hl1
  go_wp2_with fail
  go_fit (setInt_any g1 n N V s v k1 _ hn H1.out.1 HK.out)
  rintro e w2 ⟨⟨r0, rfl⟩, hr2, hg2⟩
  have H2 : Hid (w2.rowIs g1 63 (n * 2) (objF N (upd V k1 v)) ∧ Below w.heap.size w w2 ∧ w.heap.size ≤ g1) := ⟨hr2, Below.grownTo H1.out.2.1 (Nat.le_refl _) hg2 H1.out.2.2, H1.out.2.2⟩
  clear hr2 hg2 H1
  go_wp2_with fail
  go_fit (object_any a c _ N V _ ((HE.out.below H2.out.2.1).take hcn) (by omega))
  rintro e w3 ⟨g2, rfl, hl2, hr2, hb2⟩
  have H3 : Hid (w3.rowIs g1 63 (n * 2) (objF N (upd V k1 v)) ∧ w3.rowIs g2 63 (c * 2) (objF N V) ∧ g1 < g2 ∧ w.heap.size ≤ g1 ∧ Below w.heap.size w w3) := ⟨rowBelow H2.out.1 hb2 H2.out.1.lt, hr2, by have := H2.out.1.lt; omega, H2.out.2.2, H2.out.2.1.trans (hb2.mono H2.out.2.1.size)⟩
  clear hr2 hb2 hl2 H2
  have HP : Hid (PairsAt w3 (a.map fun x => x.add (c * 2)) (n - c) (fun i => N (c + i)) (fun i => V (c + i))) := (HE.out.below H3.out.2.2.2.2).drop hcn
  go_wp2_with fail
  go_fit (object_any _ (n - c) _ (fun i => N (c + i)) (fun i => V (c + i)) _ HP.out (by omega))
  rintro e w4 ⟨g3, rfl, hl3, hr3, hb3⟩
  have H4 : Hid (Three w w4 g1 g2 g3 n c N (upd V k1 v) V (fun i => V (c + i))) := ⟨rowBelow H3.out.1 hb3 H3.out.1.lt, rowBelow H3.out.2.1 hb3 H3.out.2.1.lt, hr3, by have := H3.out.2.2.1; omega, by have := H3.out.1.lt; omega, by have := H3.out.2.1.lt; omega, by have := H3.out.2.2; omega, by have := H3.out.2.2.2.2.size; omega, H3.out.2.2.2.2.trans (hb3.mono H3.out.2.2.2.2.size)⟩
  clear hr3 hb3 hl3 H3 HP
  go_wp2_with fail
  go_fit (first_any a c _ N V s k1 _ ((HE.out.below H4.out.bel).take hcn) (HK.out.left HKC.out hcn))
  rintro e w4 ⟨rfl, rfl⟩
  have hfl : fidx c k1 = (k1 : Int) := by simp [fidx, HKC.out]
  rw [hfl]
  clear hfl
  go_wp2_with fail
  go_fit (setInt_any g2 c N V s v k1 _ (by omega) H4.out.r2 (HK.out.left HKC.out hcn))
  rintro e w5 ⟨⟨r0, rfl⟩, hr2, hg2⟩
  have S5 : Hid (Three w w5 g1 g2 g3 n c N (upd V k1 v) (upd V k1 v) (fun i => V (c + i))) := H4.out.set2 hr2 hg2
  have HCAT : Hid (∀ i, catIntsF (upd V k1 v) (fun i => V (c + i)) c i = .int .i64 (upd V k1 v i)) := fun i => cat_left V c k1 i v HKC.out
  clear hr2 hg2 H4
  go_wp2_with fail
  go_fit (names_any g1 n N _ _ hn S5.out.r1)
  rintro e w6 ⟨rfl, hr, hb⟩
  have S6 : Hid (Three w w6 g1 g2 g3 n c N (upd V k1 v) (upd V k1 v) (fun i => V (c + i)) ∧ w6.rowIs w5.heap.size 9 n (fun i => .string (N i))) := ⟨S5.out.below hb, hr⟩
  clear hr hb S5
  go_wp2_with fail
  go_fit (ints_any g1 n N _ _ hn S6.out.1.r1)
  rintro e w7 ⟨rfl, hr, hb⟩
  have S7 : Hid (Three w w7 g1 g2 g3 n c N (upd V k1 v) (upd V k1 v) (fun i => V (c + i)) ∧ w7.rowIs w5.heap.size 9 n (fun i => .string (N i)) ∧ w7.rowIs w6.heap.size 2 n (fun i => .int .i64 (upd V k1 v i))) := ⟨S6.out.1.below hb, rowBelow S6.out.2 hb S6.out.2.lt, hr⟩
  clear hr hb S6
  go_wp2_with fail
  go_fit (names_any g2 c N _ _ (by omega) S7.out.1.r2)
  rintro e w8 ⟨rfl, hr, hb⟩
  have S8 : Hid (Three w w8 g1 g2 g3 n c N (upd V k1 v) (upd V k1 v) (fun i => V (c + i)) ∧ w8.rowIs w5.heap.size 9 n (fun i => .string (N i)) ∧ w8.rowIs w6.heap.size 2 n (fun i => .int .i64 (upd V k1 v i)) ∧ w8.rowIs w7.heap.size 9 c (fun i => .string (N i))) := ⟨S7.out.1.below hb, rowBelow S7.out.2.1 hb S7.out.2.1.lt, rowBelow S7.out.2.2 hb S7.out.2.2.lt, hr⟩
  clear hr hb S7
  go_wp2_with fail
  go_fit (names_any g3 (n - c) (fun i => N (c + i)) _ _ (by omega) S8.out.1.r3)
  rintro e w9 ⟨rfl, hr, hb⟩
  have S9 : Hid (Three w w9 g1 g2 g3 n c N (upd V k1 v) (upd V k1 v) (fun i => V (c + i)) ∧ w9.rowIs w5.heap.size 9 n (fun i => .string (N i)) ∧ w9.rowIs w6.heap.size 2 n (fun i => .int .i64 (upd V k1 v i)) ∧ w9.rowIs w7.heap.size 9 c (fun i => .string (N i)) ∧ w9.rowIs w8.heap.size 9 (n - c) (fun i => .string (N (c + i)))) := ⟨S8.out.1.below hb, rowBelow S8.out.2.1 hb S8.out.2.1.lt, rowBelow S8.out.2.2.1 hb S8.out.2.2.1.lt, rowBelow S8.out.2.2.2 hb S8.out.2.2.2.lt, hr⟩
  clear hr hb S8
  go_wp2_with fail
  go_fit (catStrs_len w7.heap.size w8.heap.size c (n - c) _ _ n N (fun i => N (c + i)) _ (by omega) hn S9.out.2.2.2.1 S9.out.2.2.2.2)
  rintro e w10 ⟨rfl, hr, hb⟩
  have S10 : Hid (Three w w10 g1 g2 g3 n c N (upd V k1 v) (upd V k1 v) (fun i => V (c + i)) ∧ w10.rowIs w5.heap.size 9 n (fun i => .string (N i)) ∧ w10.rowIs w6.heap.size 2 n (fun i => .int .i64 (upd V k1 v i)) ∧ w10.rowIs w9.heap.size 9 n (fun i => .string (N i))) := ⟨S9.out.1.below hb, rowBelow S9.out.2.1 hb S9.out.2.1.lt, rowBelow S9.out.2.2.1 hb S9.out.2.2.1.lt, strsCongr hr fun i _ => cat_names N c i⟩
  clear hr hb S9
  go_wp2_with fail
  go_fit (sameStrs_any w5.heap.size w9.heap.size n _ _ N _ (by omega) S10.out.2.1 S10.out.2.2.2)
  rintro e w11 ⟨rfl, d, hw⟩
  have hb : Below w10.heap.size w10 w11 := by rw [hw]; exact drewN_below _ _ _
  have S11 : Hid (Three w w11 g1 g2 g3 n c N (upd V k1 v) (upd V k1 v) (fun i => V (c + i)) ∧ w11.rowIs w5.heap.size 9 n (fun i => .string (N i)) ∧ w11.rowIs w6.heap.size 2 n (fun i => .int .i64 (upd V k1 v i))) := ⟨S10.out.1.below hb, rowBelow S10.out.2.1 hb S10.out.2.1.lt, rowBelow S10.out.2.2.1 hb S10.out.2.2.1.lt⟩
  clear hw hb S10
  go_wp2_with fail
  go_fit (ints_any g2 c N _ _ (by omega) S11.out.1.r2)
  rintro e w12 ⟨rfl, hr, hb⟩
  have S12 : Hid (Three w w12 g1 g2 g3 n c N (upd V k1 v) (upd V k1 v) (fun i => V (c + i)) ∧ w12.rowIs w5.heap.size 9 n (fun i => .string (N i)) ∧ w12.rowIs w6.heap.size 2 n (fun i => .int .i64 (upd V k1 v i)) ∧ w12.rowIs w11.heap.size 2 c (fun i => .int .i64 ((upd V k1 v) i))) := ⟨S11.out.1.below hb, rowBelow S11.out.2.1 hb S11.out.2.1.lt, rowBelow S11.out.2.2 hb S11.out.2.2.lt, hr⟩
  clear hr hb S11
  go_wp2_with fail
  go_fit (ints_any g3 (n - c) (fun i => N (c + i)) _ _ (by omega) S12.out.1.r3)
  rintro e w13 ⟨rfl, hr, hb⟩
  have S13 : Hid (Three w w13 g1 g2 g3 n c N (upd V k1 v) (upd V k1 v) (fun i => V (c + i)) ∧ w13.rowIs w5.heap.size 9 n (fun i => .string (N i)) ∧ w13.rowIs w6.heap.size 2 n (fun i => .int .i64 (upd V k1 v i)) ∧ w13.rowIs w11.heap.size 2 c (fun i => .int .i64 ((upd V k1 v) i)) ∧ w13.rowIs w12.heap.size 2 (n - c) (fun i => .int .i64 ((fun i => V (c + i)) i))) := ⟨S12.out.1.below hb, rowBelow S12.out.2.1 hb S12.out.2.1.lt, rowBelow S12.out.2.2.1 hb S12.out.2.2.1.lt, rowBelow S12.out.2.2.2 hb S12.out.2.2.2.lt, hr⟩
  clear hr hb S12
  go_wp2_with fail
  go_fit (catInts_len w11.heap.size w12.heap.size c (n - c) _ _ n (upd V k1 v) (fun i => V (c + i)) _ (by omega) hn S13.out.2.2.2.1 S13.out.2.2.2.2)
  rintro e w14 ⟨rfl, hr, hb⟩
  have S14 : Hid (Three w w14 g1 g2 g3 n c N (upd V k1 v) (upd V k1 v) (fun i => V (c + i)) ∧ w14.rowIs w5.heap.size 9 n (fun i => .string (N i)) ∧ w14.rowIs w6.heap.size 2 n (fun i => .int .i64 (upd V k1 v i)) ∧ w14.rowIs w13.heap.size 2 n (fun i => .int .i64 (upd V k1 v i))) := ⟨S13.out.1.below hb, rowBelow S13.out.2.1 hb S13.out.2.1.lt, rowBelow S13.out.2.2.1 hb S13.out.2.2.1.lt, intsCongr' hr fun i _ => HCAT.out i⟩
  clear hr hb S13
  go_wp2_with fail
  go_fit (sameInts_any w6.heap.size w13.heap.size n _ _ (upd V k1 v) _ (by omega) S14.out.2.2.1 S14.out.2.2.2)
  rintro e w15 ⟨rfl, d, hw⟩
  have hb : Below w14.heap.size w14 w15 := by rw [hw]; exact drewN_below _ _ _
  have S15 : Hid (w15.rowIs w5.heap.size 9 n (fun i => .string (N i)) ∧ w15.rowIs w6.heap.size 2 n (fun i => .int .i64 (upd V k1 v i)) ∧ Below w.heap.size w w15) := ⟨rowBelow S14.out.2.1 hb S14.out.2.1.lt, rowBelow S14.out.2.2.1 hb S14.out.2.2.1.lt, (S14.out.1.below hb).bel⟩
  clear hw hb S14
  go_wp2_with fail
  go_loopw [16] (fun i wr => ∃ k d : Nat, k ≤ n ∧ i = .int .i64 k ∧ wr = w15.drewN d) (fun i _ => n - (intOf i).toNat)
  case atStart => exact ⟨0, 0, Nat.zero_le _, rfl, rfl⟩
  case round =>
    obtain ⟨k, d, hk, rfl, rfl⟩ := hrel
    by_cases hlt : k < n
    · have c1 := S15.out.1.cell hlt
      obtain ⟨-, hc⟩ := HE.out.below S15.out.2.2
      obtain ⟨b, off, rfl, hb, hc⟩ := hc (by omega)
      have c2 := (hc k hlt).c0
      clear hc
      have hlt' : (k : Int) < n := by omega
      go_wp2_with fail
      go_quiet (fail)
      go_wp2_with fail
      go_roundw
      case rel => exact ⟨k + 1, d + nq, by omega, by go_num, rfl⟩
      case measure => simp [intOf]; omega
    · have hkn : k = n := by omega
      subst hkn
      have hb16 : Below w.heap.size w (w15.drewN d) := S15.out.2.2.trans (drewN_below _ _ _)
      have HB16 : Hid (Below w.heap.size w (w15.drewN d)) := hb16
      go_wp2_with fail
      go_fit (first_any a k _ N V s k1 _ (HE.out.below hb16) HK.out)
      rintro e w16 ⟨rfl, hw16⟩
      by_cases hk2 : k1 < k
      · have hf2 : fidx k k1 = (k1 : Int) := by simp [fidx, hk2]
        have c3 : w16.cell? ⟨w6.heap.size, k1, none⟩ = some (.int .i64 v) := by
          rw [hw16]
          have := S15.out.2.1.cell hk2
          rwa [upd_self] at this
        have hlt2 : (k1 : Int) < k := by omega
        have HB17 : Hid (Below w.heap.size w w16) := by rw [hw16]; exact hb16
        clear hw16 hb16
        rw [hf2]
        go_wp2_with fail
        go_ret
        exact ⟨rfl, HB17.out⟩
      · have hf2 : fidx k k1 = -1 := by simp [fidx]; omega
        have HB17 : Hid (Below w.heap.size w w16) := by rw [hw16]; exact hb16
        clear hw16 hb16
        rw [hf2]
        go_wp2_with fail
        go_ret
        exact ⟨rfl, HB17.out⟩

set_option maxRecDepth 100000 in
set_option maxHeartbeats 4000000 in
theorem cuts_re (a : Option Addr) (n cap : Nat) (N : Nat → ByteArray) (V : Nat → Int) (s : ByteArray) (v : Int) (c k1 : Nat) (w : World) (he : PairsAt w a n N V) (h1 : s.size ≤ maxLen) (hcap : n ≤ cap) (hk1 : IsFirst N s n k1) (hcn : c ≤ n) (hkc : c ≤ k1) (hcc : c = cap) :
    Calls Try.prog 3 #[.slice a n cap, .string s, .int .i64 v, .int .i64 c] w fun e w' => e = .returned (.bool true) ∧ Below w.heap.size w w' := by
  have HE : Hid (PairsAt w a n N V) := he
  have HS : Hid (s.size ≤ maxLen) := h1
  have hnmax := he.1
  unfold maxLen at h1 hnmax
  have HK : Hid (IsFirst N s n k1) := hk1
  have HKC : Hid (c ≤ k1) := hkc
  clear hk1 he hkc
  have HCC : Hid (c = cap) := hcc
  clear hcc
  have hcn' : (c : Int) ≤ n := by omega
  go_enter Try.func3, Try.ntmps3
  go_wp2_with fail
  go_fit (bytes7_any a n _ N V s v _ _ HE.out HS.out)
  rintro e w ⟨⟨r, rfl⟩, rfl⟩
  cases r with
  | false =>
    go_wp2_with fail
    go_ret
    exact ⟨rfl, Below.refl _ _⟩
  | true =>
  go_wp2_with fail
  go_fit (pairBytes_any a n _ N V _ HE.out)
  rintro e w ⟨⟨t, r, rfl, ht0, ht1, hr⟩, rfl⟩
  cases r with
  | false =>
    clear hr
    go_wp2_with fail
    go_ret
    exact ⟨rfl, Below.refl _ _⟩
  | true =>
  have hn : n ≤ 100000 := by have := hr rfl; omega
  clear hr
  go_wp2_with fail
  go_fit (add1 t s.size _ ht0 ht1 (by omega) (by omega))
  rintro e w ⟨⟨t2, r, rfl, hu0, hu1, hr⟩, rfl⟩
  clear hr
  cases r with
  | false =>
    go_wp2_with fail
    go_ret
    exact ⟨rfl, Below.refl _ _⟩
  | true =>
  go_wp2_with fail
  go_fit (object_any a n _ N V _ HE.out hn)
  rintro e w1 ⟨g1, rfl, hl1, hr1, hb1⟩
  have H1 : Hid (w1.rowIs g1 63 (n * 2) (objF N V) ∧ Below w.heap.size w w1 ∧ w.heap.size ≤ g1) := ⟨hr1, hb1, hl1⟩
  clear hr1 hb1 hl1
  go_wp2_with fail
  go_fit (setInt_any g1 n N V s v k1 _ hn H1.out.1 HK.out)
  rintro e w2 ⟨⟨r0, rfl⟩, hr2, hg2⟩
  have H2 : Hid (w2.rowIs g1 63 (n * 2) (objF N (upd V k1 v)) ∧ Below w.heap.size w w2 ∧ w.heap.size ≤ g1) := ⟨hr2, Below.grownTo H1.out.2.1 (Nat.le_refl _) hg2 H1.out.2.2, H1.out.2.2⟩
  clear hr2 hg2 H1
  go_wp2_with fail
  go_fit (object_any a c _ N V _ ((HE.out.below H2.out.2.1).take hcn) (by omega))
  rintro e w3 ⟨g2, rfl, hl2, hr2, hb2⟩
  have H3 : Hid (w3.rowIs g1 63 (n * 2) (objF N (upd V k1 v)) ∧ w3.rowIs g2 63 (c * 2) (objF N V) ∧ g1 < g2 ∧ w.heap.size ≤ g1 ∧ Below w.heap.size w w3) := ⟨rowBelow H2.out.1 hb2 H2.out.1.lt, hr2, by have := H2.out.1.lt; omega, H2.out.2.2, H2.out.2.1.trans (hb2.mono H2.out.2.1.size)⟩
  clear hr2 hb2 hl2 H2
  have HP : Hid (PairsAt w3 a (n - c) (fun i => N (c + i)) (fun i => V (c + i))) := PairsAt.zero (by have := HCC.out; omega)
  have hcc := HCC.out
  clear HCC
  subst hcc
  clear hcap
  go_wp2_with fail
  go_fit (object_any _ (n - c) _ (fun i => N (c + i)) (fun i => V (c + i)) _ HP.out (by omega))
  rintro e w4 ⟨g3, rfl, hl3, hr3, hb3⟩
  have H4 : Hid (Three w w4 g1 g2 g3 n c N (upd V k1 v) V (fun i => V (c + i))) := ⟨rowBelow H3.out.1 hb3 H3.out.1.lt, rowBelow H3.out.2.1 hb3 H3.out.2.1.lt, hr3, by have := H3.out.2.2.1; omega, by have := H3.out.1.lt; omega, by have := H3.out.2.1.lt; omega, by have := H3.out.2.2; omega, by have := H3.out.2.2.2.2.size; omega, H3.out.2.2.2.2.trans (hb3.mono H3.out.2.2.2.2.size)⟩
  clear hr3 hb3 hl3 H3 HP
  go_wp2_with fail
  go_fit (first_any a c _ N V s c _ ((HE.out.below H4.out.bel).take hcn) (HK.out.leftNone HKC.out))
  rintro e w4 ⟨rfl, rfl⟩
  have hfl : fidx c c = -1 := by simp [fidx]
  rw [hfl]
  clear hfl
  go_wp2_with fail
  go_fit (setInt_any g3 (n - c) (fun i => N (c + i)) (fun i => V (c + i)) s v (k1 - c) _ (by omega) H4.out.r3 (HK.out.right HKC.out hcn))
  rintro e w5 ⟨⟨r0, rfl⟩, hr2, hg2⟩
  have S5 : Hid (Three w w5 g1 g2 g3 n c N (upd V k1 v) V (upd (fun i => V (c + i)) (k1 - c) v)) := H4.out.set3 hr2 hg2
  have HCAT : Hid (∀ i, catIntsF V (upd (fun i => V (c + i)) (k1 - c) v) c i = .int .i64 (upd V k1 v i)) := fun i => cat_right V c k1 i v HKC.out
  clear hr2 hg2 H4
  go_wp2_with fail
  go_fit (names_any g1 n N _ _ hn S5.out.r1)
  rintro e w6 ⟨rfl, hr, hb⟩
  have S6 : Hid (Three w w6 g1 g2 g3 n c N (upd V k1 v) V (upd (fun i => V (c + i)) (k1 - c) v) ∧ w6.rowIs w5.heap.size 9 n (fun i => .string (N i))) := ⟨S5.out.below hb, hr⟩
  clear hr hb S5
  go_wp2_with fail
  go_fit (ints_any g1 n N _ _ hn S6.out.1.r1)
  rintro e w7 ⟨rfl, hr, hb⟩
  have S7 : Hid (Three w w7 g1 g2 g3 n c N (upd V k1 v) V (upd (fun i => V (c + i)) (k1 - c) v) ∧ w7.rowIs w5.heap.size 9 n (fun i => .string (N i)) ∧ w7.rowIs w6.heap.size 2 n (fun i => .int .i64 (upd V k1 v i))) := ⟨S6.out.1.below hb, rowBelow S6.out.2 hb S6.out.2.lt, hr⟩
  clear hr hb S6
  go_wp2_with fail
  go_fit (names_any g2 c N _ _ (by omega) S7.out.1.r2)
  rintro e w8 ⟨rfl, hr, hb⟩
  have S8 : Hid (Three w w8 g1 g2 g3 n c N (upd V k1 v) V (upd (fun i => V (c + i)) (k1 - c) v) ∧ w8.rowIs w5.heap.size 9 n (fun i => .string (N i)) ∧ w8.rowIs w6.heap.size 2 n (fun i => .int .i64 (upd V k1 v i)) ∧ w8.rowIs w7.heap.size 9 c (fun i => .string (N i))) := ⟨S7.out.1.below hb, rowBelow S7.out.2.1 hb S7.out.2.1.lt, rowBelow S7.out.2.2 hb S7.out.2.2.lt, hr⟩
  clear hr hb S7
  go_wp2_with fail
  go_fit (names_any g3 (n - c) (fun i => N (c + i)) _ _ (by omega) S8.out.1.r3)
  rintro e w9 ⟨rfl, hr, hb⟩
  have S9 : Hid (Three w w9 g1 g2 g3 n c N (upd V k1 v) V (upd (fun i => V (c + i)) (k1 - c) v) ∧ w9.rowIs w5.heap.size 9 n (fun i => .string (N i)) ∧ w9.rowIs w6.heap.size 2 n (fun i => .int .i64 (upd V k1 v i)) ∧ w9.rowIs w7.heap.size 9 c (fun i => .string (N i)) ∧ w9.rowIs w8.heap.size 9 (n - c) (fun i => .string (N (c + i)))) := ⟨S8.out.1.below hb, rowBelow S8.out.2.1 hb S8.out.2.1.lt, rowBelow S8.out.2.2.1 hb S8.out.2.2.1.lt, rowBelow S8.out.2.2.2 hb S8.out.2.2.2.lt, hr⟩
  clear hr hb S8
  go_wp2_with fail
  go_fit (catStrs_len w7.heap.size w8.heap.size c (n - c) _ _ n N (fun i => N (c + i)) _ (by omega) hn S9.out.2.2.2.1 S9.out.2.2.2.2)
  rintro e w10 ⟨rfl, hr, hb⟩
  have S10 : Hid (Three w w10 g1 g2 g3 n c N (upd V k1 v) V (upd (fun i => V (c + i)) (k1 - c) v) ∧ w10.rowIs w5.heap.size 9 n (fun i => .string (N i)) ∧ w10.rowIs w6.heap.size 2 n (fun i => .int .i64 (upd V k1 v i)) ∧ w10.rowIs w9.heap.size 9 n (fun i => .string (N i))) := ⟨S9.out.1.below hb, rowBelow S9.out.2.1 hb S9.out.2.1.lt, rowBelow S9.out.2.2.1 hb S9.out.2.2.1.lt, strsCongr hr fun i _ => cat_names N c i⟩
  clear hr hb S9
  go_wp2_with fail
  go_fit (sameStrs_any w5.heap.size w9.heap.size n _ _ N _ (by omega) S10.out.2.1 S10.out.2.2.2)
  rintro e w11 ⟨rfl, d, hw⟩
  have hb : Below w10.heap.size w10 w11 := by rw [hw]; exact drewN_below _ _ _
  have S11 : Hid (Three w w11 g1 g2 g3 n c N (upd V k1 v) V (upd (fun i => V (c + i)) (k1 - c) v) ∧ w11.rowIs w5.heap.size 9 n (fun i => .string (N i)) ∧ w11.rowIs w6.heap.size 2 n (fun i => .int .i64 (upd V k1 v i))) := ⟨S10.out.1.below hb, rowBelow S10.out.2.1 hb S10.out.2.1.lt, rowBelow S10.out.2.2.1 hb S10.out.2.2.1.lt⟩
  clear hw hb S10
  go_wp2_with fail
  go_fit (ints_any g2 c N _ _ (by omega) S11.out.1.r2)
  rintro e w12 ⟨rfl, hr, hb⟩
  have S12 : Hid (Three w w12 g1 g2 g3 n c N (upd V k1 v) V (upd (fun i => V (c + i)) (k1 - c) v) ∧ w12.rowIs w5.heap.size 9 n (fun i => .string (N i)) ∧ w12.rowIs w6.heap.size 2 n (fun i => .int .i64 (upd V k1 v i)) ∧ w12.rowIs w11.heap.size 2 c (fun i => .int .i64 (V i))) := ⟨S11.out.1.below hb, rowBelow S11.out.2.1 hb S11.out.2.1.lt, rowBelow S11.out.2.2 hb S11.out.2.2.lt, hr⟩
  clear hr hb S11
  go_wp2_with fail
  go_fit (ints_any g3 (n - c) (fun i => N (c + i)) _ _ (by omega) S12.out.1.r3)
  rintro e w13 ⟨rfl, hr, hb⟩
  have S13 : Hid (Three w w13 g1 g2 g3 n c N (upd V k1 v) V (upd (fun i => V (c + i)) (k1 - c) v) ∧ w13.rowIs w5.heap.size 9 n (fun i => .string (N i)) ∧ w13.rowIs w6.heap.size 2 n (fun i => .int .i64 (upd V k1 v i)) ∧ w13.rowIs w11.heap.size 2 c (fun i => .int .i64 (V i)) ∧ w13.rowIs w12.heap.size 2 (n - c) (fun i => .int .i64 ((upd (fun i => V (c + i)) (k1 - c) v) i))) := ⟨S12.out.1.below hb, rowBelow S12.out.2.1 hb S12.out.2.1.lt, rowBelow S12.out.2.2.1 hb S12.out.2.2.1.lt, rowBelow S12.out.2.2.2 hb S12.out.2.2.2.lt, hr⟩
  clear hr hb S12
  go_wp2_with fail
  go_fit (catInts_len w11.heap.size w12.heap.size c (n - c) _ _ n V (upd (fun i => V (c + i)) (k1 - c) v) _ (by omega) hn S13.out.2.2.2.1 S13.out.2.2.2.2)
  rintro e w14 ⟨rfl, hr, hb⟩
  have S14 : Hid (Three w w14 g1 g2 g3 n c N (upd V k1 v) V (upd (fun i => V (c + i)) (k1 - c) v) ∧ w14.rowIs w5.heap.size 9 n (fun i => .string (N i)) ∧ w14.rowIs w6.heap.size 2 n (fun i => .int .i64 (upd V k1 v i)) ∧ w14.rowIs w13.heap.size 2 n (fun i => .int .i64 (upd V k1 v i))) := ⟨S13.out.1.below hb, rowBelow S13.out.2.1 hb S13.out.2.1.lt, rowBelow S13.out.2.2.1 hb S13.out.2.2.1.lt, intsCongr' hr fun i _ => HCAT.out i⟩
  clear hr hb S13
  go_wp2_with fail
  go_fit (sameInts_any w6.heap.size w13.heap.size n _ _ (upd V k1 v) _ (by omega) S14.out.2.2.1 S14.out.2.2.2)
  rintro e w15 ⟨rfl, d, hw⟩
  have hb : Below w14.heap.size w14 w15 := by rw [hw]; exact drewN_below _ _ _
  have S15 : Hid (w15.rowIs w5.heap.size 9 n (fun i => .string (N i)) ∧ w15.rowIs w6.heap.size 2 n (fun i => .int .i64 (upd V k1 v i)) ∧ Below w.heap.size w w15) := ⟨rowBelow S14.out.2.1 hb S14.out.2.1.lt, rowBelow S14.out.2.2.1 hb S14.out.2.2.1.lt, (S14.out.1.below hb).bel⟩
  clear hw hb S14
  go_wp2_with fail
  go_loopw [16] (fun i wr => ∃ k d : Nat, k ≤ n ∧ i = .int .i64 k ∧ wr = w15.drewN d) (fun i _ => n - (intOf i).toNat)
  case atStart => exact ⟨0, 0, Nat.zero_le _, rfl, rfl⟩
  case round =>
    obtain ⟨k, d, hk, rfl, rfl⟩ := hrel
    by_cases hlt : k < n
    · have c1 := S15.out.1.cell hlt
      obtain ⟨-, hc⟩ := HE.out.below S15.out.2.2
      obtain ⟨b, off, rfl, hb, hc⟩ := hc (by omega)
      have c2 := (hc k hlt).c0
      clear hc
      have hlt' : (k : Int) < n := by omega
      go_wp2_with fail
      go_quiet (fail)
      go_wp2_with fail
      go_roundw
      case rel => exact ⟨k + 1, d + nq, by omega, by go_num, rfl⟩
      case measure => simp [intOf]; omega
    · have hkn : k = n := by omega
      subst hkn
      have hb16 : Below w.heap.size w (w15.drewN d) := S15.out.2.2.trans (drewN_below _ _ _)
      have HB16 : Hid (Below w.heap.size w (w15.drewN d)) := hb16
      go_wp2_with fail
      go_fit (first_any a k _ N V s k1 _ (HE.out.below hb16) HK.out)
      rintro e w16 ⟨rfl, hw16⟩
      by_cases hk2 : k1 < k
      · have hf2 : fidx k k1 = (k1 : Int) := by simp [fidx, hk2]
        have c3 : w16.cell? ⟨w6.heap.size, k1, none⟩ = some (.int .i64 v) := by
          rw [hw16]
          have := S15.out.2.1.cell hk2
          rwa [upd_self] at this
        have hlt2 : (k1 : Int) < k := by omega
        have HB17 : Hid (Below w.heap.size w w16) := by rw [hw16]; exact hb16
        clear hw16 hb16
        rw [hf2]
        go_wp2_with fail
        go_ret
        exact ⟨rfl, HB17.out⟩
      · have hf2 : fidx k k1 = -1 := by simp [fidx]; omega
        have HB17 : Hid (Below w.heap.size w w16) := by rw [hw16]; exact hb16
        clear hw16 hb16
        rw [hf2]
        go_wp2_with fail
        go_ret
        exact ⟨rfl, HB17.out⟩

set_option maxRecDepth 100000 in
set_option maxHeartbeats 4000000 in
theorem cuts_rx (a : Option Addr) (n cap : Nat) (N : Nat → ByteArray) (V : Nat → Int) (s : ByteArray) (v : Int) (c k1 : Nat) (w : World) (he : PairsAt w a n N V) (h1 : s.size ≤ maxLen) (hcap : n ≤ cap) (hk1 : IsFirst N s n k1) (hcn : c ≤ n) (hkc : c ≤ k1) (hcc : ¬ c = cap) :
    Calls Try.prog 3 #[.slice a n cap, .string s, .int .i64 v, .int .i64 c] w fun e w' => e = .returned (.bool true) ∧ Below w.heap.size w w' := by
  have HE : Hid (PairsAt w a n N V) := he
  have HS : Hid (s.size ≤ maxLen) := h1
  have hnmax := he.1
  unfold maxLen at h1 hnmax
  have HK : Hid (IsFirst N s n k1) := hk1
  have HKC : Hid (c ≤ k1) := hkc
  clear hk1 he hkc
  have hcn' : (c : Int) ≤ n := by omega
  go_enter Try.func3, Try.ntmps3
  go_wp2_with fail
  go_fit (bytes7_any a n _ N V s v _ _ HE.out HS.out)
  rintro e w ⟨⟨r, rfl⟩, rfl⟩
  cases r with
  | false =>
    go_wp2_with fail
    go_ret
    exact ⟨rfl, Below.refl _ _⟩
  | true =>
  go_wp2_with fail
  go_fit (pairBytes_any a n _ N V _ HE.out)
  rintro e w ⟨⟨t, r, rfl, ht0, ht1, hr⟩, rfl⟩
  cases r with
  | false =>
    clear hr
    go_wp2_with fail
    go_ret
    exact ⟨rfl, Below.refl _ _⟩
  | true =>
  have hn : n ≤ 100000 := by have := hr rfl; omega
  clear hr
  go_wp2_with fail
  go_fit (add1 t s.size _ ht0 ht1 (by omega) (by omega))
  rintro e w ⟨⟨t2, r, rfl, hu0, hu1, hr⟩, rfl⟩
  clear hr
  cases r with
  | false =>
    go_wp2_with fail
    go_ret
    exact ⟨rfl, Below.refl _ _⟩
  | true =>
  go_wp2_with fail
  go_fit (object_any a n _ N V _ HE.out hn)
  rintro e w1 ⟨g1, rfl, hl1, hr1, hb1⟩
  have H1 : Hid (w1.rowIs g1 63 (n * 2) (objF N V) ∧ Below w.heap.size w w1 ∧ w.heap.size ≤ g1) := ⟨hr1, hb1, hl1⟩
  clear hr1 hb1 hl1
  go_wp2_with fail
  go_fit (setInt_any g1 n N V s v k1 _ hn H1.out.1 HK.out)
  rintro e w2 ⟨⟨r0, rfl⟩, hr2, hg2⟩
  have H2 : Hid (w2.rowIs g1 63 (n * 2) (objF N (upd V k1 v)) ∧ Below w.heap.size w w2 ∧ w.heap.size ≤ g1) := ⟨hr2, Below.grownTo H1.out.2.1 (Nat.le_refl _) hg2 H1.out.2.2, H1.out.2.2⟩
  clear hr2 hg2 H1
  go_wp2_with fail
  go_fit (object_any a c _ N V _ ((HE.out.below H2.out.2.1).take hcn) (by omega))
  rintro e w3 ⟨g2, rfl, hl2, hr2, hb2⟩
  have H3 : Hid (w3.rowIs g1 63 (n * 2) (objF N (upd V k1 v)) ∧ w3.rowIs g2 63 (c * 2) (objF N V) ∧ g1 < g2 ∧ w.heap.size ≤ g1 ∧ Below w.heap.size w w3) := ⟨rowBelow H2.out.1 hb2 H2.out.1.lt, hr2, by have := H2.out.1.lt; omega, H2.out.2.2, H2.out.2.1.trans (hb2.mono H2.out.2.1.size)⟩
  clear hr2 hb2 hl2 H2
  have HP : Hid (PairsAt w3 (a.map fun x => x.add (c * 2)) (n - c) (fun i => N (c + i)) (fun i => V (c + i))) := (HE.out.below H3.out.2.2.2.2).drop hcn
  go_wp2_with fail
  go_fit (object_any _ (n - c) _ (fun i => N (c + i)) (fun i => V (c + i)) _ HP.out (by omega))
  rintro e w4 ⟨g3, rfl, hl3, hr3, hb3⟩
  have H4 : Hid (Three w w4 g1 g2 g3 n c N (upd V k1 v) V (fun i => V (c + i))) := ⟨rowBelow H3.out.1 hb3 H3.out.1.lt, rowBelow H3.out.2.1 hb3 H3.out.2.1.lt, hr3, by have := H3.out.2.2.1; omega, by have := H3.out.1.lt; omega, by have := H3.out.2.1.lt; omega, by have := H3.out.2.2; omega, by have := H3.out.2.2.2.2.size; omega, H3.out.2.2.2.2.trans (hb3.mono H3.out.2.2.2.2.size)⟩
  clear hr3 hb3 hl3 H3 HP
  go_wp2_with fail
  go_fit (first_any a c _ N V s c _ ((HE.out.below H4.out.bel).take hcn) (HK.out.leftNone HKC.out))
  rintro e w4 ⟨rfl, rfl⟩
  have hfl : fidx c c = -1 := by simp [fidx]
  rw [hfl]
  clear hfl
  go_wp2_with fail
  go_fit (setInt_any g3 (n - c) (fun i => N (c + i)) (fun i => V (c + i)) s v (k1 - c) _ (by omega) H4.out.r3 (HK.out.right HKC.out hcn))
  rintro e w5 ⟨⟨r0, rfl⟩, hr2, hg2⟩
  have S5 : Hid (Three w w5 g1 g2 g3 n c N (upd V k1 v) V (upd (fun i => V (c + i)) (k1 - c) v)) := H4.out.set3 hr2 hg2
  have HCAT : Hid (∀ i, catIntsF V (upd (fun i => V (c + i)) (k1 - c) v) c i = .int .i64 (upd V k1 v i)) := fun i => cat_right V c k1 i v HKC.out
  clear hr2 hg2 H4
  go_wp2_with fail
  go_fit (names_any g1 n N _ _ hn S5.out.r1)
  rintro e w6 ⟨rfl, hr, hb⟩
  have S6 : Hid (Three w w6 g1 g2 g3 n c N (upd V k1 v) V (upd (fun i => V (c + i)) (k1 - c) v) ∧ w6.rowIs w5.heap.size 9 n (fun i => .string (N i))) := ⟨S5.out.below hb, hr⟩
  clear hr hb S5
  go_wp2_with fail
  go_fit (ints_any g1 n N _ _ hn S6.out.1.r1)
  rintro e w7 ⟨rfl, hr, hb⟩
  have S7 : Hid (Three w w7 g1 g2 g3 n c N (upd V k1 v) V (upd (fun i => V (c + i)) (k1 - c) v) ∧ w7.rowIs w5.heap.size 9 n (fun i => .string (N i)) ∧ w7.rowIs w6.heap.size 2 n (fun i => .int .i64 (upd V k1 v i))) := ⟨S6.out.1.below hb, rowBelow S6.out.2 hb S6.out.2.lt, hr⟩
  clear hr hb S6
  go_wp2_with fail
  go_fit (names_any g2 c N _ _ (by omega) S7.out.1.r2)
  rintro e w8 ⟨rfl, hr, hb⟩
  have S8 : Hid (Three w w8 g1 g2 g3 n c N (upd V k1 v) V (upd (fun i => V (c + i)) (k1 - c) v) ∧ w8.rowIs w5.heap.size 9 n (fun i => .string (N i)) ∧ w8.rowIs w6.heap.size 2 n (fun i => .int .i64 (upd V k1 v i)) ∧ w8.rowIs w7.heap.size 9 c (fun i => .string (N i))) := ⟨S7.out.1.below hb, rowBelow S7.out.2.1 hb S7.out.2.1.lt, rowBelow S7.out.2.2 hb S7.out.2.2.lt, hr⟩
  clear hr hb S7
  go_wp2_with fail
  go_fit (names_any g3 (n - c) (fun i => N (c + i)) _ _ (by omega) S8.out.1.r3)
  rintro e w9 ⟨rfl, hr, hb⟩
  have S9 : Hid (Three w w9 g1 g2 g3 n c N (upd V k1 v) V (upd (fun i => V (c + i)) (k1 - c) v) ∧ w9.rowIs w5.heap.size 9 n (fun i => .string (N i)) ∧ w9.rowIs w6.heap.size 2 n (fun i => .int .i64 (upd V k1 v i)) ∧ w9.rowIs w7.heap.size 9 c (fun i => .string (N i)) ∧ w9.rowIs w8.heap.size 9 (n - c) (fun i => .string (N (c + i)))) := ⟨S8.out.1.below hb, rowBelow S8.out.2.1 hb S8.out.2.1.lt, rowBelow S8.out.2.2.1 hb S8.out.2.2.1.lt, rowBelow S8.out.2.2.2 hb S8.out.2.2.2.lt, hr⟩
  clear hr hb S8
  go_wp2_with fail
  go_fit (catStrs_len w7.heap.size w8.heap.size c (n - c) _ _ n N (fun i => N (c + i)) _ (by omega) hn S9.out.2.2.2.1 S9.out.2.2.2.2)
  rintro e w10 ⟨rfl, hr, hb⟩
  have S10 : Hid (Three w w10 g1 g2 g3 n c N (upd V k1 v) V (upd (fun i => V (c + i)) (k1 - c) v) ∧ w10.rowIs w5.heap.size 9 n (fun i => .string (N i)) ∧ w10.rowIs w6.heap.size 2 n (fun i => .int .i64 (upd V k1 v i)) ∧ w10.rowIs w9.heap.size 9 n (fun i => .string (N i))) := ⟨S9.out.1.below hb, rowBelow S9.out.2.1 hb S9.out.2.1.lt, rowBelow S9.out.2.2.1 hb S9.out.2.2.1.lt, strsCongr hr fun i _ => cat_names N c i⟩
  clear hr hb S9
  go_wp2_with fail
  go_fit (sameStrs_any w5.heap.size w9.heap.size n _ _ N _ (by omega) S10.out.2.1 S10.out.2.2.2)
  rintro e w11 ⟨rfl, d, hw⟩
  have hb : Below w10.heap.size w10 w11 := by rw [hw]; exact drewN_below _ _ _
  have S11 : Hid (Three w w11 g1 g2 g3 n c N (upd V k1 v) V (upd (fun i => V (c + i)) (k1 - c) v) ∧ w11.rowIs w5.heap.size 9 n (fun i => .string (N i)) ∧ w11.rowIs w6.heap.size 2 n (fun i => .int .i64 (upd V k1 v i))) := ⟨S10.out.1.below hb, rowBelow S10.out.2.1 hb S10.out.2.1.lt, rowBelow S10.out.2.2.1 hb S10.out.2.2.1.lt⟩
  clear hw hb S10
  go_wp2_with fail
  go_fit (ints_any g2 c N _ _ (by omega) S11.out.1.r2)
  rintro e w12 ⟨rfl, hr, hb⟩
  have S12 : Hid (Three w w12 g1 g2 g3 n c N (upd V k1 v) V (upd (fun i => V (c + i)) (k1 - c) v) ∧ w12.rowIs w5.heap.size 9 n (fun i => .string (N i)) ∧ w12.rowIs w6.heap.size 2 n (fun i => .int .i64 (upd V k1 v i)) ∧ w12.rowIs w11.heap.size 2 c (fun i => .int .i64 (V i))) := ⟨S11.out.1.below hb, rowBelow S11.out.2.1 hb S11.out.2.1.lt, rowBelow S11.out.2.2 hb S11.out.2.2.lt, hr⟩
  clear hr hb S11
  go_wp2_with fail
  go_fit (ints_any g3 (n - c) (fun i => N (c + i)) _ _ (by omega) S12.out.1.r3)
  rintro e w13 ⟨rfl, hr, hb⟩
  have S13 : Hid (Three w w13 g1 g2 g3 n c N (upd V k1 v) V (upd (fun i => V (c + i)) (k1 - c) v) ∧ w13.rowIs w5.heap.size 9 n (fun i => .string (N i)) ∧ w13.rowIs w6.heap.size 2 n (fun i => .int .i64 (upd V k1 v i)) ∧ w13.rowIs w11.heap.size 2 c (fun i => .int .i64 (V i)) ∧ w13.rowIs w12.heap.size 2 (n - c) (fun i => .int .i64 ((upd (fun i => V (c + i)) (k1 - c) v) i))) := ⟨S12.out.1.below hb, rowBelow S12.out.2.1 hb S12.out.2.1.lt, rowBelow S12.out.2.2.1 hb S12.out.2.2.1.lt, rowBelow S12.out.2.2.2 hb S12.out.2.2.2.lt, hr⟩
  clear hr hb S12
  go_wp2_with fail
  go_fit (catInts_len w11.heap.size w12.heap.size c (n - c) _ _ n V (upd (fun i => V (c + i)) (k1 - c) v) _ (by omega) hn S13.out.2.2.2.1 S13.out.2.2.2.2)
  rintro e w14 ⟨rfl, hr, hb⟩
  have S14 : Hid (Three w w14 g1 g2 g3 n c N (upd V k1 v) V (upd (fun i => V (c + i)) (k1 - c) v) ∧ w14.rowIs w5.heap.size 9 n (fun i => .string (N i)) ∧ w14.rowIs w6.heap.size 2 n (fun i => .int .i64 (upd V k1 v i)) ∧ w14.rowIs w13.heap.size 2 n (fun i => .int .i64 (upd V k1 v i))) := ⟨S13.out.1.below hb, rowBelow S13.out.2.1 hb S13.out.2.1.lt, rowBelow S13.out.2.2.1 hb S13.out.2.2.1.lt, intsCongr' hr fun i _ => HCAT.out i⟩
  clear hr hb S13
  go_wp2_with fail
  go_fit (sameInts_any w6.heap.size w13.heap.size n _ _ (upd V k1 v) _ (by omega) S14.out.2.2.1 S14.out.2.2.2)
  rintro e w15 ⟨rfl, d, hw⟩
  have hb : Below w14.heap.size w14 w15 := by rw [hw]; exact drewN_below _ _ _
  have S15 : Hid (w15.rowIs w5.heap.size 9 n (fun i => .string (N i)) ∧ w15.rowIs w6.heap.size 2 n (fun i => .int .i64 (upd V k1 v i)) ∧ Below w.heap.size w w15) := ⟨rowBelow S14.out.2.1 hb S14.out.2.1.lt, rowBelow S14.out.2.2.1 hb S14.out.2.2.1.lt, (S14.out.1.below hb).bel⟩
  clear hw hb S14
  go_wp2_with fail
  go_loopw [16] (fun i wr => ∃ k d : Nat, k ≤ n ∧ i = .int .i64 k ∧ wr = w15.drewN d) (fun i _ => n - (intOf i).toNat)
  case atStart => exact ⟨0, 0, Nat.zero_le _, rfl, rfl⟩
  case round =>
    obtain ⟨k, d, hk, rfl, rfl⟩ := hrel
    by_cases hlt : k < n
    · have c1 := S15.out.1.cell hlt
      obtain ⟨-, hc⟩ := HE.out.below S15.out.2.2
      obtain ⟨b, off, rfl, hb, hc⟩ := hc (by omega)
      have c2 := (hc k hlt).c0
      clear hc
      have hlt' : (k : Int) < n := by omega
      go_wp2_with fail
      go_quiet (fail)
      go_wp2_with fail
      go_roundw
      case rel => exact ⟨k + 1, d + nq, by omega, by go_num, rfl⟩
      case measure => simp [intOf]; omega
    · have hkn : k = n := by omega
      subst hkn
      have hb16 : Below w.heap.size w (w15.drewN d) := S15.out.2.2.trans (drewN_below _ _ _)
      have HB16 : Hid (Below w.heap.size w (w15.drewN d)) := hb16
      go_wp2_with fail
      go_fit (first_any a k _ N V s k1 _ (HE.out.below hb16) HK.out)
      rintro e w16 ⟨rfl, hw16⟩
      by_cases hk2 : k1 < k
      · have hf2 : fidx k k1 = (k1 : Int) := by simp [fidx, hk2]
        have c3 : w16.cell? ⟨w6.heap.size, k1, none⟩ = some (.int .i64 v) := by
          rw [hw16]
          have := S15.out.2.1.cell hk2
          rwa [upd_self] at this
        have hlt2 : (k1 : Int) < k := by omega
        have HB17 : Hid (Below w.heap.size w w16) := by rw [hw16]; exact hb16
        clear hw16 hb16
        rw [hf2]
        go_wp2_with fail
        go_ret
        exact ⟨rfl, HB17.out⟩
      · have hf2 : fidx k k1 = -1 := by simp [fidx]; omega
        have HB17 : Hid (Below w.heap.size w w16) := by rw [hw16]; exact hb16
        clear hw16 hb16
        rw [hf2]
        go_wp2_with fail
        go_ret
        exact ⟨rfl, HB17.out⟩

set_option maxRecDepth 100000 in
set_option maxHeartbeats 1000000 in
/-- A cut out of range. -/
theorem cuts_out (a : Option Addr) (n cap : Nat) (N : Nat → ByteArray) (V : Nat → Int) (s : ByteArray) (v c : Int) (w : World) (he : PairsAt w a n N V) (h1 : s.size ≤ maxLen) (hc : c < 0 ∨ (n : Int) < c) :
    Calls Try.prog 3 #[.slice a n cap, .string s, .int .i64 v, .int .i64 c] w fun e w' => e = .returned (.bool true) ∧ Below w.heap.size w w' := by
  have HE : Hid (PairsAt w a n N V) := he
  have HS : Hid (s.size ≤ maxLen) := h1
  have HC : Hid (c < 0 ∨ (n : Int) < c) := hc
  have hnmax := he.1
  unfold maxLen at h1 hnmax
  clear he hc
  go_enter Try.func3, Try.ntmps3
  go_wp2_with fail
  go_fit (bytes7_any a n _ N V s v _ _ HE.out HS.out)
  rintro e w ⟨⟨r, rfl⟩, rfl⟩
  cases r with
  | false =>
    go_wp2_with fail
    go_ret
    exact ⟨rfl, Below.refl _ _⟩
  | true =>
  go_wp2_with fail
  go_fit (pairBytes_any a n _ N V _ HE.out)
  rintro e w ⟨⟨t, r, rfl, ht0, ht1, hr⟩, rfl⟩
  clear hr
  cases r with
  | false =>
    go_wp2_with fail
    go_ret
    exact ⟨rfl, Below.refl _ _⟩
  | true =>
  go_wp2_with fail
  go_fit (add1 t s.size _ ht0 ht1 (by omega) (by omega))
  rintro e w ⟨⟨t2, r, rfl, hu0, hu1, hr⟩, rfl⟩
  clear hr
  cases r with
  | false =>
    go_wp2_with fail
    go_ret
    exact ⟨rfl, Below.refl _ _⟩
  | true =>
  by_cases h0 : c < 0
  · go_wp2_with fail
    go_ret
    exact ⟨rfl, Below.refl _ _⟩
  · have h2 : (n : Int) < c := by have := HC.out; omega
    go_wp2_with fail
    go_ret
    exact ⟨rfl, Below.refl _ _⟩

theorem cuts_any (a : Option Addr) (n cap : Nat) (N : Nat → ByteArray) (V : Nat → Int) (s : ByteArray) (v c : Int) (w : World) (he : PairsAt w a n N V) (h1 : s.size ≤ maxLen) (hcap : n ≤ cap) :
    Calls Try.prog 3 #[.slice a n cap, .string s, .int .i64 v, .int .i64 c] w fun e w' => e = .returned (.bool true) ∧ Below w.heap.size w w' := by
  by_cases hc : c < 0 ∨ (n : Int) < c
  · exact cuts_out a n cap N V s v c w he h1 hc
  obtain ⟨k, rfl⟩ := Int.eq_ofNat_of_zero_le (show 0 ≤ c by omega)
  obtain ⟨k1, hk1⟩ := exists_first N s n
  have hkn : k ≤ n := by omega
  by_cases h2 : k1 < k
  · by_cases h3 : k = cap
    · exact cuts_le a n cap N V s v k k1 w he h1 hcap hk1 hkn h2 h3
    · exact cuts_lx a n cap N V s v k k1 w he h1 hcap hk1 hkn h2 h3
  · by_cases h3 : k = cap
    · exact cuts_re a n cap N V s v k k1 w he h1 hcap hk1 hkn (by omega) h3
    · exact cuts_rx a n cap N V s v k k1 w he h1 hcap hk1 hkn (by omega) h3
end Go.Proofs.Qxb6613313a
