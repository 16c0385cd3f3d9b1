/-
  THE WALK of FnObjectSetLastWriteWinsDistinctNamesCommute.
-/
import Derived.Test.Qxb6613313aWalkC
namespace Go.Proofs.Qxb6613313a
open Go.RowKit
set_option linter.unusedSimpArgs false
set_option linter.unusedVariables false

theorem Below.grownTo {B g : Nat} {w w1 w2 : World} (hb : Below B w w1) (hB : B ≤ w.heap.size) (hg : w1.grownBy w2 (some g)) (hgB : B ≤ g) : Below B w w2 :=
  hb.trans ⟨hg.os, hg.tape, hg.output, hg.size, fun k hk => hg.block k (by have := hb.size; omega) (by simp; omega)⟩

theorem rowKept {w w' : World} {g h n : Nat} {e : TypeId} {f : Nat → Value} (hr : w.rowIs g e n f) (hg : w.grownBy w' (some h)) (hne : g ≠ h) : w'.rowIs g e n f :=
  hr.of_block (hg.block g hr.lt (by simp; exact hne))

theorem drewN_below (w : World) (d B : Nat) : Below B w (w.drewN d) := ⟨rfl, rfl, rfl, Nat.le_refl _, fun _ _ => rfl⟩

theorem IsFirst.uniq {N : Nat → ByteArray} {s : ByteArray} {n j k : Nat} (h : IsFirst N s n j) (h' : IsFirst N s n k) : j = k := by
  rcases Nat.lt_trichotomy j k with h1 | h1 | h1
  · exact absurd (h.eq (by have := h'.le; omega)) (h'.ne j h1)
  · exact h1
  · exact absurd (h'.eq (by have := h.le; omega)) (h.ne k h1)

theorem IsFirst.apart {N : Nat → ByteArray} {s t : ByteArray} {n j k : Nat} (h : IsFirst N s n j) (h' : IsFirst N t n k) (hst : s ≠ t) (hj : j < n) : j ≠ k := by
  intro e
  subst e
  exact hst ((h.eq hj).symm.trans (h'.eq hj))

theorem upd_self (V : Nat → Int) (k : Nat) (v : Int) : upd V k v k = v := by simp [upd]
theorem upd_other (V : Nat → Int) {j k : Nat} (v : Int) (h : j ≠ k) : upd V k v j = V j := by simp [upd, h]

/-- Either order. -/
theorem upd_comm {N : Nat → ByteArray} {s t : ByteArray} {n j k : Nat} (h : IsFirst N s n j) (h' : IsFirst N t n k) (hst : s ≠ t) (V : Nat → Int) (v x : Int) {i : Nat} (hi : i < n) : upd (upd V k x) j v i = upd (upd V j v) k x i := by
  unfold upd
  by_cases h1 : i = j
  · subst h1
    have := h.apart h' hst hi
    simp [this]
  · by_cases h2 : i = k
    · simp [h2, h1]
      intro e
      subst h2
      exact absurd e h1
    · simp [h1, h2]

theorem upd_twice (V : Nat → Int) (k : Nat) (v x : Int) : upd (upd V k v) k x = upd V k x := by
  funext i
  unfold upd
  by_cases h : i = k <;> simp [h]

theorem intsCongr {w : World} {g n : Nat} {V V' : Nat → Int} (h : w.rowIs g 2 n (fun i => .int .i64 (V i))) (e : ∀ i, i < n → V i = V' i) : w.rowIs g 2 n (fun i => .int .i64 (V' i)) :=
  h.congr fun i hi => by simp [e i hi]

/-- Two objects, one beside the other, in new memory. -/
structure Two (w0 w : World) (g1 g2 n : Nat) (N : Nat → ByteArray) (V1 V2 : Nat → Int) : Prop where
  r1 : w.rowIs g1 63 (n * 2) (objF N V1)
  r2 : w.rowIs g2 63 (n * 2) (objF N V2)
  ne : g1 ≠ g2
  l1 : w0.heap.size ≤ g1
  l2 : w0.heap.size ≤ g2
  bel : Below w0.heap.size w0 w

theorem Two.set2 {w0 w w' : World} {g1 g2 n : Nat} {N : Nat → ByteArray} {V1 V2 V3 : Nat → Int} (h : Two w0 w g1 g2 n N V1 V2) (hr : w'.rowIs g2 63 (n * 2) (objF N V3)) (hg : w.grownBy w' (some g2)) : Two w0 w' g1 g2 n N V1 V3 :=
  ⟨rowKept h.r1 hg h.ne, hr, h.ne, h.l1, h.l2, Below.grownTo h.bel (Nat.le_refl _) hg h.l2⟩

/-- What stands when both are made and set: the answers agree. -/
structure Done (V1 V2 : Nat → Int) (n ka kb : Nat) (v x : Int) (ab : Prop) : Prop where
  eq : ∀ i, i < n → V1 i = V2 i
  b : kb < n → V1 kb = x
  a : ab → ka < n → V1 ka = v
set_option maxRecDepth 100000 in
set_option maxHeartbeats 4000000 in
theorem last_ne (a : Option Addr) (n cap : Nat) (N : Nat → ByteArray) (V : Nat → Int) (s1 : ByteArray) (v : Int) (s2 : ByteArray) (x : Int) (w : World) (he : PairsAt w a n N V) (h1 : s1.size ≤ maxLen) (h2 : s2.size ≤ maxLen) (hab : s1 ≠ s2) :
    Calls Try.prog 4 #[.slice a n cap, .string s1, .int .i64 v, .string s2, .int .i64 x] w fun e w' => e = .returned (.bool true) ∧ Below w.heap.size w w' := by
  have HE : Hid (PairsAt w a n N V) := he
  have HS : Hid (s1.size ≤ maxLen ∧ s2.size ≤ maxLen) := ⟨h1, h2⟩
  unfold maxLen at h1 h2
  obtain ⟨ka, hka⟩ := exists_first N s1 n
  obtain ⟨kb, hkb⟩ := exists_first N s2 n
  have HA : Hid (IsFirst N s1 n ka) := hka
  have HB : Hid (IsFirst N s2 n kb) := hkb
  have HAB : Hid (s1 ≠ s2) := hab
  have hstr : (s1.toList == s2.toList) = false := by exact str_ne hab
  clear hka hkb he hab
  go_enter Try.func4, Try.ntmps4
  go_wp2_with fail
  go_fit (bytes19_any a n _ N V s1 v s2 x _ HE.out HS.out.1 HS.out.2)
  rintro e w ⟨⟨r, rfl⟩, rfl⟩
  cases r with
  | false =>
    go_wp2_with fail
    go_ret
    exact ⟨rfl, Below.refl _ _⟩
  | true =>
  go_wp2_with fail
  go_fit (pairBytes_any a n _ N V _ HE.out)
  rintro e w ⟨⟨t, r, rfl, ht0, ht1, hr⟩, rfl⟩
  cases r with
  | false =>
    clear hr
    go_wp2_with fail
    go_ret
    exact ⟨rfl, Below.refl _ _⟩
  | true =>
  have hn : n ≤ 100000 := by have := hr rfl; omega
  clear hr
  go_wp2_with fail
  go_fit (add1 t s1.size _ ht0 ht1 (by omega) (by omega))
  rintro e w ⟨⟨t2, r, rfl, hu0, hu1, hr⟩, rfl⟩
  clear hr
  cases r with
  | false =>
    go_wp2_with fail
    go_ret
    exact ⟨rfl, Below.refl _ _⟩
  | true =>
  go_wp2_with fail
  go_fit (add1 t2 s2.size _ hu0 hu1 (by omega) (by omega))
  rintro e w ⟨⟨t3, r, rfl, hv0, hv1, hr⟩, rfl⟩
  clear hr
  cases r with
  | false =>
    go_wp2_with fail
    go_ret
    exact ⟨rfl, Below.refl _ _⟩
  | true =>
  go_wp2_with fail
  go_fit (object_any a n _ N V _ HE.out hn)
  rintro e w1 ⟨g1, rfl, hl1, hr1, hb1⟩
  have H1 : Hid (w1.rowIs g1 63 (n * 2) (objF N V) ∧ Below w.heap.size w w1 ∧ w.heap.size ≤ g1) := ⟨hr1, hb1, hl1⟩
  clear hr1 hb1 hl1
  go_wp2_with fail
  go_fit (setInt_any g1 n N V s1 v ka _ hn H1.out.1 HA.out)
  rintro e w2 ⟨⟨r0, rfl⟩, hr2, hg2⟩
  have H2 : Hid (w2.rowIs g1 63 (n * 2) (objF N (upd V ka v)) ∧ Below w.heap.size w w2 ∧ w.heap.size ≤ g1) := ⟨hr2, Below.grownTo H1.out.2.1 (Nat.le_refl _) hg2 H1.out.2.2, H1.out.2.2⟩
  clear hr2 hg2 H1
  go_wp2_with fail
  go_fit (setInt_any g1 n N _ s2 x kb _ hn H2.out.1 HB.out)
  rintro e w3 ⟨⟨r0, rfl⟩, hr2, hg2⟩
  have H3 : Hid (w3.rowIs g1 63 (n * 2) (objF N (upd (upd V ka v) kb x)) ∧ Below w.heap.size w w3 ∧ w.heap.size ≤ g1) := ⟨hr2, Below.grownTo H2.out.2.1 (Nat.le_refl _) hg2 H2.out.2.2, H2.out.2.2⟩
  clear hr2 hg2 H2
  go_wp2_with fail
  go_fit (object_any a n _ N V _ (HE.out.below H3.out.2.1) hn)
  rintro e w4 ⟨g2, rfl, hl2, hr2, hb2⟩
  have H4 : Hid (Two w w4 g1 g2 n N (upd (upd V ka v) kb x) V) := ⟨rowBelow H3.out.1 hb2 H3.out.1.lt, hr2, by have := H3.out.1.lt; omega, H3.out.2.2, by have := H3.out.2.1.size; omega, H3.out.2.1.trans (hb2.mono H3.out.2.1.size)⟩
  clear hr2 hb2 hl2 H3
  go_wp2_with fail
  go_fit (setInt_any g2 n N V s2 x kb _ hn H4.out.r2 HB.out)
  rintro e w4 ⟨⟨r0, rfl⟩, hr2, hg2⟩
  have H5 : Hid (Two w w4 g1 g2 n N (upd (upd V ka v) kb x) (upd V kb x)) := H4.out.set2 hr2 hg2
  clear hr2 hg2 H4
  go_wp2_with fail
  go_fit (setInt_any g2 n N _ s1 v ka _ hn H5.out.r2 HA.out)
  rintro e w5 ⟨⟨r0, rfl⟩, hr2, hg2⟩
  have H6 : Hid (Two w w5 g1 g2 n N (upd (upd V ka v) kb x) (upd (upd V kb x) ka v)) := H5.out.set2 hr2 hg2
  have HD : Hid (∀ i, i < n → upd (upd V kb x) ka v i = upd (upd V ka v) kb x i) := fun i hi => upd_comm HA.out HB.out HAB.out V v x hi
  clear hr2 hg2 H5
  go_wp2_with fail
  go_fit (names_any g1 n N _ _ hn H6.out.r1)
  rintro e w6 ⟨rfl, hr6, hb6⟩
  have R6 : Hid (w6.rowIs w5.heap.size 9 n (fun i => .string (N i)) ∧ Below w5.heap.size w5 w6 ∧ w5.heap.size < w6.heap.size) := ⟨hr6, hb6, hr6.lt⟩
  clear hr6 hb6
  go_wp2_with fail
  go_fit (ints_any g1 n N _ _ hn (rowBelow H6.out.r1 R6.out.2.1 H6.out.r1.lt))
  rintro e w7 ⟨rfl, hr7, hb7⟩
  have R7 : Hid (w7.rowIs w6.heap.size 2 n (fun i => .int .i64 (upd (upd V ka v) kb x i)) ∧ Below w6.heap.size w6 w7 ∧ w6.heap.size < w7.heap.size) := ⟨hr7, hb7, hr7.lt⟩
  clear hr7 hb7
  have G2 : Hid (w7.rowIs g2 63 (n * 2) (objF N (upd (upd V kb x) ka v))) := rowBelow (rowBelow H6.out.r2 R6.out.2.1 H6.out.r2.lt) R7.out.2.1 (by have := H6.out.r2.lt; have := R6.out.2.2; omega)
  go_wp2_with fail
  go_fit (names_any g2 n N _ _ hn G2.out)
  rintro e w8 ⟨rfl, hr8, hb8⟩
  have R8 : Hid (w8.rowIs w7.heap.size 9 n (fun i => .string (N i)) ∧ Below w7.heap.size w7 w8 ∧ w7.heap.size < w8.heap.size) := ⟨hr8, hb8, hr8.lt⟩
  clear hr8 hb8
  go_wp2_with fail
  go_fit (sameStrs_any w5.heap.size w7.heap.size n _ _ N _ (by omega) (rowBelow (rowBelow R6.out.1 R7.out.2.1 R6.out.2.2) R8.out.2.1 (by have := R6.out.2.2; have := R7.out.2.2; omega)) R8.out.1)
  rintro e w9 ⟨rfl, d, hw9⟩
  have hb9 : Below w8.heap.size w8 w9 := by rw [hw9]; exact drewN_below _ _ _
  have hs9 : w8.heap.size = w9.heap.size := by rw [hw9]; rfl
  have R9 : Hid (w9.rowIs g2 63 (n * 2) (objF N (upd (upd V kb x) ka v)) ∧ w9.rowIs w6.heap.size 2 n (fun i => .int .i64 (upd (upd V ka v) kb x i)) ∧ Below w.heap.size w w9 ∧ w6.heap.size < w9.heap.size) := by
    have e6 := R6.out.2.2
    have e7 := R7.out.2.2
    have e8 := R8.out.2.2
    have b6 := H6.out.bel.trans (R6.out.2.1.mono H6.out.bel.size)
    have b7 := b6.trans (R7.out.2.1.mono b6.size)
    have b8 := b7.trans (R8.out.2.1.mono b7.size)
    exact ⟨rowBelow (rowBelow G2.out R8.out.2.1 G2.out.lt) hb9 (by have := G2.out.lt; omega), rowBelow (rowBelow R7.out.1 R8.out.2.1 e7) hb9 (by omega), b8.trans (hb9.mono b8.size), by omega⟩
  clear hw9 hb9 hs9 R8 R7 R6 G2 H6
  go_wp2_with fail
  go_fit (ints_any g2 n N _ _ hn R9.out.1)
  rintro e w10 ⟨rfl, hr10, hb10⟩
  have R10 : Hid (w10.rowIs w6.heap.size 2 n (fun i => .int .i64 (upd (upd V ka v) kb x i)) ∧ w10.rowIs w9.heap.size 2 n (fun i => .int .i64 (upd (upd V ka v) kb x i)) ∧ Below w.heap.size w w10) := ⟨rowBelow R9.out.2.1 hb10 R9.out.2.2.2, intsCongr hr10 HD.out, R9.out.2.2.1.trans (hb10.mono R9.out.2.2.1.size)⟩
  clear hr10 hb10 R9
  go_wp2_with fail
  go_fit (sameInts_any w6.heap.size w9.heap.size n _ _ (upd (upd V ka v) kb x) _ (by omega) R10.out.1 R10.out.2.1)
  rintro e w11 ⟨rfl, d, hw11⟩
  have R11 : Hid (w11.rowIs w6.heap.size 2 n (fun i => .int .i64 (upd (upd V ka v) kb x i)) ∧ Below w.heap.size w w11) := by
    rw [hw11]
    exact ⟨R10.out.1, R10.out.2.2.trans (drewN_below _ _ _)⟩
  clear hw11 R10
  go_wp2_with fail
  go_fit (first_any a n _ N V s2 kb _ (HE.out.below R11.out.2) HB.out)
  rintro e w11 ⟨rfl, rfl⟩
  by_cases hk1 : kb < n
  · have hf1 : fidx n kb = (kb : Int) := by simp [fidx, hk1]
    have c1 : w11.cell? ⟨w6.heap.size, kb, none⟩ = some (.int .i64 x) := by
      have := R11.out.1.cell hk1
      rwa [upd_self] at this
    have hlt1 : (kb : Int) < n := by omega
    rw [hf1]
    go_wp2_with fail
    go_fit (first_any a n _ N V s1 ka _ (HE.out.below R11.out.2) HA.out)
    rintro e w11 ⟨rfl, rfl⟩
    by_cases hk2 : ka < n
    · have hf2 : fidx n ka = (ka : Int) := by simp [fidx, hk2]
      have c2 : w11.cell? ⟨w6.heap.size, ka, none⟩ = some (.int .i64 v) := by
        have := R11.out.1.cell hk2
        rwa [upd_other _ _ (HA.out.apart HB.out HAB.out hk2), upd_self] at this
      have hlt2 : (ka : Int) < n := by omega
      rw [hf2]
      go_wp2_with fail
      go_ret
      exact ⟨rfl, R11.out.2⟩
    · have hf2 : fidx n ka = -1 := by simp [fidx]; omega
      rw [hf2]
      go_wp2_with fail
      go_ret
      exact ⟨rfl, R11.out.2⟩
  · have hf1 : fidx n kb = -1 := by simp [fidx]; omega
    rw [hf1]
    go_wp2_with fail
    go_fit (first_any a n _ N V s1 ka _ (HE.out.below R11.out.2) HA.out)
    rintro e w11 ⟨rfl, rfl⟩
    by_cases hk2 : ka < n
    · have hf2 : fidx n ka = (ka : Int) := by simp [fidx, hk2]
      have c2 : w11.cell? ⟨w6.heap.size, ka, none⟩ = some (.int .i64 v) := by
        have := R11.out.1.cell hk2
        rwa [upd_other _ _ (HA.out.apart HB.out HAB.out hk2), upd_self] at this
      have hlt2 : (ka : Int) < n := by omega
      rw [hf2]
      go_wp2_with fail
      go_ret
      exact ⟨rfl, R11.out.2⟩
    · have hf2 : fidx n ka = -1 := by simp [fidx]; omega
      rw [hf2]
      go_wp2_with fail
      go_ret
      exact ⟨rfl, R11.out.2⟩

set_option maxRecDepth 100000 in
set_option maxHeartbeats 4000000 in
theorem last_eq (a : Option Addr) (n cap : Nat) (N : Nat → ByteArray) (V : Nat → Int) (s1 : ByteArray) (v : Int) (s2 : ByteArray) (x : Int) (w : World) (he : PairsAt w a n N V) (h1 : s1.size ≤ maxLen) (h2 : s2.size ≤ maxLen) (hab : s1 = s2) :
    Calls Try.prog 4 #[.slice a n cap, .string s1, .int .i64 v, .string s2, .int .i64 x] w fun e w' => e = .returned (.bool true) ∧ Below w.heap.size w w' := by
  have HE : Hid (PairsAt w a n N V) := he
  have HS : Hid (s1.size ≤ maxLen ∧ s2.size ≤ maxLen) := ⟨h1, h2⟩
  unfold maxLen at h1 h2
  obtain ⟨ka, hka⟩ := exists_first N s1 n
  obtain ⟨kb, hkb⟩ := exists_first N s2 n
  have HA : Hid (IsFirst N s1 n ka) := hka
  have HB : Hid (IsFirst N s2 n kb) := hkb
  have HAB : Hid (s1 = s2) := hab
  have hstr : (s1.toList == s2.toList) = true := by rw [hab]; exact str_eq s2
  clear hka hkb he hab
  go_enter Try.func4, Try.ntmps4
  go_wp2_with fail
  go_fit (bytes19_any a n _ N V s1 v s2 x _ HE.out HS.out.1 HS.out.2)
  rintro e w ⟨⟨r, rfl⟩, rfl⟩
  cases r with
  | false =>
    go_wp2_with fail
    go_ret
    exact ⟨rfl, Below.refl _ _⟩
  | true =>
  go_wp2_with fail
  go_fit (pairBytes_any a n _ N V _ HE.out)
  rintro e w ⟨⟨t, r, rfl, ht0, ht1, hr⟩, rfl⟩
  cases r with
  | false =>
    clear hr
    go_wp2_with fail
    go_ret
    exact ⟨rfl, Below.refl _ _⟩
  | true =>
  have hn : n ≤ 100000 := by have := hr rfl; omega
  clear hr
  go_wp2_with fail
  go_fit (add1 t s1.size _ ht0 ht1 (by omega) (by omega))
  rintro e w ⟨⟨t2, r, rfl, hu0, hu1, hr⟩, rfl⟩
  clear hr
  cases r with
  | false =>
    go_wp2_with fail
    go_ret
    exact ⟨rfl, Below.refl _ _⟩
  | true =>
  go_wp2_with fail
  go_fit (add1 t2 s2.size _ hu0 hu1 (by omega) (by omega))
  rintro e w ⟨⟨t3, r, rfl, hv0, hv1, hr⟩, rfl⟩
  clear hr
  cases r with
  | false =>
    go_wp2_with fail
    go_ret
    exact ⟨rfl, Below.refl _ _⟩
  | true =>
  go_wp2_with fail
  go_fit (object_any a n _ N V _ HE.out hn)
  rintro e w1 ⟨g1, rfl, hl1, hr1, hb1⟩
  have H1 : Hid (w1.rowIs g1 63 (n * 2) (objF N V) ∧ Below w.heap.size w w1 ∧ w.heap.size ≤ g1) := ⟨hr1, hb1, hl1⟩
  clear hr1 hb1 hl1
  go_wp2_with fail
  go_fit (setInt_any g1 n N V s1 v ka _ hn H1.out.1 HA.out)
  rintro e w2 ⟨⟨r0, rfl⟩, hr2, hg2⟩
  have H2 : Hid (w2.rowIs g1 63 (n * 2) (objF N (upd V ka v)) ∧ Below w.heap.size w w2 ∧ w.heap.size ≤ g1) := ⟨hr2, Below.grownTo H1.out.2.1 (Nat.le_refl _) hg2 H1.out.2.2, H1.out.2.2⟩
  clear hr2 hg2 H1
  go_wp2_with fail
  go_fit (setInt_any g1 n N _ s2 x kb _ hn H2.out.1 HB.out)
  rintro e w3 ⟨⟨r0, rfl⟩, hr2, hg2⟩
  have H3 : Hid (w3.rowIs g1 63 (n * 2) (objF N (upd (upd V ka v) kb x)) ∧ Below w.heap.size w w3 ∧ w.heap.size ≤ g1) := ⟨hr2, Below.grownTo H2.out.2.1 (Nat.le_refl _) hg2 H2.out.2.2, H2.out.2.2⟩
  clear hr2 hg2 H2
  go_wp2_with fail
  go_fit (object_any a n _ N V _ (HE.out.below H3.out.2.1) hn)
  rintro e w4 ⟨g2, rfl, hl2, hr2, hb2⟩
  have H4 : Hid (Two w w4 g1 g2 n N (upd (upd V ka v) kb x) V) := ⟨rowBelow H3.out.1 hb2 H3.out.1.lt, hr2, by have := H3.out.1.lt; omega, H3.out.2.2, by have := H3.out.2.1.size; omega, H3.out.2.1.trans (hb2.mono H3.out.2.1.size)⟩
  clear hr2 hb2 hl2 H3
  go_wp2_with fail
  go_fit (setInt_any g2 n N V s2 x kb _ hn H4.out.r2 HB.out)
  rintro e w5 ⟨⟨r0, rfl⟩, hr2, hg2⟩
  have H6 : Hid (Two w w5 g1 g2 n N (upd (upd V ka v) kb x) (upd V kb x)) := H4.out.set2 hr2 hg2
  have HD : Hid (∀ i, i < n → upd V kb x i = upd (upd V ka v) kb x i) := fun i hi => by
    have e1 : ka = kb := IsFirst.uniq (HAB.out ▸ HA.out) HB.out
    rw [e1, upd_twice]
  clear hr2 hg2 H4
  go_wp2_with fail
  go_fit (names_any g1 n N _ _ hn H6.out.r1)
  rintro e w6 ⟨rfl, hr6, hb6⟩
  have R6 : Hid (w6.rowIs w5.heap.size 9 n (fun i => .string (N i)) ∧ Below w5.heap.size w5 w6 ∧ w5.heap.size < w6.heap.size) := ⟨hr6, hb6, hr6.lt⟩
  clear hr6 hb6
  go_wp2_with fail
  go_fit (ints_any g1 n N _ _ hn (rowBelow H6.out.r1 R6.out.2.1 H6.out.r1.lt))
  rintro e w7 ⟨rfl, hr7, hb7⟩
  have R7 : Hid (w7.rowIs w6.heap.size 2 n (fun i => .int .i64 (upd (upd V ka v) kb x i)) ∧ Below w6.heap.size w6 w7 ∧ w6.heap.size < w7.heap.size) := ⟨hr7, hb7, hr7.lt⟩
  clear hr7 hb7
  have G2 : Hid (w7.rowIs g2 63 (n * 2) (objF N (upd V kb x))) := rowBelow (rowBelow H6.out.r2 R6.out.2.1 H6.out.r2.lt) R7.out.2.1 (by have := H6.out.r2.lt; have := R6.out.2.2; omega)
  go_wp2_with fail
  go_fit (names_any g2 n N _ _ hn G2.out)
  rintro e w8 ⟨rfl, hr8, hb8⟩
  have R8 : Hid (w8.rowIs w7.heap.size 9 n (fun i => .string (N i)) ∧ Below w7.heap.size w7 w8 ∧ w7.heap.size < w8.heap.size) := ⟨hr8, hb8, hr8.lt⟩
  clear hr8 hb8
  go_wp2_with fail
  go_fit (sameStrs_any w5.heap.size w7.heap.size n _ _ N _ (by omega) (rowBelow (rowBelow R6.out.1 R7.out.2.1 R6.out.2.2) R8.out.2.1 (by have := R6.out.2.2; have := R7.out.2.2; omega)) R8.out.1)
  rintro e w9 ⟨rfl, d, hw9⟩
  have hb9 : Below w8.heap.size w8 w9 := by rw [hw9]; exact drewN_below _ _ _
  have hs9 : w8.heap.size = w9.heap.size := by rw [hw9]; rfl
  have R9 : Hid (w9.rowIs g2 63 (n * 2) (objF N (upd V kb x)) ∧ w9.rowIs w6.heap.size 2 n (fun i => .int .i64 (upd (upd V ka v) kb x i)) ∧ Below w.heap.size w w9 ∧ w6.heap.size < w9.heap.size) := by
    have e6 := R6.out.2.2
    have e7 := R7.out.2.2
    have e8 := R8.out.2.2
    have b6 := H6.out.bel.trans (R6.out.2.1.mono H6.out.bel.size)
    have b7 := b6.trans (R7.out.2.1.mono b6.size)
    have b8 := b7.trans (R8.out.2.1.mono b7.size)
    exact ⟨rowBelow (rowBelow G2.out R8.out.2.1 G2.out.lt) hb9 (by have := G2.out.lt; omega), rowBelow (rowBelow R7.out.1 R8.out.2.1 e7) hb9 (by omega), b8.trans (hb9.mono b8.size), by omega⟩
  clear hw9 hb9 hs9 R8 R7 R6 G2 H6
  go_wp2_with fail
  go_fit (ints_any g2 n N _ _ hn R9.out.1)
  rintro e w10 ⟨rfl, hr10, hb10⟩
  have R10 : Hid (w10.rowIs w6.heap.size 2 n (fun i => .int .i64 (upd (upd V ka v) kb x i)) ∧ w10.rowIs w9.heap.size 2 n (fun i => .int .i64 (upd (upd V ka v) kb x i)) ∧ Below w.heap.size w w10) := ⟨rowBelow R9.out.2.1 hb10 R9.out.2.2.2, intsCongr hr10 HD.out, R9.out.2.2.1.trans (hb10.mono R9.out.2.2.1.size)⟩
  clear hr10 hb10 R9
  go_wp2_with fail
  go_fit (sameInts_any w6.heap.size w9.heap.size n _ _ (upd (upd V ka v) kb x) _ (by omega) R10.out.1 R10.out.2.1)
  rintro e w11 ⟨rfl, d, hw11⟩
  have R11 : Hid (w11.rowIs w6.heap.size 2 n (fun i => .int .i64 (upd (upd V ka v) kb x i)) ∧ Below w.heap.size w w11) := by
    rw [hw11]
    exact ⟨R10.out.1, R10.out.2.2.trans (drewN_below _ _ _)⟩
  clear hw11 R10
  go_wp2_with fail
  go_fit (first_any a n _ N V s2 kb _ (HE.out.below R11.out.2) HB.out)
  rintro e w11 ⟨rfl, rfl⟩
  by_cases hk1 : kb < n
  · have hf1 : fidx n kb = (kb : Int) := by simp [fidx, hk1]
    have c1 : w11.cell? ⟨w6.heap.size, kb, none⟩ = some (.int .i64 x) := by
      have := R11.out.1.cell hk1
      rwa [upd_self] at this
    have hlt1 : (kb : Int) < n := by omega
    rw [hf1]
    go_wp2_with fail
    go_ret
    exact ⟨rfl, R11.out.2⟩
  · have hf1 : fidx n kb = -1 := by simp [fidx]; omega
    rw [hf1]
    go_wp2_with fail
    go_ret
    exact ⟨rfl, R11.out.2⟩

theorem last_any (a : Option Addr) (n cap : Nat) (N : Nat → ByteArray) (V : Nat → Int) (s1 : ByteArray) (v : Int) (s2 : ByteArray) (x : Int) (w : World) (he : PairsAt w a n N V) (h1 : s1.size ≤ maxLen) (h2 : s2.size ≤ maxLen) :
    Calls Try.prog 4 #[.slice a n cap, .string s1, .int .i64 v, .string s2, .int .i64 x] w fun e w' => e = .returned (.bool true) ∧ Below w.heap.size w w' := by
  by_cases hab : s1 = s2
  · exact last_eq a n cap N V s1 v s2 x w he h1 h2 hab
  · exact last_ne a n cap N V s1 v s2 x w he h1 h2 hab
end Go.Proofs.Qxb6613313a
