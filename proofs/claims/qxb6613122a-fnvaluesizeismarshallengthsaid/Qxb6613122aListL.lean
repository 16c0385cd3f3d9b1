/-
  THE WALK of FnListValueMarshalToEndWritesEncoding.
-/
import Derived.Test.Qxb6613122aWalkM
namespace Go.Proofs.Qxb6613122a
open Go.RowKit
set_option linter.unusedSimpArgs false
set_option linter.unusedVariables false

/-- The argument b: nil, or a slice whose bytes are xs. -/
def ByteArg (w : World) (a : Option Addr) (n cap : Nat) (xs : List Int) : Prop :=
  xs.length = n ∧ n ≤ cap ∧ cap ≤ maxLen ∧ ((a = none ∧ n = 0 ∧ cap = 0) ∨ ∃ ad, a = some ad ∧ ∀ (j : Nat) (h : j < xs.length), w.cell? (ad.add j) = some (.int .u8 xs[j]))

theorem mid_take (xs ys : List Int) (m : Nat) (h : m + ys.length ≤ xs.length) : (mid xs m ys).take m = xs.take m := by
  unfold mid
  rw [List.append_assoc, List.take_append_of_le_length (by simp; omega), List.take_take, Nat.min_self]

theorem mid_drop (xs ys : List Int) (m : Nat) (h : m + ys.length = xs.length) : (mid xs m ys).drop m = ys := by
  unfold mid
  rw [h, List.drop_length, List.append_nil, List.drop_append_of_le_length (by simp; omega)]
  simp

theorem reads_take {w : World} {g : Nat} {bs : List Int} (h : Buf w g bs) (m : Nat) (hm : m ≤ bs.length) : Reads w (some ⟨g, 0, none⟩) (bs.take m) := fun _ =>
  ⟨g, 0, rfl, fun j hj => by
    rw [Nat.zero_add]
    have hj' : j < bs.length := by simp at hj; omega
    have := h.cell hj'
    simpa using this⟩

theorem reads_drop {w : World} {g : Nat} {bs : List Int} (h : Buf w g bs) (m : Nat) : Reads w (some ⟨g, m, none⟩) (bs.drop m) := fun _ =>
  ⟨g, m, rfl, fun j hj => by
    have hj' : m + j < bs.length := by simp at hj; omega
    have := h.cell hj'
    simpa using this⟩

set_option maxRecDepth 100000 in
set_option maxHeartbeats 2000000 in
theorem listL_any (a : Option Addr) (n cp : Nat) (I : Nat → Item) (b : Option Addr) (nb cb : Nat) (xs : List Int) (w : World) (he : ItemsAt w a n I) (hok : ∀ i, i < n → ItemOk (I i)) (hb : ByteArg w b nb cb xs) :
    Calls Try.prog 6 #[.slice a n cp, .slice b nb cb] w fun e w' => e = .returned (.bool true) ∧ Below w.heap.size w w' := by
  obtain ⟨hxl, hnc, hcm, hbb⟩ := hb
  have hnb : nb ≤ 2 ^ 63 - 1 := by unfold maxLen at hcm; omega
  have HBB : Hid ((b = none ∧ nb = 0 ∧ cb = 0) ∨ ∃ ad, b = some ad ∧ ∀ (j : Nat) (h : j < xs.length), w.cell? (ad.add j) = some (.int .u8 xs[j])) := hbb
  have HXL : Hid (xs.length = nb) := hxl
  clear hbb hxl
  go_enter Try.func6, Try.ntmps6
  go_wp2_with fail
  go_fit (bytes23_any a n _ I b nb _ _ he (by unfold maxLen; omega))
  rintro e w ⟨⟨r, rfl⟩, rfl⟩
  cases r with
  | false =>
    go_wp2_with fail
    go_ret
    exact ⟨rfl, Below.refl _ _⟩
  | true =>
  by_cases hbig : (1048576 : Int) < nb
  · go_wp2_with fail
    go_ret
    exact ⟨rfl, Below.refl _ _⟩
  go_wp2_with fail
  go_fit (itemsBytes_any a n _ I nb _ he (by omega))
  rintro e w ⟨⟨r, rfl, ht⟩, rfl⟩
  by_cases hr : 1048576 < r
  · clear ht
    go_wp2_with fail
    go_ret
    exact ⟨rfl, Below.refl _ _⟩
  have HT : Hid (tot I n ≤ 1048576) := by have := ht (by omega); simp only [Hid]; omega
  clear ht
  go_wp2_with fail
  go_fit (kindsOK_any a n _ I _ he)
  rintro e w ⟨⟨r2, rfl, h4⟩, rfl⟩
  cases r2 with
  | false =>
    clear h4
    go_wp2_with fail
    go_ret
    exact ⟨rfl, Below.refl _ _⟩
  | true =>
  have H4 : Hid (∀ i, i < n → (I i).kind ≤ 4) := h4 rfl
  clear h4
  go_wp2_with fail
  go_fit (encList_any a n _ I _ he H4.out HT.out)
  rintro e w2 ⟨v, rfl, hN⟩
  obtain ⟨wa, wc, hv, -⟩ := reads_bytes hN.own
  subst hv
  have hL : (encSeg I 0 n).length ≤ 1048576 := by have := encSeg_length I n HT.out 0 n (by omega); have := HT.out; simp at *; omega
  by_cases hlt : (nb : Int) < (((encSeg I 0 n).length : Nat) : Int)
  · go_wp2_with fail
    go_ret
    exact ⟨rfl, hN.bel⟩
  have hnn : n ≤ 1048576 := by have := tot_ge I n; have := HT.out; omega
  go_wp2_with fail
  rcases HBB.out with ⟨hb0, hb1, hb2⟩ | ⟨ad, hb0, hcell⟩
  · subst hb0 hb1 hb2
    have hn0 : n = 0 := by
      cases n with
      | zero => rfl
      | succ n => exfalso; rw [encSeg_front, List.length_append, rcd_eq_length] at hlt; omega
    subst hn0
    have hE : encSeg I 0 0 = [] := rfl
    rw [hE]
    have hbN := hN.bel
    clear hlt hL HXL HBB hnb hbig hN
    go_fit (clone_nil _)
    rintro e w2 ⟨rfl, rfl⟩
    go_wp2_with fail
    go_fit (clone_nil _)
    rintro e w2 ⟨rfl, rfl⟩
    have he4 := he.below hbN
    go_wp2_with fail
    go_fit (buildAll_any a 0 _ I _ he4 H4.out hnn)
    rintro e w5 ⟨gv, Q, rfl, hgv, hVals, hb5⟩
    clear he he4 hVals
    go_wp2_with fail
    go_fit (listMarshal_0 _ gv _ _ (by simp [go_sem]) (by simp [go_sem]))
    rintro e w7 ⟨rfl, hw7⟩
    have h5 : Below w.heap.size w w5 := hbN.trans (hb5.mono hbN.size)
    have h6 := h5.alloc h5.size (.cells #[.slice (some ⟨gv, 0, none⟩) 0 0, .slice none 0 0] 48)
    have HW : Hid (Below w.heap.size w w7) := by
      rw [hw7]
      exact h6.trans ⟨rfl, rfl, rfl, Nat.le_refl _, fun _ _ => rfl⟩
    clear hw7 h5 h6 hb5 hbN
    have HC2 : Hid (∀ x c y c' d, Calls Try.prog 19 #[.slice x 0 c, .slice y 0 c'] (w7.drewN d) fun e w' => e = .returned (.bool true) ∧ ∃ k, w' = (w7.drewN d).drewN k) := fun x c y c' d =>
      equal_any _ _ _ _ _ [] _ rfl (by omega) (fun h => absurd h (by simp)) (fun h => absurd h (by simp))
    go_wp2_with fail
    go_quiet (first | (refine Calls.quiet_of (v := .bool true) ?_; go_fit (HC2.out _ _ _ _ _); exact fun _ _ h => h))
    go_wp2_with fail
    go_ret
    have hbel := HW.out
    exact ⟨rfl, hbel.trans ((drewN_below _ _).mono hbel.size)⟩
  · subst hb0
    have hc2 : ∀ (j : Nat) (h : j < xs.length), w2.cell? (ad.add j) = some (.int .u8 xs[j]) := fun j h => cells_below hN.bel _ _ (hcell j h)
    go_fit (clone_some ad nb _ xs _ HXL.out (by omega) hc2)
    rintro e w3 ⟨rfl, hB3, hb3, hs3⟩
    have hc3 : ∀ (j : Nat) (h : j < xs.length), w3.cell? ((⟨w2.heap.size, 0, none⟩ : Addr).add j) = some (.int .u8 xs[j]) := fun j h => by rw [addr_add0]; exact hB3.cell h
    clear hc2 hcell
    have HB3 : Hid (Buf w3 w2.heap.size xs ∧ Below w2.heap.size w2 w3 ∧ w2.heap.size < w3.heap.size) := ⟨hB3, hb3, hs3⟩
    clear hB3 hb3 hs3
    go_wp2_with fail
    go_fit (clone_some ⟨w2.heap.size, 0, none⟩ nb _ xs _ HXL.out (by omega) hc3)
    rintro e w4 ⟨rfl, hB4, hb4, hs4⟩
    clear hc3
    obtain ⟨hB3, hb3, hs3⟩ := HB3.out
    have hbel4 : Below w.heap.size w w4 := (hN.bel.trans (hb3.mono hN.bel.size)).trans (hb4.mono (by have := hN.bel.size; omega))
    have he4 := he.below hbel4
    have HB4 : Hid (Buf w4 w3.heap.size xs ∧ Below w3.heap.size w3 w4 ∧ w3.heap.size < w4.heap.size ∧ Below w.heap.size w w4) := ⟨hB4, hb4, hs4, hbel4⟩
    clear hB4 hb4 hs4 hbel4 he
    go_wp2_with fail
    go_fit (buildAll_any a n _ I _ he4 H4.out hnn)
    rintro e w5 ⟨gv, Q, rfl, hgv, hVals, hb5⟩
    obtain ⟨hB4, hb4, hs4, hbel4⟩ := HB4.out
    obtain ⟨m, HMm⟩ : ∃ m, Hid (nb = m + (encSeg I 0 n).length) := ⟨nb - (encSeg I 0 n).length, by simp only [Hid]; omega⟩
    have hb6 : Below w5.heap.size w5 (w5.alloc (.cells #[.slice (some ⟨gv, 0, none⟩) n n, .slice none 0 0] 48)) := (Below.refl _ _).alloc (Nat.le_refl _) _
    have HC := listMarshal_any w5.heap.size w2.heap.size gv n nb nb m Q I xs (w5.alloc (.cells #[.slice (some ⟨gv, 0, none⟩) n n, .slice none 0 0] 48)) (by simp [go_sem]) (by simp [go_sem])
      (fun i hi => ⟨cells_below hb6 _ _ (hVals i hi).1, (hVals i hi).2.below (cells_below hb6)⟩) (by omega) hok HT.out
      (((hB3.below hb4 hs3).below hb5 (by omega)).below hb6 (by have := hb5.size; omega)) (by have := HXL.out; omega) (by have := HXL.out; omega) (Nat.le_refl _) HMm.out
    have HC' := HC
    clear HC
    go_wp2_with fail
    go_fit HC'
    rintro e w7 ⟨rfl, hW⟩
    clear HC'
    have hxn := HXL.out
    have hm := HMm.out
    have hB7 : Buf w7 w3.heap.size xs := by
      have h6 : Buf (w5.alloc (.cells #[.slice (some ⟨gv, 0, none⟩) n n, .slice none 0 0] 48)) w3.heap.size xs := ((hB4.below hb5 hs4).below hb6 (by have := hb5.size; omega))
      unfold Buf RowIs
      rw [hW.gr.block _ h6.lt (by simp; omega)]
      exact h6
    have hW7 : Bytes w7 (.slice wa (encSeg I 0 n).length wc) (encSeg I 0 n) := by
      refine (((hN.own.below hb3).below (hb4.mono (Nat.le_refl _))).below hb5 |>.below hb6).kept hW.gr ?_
      cases hob : Value.ownBlock (.slice wa (encSeg I 0 n).length wc) with
      | none => exact Or.inl rfl
      | some k =>
        right
        intro h1
        have := hN.own.lt k hob
        simp at h1
        omega
    have hR2 : Reads w7 wa (encSeg I 0 n) := by
      obtain ⟨a', c', hv', hr⟩ := reads_bytes hW7
      injection hv' with e1
      rw [e1]
      exact hr
    have hR1 : Reads w7 (some ⟨w2.heap.size, m, none⟩) (encSeg I 0 n) := by
      have := reads_drop hW.buf m
      rwa [mid_drop xs _ m (by omega)] at this
    have hR3 : Reads w7 (some ⟨w2.heap.size, 0, none⟩) (xs.take m) := by
      have := reads_take hW.buf m (by rw [mid_length _ _ _ (by omega)]; omega)
      rwa [mid_take xs _ m (by omega)] at this
    have hR4 : Reads w7 (some ⟨w3.heap.size, 0, none⟩) (xs.take m) := reads_take hB7 m (by omega)
    have hbel : Below w.heap.size w w7 := by
      have h5 : Below w.heap.size w w5 := hbel4.trans (hb5.mono hbel4.size)
      have h6 := h5.trans (hb6.mono h5.size)
      exact h6.trans ⟨hW.gr.os, hW.gr.tape, hW.gr.output, hW.gr.size, fun k hk => hW.gr.block k (by have := h6.size; omega) (by have := hN.bel.size; simp; omega)⟩
    have HALL : Hid (Reads w7 wa (encSeg I 0 n) ∧ Reads w7 (some ⟨w2.heap.size, m, none⟩) (encSeg I 0 n) ∧ Reads w7 (some ⟨w2.heap.size, 0, none⟩) (xs.take m) ∧ Reads w7 (some ⟨w3.heap.size, 0, none⟩) (xs.take m) ∧ Below w.heap.size w w7 ∧ xs.length = nb ∧ nb = m + (encSeg I 0 n).length) := ⟨hR2, hR1, hR3, hR4, hbel, hxn, hm⟩
    have hsub : (nb : Int) - (((encSeg I 0 n).length : Nat) : Int) = (m : Int) := by omega
    have hmn : (m : Int) ≤ (nb : Int) := by omega
    clear hR2 hR1 hR3 hR4 hbel hxn hm hW7 hB7 hW hb6 hb5 hVals hB4 hb4 hs4 hbel4 hB3 hb3 hs3 hN he4 HB3 HB4
    have HC1 : Hid (∀ d, Calls Try.prog 19 #[.slice (some ⟨w2.heap.size, 0, none⟩) m nb, .slice (some ⟨w3.heap.size, 0, none⟩) m nb] (w7.drewN d) fun e w' => e = .returned (.bool true) ∧ ∃ k, w' = (w7.drewN d).drewN k) := fun d => by
      obtain ⟨h1, h2, h3, h4, h5, h6, h7⟩ := HALL.out
      exact equal_any _ _ m _ _ (xs.take m) _ (by simp; omega) (by omega) h3 h4
    by_cases hcm : nb = m
    · have HC2 : Hid (∀ x c d, Calls Try.prog 19 #[.slice x 0 c, .slice wa (encSeg I 0 n).length wc] (w7.drewN d) fun e w' => e = .returned (.bool true) ∧ ∃ k, w' = (w7.drewN d).drewN k) := fun x c d => by
        obtain ⟨h1, h2, h3, h4, h5, h6, h7⟩ := HALL.out
        have h0 : (encSeg I 0 n).length = 0 := by omega
        rw [h0]
        exact equal_any _ _ _ _ _ [] _ rfl (by omega) (fun h => absurd h (by simp)) (fun h => absurd h (by simp))
      subst hcm
      go_wp2_with fail
      go_quiet (first | (refine Calls.quiet_of (v := .bool true) ?_; go_fit (HC1.out _); exact fun _ _ h => h) | (refine Calls.quiet_of (v := .bool true) ?_; go_fit (HC2.out _ _ _); exact fun _ _ h => h))
      go_wp2_with fail
      go_ret
      have hbel := HALL.out.2.2.2.2.1
      exact ⟨rfl, hbel.trans ((drewN_below _ _).mono hbel.size)⟩
    have HC2 : Hid (∀ d, Calls Try.prog 19 #[.slice (some ⟨w2.heap.size, m, none⟩) (nb - m) (nb - m), .slice wa (encSeg I 0 n).length wc] (w7.drewN d) fun e w' => e = .returned (.bool true) ∧ ∃ k, w' = (w7.drewN d).drewN k) := fun d => by
      obtain ⟨h1, h2, h3, h4, h5, h6, h7⟩ := HALL.out
      rw [show nb - m = (encSeg I 0 n).length by omega]
      exact equal_any _ _ _ _ _ (encSeg I 0 n) _ rfl (by omega) h2 h1
    go_wp2_with fail
    go_quiet (first | (refine Calls.quiet_of (v := .bool true) ?_; go_fit (HC1.out _); exact fun _ _ h => h) | (refine Calls.quiet_of (v := .bool true) ?_; go_fit (HC2.out _); exact fun _ _ h => h))
    go_wp2_with fail
    go_ret
    have hbel := HALL.out.2.2.2.2.1
    exact ⟨rfl, hbel.trans ((drewN_below _ _).mono hbel.size)⟩
end Go.Proofs.Qxb6613122a
