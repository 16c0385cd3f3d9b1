/-
  THE WALKS: (*ListValue).MarshalToEnd.
-/
import Derived.Test.Qxb6613122aWalkH
namespace Go.Proofs.Qxb6613122a
open Go.RowKit
set_option linter.unusedSimpArgs false
set_option linter.unusedVariables false

set_option maxRecDepth 100000 in
set_option maxHeartbeats 1000000 in
theorem listMarshal_x (l g gv n N cap m : Nat) (Q : Nat → Nat) (I : Nat → Item) (bs : List Int) (w : World) (hv : w.cell? ⟨l, 0, none⟩ = some (.slice (some ⟨gv, 0, none⟩) n n)) (hu : w.cell? ⟨l, 1, none⟩ = some (.slice none 0 0)) (h : ValsAt w gv n Q I) (hgv : gv ≠ g)
    (hok : ∀ i, i < n → ItemOk (I i)) (ht : tot I n ≤ 1048576) (hB : Buf w g bs) (hN : N ≤ bs.length) (hmax : bs.length ≤ 4294967296) (hcap : N ≤ cap) (hcn : ¬ cap = N) (hm : N = m + (encSeg I 0 n).length) :
    Calls Try.prog 25 #[.pointer (some ⟨l, 0, none⟩), .slice (some ⟨g, 0, none⟩) N cap] w fun e w' => e = .returned (.int .i64 (((encSeg I 0 n).length : Nat) : Int)) ∧ Wrote w w' g (mid bs m (encSeg I 0 n)) := by
  have hn : n ≤ 1048576 := by have := tot_ge I n; omega
  have HT : Hid (tot I n ≤ 1048576) := ht
  have HM : Hid (N = m + (encSeg I 0 n).length) := hm
  have hnm : (N : Int) - (m : Int) = (((encSeg I 0 n).length : Nat) : Int) := by omega
  have HNM : Hid ((N : Int) - (m : Int) = (((encSeg I 0 n).length : Nat) : Int)) := hnm
  have HV : Hid (ValsAt w gv n Q I) := h
  clear ht hm hnm h
  have hcpn := copyNil
  go_enter Try.func25, Try.ntmps25
  go_wp2_with fail
  go_region
  go_wp2_with fail
  go_loopw [5, 6] (fun i j wr => ∃ k M : Nat, k ≤ n ∧ j = .int .i64 ((k : Int) - 1) ∧ i = .int .i64 (M : Int) ∧ M ≤ N ∧ Hid (N = M + (encSeg I k (n - k)).length) ∧ Wrote w wr g (mid bs M (encSeg I k (n - k)))) (fun _ j _ => (intOf j + 1).toNat)
  case atStart => exact ⟨n, N, Nat.le_refl _, rfl, rfl, Nat.le_refl _, by simp [Hid, encSeg], by simp [encSeg, mid_nil]; exact ⟨hB, grown_drew w _⟩⟩
  case round =>
    obtain ⟨k, M, hk, rfl, rfl, hMN, hq, hW⟩ := hrel
    have hv' := kept_cell hB hW hv (by simp [Dull])
    have hu' := kept_cell hB hW hu (by simp [Dull])
    cases k with
    | zero =>
      have hMm : M = m := by have h1 := hq.out; have h2 := HM.out; simp at h1; omega
      subst hMm
      have HW : Hid (Wrote w wr g (mid bs M (encSeg I 0 n))) := by simpa [Hid] using hW
      have hnm := HNM.out
      go_wp2_with fail
      go_ret
      exact ⟨rfl, HW.out⟩
    | succ k =>
      obtain ⟨hp1, hval1⟩ := HV.out k (by omega)
      have hp := hW.gr.cell hp1 (by simp; exact hgv)
      have hval := hval1.buf hB hW.gr
      have hsz : (I k).s.size ≤ 1048576 := by have := HT.out; have := tot_item I n k (by omega); omega
      have hfront : encSeg I k (n - k) = rcd (I k) ++ encSeg I (k + 1) (n - (k + 1)) := by
        rw [show n - k = (n - (k + 1)) + 1 by omega, encSeg_front]
      have hlen : (encSeg I 0 n).length = (encSeg I 0 k).length + (encSeg I k (n - k)).length := by
        have := encSeg_cut I 0 k (n - k)
        rw [show k + (n - k) = n by omega] at this
        rw [this, List.length_append, Nat.zero_add]
      have hMlow : (rcd (I k)).length ≤ M := by
        have h1 := hq.out
        have h2 := HM.out
        rw [hlen, hfront, List.length_append] at h2
        omega
      rw [rcd_eq_length] at hMlow
      have hvp := vlen_pos (enc (I k)).length (by have := enc_length (I k) hsz; omega)
      obtain ⟨M0, hM0⟩ : ∃ M0, M = M0 + 1 + vlen (enc (I k)).length + (enc (I k)).length := ⟨M - (1 + vlen (enc (I k)).length + (enc (I k)).length), by omega⟩
      have HM0 : Hid (M = M0 + 1 + vlen (enc (I k)).length + (enc (I k)).length) := hM0
      have hM0lt : (M0 : Int) < (N : Int) := by omega
      have hq2 : Hid (N = M0 + (encSeg I k (n - k)).length) := by
        have h1 := hq.out
        simp only [Hid]
        rw [hfront, List.length_append, rcd_eq_length]
        omega
      have HF : Hid (encSeg I k (n - k) = rcd (I k) ++ encSeg I (k + 1) (n - (k + 1))) := hfront
      have hseg : M + (encSeg I (k + 1) (n - (k + 1))).length ≤ bs.length := by have := hq.out; omega
      have hbl := mid_length bs M (encSeg I (k + 1) (n - (k + 1))) hseg
      have HBL : Hid ((mid bs M (encSeg I (k + 1) (n - (k + 1)))).length = bs.length) := hbl
      have hkn : (k : Int) < (n : Int) := by omega
      have hMi : (M : Int) ≤ (N : Int) := by omega
      have hMe : (((enc (I k)).length : Nat) : Int) ≤ (M : Int) := by omega
      have hel : (enc (I k)).length ≤ 2000000 := by have := enc_length (I k) hsz; omega
      have hN2 : N ≤ 4294967296 := by omega
      clear hp1 hval1 hfront hlen hMlow hM0 hbl
      have hvD : ValAt wr.drew (Q k) (I k) := hval.below (fun _ _ h => h)
      have HC : Hid (Calls Try.prog 18 #[.pointer (some ⟨Q k, 0, none⟩), .slice (some ⟨g, 0, none⟩) M cap] wr.drew fun e w' => e = .returned (.int .i64 (((enc (I k)).length : Nat) : Int)) ∧ Wrote wr.drew w' g (mid (mid bs M (encSeg I (k + 1) (n - (k + 1)))) (M0 + 1 + vlen (enc (I k)).length) (enc (I k)))) :=
        marshal_any (Q k) g (M0 + 1 + vlen (enc (I k)).length) M cap (I k) _ _ hvD (hok k (by omega)) hW.buf.drew (by rw [HBL.out]; omega) (by omega) (by rw [HBL.out]; omega) HM0.out
      clear hvD hval
      go_wp2_with fail
      go_region_with (go_at_call 18; go_fit HC.out; rintro e w2 ⟨rfl, hW2⟩)
      all_goals
        rw [mid_mid bs M _ _ (enc (I k)) HM0.out.symm hseg] at hW2
        have hW2' : Wrote w w2 g (mid bs (M0 + 1 + vlen (enc (I k)).length) (enc (I k) ++ encSeg I (k + 1) (n - (k + 1)))) := ⟨hW2.buf, grown_trans hW.gr hW2.ofDrew.gr⟩
        have hseg2 : M0 + 1 + vlen (enc (I k)).length + (enc (I k) ++ encSeg I (k + 1) (n - (k + 1))).length ≤ bs.length := by rw [List.length_append]; have := HM0.out; omega
        have HBL2 : Hid ((mid bs (M0 + 1 + vlen (enc (I k)).length) (enc (I k) ++ encSeg I (k + 1) (n - (k + 1)))).length = bs.length) := mid_length _ _ _ hseg2
        clear hW2 hW
        go_wp2_with fail
        go_fit (putVarint_any g N _ _ (M0 + 1) (enc (I k)).length _ _ _ hW2'.buf (by rw [HBL2.out]; omega) (by rw [HBL2.out]; omega) (by have := HM0.out; omega) (by have := HM0.out; omega) rfl (by omega))
        rintro e w3 ⟨rfl, hW3⟩
        rw [mid_mid bs _ (M0 + 1) _ (varint (enc (I k)).length) (by rw [varint_length]) hseg2] at hW3
        have hW3' := hW2'.trans hW3
        have hseg3 : M0 + 1 + (varint (enc (I k)).length ++ (enc (I k) ++ encSeg I (k + 1) (n - (k + 1)))).length ≤ bs.length := by
          rw [List.length_append, varint_length]
          rw [List.length_append] at hseg2 ⊢
          omega
        obtain ⟨⟨ov, c1⟩, f1, HW4, k0⟩ := after_put hB hW3' 10 hseg3 hv (by simp [Dull])
        have hfin : mid bs M0 (10 :: (varint (enc (I k)).length ++ (enc (I k) ++ encSeg I (k + 1) (n - (k + 1))))) = mid bs M0 (encSeg I k (n - k)) := by
          rw [HF.out]; simp [rcd]
        have HW5 : Hid (Wrote w (w3.setCell ⟨g, M0, none⟩ (.int .u8 10)) g (mid bs M0 (encSeg I k (n - k)))) := by
          rw [← hfin]; exact HW4.out
        clear hW3 hW3' hW2' HW4 hfin hseg2 hseg3
        go_wp2_with fail
        go_roundw
        case rel => exact ⟨k, M0, by omega, by go_num, by go_num, by omega, hq2, HW5.out⟩
        case measure => simp [intOf]
set_option maxRecDepth 100000 in
set_option maxHeartbeats 1000000 in
theorem listMarshal_e (l g gv n N m : Nat) (Q : Nat → Nat) (I : Nat → Item) (bs : List Int) (w : World) (hv : w.cell? ⟨l, 0, none⟩ = some (.slice (some ⟨gv, 0, none⟩) n n)) (hu : w.cell? ⟨l, 1, none⟩ = some (.slice none 0 0)) (h : ValsAt w gv n Q I) (hgv : gv ≠ g)
    (hok : ∀ i, i < n → ItemOk (I i)) (ht : tot I n ≤ 1048576) (hB : Buf w g bs) (hN : N ≤ bs.length) (hmax : bs.length ≤ 4294967296) (hm : N = m + (encSeg I 0 n).length) :
    Calls Try.prog 25 #[.pointer (some ⟨l, 0, none⟩), .slice (some ⟨g, 0, none⟩) N N] w fun e w' => e = .returned (.int .i64 (((encSeg I 0 n).length : Nat) : Int)) ∧ Wrote w w' g (mid bs m (encSeg I 0 n)) := by
  have hn : n ≤ 1048576 := by have := tot_ge I n; omega
  have HT : Hid (tot I n ≤ 1048576) := ht
  have HM : Hid (N = m + (encSeg I 0 n).length) := hm
  have hnm : (N : Int) - (m : Int) = (((encSeg I 0 n).length : Nat) : Int) := by omega
  have HNM : Hid ((N : Int) - (m : Int) = (((encSeg I 0 n).length : Nat) : Int)) := hnm
  have HV : Hid (ValsAt w gv n Q I) := h
  clear ht hm hnm h
  have hcpn := copyNil
  go_enter Try.func25, Try.ntmps25
  go_wp2_with fail
  go_region
  go_wp2_with fail
  go_loopw [5, 6] (fun i j wr => ∃ k M : Nat, k ≤ n ∧ j = .int .i64 ((k : Int) - 1) ∧ i = .int .i64 (M : Int) ∧ M ≤ N ∧ Hid (N = M + (encSeg I k (n - k)).length) ∧ Wrote w wr g (mid bs M (encSeg I k (n - k)))) (fun _ j _ => (intOf j + 1).toNat)
  case atStart => exact ⟨n, N, Nat.le_refl _, rfl, rfl, Nat.le_refl _, by simp [Hid, encSeg], by simp [encSeg, mid_nil]; exact ⟨hB, grown_drew w _⟩⟩
  case round =>
    obtain ⟨k, M, hk, rfl, rfl, hMN, hq, hW⟩ := hrel
    have hv' := kept_cell hB hW hv (by simp [Dull])
    have hu' := kept_cell hB hW hu (by simp [Dull])
    cases k with
    | zero =>
      have hMm : M = m := by have h1 := hq.out; have h2 := HM.out; simp at h1; omega
      subst hMm
      have HW : Hid (Wrote w wr g (mid bs M (encSeg I 0 n))) := by simpa [Hid] using hW
      have hnm := HNM.out
      go_wp2_with fail
      go_ret
      exact ⟨rfl, HW.out⟩
    | succ k =>
      obtain ⟨hp1, hval1⟩ := HV.out k (by omega)
      have hp := hW.gr.cell hp1 (by simp; exact hgv)
      have hval := hval1.buf hB hW.gr
      have hsz : (I k).s.size ≤ 1048576 := by have := HT.out; have := tot_item I n k (by omega); omega
      have hfront : encSeg I k (n - k) = rcd (I k) ++ encSeg I (k + 1) (n - (k + 1)) := by
        rw [show n - k = (n - (k + 1)) + 1 by omega, encSeg_front]
      have hlen : (encSeg I 0 n).length = (encSeg I 0 k).length + (encSeg I k (n - k)).length := by
        have := encSeg_cut I 0 k (n - k)
        rw [show k + (n - k) = n by omega] at this
        rw [this, List.length_append, Nat.zero_add]
      have hMlow : (rcd (I k)).length ≤ M := by
        have h1 := hq.out
        have h2 := HM.out
        rw [hlen, hfront, List.length_append] at h2
        omega
      rw [rcd_eq_length] at hMlow
      have hvp := vlen_pos (enc (I k)).length (by have := enc_length (I k) hsz; omega)
      obtain ⟨M0, hM0⟩ : ∃ M0, M = M0 + 1 + vlen (enc (I k)).length + (enc (I k)).length := ⟨M - (1 + vlen (enc (I k)).length + (enc (I k)).length), by omega⟩
      have HM0 : Hid (M = M0 + 1 + vlen (enc (I k)).length + (enc (I k)).length) := hM0
      have hM0lt : (M0 : Int) < (N : Int) := by omega
      have hq2 : Hid (N = M0 + (encSeg I k (n - k)).length) := by
        have h1 := hq.out
        simp only [Hid]
        rw [hfront, List.length_append, rcd_eq_length]
        omega
      have HF : Hid (encSeg I k (n - k) = rcd (I k) ++ encSeg I (k + 1) (n - (k + 1))) := hfront
      have hseg : M + (encSeg I (k + 1) (n - (k + 1))).length ≤ bs.length := by have := hq.out; omega
      have hbl := mid_length bs M (encSeg I (k + 1) (n - (k + 1))) hseg
      have HBL : Hid ((mid bs M (encSeg I (k + 1) (n - (k + 1)))).length = bs.length) := hbl
      have hkn : (k : Int) < (n : Int) := by omega
      have hMi : (M : Int) ≤ (N : Int) := by omega
      have hMe : (((enc (I k)).length : Nat) : Int) ≤ (M : Int) := by omega
      have hel : (enc (I k)).length ≤ 2000000 := by have := enc_length (I k) hsz; omega
      have hN2 : N ≤ 4294967296 := by omega
      clear hp1 hval1 hfront hlen hMlow hM0 hbl
      have hvD : ValAt wr.drew (Q k) (I k) := hval.below (fun _ _ h => h)
      have HC : Hid (Calls Try.prog 18 #[.pointer (some ⟨Q k, 0, none⟩), .slice (some ⟨g, 0, none⟩) M N] wr.drew fun e w' => e = .returned (.int .i64 (((enc (I k)).length : Nat) : Int)) ∧ Wrote wr.drew w' g (mid (mid bs M (encSeg I (k + 1) (n - (k + 1)))) (M0 + 1 + vlen (enc (I k)).length) (enc (I k)))) :=
        marshal_any (Q k) g (M0 + 1 + vlen (enc (I k)).length) M N (I k) _ _ hvD (hok k (by omega)) hW.buf.drew (by rw [HBL.out]; omega) (by omega) (by rw [HBL.out]; omega) HM0.out
      clear hvD hval
      go_wp2_with fail
      go_region_with (go_at_call 18; go_fit HC.out; rintro e w2 ⟨rfl, hW2⟩)
      all_goals
        rw [mid_mid bs M _ _ (enc (I k)) HM0.out.symm hseg] at hW2
        have hW2' : Wrote w w2 g (mid bs (M0 + 1 + vlen (enc (I k)).length) (enc (I k) ++ encSeg I (k + 1) (n - (k + 1)))) := ⟨hW2.buf, grown_trans hW.gr hW2.ofDrew.gr⟩
        have hseg2 : M0 + 1 + vlen (enc (I k)).length + (enc (I k) ++ encSeg I (k + 1) (n - (k + 1))).length ≤ bs.length := by rw [List.length_append]; have := HM0.out; omega
        have HBL2 : Hid ((mid bs (M0 + 1 + vlen (enc (I k)).length) (enc (I k) ++ encSeg I (k + 1) (n - (k + 1)))).length = bs.length) := mid_length _ _ _ hseg2
        clear hW2 hW
        go_wp2_with fail
        go_fit (putVarint_any g N _ _ (M0 + 1) (enc (I k)).length _ _ _ hW2'.buf (by rw [HBL2.out]; omega) (by rw [HBL2.out]; omega) (by have := HM0.out; omega) (by have := HM0.out; omega) rfl (by omega))
        rintro e w3 ⟨rfl, hW3⟩
        rw [mid_mid bs _ (M0 + 1) _ (varint (enc (I k)).length) (by rw [varint_length]) hseg2] at hW3
        have hW3' := hW2'.trans hW3
        have hseg3 : M0 + 1 + (varint (enc (I k)).length ++ (enc (I k) ++ encSeg I (k + 1) (n - (k + 1)))).length ≤ bs.length := by
          rw [List.length_append, varint_length]
          rw [List.length_append] at hseg2 ⊢
          omega
        obtain ⟨⟨ov, c1⟩, f1, HW4, k0⟩ := after_put hB hW3' 10 hseg3 hv (by simp [Dull])
        have hfin : mid bs M0 (10 :: (varint (enc (I k)).length ++ (enc (I k) ++ encSeg I (k + 1) (n - (k + 1))))) = mid bs M0 (encSeg I k (n - k)) := by
          rw [HF.out]; simp [rcd]
        have HW5 : Hid (Wrote w (w3.setCell ⟨g, M0, none⟩ (.int .u8 10)) g (mid bs M0 (encSeg I k (n - k)))) := by
          rw [← hfin]; exact HW4.out
        clear hW3 hW3' hW2' HW4 hfin hseg2 hseg3
        go_wp2_with fail
        go_roundw
        case rel => exact ⟨k, M0, by omega, by go_num, by go_num, by omega, hq2, HW5.out⟩
        case measure => simp [intOf]

theorem listMarshal_any (l g gv n N cap m : Nat) (Q : Nat → Nat) (I : Nat → Item) (bs : List Int) (w : World) (hv : w.cell? ⟨l, 0, none⟩ = some (.slice (some ⟨gv, 0, none⟩) n n)) (hu : w.cell? ⟨l, 1, none⟩ = some (.slice none 0 0)) (h : ValsAt w gv n Q I) (hgv : gv ≠ g)
    (hok : ∀ i, i < n → ItemOk (I i)) (ht : tot I n ≤ 1048576) (hB : Buf w g bs) (hN : N ≤ bs.length) (hmax : bs.length ≤ 4294967296) (hcap : N ≤ cap) (hm : N = m + (encSeg I 0 n).length) :
    Calls Try.prog 25 #[.pointer (some ⟨l, 0, none⟩), .slice (some ⟨g, 0, none⟩) N cap] w fun e w' => e = .returned (.int .i64 (((encSeg I 0 n).length : Nat) : Int)) ∧ Wrote w w' g (mid bs m (encSeg I 0 n)) := by
  by_cases hc : cap = N
  · subst hc; exact listMarshal_e l g gv n _ m Q I bs w hv hu h hgv hok ht hB hN hmax hm
  · exact listMarshal_x l g gv n N cap m Q I bs w hv hu h hgv hok ht hB hN hmax hcap hc hm

set_option maxRecDepth 100000 in
set_option maxHeartbeats 1000000 in
/-- A list without values, into a slice without bytes (a nil one, say). -/
theorem listMarshal_0 (l gv : Nat) (a : Option Addr) (w : World) (hv : w.cell? ⟨l, 0, none⟩ = some (.slice (some ⟨gv, 0, none⟩) 0 0)) (hu : w.cell? ⟨l, 1, none⟩ = some (.slice none 0 0)) :
    Calls Try.prog 25 #[.pointer (some ⟨l, 0, none⟩), .slice a 0 0] w fun e w' => e = .returned (.int .i64 0) ∧ w' = w.drew := by
  have hcpn := copyNil
  go_enter Try.func25, Try.ntmps25
  go_wp2_with fail
  go_region
  go_wp2_with fail
  refine wp_loop_rounds 1 ?_
  rw [rounds_succ]
  go_wp2_with fail
  go_ret
  exact ⟨rfl, rfl⟩

end Go.Proofs.Qxb6613122a
