/-
  THE WALK of FnValueSizeIsMarshalLength.
-/
import Derived.Test.Qxb6613122aWalkN
import Derived.Test.Qxb6613122aListL
import Derived.Test.Qxb6613122aCut
namespace Go.Proofs.Qxb6613122a
open Go.RowKit
set_option linter.unusedSimpArgs false
set_option linter.unusedVariables false

theorem make_plus8 (L : Nat) (hL : L ≤ 2000000000) (w : World) : (Instr.makeSlice 32 (.int .i64 ((L : Int) + 8)) (.int .i64 ((L : Int) + 8))).run Try.prog w = .ok (.slice (some ⟨w.heap.size, 0, none⟩) (L + 8) (L + 8)) (w.alloc (mkBytes (L + 8))) := by
  have := make32 (L + 8) (by omega) w
  rwa [show ((L + 8 : Nat) : Int) = (L : Int) + 8 by omega] at this

theorem mid_low (xs : List Int) (k : Nat) (hk : k < 8) (h : k < (mid (List.replicate (xs.length + 8) 0) 8 xs).length) : (mid (List.replicate (xs.length + 8) 0) 8 xs)[k] = 0 := by
  have h2 : (mid (List.replicate (xs.length + 8) 0) 8 xs)[k]? = some 0 := by
    unfold mid
    rw [List.getElem?_append_left (by simp; omega), List.getElem?_append_left (by simp; omega), List.take_replicate, List.getElem?_replicate]
    simp; omega
  rw [List.getElem?_eq_getElem h] at h2
  exact Option.some.inj h2

/-- What stands behind MarshalToEnd: the buffer, the wanted bytes. -/
structure After (w w4 : World) (g : Nat) (a : Option Addr) (xs : List Int) : Prop where
  low : ∀ k, k < 8 → w4.cell? ⟨g, k, none⟩ = some (.int .u8 0)
  high : Reads w4 (some ⟨g, 8, none⟩) xs
  want : Reads w4 a xs
  bel : Below w.heap.size w w4

theorem After.of {w w3 w4 : World} {a : Option Addr} {cp : Nat} {xs : List Int} (hb : Below w.heap.size w w3) (hown : Bytes w3 (.slice a xs.length cp) xs)
    (hW : Wrote (w3.alloc (mkBytes (xs.length + 8))) w4 w3.heap.size (mid (List.replicate (xs.length + 8) 0) 8 xs)) : After w w4 w3.heap.size a xs := by
  have hown4 : Bytes w4 (.slice a xs.length cp) xs := by
    refine (hown.alloc (mkBytes (xs.length + 8))).kept hW.gr ?_
    cases hob : Value.ownBlock (.slice a xs.length cp) with
    | none => exact Or.inl rfl
    | some k =>
      right
      intro h1
      have := hown.lt k hob
      simp at h1
      omega
  have hml : (mid (List.replicate (xs.length + 8) 0) 8 xs).length = xs.length + 8 := by rw [mid_length _ _ _ (by simp; omega)]; simp
  refine ⟨fun k hk => ?_, ?_, ?_, ?_⟩
  · have := hW.buf.cell (j := k) (by omega)
    rw [mid_low xs k hk] at this
    exact this
  · have := reads_drop hW.buf 8
    rwa [mid_drop _ xs 8 (by simp; omega)] at this
  · obtain ⟨a', c', hv', hr⟩ := reads_bytes hown4
    injection hv' with e1
    rw [e1]
    exact hr
  · have h2 : Below w.heap.size w (w3.alloc (mkBytes (xs.length + 8))) := hb.alloc hb.size _
    exact h2.trans ⟨hW.gr.os, hW.gr.tape, hW.gr.output, hW.gr.size, fun k hk => hW.gr.block k (by have := h2.size; omega) (by have := hb.size; simp; omega)⟩

set_option maxRecDepth 100000 in
set_option maxHeartbeats 2000000 in
theorem sizeM_nil (it : Item) (b1 : Bool) (a : Option Addr) (n cap : Nat) (I : Nat → Item) (w : World) (hok : ItemOk it) (he : ItemsAt w a n I) (hokI : ∀ i, i < n → ItemOk (I i)) :
    Calls Try.prog 5 #[.agg #[.int .u8 it.kind, .bool it.b, .string it.s, .int .u64 it.bits, .int .i32 it.null], .bool b1, .slice a n cap, .bool true] w fun e w' => e = .returned (.bool true) ∧ Below w.heap.size w w' := by
  have s1 := hok.s1
  have k0 := hok.k0
  have k1 := hok.k1
  unfold maxLen at s1
  have HE : Hid (ItemsAt w a n I) := he
  clear he
  go_enter Try.func5, Try.ntmps5
  go_wp2_with fail
  go_fit (bytes21_any it b1 a n _ I true _ hok (HE.out.below ((Below.refl _ _).alloc (Nat.le_refl _) _)))
  rintro e w1 ⟨⟨r, rfl⟩, hb1⟩
  have hb0 : Below w.heap.size w w1 := ((Below.refl _ _).alloc (Nat.le_refl _) _).trans (hb1.mono (by simp))
  have hws : w.heap.size < w1.heap.size := by have := hb1.size; simp at this; omega
  have c0 := (hb1.cell (p := ⟨w.heap.size, 0, none⟩) (by simp)).trans (show _ = some (.int .u8 it.kind) by simp [go_sem])
  have c1 := (hb1.cell (p := ⟨w.heap.size, 1, none⟩) (by simp)).trans (show _ = some (.bool it.b) by simp [go_sem])
  have c2 := (hb1.cell (p := ⟨w.heap.size, 2, none⟩) (by simp)).trans (show _ = some (.string it.s) by simp [go_sem])
  have c3 := (hb1.cell (p := ⟨w.heap.size, 3, none⟩) (by simp)).trans (show _ = some (.int .u64 it.bits) by simp [go_sem])
  have c4 := (hb1.cell (p := ⟨w.heap.size, 4, none⟩) (by simp)).trans (show _ = some (.int .i32 it.null) by simp [go_sem])
  have HE1 : Hid (ItemsAt w1 a n I) := HE.out.below hb0
  have HB0 : Hid (Below w.heap.size w w1) := hb0
  clear hb1 HE hb0
  cases r with
  | false =>
    go_wp2_with fail
    go_ret
    exact ⟨rfl, HB0.out⟩
  | true =>
  by_cases hs : (1048576 : Int) < it.s.size
  · go_wp2_with fail
    go_ret
    exact ⟨rfl, HB0.out⟩
  have hs' : it.s.size ≤ 1048576 := by omega
  go_wp2_with fail
  go_fit (itemsBytes_any a n _ I it.s.size _ HE1.out (by omega))
  rintro e w1 ⟨⟨r, rfl, ht⟩, rfl⟩
  by_cases hr : 1048576 < r
  · clear ht
    go_wp2_with fail
    go_ret
    exact ⟨rfl, HB0.out⟩
  have HT : Hid (tot I n ≤ 1048576) := by have := ht (by omega); simp only [Hid]; omega
  clear ht
  by_cases h4 : (4 : Int) < it.kind
  · go_wp2_with fail
    go_ret
    exact ⟨rfl, HB0.out⟩
  go_wp2_with fail
  go_fit (kindsOK_any a n _ I _ HE1.out)
  rintro e w1 ⟨⟨r2, rfl, h4'⟩, rfl⟩
  cases r2 with
  | false =>
    clear h4'
    go_wp2_with fail
    go_ret
    exact ⟨rfl, HB0.out⟩
  | true =>
  have H4 : Hid (∀ i, i < n → (I i).kind ≤ 4) := h4' rfl
  clear h4'
  clear c0 c1 c2 c3 c4
  have hmk : ∀ w : World, (Instr.makeSlice 32 (.int .i64 8) (.int .i64 8)).run Try.prog w = .ok (.slice (some ⟨w.heap.size, 0, none⟩) 8 8) (w.alloc (mkBytes 8)) := fun w => make32 8 (by omega) w
  go_wp2_with fail
  go_fit (size_nil _)
  rintro e w3 ⟨rfl, rfl⟩
  go_wp2_with fail
  go_fit (marshal_nil _ _ _ _)
  rintro e w4 ⟨rfl, hw4⟩
  have HA : Hid (After w w4 w3.heap.size none []) := by
    have := After.of (w4 := w4) (xs := []) HB0.out (Bytes.nil w3) ⟨by rw [hw4]; exact buf_made w3 _, by rw [hw4]; exact grown_refl' _ _⟩
    exact this
  clear hw4 hmk HB0 HE1 HT H4
  go_wp2_with fail
  go_loop [14] (fun i => ∃ k : Nat, k ≤ 8 ∧ i = .int .i64 k) (fun i => 8 - (intOf i).toNat)
  case atStart => exact ⟨0, Nat.zero_le _, rfl⟩
  case round =>
    obtain ⟨k, hk, rfl⟩ := hrel
    by_cases hlt : k < 8
    · have d := HA.out.low k hlt
      have hlt' : (k : Int) < 8 := by omega
      go_wp2_with fail
      go_round
      case rel => exact ⟨k + 1, by omega, by go_num⟩
      case measure => simp [intOf]; omega
    · have hk8 : k = 8 := by omega
      subst hk8
      go_wp2_with fail
      go_fit (equal_any _ _ 0 _ _ [] _ rfl (by omega) (fun h => absurd h (by simp)) (fun h => absurd h (by simp)))
      rintro e w5 ⟨rfl, d, rfl⟩
      go_wp2_with fail
      go_ret
      have hbel := HA.out.bel
      exact ⟨rfl, hbel.trans ((drewN_below _ d).mono hbel.size)⟩

set_option maxRecDepth 100000 in
set_option maxHeartbeats 2000000 in
theorem sizeM_item (it : Item) (a : Option Addr) (n cap : Nat) (I : Nat → Item) (w : World) (hok : ItemOk it) (he : ItemsAt w a n I) (hokI : ∀ i, i < n → ItemOk (I i)) :
    Calls Try.prog 5 #[.agg #[.int .u8 it.kind, .bool it.b, .string it.s, .int .u64 it.bits, .int .i32 it.null], .bool false, .slice a n cap, .bool false] w fun e w' => e = .returned (.bool true) ∧ Below w.heap.size w w' := by
  have s1 := hok.s1
  have k0 := hok.k0
  have k1 := hok.k1
  unfold maxLen at s1
  have HE : Hid (ItemsAt w a n I) := he
  clear he
  go_enter Try.func5, Try.ntmps5
  go_wp2_with fail
  go_fit (bytes21_any it false a n _ I false _ hok (HE.out.below ((Below.refl _ _).alloc (Nat.le_refl _) _)))
  rintro e w1 ⟨⟨r, rfl⟩, hb1⟩
  have hb0 : Below w.heap.size w w1 := ((Below.refl _ _).alloc (Nat.le_refl _) _).trans (hb1.mono (by simp))
  have hws : w.heap.size < w1.heap.size := by have := hb1.size; simp at this; omega
  have c0 := (hb1.cell (p := ⟨w.heap.size, 0, none⟩) (by simp)).trans (show _ = some (.int .u8 it.kind) by simp [go_sem])
  have c1 := (hb1.cell (p := ⟨w.heap.size, 1, none⟩) (by simp)).trans (show _ = some (.bool it.b) by simp [go_sem])
  have c2 := (hb1.cell (p := ⟨w.heap.size, 2, none⟩) (by simp)).trans (show _ = some (.string it.s) by simp [go_sem])
  have c3 := (hb1.cell (p := ⟨w.heap.size, 3, none⟩) (by simp)).trans (show _ = some (.int .u64 it.bits) by simp [go_sem])
  have c4 := (hb1.cell (p := ⟨w.heap.size, 4, none⟩) (by simp)).trans (show _ = some (.int .i32 it.null) by simp [go_sem])
  have HE1 : Hid (ItemsAt w1 a n I) := HE.out.below hb0
  have HB0 : Hid (Below w.heap.size w w1) := hb0
  clear hb1 HE hb0
  cases r with
  | false =>
    go_wp2_with fail
    go_ret
    exact ⟨rfl, HB0.out⟩
  | true =>
  by_cases hs : (1048576 : Int) < it.s.size
  · go_wp2_with fail
    go_ret
    exact ⟨rfl, HB0.out⟩
  have hs' : it.s.size ≤ 1048576 := by omega
  go_wp2_with fail
  go_fit (itemsBytes_any a n _ I it.s.size _ HE1.out (by omega))
  rintro e w1 ⟨⟨r, rfl, ht⟩, rfl⟩
  by_cases hr : 1048576 < r
  · clear ht
    go_wp2_with fail
    go_ret
    exact ⟨rfl, HB0.out⟩
  have HT : Hid (tot I n ≤ 1048576) := by have := ht (by omega); simp only [Hid]; omega
  clear ht
  by_cases h4 : (4 : Int) < it.kind
  · go_wp2_with fail
    go_ret
    exact ⟨rfl, HB0.out⟩
  go_wp2_with fail
  go_fit (kindsOK_any a n _ I _ HE1.out)
  rintro e w1 ⟨⟨r2, rfl, h4'⟩, rfl⟩
  cases r2 with
  | false =>
    clear h4'
    go_wp2_with fail
    go_ret
    exact ⟨rfl, HB0.out⟩
  | true =>
  have H4 : Hid (∀ i, i < n → (I i).kind ≤ 4) := h4' rfl
  clear h4'
  have hel := enc_length it hs'
  go_wp2_with fail
  go_fit (build_any it _ hok (by omega))
  rintro e w2 ⟨q, rfl, hq, hV, hb2⟩
  have d0 := cells_below hb2 _ _ c0
  have d1 := cells_below hb2 _ _ c1
  have d2 := cells_below hb2 _ _ c2
  have d3 := cells_below hb2 _ _ c3
  have d4 := cells_below hb2 _ _ c4
  clear c0 c1 c2 c3 c4
  go_wp2_with fail
  go_fit (encItem_any it _ hok (by omega) hs')
  rintro e w3 ⟨v, rfl, hN⟩
  obtain ⟨wa, cp, hv, -⟩ := reads_bytes hN.own
  subst hv
  have hmk := make_plus8 (enc it).length (by omega)
  clear d0 d1 d2 d3 d4
  have hV3 := hV.below (cells_below hN.bel)
  go_wp2_with fail
  go_fit (size_any q it _ hV3 hok hs')
  rintro e w3 ⟨rfl, rfl⟩
  have hV4 := hV3.below (cells_below (w' := w3.alloc (mkBytes ((enc it).length + 8))) ((Below.refl _ _).alloc (Nat.le_refl _) _))
  go_wp2_with fail
  go_fit (marshal_any q w3.heap.size 8 ((enc it).length + 8) ((enc it).length + 8) it (List.replicate ((enc it).length + 8) 0) _ hV4 hok (buf_made w3 _) (by simp) (Nat.le_refl _) (by simp; omega) (by omega))
  rintro e w4 ⟨rfl, hW⟩
  have HA : Hid (After w w4 w3.heap.size wa (enc it)) := After.of ((HB0.out.trans (hb2.mono HB0.out.size)).trans (hN.bel.mono (Nat.le_trans HB0.out.size hb2.size))) hN.own hW
  clear hW hV4 hV3 hV hN hb2 hmk HB0 HE1 HT H4
  by_cases hz : (enc it).length = 0
  · have hz' : ((((enc it).length : Nat)) : Int) = 0 := by omega
    rw [hz]
    go_wp2_with fail
    go_loop [14] (fun i => ∃ k : Nat, k ≤ 8 ∧ i = .int .i64 k) (fun i => 8 - (intOf i).toNat)
    case atStart => exact ⟨0, Nat.zero_le _, rfl⟩
    case round =>
      obtain ⟨k, hk, rfl⟩ := hrel
      by_cases hlt : k < 8
      · have d := HA.out.low k hlt
        have hlt' : (k : Int) < 8 := by omega
        go_wp2_with fail
        go_round
        case rel => exact ⟨k + 1, by omega, by go_num⟩
        case measure => simp [intOf]; omega
      · have hk8 : k = 8 := by omega
        subst hk8
        go_wp2_with fail
        go_fit (equal_any _ _ 0 _ _ [] _ rfl (by omega) (fun h => absurd h (by simp)) (fun h => absurd h (by simp)))
        rintro e w5 ⟨rfl, d, rfl⟩
        go_wp2_with fail
        go_ret
        have hbel := HA.out.bel
        exact ⟨rfl, hbel.trans ((drewN_below _ d).mono hbel.size)⟩
  · have hL8 : ((8 : Nat) : Int) ≤ ((enc it).length : Int) + 8 := by omega
    go_wp2_with fail
    go_loop [14] (fun i => ∃ k : Nat, k ≤ 8 ∧ i = .int .i64 k) (fun i => 8 - (intOf i).toNat)
    case atStart => exact ⟨0, Nat.zero_le _, rfl⟩
    case round =>
      obtain ⟨k, hk, rfl⟩ := hrel
      by_cases hlt : k < 8
      · have d := HA.out.low k hlt
        have hlt' : (k : Int) < 8 := by omega
        have hlt2 : (k : Int) < ((enc it).length : Int) + 8 := by omega
        go_wp2_with fail
        go_round
        case rel => exact ⟨k + 1, by omega, by go_num⟩
        case measure => simp [intOf]; omega
      · have hk8 : k = 8 := by omega
        subst hk8
        go_wp2_with fail
        go_fit (equal_any _ _ (enc it).length _ _ (enc it) _ rfl (by omega) HA.out.high HA.out.want)
        rintro e w5 ⟨rfl, d, rfl⟩
        go_wp2_with fail
        go_ret
        have hbel := HA.out.bel
        exact ⟨rfl, hbel.trans ((drewN_below _ d).mono hbel.size)⟩

theorem ListAt.below {w w' : World} {q l g n : Nat} {Q : Nat → Nat} {I : Nat → Item} (h : ListAt w q l g n Q I) (hb : Below w.heap.size w w') : ListAt w' q l g n Q I := by
  obtain ⟨hu, ⟨p, h2, h3⟩, hv, hu2, heach⟩ := h
  have k := cells_below hb
  exact ⟨k _ _ hu, ⟨p, k _ _ h2, k _ _ h3⟩, k _ _ hv, k _ _ hu2, fun i hi => ⟨k _ _ (heach i hi).1, (heach i hi).2.below k⟩⟩

set_option maxHeartbeats 1000000 in
theorem buildAll_lt (a : Option Addr) (n cap : Nat) (I : Nat → Item) (w : World) (he : ItemsAt w a n I) (h4 : ∀ i, i < n → (I i).kind ≤ 4) (hnn : n ≤ 1048576) :
    Calls Try.prog 12 #[.slice a n cap] w fun e w' => ∃ g Q, e = .returned (.slice (some ⟨g, 0, none⟩) n n) ∧ w.heap.size ≤ g ∧ g < w'.heap.size ∧ ValsAt w' g n Q I ∧ Below w.heap.size w w' := by
  have hmk := make29 n hnn
  have h4' : Hid (∀ i, i < n → (I i).kind ≤ 4) := h4
  clear h4
  go_enter Try.func12, Try.ntmps12
  go_wp2
  have hinv0 : BuildInv w (w.alloc (mkPtrs n)) w.heap.size n 0 (fun _ => 0) I :=
    ⟨⟨_, RowIs.made w 27 (.pointer none) n, by simp, fun x hx => ⟨_, (List.mem_replicate.1 hx).2⟩, fun i hi => absurd hi (by omega)⟩, fun i hi => absurd hi (by omega), (Below.refl _ _).alloc (Nat.le_refl _) _⟩
  go_loopw [4] (fun i wr => ∃ k : Nat, k ≤ n ∧ i = .int .i64 k ∧ ∃ Q, BuildInv w wr w.heap.size n k Q I) (fun i _ => n - (intOf i).toNat)
  case atStart => exact ⟨0, Nat.zero_le _, rfl, _, hinv0⟩
  case round =>
    clear hinv0 hmk
    obtain ⟨k, hk, rfl, Q, hinv⟩ := hrel
    by_cases hlt : k < n
    · have hii := he.below hinv.bel
      obtain ⟨-, hc⟩ := hii
      obtain ⟨b, off, rfl, hb, hc⟩ := hc (by omega)
      obtain ⟨c0, c1, c2, c3, c4, ok⟩ := hc k hlt
      clear hc he
      go_wp2_with fail
      refine (build_any (I k) _ ok (h4'.out k hlt)).mono ?_
      rintro e w2 ⟨q, rfl, hq, hv, hb2⟩
      obtain ⟨⟨ov, hov⟩, hfr, hinv2⟩ := hinv.step hlt (Nat.le_refl _) hv hb2
      have hlt' : (k : Int) < n := by omega
      clear c0 c1 c2 c3 c4 hinv hv hb2
      go_wp2
      go_roundw
      case rel => exact ⟨k + 1, by omega, by go_num, _, hinv2⟩
      case measure => simp [intOf]; omega
    · have hkn : k = n := by omega
      subst hkn
      go_wp2
      go_ret
      obtain ⟨⟨cs, hrow, hlen, hptr, hcs⟩, hvals, hbel⟩ := hinv
      exact ⟨w.heap.size, Q, rfl, Nat.le_refl _, hrow.lt, fun i hi => ⟨by rw [hrow.cell]; exact hcs i hi, hvals i hi⟩, hbel⟩

set_option maxRecDepth 100000 in
set_option maxHeartbeats 2000000 in
theorem sizeM_list (it : Item) (a : Option Addr) (n cap : Nat) (I : Nat → Item) (w : World) (hok : ItemOk it) (he : ItemsAt w a n I) (hokI : ∀ i, i < n → ItemOk (I i)) :
    Calls Try.prog 5 #[.agg #[.int .u8 it.kind, .bool it.b, .string it.s, .int .u64 it.bits, .int .i32 it.null], .bool true, .slice a n cap, .bool false] w fun e w' => e = .returned (.bool true) ∧ Below w.heap.size w w' := by
  have s1 := hok.s1
  have k0 := hok.k0
  have k1 := hok.k1
  unfold maxLen at s1
  have HE : Hid (ItemsAt w a n I) := he
  clear he
  go_enter Try.func5, Try.ntmps5
  go_wp2_with fail
  go_fit (bytes21_any it true a n _ I false _ hok (HE.out.below ((Below.refl _ _).alloc (Nat.le_refl _) _)))
  rintro e w1 ⟨⟨r, rfl⟩, hb1⟩
  have hb0 : Below w.heap.size w w1 := ((Below.refl _ _).alloc (Nat.le_refl _) _).trans (hb1.mono (by simp))
  have hws : w.heap.size < w1.heap.size := by have := hb1.size; simp at this; omega
  have c0 := (hb1.cell (p := ⟨w.heap.size, 0, none⟩) (by simp)).trans (show _ = some (.int .u8 it.kind) by simp [go_sem])
  have c1 := (hb1.cell (p := ⟨w.heap.size, 1, none⟩) (by simp)).trans (show _ = some (.bool it.b) by simp [go_sem])
  have c2 := (hb1.cell (p := ⟨w.heap.size, 2, none⟩) (by simp)).trans (show _ = some (.string it.s) by simp [go_sem])
  have c3 := (hb1.cell (p := ⟨w.heap.size, 3, none⟩) (by simp)).trans (show _ = some (.int .u64 it.bits) by simp [go_sem])
  have c4 := (hb1.cell (p := ⟨w.heap.size, 4, none⟩) (by simp)).trans (show _ = some (.int .i32 it.null) by simp [go_sem])
  have HE1 : Hid (ItemsAt w1 a n I) := HE.out.below hb0
  have HB0 : Hid (Below w.heap.size w w1) := hb0
  clear hb1 HE hb0
  cases r with
  | false =>
    go_wp2_with fail
    go_ret
    exact ⟨rfl, HB0.out⟩
  | true =>
  by_cases hs : (1048576 : Int) < it.s.size
  · go_wp2_with fail
    go_ret
    exact ⟨rfl, HB0.out⟩
  have hs' : it.s.size ≤ 1048576 := by omega
  go_wp2_with fail
  go_fit (itemsBytes_any a n _ I it.s.size _ HE1.out (by omega))
  rintro e w1 ⟨⟨r, rfl, ht⟩, rfl⟩
  by_cases hr : 1048576 < r
  · clear ht
    go_wp2_with fail
    go_ret
    exact ⟨rfl, HB0.out⟩
  have HT : Hid (tot I n ≤ 1048576) := by have := ht (by omega); simp only [Hid]; omega
  clear ht
  by_cases h4 : (4 : Int) < it.kind
  · go_wp2_with fail
    go_ret
    exact ⟨rfl, HB0.out⟩
  go_wp2_with fail
  go_fit (kindsOK_any a n _ I _ HE1.out)
  rintro e w1 ⟨⟨r2, rfl, h4'⟩, rfl⟩
  cases r2 with
  | false =>
    clear h4'
    go_wp2_with fail
    go_ret
    exact ⟨rfl, HB0.out⟩
  | true =>
  have H4 : Hid (∀ i, i < n → (I i).kind ≤ 4) := h4' rfl
  clear h4'
  have hnn : n ≤ 1048576 := by have := tot_ge I n; have := HT.out; omega
  have hL0 : (encSeg I 0 n).length ≤ 1048576 := by have := encSeg_length I n HT.out 0 n (by omega); have := HT.out; simp at *; omega
  have hvl := vlen_pos (encSeg I 0 n).length (by omega)
  have hlen := encL_length I n
  have hel : (encL I n).length ≤ 2000000 := by omega
  have HLEN : Hid ((encL I n).length = 1 + vlen (encSeg I 0 n).length + (encSeg I 0 n).length) := hlen
  clear hvl hL0 hlen
  clear c0 c1 c2 c3 c4
  go_wp2_with fail
  go_fit (buildAll_lt a n _ I _ HE1.out H4.out hnn)
  rintro e w2 ⟨gv, Q, rfl, hgv, hgl, hVals, hb2⟩
  go_wp2_with fail
  go_fit (newList_any gv n Q I _ hVals)
  rintro e wb ⟨q, l, rfl, hq, hLA, hb3⟩
  have HE2 : Hid (ItemsAt wb a n I) := (HE1.out.below hb2).below hb3
  have HLA : Hid (ListAt wb q l gv n Q I ∧ Below w.heap.size w wb ∧ gv < wb.heap.size) := ⟨hLA, (HB0.out.trans (hb2.mono HB0.out.size)).trans (hb3.mono (Nat.le_trans HB0.out.size hb2.size)), Nat.lt_of_lt_of_le hgl hb3.size⟩
  clear hLA hVals hb2 hb3 HB0 HE1 hgl
  go_wp2_with fail
  go_fit (encValueList_any a n _ I _ HE2.out H4.out HT.out)
  rintro e w3 ⟨v, rfl, hN⟩
  have hN' : NewBytes wb w3 v (encL I n) := hN
  clear hN
  obtain ⟨wa, cp, hv, -⟩ := reads_bytes hN'.own
  subst hv
  have hmk := make_plus8 (encL I n).length (by omega)
  have hLA3 : ListAt w3 q l gv n Q I := HLA.out.1.below hN'.bel
  have hgv3 : gv < w3.heap.size := Nat.lt_of_lt_of_le HLA.out.2.2 hN'.bel.size
  have HS : Hid (∀ w, ListAt w q l gv n Q I → Calls Try.prog 13 #[.pointer (some ⟨q, 0, none⟩)] w fun e w' => e = .returned (.int .i64 (((encL I n).length : Nat) : Int)) ∧ w' = w) := fun w hw => by
    rw [HLEN.out]
    exact sizeList_any q l gv n Q I w hw hokI HT.out
  go_wp2_with fail
  go_fit (HS.out _ hLA3)
  rintro e w3 ⟨rfl, rfl⟩
  have hLA4 := hLA3.below (w' := w3.alloc (mkBytes ((encL I n).length + 8))) ((Below.refl _ _).alloc (Nat.le_refl _) _)
  go_wp2_with fail
  go_fit (marshalList_e q l w3.heap.size gv n ((encL I n).length + 8) 8 Q I (List.replicate ((encL I n).length + 8) 0) _ hLA4 (by omega) hokI HT.out (buf_made w3 _) (by simp) (by simp; omega) (by omega))
  rintro e w4 ⟨rfl, hW⟩
  have HA : Hid (After w w4 w3.heap.size wa (encL I n)) := After.of (HLA.out.2.1.trans (hN'.bel.mono HLA.out.2.1.size)) hN'.own hW
  clear hW hLA4 hLA3 hN' hmk HT H4 HLA HE2 HS
  by_cases hz : (encL I n).length = 0
  · have hz' : ((((encL I n).length : Nat)) : Int) = 0 := by omega
    rw [hz]
    go_wp2_with fail
    go_loop [14] (fun i => ∃ k : Nat, k ≤ 8 ∧ i = .int .i64 k) (fun i => 8 - (intOf i).toNat)
    case atStart => exact ⟨0, Nat.zero_le _, rfl⟩
    case round =>
      obtain ⟨k, hk, rfl⟩ := hrel
      by_cases hlt : k < 8
      · have d := HA.out.low k hlt
        have hlt' : (k : Int) < 8 := by omega
        go_wp2_with fail
        go_round
        case rel => exact ⟨k + 1, by omega, by go_num⟩
        case measure => simp [intOf]; omega
      · have hk8 : k = 8 := by omega
        subst hk8
        go_wp2_with fail
        go_fit (equal_any _ _ 0 _ _ [] _ rfl (by omega) (fun h => absurd h (by simp)) (fun h => absurd h (by simp)))
        rintro e w5 ⟨rfl, d, rfl⟩
        go_wp2_with fail
        go_ret
        have hbel := HA.out.bel
        exact ⟨rfl, hbel.trans ((drewN_below _ d).mono hbel.size)⟩
  · have hL8 : ((8 : Nat) : Int) ≤ ((encL I n).length : Int) + 8 := by omega
    go_wp2_with fail
    go_loop [14] (fun i => ∃ k : Nat, k ≤ 8 ∧ i = .int .i64 k) (fun i => 8 - (intOf i).toNat)
    case atStart => exact ⟨0, Nat.zero_le _, rfl⟩
    case round =>
      obtain ⟨k, hk, rfl⟩ := hrel
      by_cases hlt : k < 8
      · have d := HA.out.low k hlt
        have hlt' : (k : Int) < 8 := by omega
        have hlt2 : (k : Int) < ((encL I n).length : Int) + 8 := by omega
        go_wp2_with fail
        go_round
        case rel => exact ⟨k + 1, by omega, by go_num⟩
        case measure => simp [intOf]; omega
      · have hk8 : k = 8 := by omega
        subst hk8
        go_wp2_with fail
        go_fit (equal_any _ _ (encL I n).length _ _ (encL I n) _ rfl (by omega) HA.out.high HA.out.want)
        rintro e w5 ⟨rfl, d, rfl⟩
        go_wp2_with fail
        go_ret
        have hbel := HA.out.bel
        exact ⟨rfl, hbel.trans ((drewN_below _ d).mono hbel.size)⟩

end Go.Proofs.Qxb6613122a
