/-
  THE WALK of FnGetBoolValueAgreesWithEncoding.
-/
import Derived.Test.Qxb6613122aWalkH
namespace Go.Proofs.Qxb6613122a
open Go.RowKit
set_option linter.unusedSimpArgs false
set_option linter.unusedVariables false

theorem mid_all (xs : List Int) : mid (List.replicate xs.length 0) 0 xs = xs := by simp [mid]

theorem reads_buf {w : World} {g : Nat} {bs : List Int} (h : Buf w g bs) : Reads w (some ⟨g, 0, none⟩) bs := fun _ =>
  ⟨g, 0, rfl, fun j hj => by rw [Nat.zero_add]; exact h.cell hj⟩

theorem reads_bytes {w : World} {v : Value} {bs : List Int} (h : Bytes w v bs) : ∃ a c, v = .slice a bs.length c ∧ Reads w a bs := by
  rcases h.value with ⟨h1, h2⟩ | ⟨g, cp, h1, _, h3⟩
  · exact ⟨none, 0, by rw [h1, h2]; rfl, fun h0 => by rw [h2] at h0; simp at h0⟩
  · exact ⟨_, cp, h1, fun _ => ⟨g, 0, rfl, fun j hj => by rw [Nat.zero_add]; exact h3 j _ (by simp [hj])⟩⟩

theorem enc_two (it : Item) (h : (enc it).length = 2) (x y : Int) (he : enc it = [x, y]) : (x = 32 ∧ it.kind = 4 ∧ y = bb it.b) ∨ (x ≠ 32 ∧ it.kind ≠ 4) := by
  unfold enc at he
  split at he
  · rename_i hk; right; simp at he; exact ⟨by omega, by omega⟩
  split at he
  · rename_i hk; right; simp at he; exact ⟨by omega, by omega⟩
  split at he
  · rename_i hk; right; simp at he; exact ⟨by omega, by omega⟩
  split at he
  · rename_i hk; left; simp at he; exact ⟨he.1.symm, hk, he.2.symm⟩
  · simp at he

theorem drewN_below (w : World) (d : Nat) : Below w.heap.size w (w.drewN d) := ⟨rfl, rfl, rfl, Nat.le_refl _, fun _ _ => rfl⟩

theorem drewN_cell (w : World) (d : Nat) (a : Addr) : (w.drewN d).cell? a = w.cell? a := rfl

set_option maxRecDepth 100000 in
set_option maxHeartbeats 2000000 in
theorem getb_nil (it : Item) (w : World) (hok : ItemOk it) :
    Calls Try.prog 4 #[.agg #[.int .u8 it.kind, .bool it.b, .string it.s, .int .u64 it.bits, .int .i32 it.null], .bool true] w fun e w' => e = .returned (.bool true) ∧ Below w.heap.size w w' := by
  have s1 := hok.s1
  have k0 := hok.k0
  have k1 := hok.k1
  unfold maxLen at s1
  have hmk : ∀ w : World, (Instr.makeSlice 32 (.int .i64 0) (.int .i64 0)).run Try.prog w = .ok (.slice (some ⟨w.heap.size, 0, none⟩) 0 0) (w.alloc (mkBytes 0)) := fun w => make32 0 (by omega) w
  go_enter Try.func4, Try.ntmps4
  go_wp2_with fail
  go_fit (bytes15_any it true _ hok)
  rintro e w1 ⟨⟨r, rfl⟩, hb1⟩
  have hb0 : Below w.heap.size w w1 := ((Below.refl _ _).alloc (Nat.le_refl _) _).trans (hb1.mono (by simp))
  have c0 := (hb1.cell (p := ⟨w.heap.size, 0, none⟩) (by simp)).trans (show _ = some (.int .u8 it.kind) by simp [go_sem])
  have c2 := (hb1.cell (p := ⟨w.heap.size, 2, none⟩) (by simp)).trans (show _ = some (.string it.s) by simp [go_sem])
  cases r with
  | false =>
    go_wp2_with fail
    go_ret
    exact ⟨rfl, hb0⟩
  | true =>
  by_cases hs : (1048576 : Int) < it.s.size
  · go_wp2_with fail
    go_ret
    exact ⟨rfl, hb0⟩
  by_cases h4 : (4 : Int) < it.kind
  · go_wp2_with fail
    go_ret
    exact ⟨rfl, hb0⟩
  go_wp2_with fail
  go_fit (marshal_nil _ _ _ _)
  rintro e w2 ⟨rfl, rfl⟩
  go_wp2_with fail
  go_fit (equal_any _ _ 0 _ _ [] _ rfl (by omega) (fun h => absurd h (by simp)) (fun h => absurd h (by simp)))
  rintro e w3 ⟨rfl, d, rfl⟩
  go_wp2_with fail
  go_fit (getBool_nil _)
  rintro e w4 ⟨rfl, rfl⟩
  go_wp2_with fail
  go_ret
  refine ⟨rfl, ?_⟩
  have h1 : Below w.heap.size w (w1.alloc (mkBytes 0)) := hb0.alloc hb0.size _
  exact h1.trans ((drewN_below _ d).mono h1.size)

set_option maxRecDepth 100000 in
set_option maxHeartbeats 2000000 in
theorem getb_some (it : Item) (w : World) (hok : ItemOk it) :
    Calls Try.prog 4 #[.agg #[.int .u8 it.kind, .bool it.b, .string it.s, .int .u64 it.bits, .int .i32 it.null], .bool false] w fun e w' => e = .returned (.bool true) ∧ Below w.heap.size w w' := by
  have s1 := hok.s1
  have k0 := hok.k0
  have k1 := hok.k1
  unfold maxLen at s1
  go_enter Try.func4, Try.ntmps4
  go_wp2_with fail
  go_fit (bytes15_any it false _ hok)
  rintro e w1 ⟨⟨r, rfl⟩, hb1⟩
  have hb0 : Below w.heap.size w w1 := ((Below.refl _ _).alloc (Nat.le_refl _) _).trans (hb1.mono (by simp))
  have hws : w.heap.size < w1.heap.size := by have := hb1.size; simp at this; omega
  have c0 := (hb1.cell (p := ⟨w.heap.size, 0, none⟩) (by simp)).trans (show _ = some (.int .u8 it.kind) by simp [go_sem])
  have c1 := (hb1.cell (p := ⟨w.heap.size, 1, none⟩) (by simp)).trans (show _ = some (.bool it.b) by simp [go_sem])
  have c2 := (hb1.cell (p := ⟨w.heap.size, 2, none⟩) (by simp)).trans (show _ = some (.string it.s) by simp [go_sem])
  have c3 := (hb1.cell (p := ⟨w.heap.size, 3, none⟩) (by simp)).trans (show _ = some (.int .u64 it.bits) by simp [go_sem])
  have c4 := (hb1.cell (p := ⟨w.heap.size, 4, none⟩) (by simp)).trans (show _ = some (.int .i32 it.null) by simp [go_sem])
  cases r with
  | false =>
    go_wp2_with fail
    go_ret
    exact ⟨rfl, hb0⟩
  | true =>
  by_cases hs : (1048576 : Int) < it.s.size
  · go_wp2_with fail
    go_ret
    exact ⟨rfl, hb0⟩
  by_cases h4 : (4 : Int) < it.kind
  · go_wp2_with fail
    go_ret
    exact ⟨rfl, hb0⟩
  have hs' : it.s.size ≤ 1048576 := by omega
  have hel := enc_length it hs'
  go_wp2_with fail
  go_fit (build_any it _ hok (by omega))
  rintro e w2 ⟨q, rfl, hq, hV, hb2⟩
  have d0 := cells_below hb2 _ _ c0
  have d1 := cells_below hb2 _ _ c1
  have d2 := cells_below hb2 _ _ c2
  have d3 := cells_below hb2 _ _ c3
  have d4 := cells_below hb2 _ _ c4
  clear c0 c1 c2 c3 c4
  go_wp2_with fail
  go_fit (encItem_any it _ hok (by omega) hs')
  rintro e w3 ⟨v, rfl, hN⟩
  obtain ⟨a, cp, hv, -⟩ := reads_bytes hN.own
  subst hv
  have hmk := make32 (enc it).length (by omega)
  clear d0 d1 d2 d3 d4
  go_wp2_with fail
  have hV3 := (hV.below (cells_below hN.bel)).below (cells_below (w' := w3.alloc (mkBytes (enc it).length)) ((Below.refl _ _).alloc (Nat.le_refl _) _))
  go_fit (marshal_any q w3.heap.size 0 (enc it).length (enc it).length it (List.replicate (enc it).length 0) _ hV3 hok (buf_made w3 _) (by simp) (Nat.le_refl _) (by simp; omega) (by omega))
  rintro e w4 ⟨rfl, hW⟩
  rw [mid_all] at hW
  go_wp2_with fail
  have hown4 : Bytes w4 (.slice a (enc it).length cp) (enc it) := by
    refine (hN.own.alloc (mkBytes (enc it).length)).kept hW.gr ?_
    cases hob : Value.ownBlock (.slice a (enc it).length cp) with
    | none => exact Or.inl rfl
    | some k =>
      right
      intro h1
      have := hN.own.lt k hob
      simp at h1
      omega
  have hR2 : Reads w4 a (enc it) := by
    obtain ⟨a', c', hv', hr⟩ := reads_bytes hown4
    injection hv' with e1
    rw [e1]
    exact hr
  go_fit (equal_any _ _ (enc it).length _ _ (enc it) _ rfl (by omega) (reads_buf hW.buf) hR2)
  rintro e w5 ⟨rfl, d, rfl⟩
  have hV4 : ValAt (w4.drewN d) q it := (hV3.buf (buf_made w3 _) hW.gr).below (cells_below (drewN_below _ d))
  have hbel : Below w.heap.size w (w4.drewN d) := by
    have h1 : Below w.heap.size w w3 := (hb0.trans (hb2.mono hb0.size)).trans (hN.bel.mono (Nat.le_trans hb0.size hb2.size))
    have h2 : Below w.heap.size w (w3.alloc (mkBytes (enc it).length)) := h1.alloc h1.size _
    have h3 : Below w.heap.size w w4 := h2.trans ⟨hW.gr.os, hW.gr.tape, hW.gr.output, hW.gr.size, fun k hk => hW.gr.block k (by have := h2.size; omega) (by have := h1.size; simp; omega)⟩
    exact h3.trans ((drewN_below _ d).mono h3.size)
  have HB : Hid (Below w.heap.size w (w4.drewN d)) := hbel
  by_cases hL : (enc it).length = 2
  · obtain ⟨x, y, hxy⟩ : ∃ x y, enc it = [x, y] := by
      match h : enc it, hL with
      | [x, y], _ => exact ⟨x, y, rfl⟩
    have b0 : (w4.drewN d).cell? ⟨w3.heap.size, 0, none⟩ = some (.int .u8 x) := by
      have := hW.buf.cell (j := 0) (by omega)
      simp only [hxy] at this
      exact this
    have b1 : (w4.drewN d).cell? ⟨w3.heap.size, 1, none⟩ = some (.int .u8 y) := by
      have := hW.buf.cell (j := 1) (by omega)
      simp only [hxy] at this
      exact this
    have htwo := enc_two it hL x y hxy
    have hL' : (((enc it).length : Nat) : Int) = 2 := by omega
    clear hxy hown4 hR2 hW hN hV3 hbel hV hb0 hb1 hb2 hmk
    rcases htwo with ⟨rfl, hk, hy⟩ | ⟨hx, hk⟩
    · cases hb : it.b with
      | true =>
        have hy1 : y = 1 := by rw [hy, hb]; rfl
        have HG : Hid (gb it = true) := by simp [Hid, gb, hk, hb]
        subst hy1
        clear hy hb hk
        go_wp2_with fail
        go_fit (getBool_any q it _ hV4)
        rintro e w6 ⟨rfl, rfl⟩
        rw [HG.out]
        go_wp2_with fail
        go_ret
        exact ⟨rfl, HB.out⟩
      | false =>
        have hy1 : y = 0 := by rw [hy, hb]; rfl
        have HG : Hid (gb it = false) := by simp [Hid, gb, hk, hb]
        subst hy1
        clear hy hb hk
        go_wp2_with fail
        go_fit (getBool_any q it _ hV4)
        rintro e w6 ⟨rfl, rfl⟩
        rw [HG.out]
        go_wp2_with fail
        go_ret
        exact ⟨rfl, HB.out⟩
    · have hg : gb it = false := by simp [gb, hk]
      have HG : Hid (gb it = false) := hg
      have hx' : (x == 32) = false := by simp [hx]
      clear hg hx hk
      go_wp2_with fail
      go_fit (getBool_any q it _ hV4)
      rintro e w6 ⟨rfl, rfl⟩
      rw [HG.out]
      go_wp2_with fail
      go_ret
      exact ⟨rfl, HB.out⟩
  · have hk : it.kind ≠ 4 := fun hk => hL (by simp [enc, hk])
    have hg : gb it = false := by simp [gb, hk]
    have HG : Hid (gb it = false) := hg
    have hL' : ((((enc it).length : Nat) : Int) == 2) = false := by simp; omega
    clear hown4 hR2 hW hN hV3 hbel hV hb0 hb1 hb2 hmk hg hk hL
    go_wp2_with fail
    go_fit (getBool_any q it _ hV4)
    rintro e w6 ⟨rfl, rfl⟩
    rw [HG.out]
    go_wp2_with fail
    go_ret
    exact ⟨rfl, HB.out⟩
end Go.Proofs.Qxb6613122a
