/-
  THE PLAIN MATHEMATICS: varints and their lengths, the protobuf form of an item, of a list. No Go in sight.
-/
import Derived.Lib.BitFns
namespace Go.Proofs.Qxb6613122a
set_option linter.unusedVariables false
set_option linter.unusedSimpArgs false

/-- Groups of seven bits, the low group first. -/
def varF : Nat → Nat → List Int
  | 0, v => [(v : Int)]
  | f + 1, v => if v < 128 then [(v : Int)] else ((v % 128 + 128 : Nat) : Int) :: varF f (v / 128)
def varint (v : Nat) : List Int := varF 9 v
/-- How many bytes. -/
def vlen (v : Nat) : Nat := (varint v).length

theorem varF_small (f v : Nat) (h : v < 128) : varF f v = [(v : Int)] := by
  cases f <;> simp [varF, h]
theorem varF_big (f v : Nat) (h : ¬ v < 128) : varF (f + 1) v = ((v % 128 + 128 : Nat) : Int) :: varF f (v / 128) := by
  simp [varF, h]
theorem varF_bytes : ∀ (f v : Nat), v < 128 ^ (f + 1) → ∀ x ∈ varF f v, 0 ≤ x ∧ x ≤ 255
  | 0, v, hv, x, h => by simp [varF] at h; omega
  | f + 1, v, hv, x, h => by
    by_cases h1 : v < 128
    · rw [varF_small _ _ h1] at h; simp at h; omega
    · rw [varF_big _ _ h1] at h
      simp at h
      rcases h with rfl | h
      · omega
      · exact varF_bytes f (v / 128) (by rw [Nat.pow_succ] at hv; omega) x h

/-- The length, by the size. -/
theorem varF_len : ∀ (f v k : Nat), k ≤ f → v < 128 ^ (k + 1) → (k = 0 ∨ 128 ^ k ≤ v) → (varF f v).length = k + 1
  | f, v, 0, _, h, _ => by rw [varF_small _ _ (by simpa using h)]; rfl
  | 0, v, k + 1, hk, _, _ => by omega
  | f + 1, v, k + 1, hk, h, h' => by
    have h2 : 128 ^ (k + 1) ≤ v := by simpa using h'
    have h3 : ¬ v < 128 := by
      have := Nat.one_le_two_pow (n := 7 * k)
      have e : 128 ^ (k + 1) = 128 * 128 ^ k := by rw [Nat.pow_succ, Nat.mul_comm]
      have : 1 ≤ 128 ^ k := Nat.one_le_pow _ _ (by omega)
      omega
    rw [varF_big _ _ h3]
    have e1 : v / 128 < 128 ^ (k + 1) := by rw [Nat.pow_succ] at h; omega
    have e2 : k = 0 ∨ 128 ^ k ≤ v / 128 := by
      right
      rw [Nat.pow_succ] at h2
      omega
    simp [varF_len f (v / 128) k (by omega) e1 e2]

theorem bitLen_bd (v : Nat) (h : v < 18446744073709551616) (L : Nat) (hL : v < 2 ^ L) : Lib.bitLen v ≤ L := by
  rcases Nat.lt_or_ge L (Lib.bitLen v) with hlt | hge
  · exfalso
    have : ∀ (f x M : Nat), x < 2 ^ M → Lib.bitLenAux f x ≤ M := by
      intro f
      induction f with
      | zero => intro x M _; simp [Lib.bitLenAux]
      | succ f ih =>
        intro x M hx
        rw [Lib.bitLenAux]
        split
        · omega
        · cases M with
          | zero => simp at hx; omega
          | succ M =>
            have := ih (x / 2) M (by rw [Nat.pow_succ] at hx; omega)
            omega
    have := this 64 v L hL
    unfold Lib.bitLen at hlt
    omega
  · exact hge

theorem bitLen_lo (v : Nat) (h : v < 18446744073709551616) (L : Nat) (hL : 2 ^ L ≤ v) : L + 1 ≤ Lib.bitLen v := by
  have : ∀ (f x M : Nat), M < f → 2 ^ M ≤ x → M + 1 ≤ Lib.bitLenAux f x := by
    intro f
    induction f with
    | zero => intro x M hM; omega
    | succ f ih =>
      intro x M hM hx
      have h1 : 1 ≤ 2 ^ M := Nat.one_le_two_pow
      rw [Lib.bitLenAux, if_neg (by omega)]
      cases M with
      | zero => omega
      | succ M =>
        have := ih (x / 2) M (by omega) (by rw [Nat.pow_succ] at hx; omega)
        omega
  refine this 64 v L ?_ hL
  rcases Nat.lt_or_ge L 64 with h1 | h1
  · exact h1
  · exfalso
    have : 2 ^ 64 ≤ 2 ^ L := Nat.pow_le_pow_right (by omega) h1
    omega

theorem vlen_range (v : Nat) (h : v < 18446744073709551616) : ∃ k, k ≤ 9 ∧ v < 128 ^ (k + 1) ∧ (k = 0 ∨ 128 ^ k ≤ v) ∧ vlen v = k + 1 := by
  have key : ∃ k, k ≤ 9 ∧ v < 128 ^ (k + 1) ∧ (k = 0 ∨ 128 ^ k ≤ v) := by
    rcases Nat.lt_or_ge v (128 ^ 1) with h1 | h1
    · exact ⟨0, by omega, by simpa using h1, .inl rfl⟩
    rcases Nat.lt_or_ge v (128 ^ 2) with h2 | h2
    · exact ⟨1, by omega, h2, .inr h1⟩
    rcases Nat.lt_or_ge v (128 ^ 3) with h3 | h3
    · exact ⟨2, by omega, h3, .inr h2⟩
    rcases Nat.lt_or_ge v (128 ^ 4) with h4 | h4
    · exact ⟨3, by omega, h4, .inr h3⟩
    rcases Nat.lt_or_ge v (128 ^ 5) with h5 | h5
    · exact ⟨4, by omega, h5, .inr h4⟩
    rcases Nat.lt_or_ge v (128 ^ 6) with h6 | h6
    · exact ⟨5, by omega, h6, .inr h5⟩
    rcases Nat.lt_or_ge v (128 ^ 7) with h7 | h7
    · exact ⟨6, by omega, h7, .inr h6⟩
    rcases Nat.lt_or_ge v (128 ^ 8) with h8 | h8
    · exact ⟨7, by omega, h8, .inr h7⟩
    rcases Nat.lt_or_ge v (128 ^ 9) with h9 | h9
    · exact ⟨8, by omega, h9, .inr h8⟩
    · exact ⟨9, by omega, by omega, .inr h9⟩
  obtain ⟨k, h1, h2, h3⟩ := key
  exact ⟨k, h1, h2, h3, varF_len 9 v k h1 h2 h3⟩

theorem pow128 (k : Nat) : 128 ^ k = 2 ^ (7 * k) := by
  rw [Nat.pow_mul]

/-- SizeVarint's formula. -/
theorem vlen_formula (v : Nat) (h : v < 18446744073709551616) : (9 * Lib.bitLen v + 64) / 64 = vlen v := by
  obtain ⟨k, h1, h2, h3, h4⟩ := vlen_range v h
  rw [h4]
  have hb : Lib.bitLen v ≤ 7 * (k + 1) := bitLen_bd v h _ (by rw [← pow128]; exact h2)
  have hc : Lib.bitLen v ≤ 64 := bitLen_bd v h 64 (by omega)
  rcases h3 with rfl | h3
  · omega
  · have ha : 7 * k + 1 ≤ Lib.bitLen v := bitLen_lo v h _ (by rw [← pow128]; exact h3)
    omega

theorem vlen_pos (v : Nat) (h : v < 18446744073709551616) : 1 ≤ vlen v ∧ vlen v ≤ 10 := by
  obtain ⟨k, h1, h2, h3, h4⟩ := vlen_range v h
  omega

theorem vlen_mono (u v : Nat) (huv : u ≤ v) (h : v < 18446744073709551616) : vlen u ≤ vlen v := by
  obtain ⟨k, h1, h2, h3, h4⟩ := vlen_range u (by omega)
  obtain ⟨j, g1, g2, g3, g4⟩ := vlen_range v h
  rcases Nat.lt_or_ge j k with hlt | hge
  · exfalso
    rcases h3 with rfl | h3
    · omega
    · have : 128 ^ (j + 1) ≤ 128 ^ k := Nat.pow_le_pow_right (by omega) (by omega)
      omega
  · omega

theorem vlen_small (v : Nat) (h : v < 2097152) : vlen v ≤ 3 := by
  obtain ⟨k, h1, h2, h3, h4⟩ := vlen_range v (by omega)
  rcases Nat.lt_or_ge 2 k with hlt | hge
  · exfalso
    rcases h3 with rfl | h3
    · omega
    · have : 128 ^ 3 ≤ 128 ^ k := Nat.pow_le_pow_right (by omega) (by omega)
      omega
  · omega

/-! ### Items -/

structure Item where
  kind : Int
  b : Bool
  s : ByteArray
  bits : Int
  null : Int

def u64 (n : Int) : Nat := (n % 18446744073709551616).toNat

def le8 : Nat → Nat → List Int
  | 0, _ => []
  | k + 1, u => ((u % 256 : Nat) : Int) :: le8 k (u / 256)

def sbytes (s : ByteArray) : List Int := s.data.toList.map (fun c => (c.toNat : Int))

def enc (it : Item) : List Int :=
  if it.kind = 1 then 8 :: varint (u64 it.null)
  else if it.kind = 2 then 17 :: le8 8 it.bits.toNat
  else if it.kind = 3 then 26 :: (varint it.s.size ++ sbytes it.s)
  else if it.kind = 4 then [32, if it.b then 1 else 0]
  else []

/-- One record of a list. -/
def rcd (it : Item) : List Int := 10 :: (varint (enc it).length ++ enc it)

/-- The records of the items j, j + 1, .., j + m - 1. -/
def encSeg (I : Nat → Item) (j : Nat) : Nat → List Int
  | 0 => []
  | m + 1 => encSeg I j m ++ rcd (I (j + m))

def tot (I : Nat → Item) : Nat → Nat
  | 0 => 0
  | k + 1 => tot I k + (48 + (I k).s.size)

theorem u64_lt (n : Int) : u64 n < 18446744073709551616 := by unfold u64; omega

theorem le8_length : ∀ k u, (le8 k u).length = k
  | 0, _ => rfl
  | k + 1, u => by simp [le8, le8_length k]

theorem sbytes_length (s : ByteArray) : (sbytes s).length = s.size := by simp [sbytes]

theorem varint_length (v : Nat) : (varint v).length = vlen v := rfl

theorem enc_length (it : Item) (hs : it.s.size ≤ 1048576) : (enc it).length ≤ 11 + it.s.size := by
  unfold enc
  split
  · have := vlen_pos (u64 it.null) (u64_lt _)
    simp [varint_length]; omega
  split
  · simp [le8_length]; omega
  split
  · have := vlen_small it.s.size (by omega)
    simp [varint_length, sbytes_length]; omega
  split
  · simp; omega
  · simp

theorem rcd_length (it : Item) (hs : it.s.size ≤ 1048576) : (rcd it).length ≤ 15 + it.s.size := by
  have h1 := enc_length it hs
  have h2 := vlen_small (enc it).length (by omega)
  simp [rcd, varint_length]; omega

theorem rcd_eq_length (it : Item) : (rcd it).length = 1 + vlen (enc it).length + (enc it).length := by
  simp [rcd, varint_length]; omega

theorem tot_mono (I : Nat → Item) : ∀ n k, k ≤ n → tot I k ≤ tot I n
  | 0, k, h => by have : k = 0 := by omega
                  subst this; exact Nat.le_refl _
  | n + 1, k, h => by
    rcases Nat.lt_or_ge k (n + 1) with h1 | h1
    · have := tot_mono I n k (by omega)
      simp only [tot]; omega
    · have : k = n + 1 := by omega
      subst this; exact Nat.le_refl _

theorem tot_item (I : Nat → Item) (n k : Nat) (h : k < n) : 48 + (I k).s.size ≤ tot I n := by
  have := tot_mono I n (k + 1) h
  simp only [tot] at this
  omega

theorem tot_ge (I : Nat → Item) : ∀ n, 48 * n ≤ tot I n
  | 0 => by simp [tot]
  | n + 1 => by have := tot_ge I n; simp only [tot]; omega

theorem encSeg_length (I : Nat → Item) (n : Nat) (hn : tot I n ≤ 1048576) : ∀ j m, j + m ≤ n → (encSeg I j m).length + tot I j ≤ tot I (j + m)
  | j, 0, _ => by simp [encSeg]
  | j, m + 1, h => by
    have h1 := encSeg_length I n hn j m (by omega)
    have h2 := tot_item I n (j + m) (by omega)
    have h3 := rcd_length (I (j + m)) (by omega)
    rw [show j + (m + 1) = (j + m) + 1 from rfl]
    simp only [encSeg, List.length_append, tot]
    omega

theorem encSeg_front (I : Nat → Item) : ∀ j m, encSeg I j (m + 1) = rcd (I j) ++ encSeg I (j + 1) m
  | j, 0 => by simp [encSeg]
  | j, m + 1 => by
    rw [encSeg, encSeg_front I j m, encSeg, List.append_assoc, show j + (m + 1) = j + 1 + m by omega]

theorem encSeg_shift (I : Nat → Item) (d : Nat) : ∀ j m, encSeg (fun i => I (d + i)) j m = encSeg I (d + j) m
  | j, 0 => rfl
  | j, m + 1 => by simp only [encSeg, encSeg_shift I d j m, Nat.add_assoc]

theorem encSeg_cut (I : Nat → Item) (j k : Nat) : ∀ m, encSeg I j (k + m) = encSeg I j k ++ encSeg I (j + k) m
  | 0 => by simp [encSeg]
  | m + 1 => by rw [← Nat.add_assoc, encSeg, encSeg_cut I j k m, encSeg, List.append_assoc, Nat.add_assoc]

end Go.Proofs.Qxb6613122a
