/-
  A MAP OF TYPE map[any]any WHOSE KEYS ARE int64 VALUES AND WHOSE ELEMENTS ARE STRINGS: what a look-up and a store do to it.
-/
import Derived.Test.Qxb6613079aRows
import Derived.WalkKit
import Derived.WalkSpells
import Derived.WalkLawsBesides
namespace Go.Proofs.Qxb6613079a
open Go.RowKit
set_option linter.unusedSimpArgs false
set_option linter.unusedVariables false

/-- The key of an int64 label; the element of a text. -/
abbrev kk (l : Int) : Value := .iface 2 (.int .i64 l)
abbrev vv (s : ByteArray) : Value := .iface 9 (.string s)

def lookE : List MapEntry → Int → Option ByteArray
  | [], _ => none
  | e :: es, l => match e.key, e.val with
    | .iface _ (.int _ a), .iface _ (.string s) => if a = l then some s else lookE es l
    | _, _ => lookE es l

def EntsOk (es : List MapEntry) : Prop := ∀ e ∈ es, ∃ l s, e.key = kk l ∧ e.val = vv s

def MapIs (w : World) (r : Nat) (g : Int → Option ByteArray) : Prop :=
  ∃ es clock, w.heap[r]? = some (.map es clock) ∧ EntsOk es.toList ∧ ∀ l, lookE es.toList l = g l

theorem lookE_cons {e : MapEntry} {a : Int} {s : ByteArray} (hk : e.key = kk a) (hv : e.val = vv s) (es : List MapEntry) (l : Int) : lookE (e :: es) l = if a = l then some s else lookE es l := by
  simp [lookE, hk, hv]

theorem lookE_push {e : MapEntry} {a : Int} {s : ByteArray} (hk : e.key = kk a) (hv : e.val = vv s) : ∀ (es : List MapEntry), EntsOk es → lookE es a = none → ∀ l, lookE (es ++ [e]) l = if l = a then some s else lookE es l
  | [], _, _, l => by
    rw [List.nil_append, lookE_cons hk hv]
    by_cases h : a = l
    · simp [h]
    · simp [h, Ne.symm h, lookE]
  | x :: es, hok, hn, l => by
    obtain ⟨b, t, hxk, hxv⟩ := hok x (by simp)
    rw [lookE_cons hxk hxv] at hn
    have hba : ¬ b = a := fun h => by simp [h] at hn
    rw [if_neg hba] at hn
    rw [List.cons_append, lookE_cons hxk hxv, lookE_cons hxk hxv, lookE_push hk hv es (fun y hy => hok y (by simp [hy])) hn l]
    by_cases h1 : b = l
    · subst h1; simp [hba]
    · simp [h1]

theorem eqIface {P : Program} (w : World) (d : Nat) {ti tn : TypeId} {ms : Array (String × TypeId)} {i : TypeInfo} {k : IntKind} (a b : Int)
    (hi : P.underlying ti = some (.interface ms)) (hn : P.underlying tn = some (.int k)) (hinfo : P.info? tn = some i) (hcomp : i.comparable = true) :
    (Op.equalIn (d + 2) ti (.iface tn (.int k a)) (.iface tn (.int k b))).run P w = .ok (a == b) w := by
  simp [Op.equalIn, run_underlying hi, run_underlying hn, typeInfo, hinfo, hcomp]

theorem checkIface {P : Program} (w : World) (em : Bool) (d : Nat) {ti tn : TypeId} {ms : Array (String × TypeId)} {i : TypeInfo} {k : IntKind} (a : Int)
    (hi : P.underlying ti = some (.interface ms)) (hn : P.underlying tn = some (.int k)) (hinfo : P.info? tn = some i) (hcomp : i.comparable = true) :
    (Instr.checkKey em (d + 2) ti (.iface tn (.int k a))).run P w = .ok () w := by
  simp [Instr.checkKey, run_underlying hi, run_underlying hn, typeInfo, hinfo, hcomp]

theorem equal_kk (w : World) (a b : Int) : (Op.equal 20 (kk a) (kk b)).run Try.prog w = .ok (a == b) w := by
  have hi : Try.prog.underlying 20 = some (.interface #[]) := by kernel_rfl
  have hn : Try.prog.underlying 2 = some (.int .i64) := by kernel_rfl
  obtain ⟨i, hinfo, hcomp⟩ : ∃ i, Try.prog.info? 2 = some i ∧ i.comparable = true := ⟨_, rfl, by kernel_rfl⟩
  exact eqIface w 9998 a b hi hn hinfo hcomp

theorem check_kk (w : World) (em : Bool) (a : Int) : (Instr.checkKey em 10000 20 (kk a)).run Try.prog w = .ok () w := by
  have hi : Try.prog.underlying 20 = some (.interface #[]) := by kernel_rfl
  have hn : Try.prog.underlying 2 = some (.int .i64) := by kernel_rfl
  obtain ⟨i, hinfo, hcomp⟩ : ∃ i, Try.prog.info? 2 = some i ∧ i.comparable = true := ⟨_, rfl, by kernel_rfl⟩
  exact checkIface w em 9998 a hi hn hinfo hcomp

theorem stays_kk (w : World) (a : Int) : (Instr.keyThatStays (kk a) (kk a)).run Try.prog w = .ok (kk a) w := by
  simp [Instr.keyThatStays, Instr.sameBits]

theorem asking (w : World) (l : Int) : ∀ (es : List MapEntry) (i : Nat), EntsOk es →
    (lookE es l = none ∧ (Instr.findAsking 20 (kk l) es i).run Try.prog w = .ok none w) ∨
    ∃ j s e, lookE es l = some s ∧ (Instr.findAsking 20 (kk l) es i).run Try.prog w = .ok (some (i + j, vv s)) w ∧ es[j]? = some e ∧ e.key = kk l ∧
      ∀ e' s', e'.key = kk l → e'.val = vv s' → EntsOk (es.set j e') ∧ ∀ l', lookE (es.set j e') l' = if l' = l then some s' else lookE es l'
  | [], i, _ => Or.inl ⟨rfl, by simp [Instr.findAsking]⟩
  | e :: es, i, hok => by
    obtain ⟨b, t, hk, hv⟩ := hok e (by simp)
    have hok' : EntsOk es := fun y hy => hok y (by simp [hy])
    by_cases hb : b = l
    · subst hb
      right
      refine ⟨0, t, e, by rw [lookE_cons hk hv]; simp, by simp [Instr.findAsking, hk, equal_kk, hv], rfl, hk, fun e' s' hk' hv' => ⟨?_, fun l' => ?_⟩⟩
      · intro y hy
        simp at hy
        rcases hy with rfl | hy
        · exact ⟨_, _, hk', hv'⟩
        · exact hok' y hy
      · rw [List.set_cons_zero, lookE_cons hk' hv', lookE_cons hk hv]
        by_cases h : b = l'
        · simp [h]
        · simp [h, Ne.symm h]
    · have hne : (l == b) = false := by simp [Ne.symm hb]
      rcases asking w l es (i + 1) hok' with ⟨h1, h2⟩ | ⟨j, s, e0, h1, h2, h3, h4, h5⟩
      · left
        exact ⟨by rw [lookE_cons hk hv, if_neg hb]; exact h1, by simp [Instr.findAsking, hk, equal_kk, hne, h2]⟩
      · right
        refine ⟨j + 1, s, e0, by rw [lookE_cons hk hv, if_neg hb]; exact h1, by simp [Instr.findAsking, hk, equal_kk, hne, h2, Nat.add_assoc, Nat.add_comm 1 j], by simpa using h3, h4, fun e' s' hk' hv' => ?_⟩
        obtain ⟨g1, g2⟩ := h5 e' s' hk' hv'
        refine ⟨?_, fun l' => ?_⟩
        · intro y hy
          simp at hy
          rcases hy with rfl | hy
          · exact ⟨_, _, hk, hv⟩
          · exact g1 y hy
        · rw [List.set_cons_succ, lookE_cons hk hv, g2 l', lookE_cons hk hv]
          by_cases h : b = l'
          · subst h; simp [hb]
          · simp [h]

theorem find_kk (w : World) (l : Int) (es : List MapEntry) (hok : EntsOk es) :
    (lookE es l = none ∧ (Instr.findKey 20 (kk l) es).run Try.prog w = .ok none w) ∨
    ∃ j s e, lookE es l = some s ∧ (Instr.findKey 20 (kk l) es).run Try.prog w = .ok (some (j, vv s)) w ∧ es[j]? = some e ∧ e.key = kk l ∧
      ∀ e' s', e'.key = kk l → e'.val = vv s' → EntsOk (es.set j e') ∧ ∀ l', lookE (es.set j e') l' = if l' = l then some s' else lookE es l' := by
  have hi : Try.prog.underlying 20 = some (.interface #[]) := by kernel_rfl
  have hrun : (Instr.findKey 20 (kk l) es).run Try.prog w = (Instr.findAsking 20 (kk l) es 0).run Try.prog w := by
    cases es with
    | nil => simp [Instr.findKey, run_underlying hi, Instr.findNow, Instr.findAsking]
    | cons e es => simp [Instr.findKey, run_underlying hi, Instr.findNow, Instr.sameNow]
  rw [hrun]
  rcases asking w l es 0 hok with h | ⟨j, s, e, h⟩
  · exact Or.inl h
  · exact Or.inr ⟨j, s, e, by simpa using h⟩

/-- 'v, ok := h[label]'. -/
theorem look_some {w : World} {r : Nat} {g : Int → Option ByteArray} (h : MapIs w r g) {l : Int} {s : ByteArray} (hg : g l = some s) :
    (Instr.lookup 42 (.map (some r)) (.iface 2 (.int .i64 l)) true).run Try.prog w = .ok (.tuple #[.iface 9 (.string s), .bool true]) w := by
  obtain ⟨es, clock, hr, hok, hl⟩ := h
  have hm : Try.prog.underlying 42 = some (.map 20 20) := by kernel_rfl
  rcases find_kk w l es.toList hok with ⟨h1, h2⟩ | ⟨j, s', e, h1, h2, _⟩
  · rw [hl, hg] at h1; cases h1
  · rw [hl, hg] at h1; cases h1
    simp [Instr.lookup, run_underlying hm, MapKept.run_getObj_map hr, MapKept.run_setObj_map _ hr, check_kk, h2]

theorem look_none {w : World} {r : Nat} {g : Int → Option ByteArray} (h : MapIs w r g) {l : Int} (hg : g l = none) :
    (Instr.lookup 42 (.map (some r)) (.iface 2 (.int .i64 l)) true).run Try.prog w = .ok (.tuple #[.nilIface, .bool false]) w := by
  obtain ⟨es, clock, hr, hok, hl⟩ := h
  have hm : Try.prog.underlying 42 = some (.map 20 20) := by kernel_rfl
  have hz : (zeroValue 20).run Try.prog w = .ok .nilIface w := by kernel_rfl
  rcases find_kk w l es.toList hok with ⟨h1, h2⟩ | ⟨j, s', e, h1, h2, _⟩
  · simp [Instr.lookup, run_underlying hm, MapKept.run_getObj_map hr, MapKept.run_setObj_map _ hr, check_kk, h2, hz]
  · rw [hl, hg] at h1; cases h1

def upd (g : Int → Option ByteArray) (l : Int) (s : ByteArray) : Int → Option ByteArray := fun l' => if l' = l then some s else g l'

def setB (w : World) (r : Nat) (o : Obj) : World := { w with heap := w.heap.setIfInBounds r o }

/-- 'h[label] = text'. -/
theorem store_kk {w : World} {r : Nat} {g : Int → Option ByteArray} (h : MapIs w r g) (l : Int) (s : ByteArray) :
    ∃ o, (Instr.mapUpdate 42 (.map (some r)) (.iface 2 (.int .i64 l)) (.iface 9 (.string s))).run Try.prog w = .ok () (setB w r o) ∧ MapIs (setB w r o) r (upd g l s) := by
  obtain ⟨es, clock, hr, hok, hl⟩ := h
  have hm : Try.prog.underlying 42 = some (.map 20 20) := by kernel_rfl
  have hlt : r < w.heap.size := (Array.getElem?_eq_some_iff.1 hr).1
  rcases find_kk w l es.toList hok with ⟨h1, h2⟩ | ⟨j, s', e, h1, h2, h3, h4, h5⟩
  · refine ⟨.map (es.push { key := kk l, val := vv s, born := clock }) (clock + 1), ?_, _, _, by simp [setB, hlt]; exact ⟨rfl, rfl⟩, ?_, ?_⟩
    · simp [Instr.mapUpdate, run_underlying hm, MapKept.run_getObj_map hr, MapKept.run_setObj_map _ hr, check_kk, h2, setB]
    · intro y hy
      simp at hy
      rcases hy with hy | rfl
      · exact hok y (by simpa using hy)
      · exact ⟨_, _, rfl, rfl⟩
    · intro l'
      rw [Array.toList_push, lookE_push (a := l) (s := s) rfl rfl _ hok h1, hl, upd]
  · obtain ⟨g1, g2⟩ := h5 { e with key := kk l, val := vv s } s rfl rfl
    have h3' : es[j]? = some e := by simpa using h3
    have hmod : (es.modify j fun e => { e with key := kk l, val := vv s }).toList = es.toList.set j { e with key := kk l, val := vv s } := by
      rw [Array.toList_modify]
      apply List.ext_getElem?
      intro n
      rw [List.getElem?_modify, List.getElem?_set]
      by_cases hn : j = n
      · subst hn
        have : j < es.toList.length := (List.getElem?_eq_some_iff.1 h3).1
        simp [h3', this]
        simpa using this
      · simp [hn]
    refine ⟨.map (es.modify j fun e => { e with key := kk l, val := vv s }) clock, ?_, _, _, by simp [setB, hlt]; exact ⟨rfl, rfl⟩, ?_, ?_⟩
    · simp [Instr.mapUpdate, run_underlying hm, MapKept.run_getObj_map hr, MapKept.run_setObj_map _ hr, check_kk, h2, setB, h3', h4, stays_kk]
    · rw [hmod]; exact g1
    · intro l'
      rw [hmod, g2, hl, upd]

theorem MapIs.other {w : World} {r r' : Nat} {o : Obj} {g : Int → Option ByteArray} (h : MapIs w r g) (hne : r ≠ r') : MapIs (setB w r' o) r g := by
  obtain ⟨es, clock, hr, rest⟩ := h
  exact ⟨es, clock, by simp [setB, Array.getElem?_setIfInBounds, Ne.symm hne, hr], rest⟩

theorem MapIs.lt {w : World} {r : Nat} {g : Int → Option ByteArray} (h : MapIs w r g) : r < w.heap.size := by
  obtain ⟨es, clock, hr, _⟩ := h
  exact (Array.getElem?_eq_some_iff.1 hr).1

theorem below_setB {w : World} {r B : Nat} (o : Obj) (hB : B ≤ r) : Below B w (setB w r o) :=
  ⟨rfl, rfl, rfl, by simp [setB], fun k hk => by simp [setB, Array.getElem?_setIfInBounds]; intro h; omega⟩

end Go.Proofs.Qxb6613079a
