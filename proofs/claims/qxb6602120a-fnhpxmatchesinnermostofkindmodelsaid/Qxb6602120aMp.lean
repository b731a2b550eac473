import Derived.Test.Qxb6602120aMs
import Derived.WideMake
import Derived.Carry
namespace Go.Proofs.Qxb6602120a
open Go.RowKit

/-- One entry: key, value, when it was born. -/
abbrev Ent := Int × Int × Nat
def mk (e : Ent) : MapEntry := ⟨.int .u8 e.1, .int .i64 e.2.1, e.2.2⟩
def ents (l : List Ent) : Array MapEntry := (l.map mk).toArray

def look (k : Int) : List Ent → Nat → Option (Nat × Int)
  | [], _ => none
  | e :: l, i => if k == e.1 then some (i, e.2.1) else look k l (i + 1)

abbrev Mp := List Ent × Nat
def put (m : Mp) (k v : Int) : Mp := match look k m.1 0 with
  | some (i, _) => (m.1.modify i (fun e => (k, v, e.2.2)), m.2)
  | none => (m.1 ++ [(k, v, m.2)], m.2 + 1)
def getV (m : Mp) (k : Int) : Int := ((look k m.1 0).map (·.2)).getD 0

/-- Block b holds the map m. -/
def MapAt (w : World) (b : Nat) (m : Mp) : Prop := w.heap[b]? = some (.map (ents m.1) m.2)
def setMap (w : World) (b : Nat) (m : Mp) : World := { w with heap := w.heap.setIfInBounds b (.map (ents m.1) m.2) }

theorem findNow_look (k : Int) : ∀ (l : List Ent) (i : Nat), Instr.findNow (.int .u8) (.int .u8 k) (l.map mk) i = some ((look k l i).map fun p => (p.1, .int .i64 p.2))
  | [], i => rfl
  | e :: l, i => by
    rw [List.map_cons, Instr.findNow]
    simp only [mk, Instr.sameNow]
    cases h : (k == e.1) with
    | true => simp [look, h]
    | false => simp [look, h]; exact findNow_look k l (i + 1)

theorem look_get {k : Int} : ∀ {l : List Ent} {i j : Nat} {v : Int}, look k l i = some (j, v) → ∃ e, i ≤ j ∧ l[j - i]? = some e ∧ k = e.1 ∧ e.2.1 = v
  | [], i, j, v, h => by cases h
  | e :: l, i, j, v, h => by
    rw [look] at h
    cases hk : (k == e.1) with
    | true =>
      rw [hk] at h
      obtain ⟨rfl, rfl⟩ : i = j ∧ e.2.1 = v := by simpa using h
      exact ⟨e, Nat.le_refl _, by simp, by simpa using hk, rfl⟩
    | false =>
      rw [hk] at h
      obtain ⟨e', h1, h2, h3, h4⟩ := look_get (l := l) (i := i + 1) (by simpa using h)
      refine ⟨e', by omega, ?_, h3, h4⟩
      rw [show j - i = (j - (i + 1)) + 1 by omega, List.getElem?_cons_succ]
      exact h2

theorem look_shift (k : Int) : ∀ (l : List Ent) (i : Nat), (look k l i).map (·.2) = (look k l 0).map (·.2)
  | [], _ => rfl
  | e :: l, i => by
    rw [look, look]
    by_cases h : (k == e.1) = true
    · rw [if_pos h, if_pos h]; rfl
    · rw [if_neg h, if_neg h, look_shift k l (i + 1), look_shift k l (0 + 1)]

def val (k : Int) (l : List Ent) : Int := ((look k l 0).map (·.2)).getD 0

theorem val_cons (k : Int) (e : Ent) (l : List Ent) : val k (e :: l) = if k == e.1 then e.2.1 else val k l := by
  unfold val
  rw [look]
  by_cases h : (k == e.1) = true
  · rw [if_pos h, if_pos h]; rfl
  · rw [if_neg h, if_neg h, look_shift k l (0 + 1)]

theorem val_append (k : Int) (e : Ent) : ∀ l : List Ent, look e.1 l 0 = none → val k (l ++ [e]) = if k == e.1 then e.2.1 else val k l
  | [], _ => by rw [List.nil_append, val_cons]
  | x :: l, h => by
    rw [look] at h
    by_cases hx : (e.1 == x.1) = true
    · rw [if_pos hx] at h; cases h
    · rw [if_neg hx] at h
      have h' : look e.1 l 0 = none := by
        have := look_shift e.1 l (0 + 1)
        rw [h] at this
        cases h2 : look e.1 l 0 with
        | none => rfl
        | some p => rw [h2] at this; cases this
      rw [List.cons_append, val_cons, val_cons, val_append k e l h']
      by_cases h1 : (k == x.1) = true
      · rw [if_pos h1, if_pos h1]
        have : ¬ (k == e.1) = true := fun h2 => hx (by simp at h1 h2 ⊢; omega)
        rw [if_neg this]
      · rw [if_neg h1, if_neg h1]

theorem val_modify (k k' v : Int) : ∀ (l : List Ent) (i : Nat) (c : Nat) (v0 : Int), look k' l c = some (c + i, v0) → val k (l.modify i (fun e => (k', v, e.2.2))) = if k == k' then v else val k l
  | [], i, c, v0, h => by cases h
  | x :: l, i, c, v0, h => by
    rw [look] at h
    by_cases hx : (k' == x.1) = true
    · rw [if_pos hx] at h
      obtain rfl : i = 0 := by simp at h; omega
      rw [List.modify_zero_cons, val_cons, val_cons]
      have e1 : k' = x.1 := by simpa using hx
      rw [e1]
      simp only
      by_cases h1 : (k == x.1) = true
      · rw [if_pos h1, if_pos h1]
      · rw [if_neg h1, if_neg h1, if_neg h1]
    · rw [if_neg hx] at h
      obtain ⟨e', h1, _⟩ := look_get h
      obtain ⟨i, rfl⟩ : ∃ i', i = i' + 1 := ⟨i - 1, by omega⟩
      have ih := val_modify k k' v l i (c + 1) v0 (by rw [h]; congr 2; omega)
      rw [List.modify_succ_cons, val_cons, val_cons, ih]
      by_cases h2 : (k == x.1) = true
      · rw [if_pos h2, if_pos h2]
        have : ¬ (k == k') = true := fun h3 => hx (by simp at h2 h3 ⊢; omega)
        rw [if_neg this]
      · rw [if_neg h2, if_neg h2]

theorem getV_put (m : Mp) (k k' v : Int) : getV (put m k' v) k = if k == k' then v else getV m k := by
  unfold put
  cases h : look k' m.1 0 with
  | none => exact val_append k (k', v, m.2) m.1 h
  | some p =>
    obtain ⟨i, v0⟩ := p
    exact val_modify k k' v m.1 i 0 v0 (by rw [h, Nat.zero_add])

section
variable {P : Program} {w : World} {t kt et : TypeId}

theorem run_put (ht : P.underlying t = some (.map kt et)) (hk : P.underlying kt = some (.int .u8)) {b : Nat} {m : Mp} (hm : MapAt w b m) (k v : Int) :
    (Instr.mapUpdate t (.map (some b)) (.int .u8 k) (.int .i64 v)).run P w = .ok () (setMap w b (put m k v)) := by
  have hc : (Instr.checkKey false 10000 kt (.int .u8 k)).run P w = .ok () w := MapKept.run_checkKey (k := .int .u8 k) hk (by simp [MapKept.IsKey]) false 9999
  have hf := findNow_look k m.1 0
  have hb : w.heap[b]? = some (.map (ents m.1) m.2) := hm
  have hl : (ents m.1).toList = m.1.map mk := rfl
  unfold put setMap
  cases hlk : look k m.1 0 with
  | none =>
    rw [hlk] at hf
    simp [Instr.mapUpdate, run_underlying ht, MapKept.run_getObj_map hb, hc, MapKept.run_findKey hk hf, MapKept.run_setObj_map _ hb, Result.andThen, ents, mk]
  | some p =>
    obtain ⟨i, v0⟩ := p
    rw [hlk] at hf
    obtain ⟨e, _, h2, hke, _⟩ := look_get hlk
    rw [Nat.sub_zero] at h2
    have hg : (ents m.1)[i]? = some (mk e) := by simp [ents, h2]
    have hsb : Instr.sameBits 10000 (.int .u8 e.1) (.int .u8 k) = true := by
      rw [hke]; simp [Instr.sameBits]
    have hmod : (ents m.1).modify i (fun e => { e with key := .int .u8 k, val := .int .i64 v }) = ents (m.1.modify i (fun e => (k, v, e.2.2))) := by
      apply Array.ext'
      simp only [ents, Array.toList_modify]
      apply List.ext_getElem?
      intro n
      simp [List.getElem?_modify]
      cases hn : m.1[n]? with
      | none => simp
      | some x => by_cases hin : i = n <;> simp [hin, mk]
    simp [Instr.mapUpdate, run_underlying ht, MapKept.run_getObj_map hb, hc, hl, MapKept.run_findKey hk hf, Instr.keyThatStays, hg, mk, hsb, MapKept.run_setObj_map _ hb, Result.andThen, hmod]

theorem run_get (ht : P.underlying t = some (.map kt et)) (hk : P.underlying kt = some (.int .u8)) (hz : ∀ w, (zeroValue et).run P w = .ok (.int .i64 0) w) {b : Nat} {m : Mp} (hm : MapAt w b m) (k : Int) :
    (Instr.lookup t (.map (some b)) (.int .u8 k) false).run P w = .ok (.int .i64 (getV m k)) w := by
  have hc : ∀ e, (Instr.checkKey e 10000 kt (.int .u8 k)).run P w = .ok () w := fun e => MapKept.run_checkKey (k := .int .u8 k) hk (by simp [MapKept.IsKey]) e 9999
  have hf := findNow_look k m.1 0
  have hb : w.heap[b]? = some (.map (ents m.1) m.2) := hm
  have hl : (ents m.1).toList = m.1.map mk := rfl
  unfold getV
  cases hlk : look k m.1 0 with
  | none =>
    rw [hlk] at hf
    simp [Instr.lookup, run_underlying ht, MapKept.run_getObj_map hb, hc, hl, MapKept.run_findKey hk hf, Result.andThen, hz]
  | some p =>
    rw [hlk] at hf
    simp [Instr.lookup, run_underlying ht, MapKept.run_getObj_map hb, hc, hl, MapKept.run_findKey hk hf, Result.andThen]

theorem MapAt.lt {b : Nat} {m : Mp} (h : MapAt w b m) : b < w.heap.size := (Array.getElem?_eq_some_iff.1 h).1
theorem MapAt.set {b : Nat} {m : Mp} (h : MapAt w b m) (m' : Mp) : MapAt (setMap w b m') b m' := by
  have := h.lt
  simp [MapAt, setMap, this]
theorem MapAt.chg {S : List Nat} {w' : World} {b : Nat} {m : Mp} (h : MapAt w b m) (c : Chg S w w') (hs : b ∉ S) : MapAt w' b m := (c.block b h.lt hs).trans h
theorem Chg.setMap {S : List Nat} {a w : World} (h : Chg S a w) {b : Nat} (hb : b ∈ S ∨ a.heap.size ≤ b) (m : Mp) : Chg S a (setMap w b m) :=
  ⟨h.os, h.tape, h.output, by simpa [Qxb6602120a.setMap] using h.size, fun k hk hs => by
    have hne : b ≠ k := fun e => by subst e; rcases hb with h1 | h1; exact hs h1; omega
    rw [← h.block k hk hs]
    simp [Qxb6602120a.setMap, hne]⟩
end
end Go.Proofs.Qxb6602120a
