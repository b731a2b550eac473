import Derived.Test.Qxb6601864aHeap
import Derived.WideMake
import Derived.Carry
namespace Go.Proofs.Qxb6601864a
open Go.RowKit

/-- One entry: key, value, when it was born. -/
abbrev Ent := ByteArray × ByteArray × Nat
def mk (e : Ent) : MapEntry := ⟨.string e.1, .string e.2.1, e.2.2⟩
def ents (l : List Ent) : Array MapEntry := (l.map mk).toArray

def look (k : ByteArray) : List Ent → Nat → Option (Nat × ByteArray)
  | [], _ => none
  | e :: l, i => if k == e.1 then some (i, e.2.1) else look k l (i + 1)

/-- A map of strings as the model has it: its entries, its clock. -/
abbrev Mp := List Ent × Nat
def put (m : Mp) (k v : ByteArray) : Mp := match look k m.1 0 with
  | some (i, _) => (m.1.modify i (fun e => (k, v, e.2.2)), m.2)
  | none => (m.1 ++ [(k, v, m.2)], m.2 + 1)
def del (m : Mp) (k : ByteArray) : Mp := match look k m.1 0 with
  | some (i, _) => (m.1.eraseIdx i, m.2)
  | none => m
def getV (m : Mp) (k : ByteArray) : ByteArray := ((look k m.1 0).map (·.2)).getD ByteArray.empty
def getB (m : Mp) (k : ByteArray) : Bool := (look k m.1 0).isSome

/-- Block b holds the map m. -/
def MapAt (w : World) (b : Nat) (m : Mp) : Prop := w.heap[b]? = some (.map (ents m.1) m.2)
def setMap (w : World) (b : Nat) (m : Mp) : World := { w with heap := w.heap.setIfInBounds b (.map (ents m.1) m.2) }

theorem findNow_look (k : ByteArray) : ∀ (l : List Ent) (i : Nat), Instr.findNow .string (.string k) (l.map mk) i = some ((look k l i).map fun p => (p.1, .string p.2))
  | [], i => rfl
  | e :: l, i => by
    rw [List.map_cons, Instr.findNow]
    simp only [mk, Instr.sameNow]
    cases h : (k == e.1) with
    | true => simp [look, h]
    | false => simp [look, h]; exact findNow_look k l (i + 1)

theorem look_get {k : ByteArray} : ∀ {l : List Ent} {i j : Nat} {v : ByteArray}, look k l i = some (j, v) → ∃ e, i ≤ j ∧ l[j - i]? = some e ∧ (k == e.1) = true ∧ e.2.1 = v
  | [], i, j, v, h => by cases h
  | e :: l, i, j, v, h => by
    rw [look] at h
    cases hk : (k == e.1) with
    | true =>
      rw [hk] at h
      obtain ⟨rfl, rfl⟩ : i = j ∧ e.2.1 = v := by simpa using h
      exact ⟨e, Nat.le_refl _, by simp, hk, rfl⟩
    | false =>
      rw [hk] at h
      obtain ⟨e', h1, h2, h3, h4⟩ := look_get (l := l) (i := i + 1) (by simpa using h)
      refine ⟨e', by omega, ?_, h3, h4⟩
      rw [show j - i = (j - (i + 1)) + 1 by omega, List.getElem?_cons_succ]
      exact h2

theorem beq_eq {a b : ByteArray} (h : (a == b) = true) : a = b := (MapKept.bytes_beq a b).1 h

section
variable {P : Program} {w : World} {t kt et : TypeId}

theorem run_put (ht : P.underlying t = some (.map kt et)) (hk : P.underlying kt = some .string) {b : Nat} {m : Mp} (hm : MapAt w b m) (k v : ByteArray) :
    (Instr.mapUpdate t (.map (some b)) (.string k) (.string v)).run P w = .ok () (setMap w b (put m k v)) := by
  have hc : (Instr.checkKey false 10000 kt (.string k)).run P w = .ok () w := MapKept.run_checkKey (k := .string k) hk (by simp [MapKept.IsKey]) false 9999
  have hf := findNow_look k m.1 0
  have hb : w.heap[b]? = some (.map (ents m.1) m.2) := hm
  have hl : (ents m.1).toList = m.1.map mk := rfl
  unfold put setMap
  cases hlk : look k m.1 0 with
  | none =>
    rw [hlk] at hf
    simp [Instr.mapUpdate, run_underlying ht, MapKept.run_getObj_map hb, hc, MapKept.run_findKey hk hf, MapKept.run_setObj_map _ hb, Result.andThen, ents, mk]
  | some p =>
    obtain ⟨i, v0⟩ := p
    rw [hlk] at hf
    obtain ⟨e, _, h2, h3, _⟩ := look_get hlk
    rw [Nat.sub_zero] at h2
    have hke : k = e.1 := beq_eq h3
    have hg : (ents m.1)[i]? = some (mk e) := by simp [ents, h2]
    have hsb : Instr.sameBits 10000 (.string e.1) (.string k) = true := by
      show (e.1 == k) = true
      exact (MapKept.bytes_beq _ _).2 hke.symm
    have hmod : (ents m.1).modify i (fun e => { e with key := .string k, val := .string v }) = ents (m.1.modify i (fun e => (k, v, e.2.2))) := by
      apply Array.ext'
      simp only [ents, Array.toList_modify]
      apply List.ext_getElem?
      intro n
      simp [List.getElem?_modify]
      cases hn : m.1[n]? with
      | none => simp
      | some x => by_cases hin : i = n <;> simp [hin, mk]
    simp [Instr.mapUpdate, run_underlying ht, MapKept.run_getObj_map hb, hc, hl, MapKept.run_findKey hk hf, Instr.keyThatStays, hg, mk, hsb, MapKept.run_setObj_map _ hb, Result.andThen, hmod]

theorem run_del (ht : P.underlying t = some (.map kt et)) (hk : P.underlying kt = some .string) {b : Nat} {m : Mp} (hm : MapAt w b m) (k : ByteArray) (ty : TypeId) :
    (Builtin.delete_ #[t, kt] ty #[.map (some b), .string k]).run P w = .ok (.tuple #[]) (setMap w b (del m k)) := by
  have hc : ∀ e, (Instr.checkKey e 10000 kt (.string k)).run P w = .ok () w := fun e => MapKept.run_checkKey (k := .string k) hk (by simp [MapKept.IsKey]) e 9999
  have hf := findNow_look k m.1 0
  have hb : w.heap[b]? = some (.map (ents m.1) m.2) := hm
  have hl : (ents m.1).toList = m.1.map mk := rfl
  unfold del setMap
  cases hlk : look k m.1 0 with
  | none =>
    rw [hlk] at hf
    simp [Builtin.delete_, run_underlying ht, MapKept.run_getObj_map hb, hc, hl, MapKept.run_findKey hk hf, MapKept.run_setObj_map _ hb, Result.andThen]
  | some p =>
    obtain ⟨i, v0⟩ := p
    rw [hlk] at hf
    obtain ⟨e, _, h2, _, _⟩ := look_get hlk
    have hlt : i < m.1.length := by have := (List.getElem?_eq_some_iff.1 h2).1; omega
    have her : (ents m.1).eraseIdxIfInBounds i = ents (m.1.eraseIdx i) := by
      apply Array.ext'
      simp [ents, Array.eraseIdxIfInBounds, hlt, List.eraseIdx_eq_take_drop_succ, List.map_take, List.map_drop]
    simp [Builtin.delete_, run_underlying ht, MapKept.run_getObj_map hb, hc, hl, MapKept.run_findKey hk hf, MapKept.run_setObj_map _ hb, Result.andThen, her]

theorem run_get (ht : P.underlying t = some (.map kt et)) (hk : P.underlying kt = some .string) (hz : ∀ w, (zeroValue et).run P w = .ok (.string ByteArray.empty) w) {b : Nat} {m : Mp} (hm : MapAt w b m) (k : ByteArray) :
    (Instr.lookup t (.map (some b)) (.string k) true).run P w = .ok (.tuple #[.string (getV m k), .bool (getB m k)]) w := by
  have hc : ∀ e, (Instr.checkKey e 10000 kt (.string k)).run P w = .ok () w := fun e => MapKept.run_checkKey (k := .string k) hk (by simp [MapKept.IsKey]) e 9999
  have hf := findNow_look k m.1 0
  have hb : w.heap[b]? = some (.map (ents m.1) m.2) := hm
  have hl : (ents m.1).toList = m.1.map mk := rfl
  unfold getV getB
  cases hlk : look k m.1 0 with
  | none =>
    rw [hlk] at hf
    simp [Instr.lookup, run_underlying ht, MapKept.run_getObj_map hb, hc, hl, MapKept.run_findKey hk hf, Result.andThen, hz]
  | some p =>
    rw [hlk] at hf
    simp [Instr.lookup, run_underlying ht, MapKept.run_getObj_map hb, hc, hl, MapKept.run_findKey hk hf, Result.andThen]

theorem MapAt.lt {b : Nat} {m : Mp} (h : MapAt w b m) : b < w.heap.size := (Array.getElem?_eq_some_iff.1 h).1
theorem MapAt.set {b : Nat} {m : Mp} (h : MapAt w b m) (m' : Mp) : MapAt (setMap w b m') b m' := by
  have := h.lt
  simp [MapAt, setMap, this]
theorem MapAt.chg {S : List Nat} {w' : World} {b : Nat} {m : Mp} (h : MapAt w b m) (c : Chg S w w') (hs : b ∉ S) : MapAt w' b m := (c.block b h.lt hs).trans h
theorem Chg.setMap {S : List Nat} {a w : World} (h : Chg S a w) {b : Nat} (hb : b ∈ S ∨ a.heap.size ≤ b) (m : Mp) : Chg S a (setMap w b m) :=
  ⟨h.os, h.tape, h.output, by simpa [Qxb6601864a.setMap] using h.size, fun k hk hs => by
    have hne : b ≠ k := fun e => by subst e; rcases hb with h1 | h1; exact hs h1; omega
    rw [← h.block k hk hs]
    simp [Qxb6601864a.setMap, hne]⟩
end
end Go.Proofs.Qxb6601864a
