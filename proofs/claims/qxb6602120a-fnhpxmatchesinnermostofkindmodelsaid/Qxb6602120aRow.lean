import Derived.Test.Qxb6602120aHeap
import Derived.Test.Qxb6602120aPln
import Derived.Test.Qxb6602120aChecked
import Derived.Lib.SliceRun
import Derived.Laws.Externs
import Derived.Laws.MakeOwn
import Derived.Lib.Overlaps
import Derived.Lib.AppendZerosOnto
import Derived.Deep.RegionLaw
import Derived.Deep.LoopGhost
import Derived.Deep.Cut
import Derived.Deep.QuietTactic
import Derived.BigQuiet
import Derived.Deep.CutRange
import Derived.Deep.DeepCutAuto
namespace Go.Proofs.Qxb6602120a
open Go.RowKit

theorem hid {p : Prop} (h : p) : Hid p := h

def nat (x : Nat) : Value := .int .i64 (x : Int)
def int (x : Int) : Value := .int .i64 x

/-- Block b, of cap cells of type e: its first n are f 0, f 1, .. -/
def Row {α : Type} (e : TypeId) (enc : α → Value) (w : World) (b n cap : Nat) (f : Nat → α) : Prop :=
  ∃ L : List Value, Blk w b e L ∧ L.length = cap ∧ n ≤ cap ∧ ∀ k, k < n → L[k]? = some (enc (f k))

section
variable {α : Type} {e : TypeId} {enc : α → Value} {w : World} {b n cap : Nat} {f : Nat → α}

theorem Row.lt (h : Row e enc w b n cap f) : b < w.heap.size := by obtain ⟨L, h, _⟩ := h; exact h.lt
theorem Row.read (h : Row e enc w b n cap f) {k : Nat} (hk : k < n) : w.cell? ⟨b, k, none⟩ = some (enc (f k)) := by
  obtain ⟨L, h, _, _, hc⟩ := h; exact h.cell (hc k hk)
theorem Row.frozen (h : Row e enc w b n cap f) (k : Nat) : w.frozen? ⟨b, k, none⟩ = false := by
  obtain ⟨L, h, _⟩ := h; exact h.frozen k
theorem Row.chg (h : Row e enc w b n cap f) {S : List Nat} {w' : World} (c : Chg S w w') (hs : b ∉ S) : Row e enc w' b n cap f := by
  obtain ⟨L, h, r⟩ := h; exact ⟨L, h.chg c hs, r⟩
theorem Row.set (h : Row e enc w b n cap f) (k : Nat) (v : α) : Row e enc (w.setCell ⟨b, k, none⟩ (enc v)) b n cap (upd f k v) := by
  obtain ⟨L, h, hl, hn, hc⟩ := h
  refine ⟨L.set k (enc v), h.set k _, by simpa using hl, hn, fun j hj => ?_⟩
  rw [List.getElem?_set]
  by_cases e : k = j
  · subst e; rw [if_pos rfl, if_pos (by omega), upd_same]
  · rw [if_neg e, hc j hj, upd_ne _ _ (fun h => e h.symm)]
theorem Row.other (h : Row e enc w b n cap f) {p : Addr} (hp : b ≠ p.block) (v : Value) : Row e enc (w.setCell p v) b n cap f := by
  obtain ⟨L, h, r⟩ := h; exact ⟨L, h.setOther hp v, r⟩
theorem Row.alloc (h : Row e enc w b n cap f) (o : Obj) : Row e enc (w.alloc o) b n cap f := by
  obtain ⟨L, h, r⟩ := h; exact ⟨L, h.alloc o, r⟩
theorem Row.congr (h : Row e enc w b n cap f) {g : Nat → α} (hg : ∀ k, k < n → f k = g k) : Row e enc w b n cap g := by
  obtain ⟨L, h, hl, hn, hc⟩ := h
  exact ⟨L, h, hl, hn, fun k hk => by rw [hc k hk, hg k hk]⟩
theorem Row.made (w : World) (n : Nat) (z : Value) (v : α) (hz : enc v = z) : Row e enc (w.alloc (.cells (List.replicate n z).toArray e)) w.heap.size n n (fun _ => v) :=
  ⟨_, Blk.new w _ e, by simp, Nat.le_refl _, fun k hk => by simp [hk, hz]⟩
end

/-- The block of an address, if there is one. -/
def blkOf (a : Option Addr) : List Nat := match a with | some ad => [ad.block] | none => []

/-- A slice that reads f 0, .. f (n - 1). -/
def Rd {α : Type} (enc : α → Value) (w : World) (a : Option Addr) (n : Nat) (f : Nat → α) : Prop :=
  ∀ k, k < n → ∃ b off, a = some ⟨b, off, none⟩ ∧ w.cell? ⟨b, off + k, none⟩ = some (enc (f k))

/-- A slice over the head of its own block, or nil. -/
def SR {α : Type} (e : TypeId) (enc : α → Value) (w : World) (a : Option Addr) (cap n : Nat) (f : Nat → α) : Prop :=
  (a = none ∧ n = 0 ∧ cap = 0) ∨ ∃ b, a = some ⟨b, 0, none⟩ ∧ Row e enc w b n cap f

section
variable {α : Type} {e : TypeId} {enc : α → Value} {w : World} {a : Option Addr} {n cap : Nat} {f : Nat → α}
theorem Rd.chg (h : Rd enc w a n f) {S : List Nat} {w' : World} (c : Chg S w w') (hs : ∀ b ∈ blkOf a, b ∉ S) : Rd enc w' a n f := fun k hk => by
  obtain ⟨b, off, rfl, hc⟩ := h k hk
  exact ⟨b, off, rfl, c.cell hc (hs b (by simp [blkOf]))⟩
theorem Rd.chg0 (h : Rd enc w a n f) {w' : World} (c : Chg [] w w') : Rd enc w' a n f := h.chg c (by simp)
theorem SR.chg (h : SR e enc w a cap n f) {S : List Nat} {w' : World} (c : Chg S w w') (hs : ∀ b ∈ blkOf a, b ∉ S) : SR e enc w' a cap n f := by
  rcases h with h | ⟨b, rfl, h⟩
  · exact Or.inl h
  · exact Or.inr ⟨b, rfl, h.chg c (hs b (by simp [blkOf]))⟩
theorem SR.at (h : SR e enc w a cap n f) {k : Nat} (hk : k < n) : ∃ b, a = some ⟨b, 0, none⟩ ∧ Row e enc w b n cap f := by
  rcases h with ⟨_, h, _⟩ | h
  · omega
  · exact h
theorem SR.rd (h : SR e enc w a cap n f) : Rd enc w a n f := fun k hk => by
  obtain ⟨b, rfl, h'⟩ := h.at hk
  exact ⟨b, 0, rfl, by rw [Nat.zero_add]; exact h'.read hk⟩
theorem SR.lt (h : SR e enc w a cap n f) : ∀ b ∈ blkOf a, b < w.heap.size := by
  rcases h with ⟨rfl, _⟩ | ⟨b, rfl, h⟩
  · simp [blkOf]
  · simpa [blkOf] using h.lt
theorem Row.sr {b : Nat} (h : Row e enc w b n cap f) : SR e enc w (some ⟨b, 0, none⟩) cap n f := Or.inr ⟨b, rfl, h⟩
theorem SR.congr (h : SR e enc w a cap n f) {g : Nat → α} (hg : ∀ k, k < n → f k = g k) : SR e enc w a cap n g := by
  rcases h with h | ⟨b, rfl, h⟩
  · exact Or.inl h
  · exact Or.inr ⟨b, rfl, h.congr hg⟩
end

/-- Natural numbers as integers. -/
theorem Row.toNat {w : World} {b n cap : Nat} {f : Nat → Int} {g : Nat → Nat} (h : Row 3 int w b n cap f) (hg : ∀ k, k < n → f k = g k) : Row 3 nat w b n cap g := by
  obtain ⟨L, h, hl, hn, hc⟩ := h
  exact ⟨L, h, hl, hn, fun k hk => by rw [hc k hk, hg k hk]; rfl⟩
theorem SR.toNat {w : World} {a : Option Addr} {n cap : Nat} {f : Nat → Int} {g : Nat → Nat} (h : SR 3 int w a cap n f) (hg : ∀ k, k < n → f k = g k) : SR 3 nat w a cap n g := by
  rcases h with h | ⟨b, rfl, h⟩
  · exact Or.inl h
  · exact Or.inr ⟨b, rfl, h.toNat hg⟩
theorem Rd.toNat {w : World} {a : Option Addr} {n : Nat} {f : Nat → Int} {g : Nat → Nat} (h : Rd int w a n f) (hg : ∀ k, k < n → f k = g k) : Rd nat w a n g := fun k hk => by
  obtain ⟨b, off, h1, h2⟩ := h k hk
  exact ⟨b, off, h1, by rw [h2, hg k hk]; rfl⟩
theorem Rd.toInt {w : World} {a : Option Addr} {n : Nat} {f : Nat → Nat} (h : Rd nat w a n f) : Rd int w a n (fun k => (f k : Int)) := h

theorem Try.info3 : (Try.prog.info? 3).map (fun i => (i.zero, i.size, i.bytes)) = some (some (.int .i64 0), 1, 8) := by kernel_rfl
theorem madeCells_one (z : Value) (n : Nat) : madeCells #[z] n = (List.replicate n z).toArray := by
  apply Array.ext'
  apply List.ext_getElem
  · simp [madeCells]
  · intro i h1 h2; simp [madeCells, Nat.mod_one]

theorem make_ints (L : Int) (n : Nat) (hL : L = n) (hn : n ≤ 1000000000) (w : World) :
    (Instr.makeSlice 28 (.int .i64 L) (.int .i64 L)).run Try.prog w = .ok (.slice (some ⟨w.heap.size, 0, none⟩) n n) (w.alloc (.cells (List.replicate n (Value.int .i64 0)).toArray 3)) := by
  obtain ⟨i, hi, hz, hs1, hby⟩ := info_parts Try.info3
  subst hL
  have := run_make (P := Try.prog) w 28 3 i (.int .i64 0) Try.underlying28 hi hz .i64 .i64 n n (by omega) (by omega) (by rw [hby]; omega) (by omega)
  rw [this, hs1, Nat.mul_one, Int.toNat_natCast]
  have e2 : (Value.int .i64 0).cells = #[Value.int .i64 0] := rfl
  rw [e2, madeCells_one]

end Go.Proofs.Qxb6602120a
