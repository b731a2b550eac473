import Derived.WalkKit
import Derived.WalkSpells
import Derived.WalkLawsBesides
namespace Go.Proofs.Qxb6602120a
open Go.RowKit

/-- Block b holds just the cells xs, of type e, none frozen. -/
def Blk (w : World) (b : Nat) (e : TypeId) (xs : List Value) : Prop := w.heap[b]? = some (.cells xs.toArray e (0, 0))

/-- All blocks that lay there are as they were, but those of S. -/
structure Chg (S : List Nat) (w w' : World) : Prop where
  os : w'.os = w.os
  tape : w'.tape = w.tape
  output : w'.output = w.output
  size : w.heap.size ≤ w'.heap.size
  block : ∀ k, k < w.heap.size → k ∉ S → w'.heap[k]? = w.heap[k]?

theorem Chg.refl (S : List Nat) (w : World) : Chg S w w := ⟨rfl, rfl, rfl, Nat.le_refl _, fun _ _ _ => rfl⟩

theorem Chg.trans {S : List Nat} {a b c : World} (h : Chg S a b) (k : Chg S b c) : Chg S a c :=
  ⟨k.os.trans h.os, k.tape.trans h.tape, k.output.trans h.output, Nat.le_trans h.size k.size,
    fun i hi hs => (k.block i (Nat.lt_of_lt_of_le hi h.size) hs).trans (h.block i hi hs)⟩

theorem Chg.mono {S T : List Nat} {w w' : World} (h : Chg S w w') (hs : ∀ k, k < w.heap.size → k ∈ S → k ∈ T) : Chg T w w' :=
  ⟨h.os, h.tape, h.output, h.size, fun k hk hn => h.block k hk (fun m => hn (hs k hk m))⟩

theorem Chg.sub {S T : List Nat} {w w' : World} (h : Chg S w w') (hs : S ⊆ T) : Chg T w w' := h.mono (fun _ _ m => hs m)

theorem Chg.drew {S : List Nat} {a w : World} (h : Chg S a w) : Chg S a w.drew := ⟨h.os, h.tape, h.output, h.size, h.block⟩

theorem Chg.alloc {S : List Nat} {a w : World} (h : Chg S a w) (o : Obj) : Chg S a (w.alloc o) :=
  ⟨h.os, h.tape, h.output, Nat.le_trans h.size (by simp), fun k hk hs => (Below.heap_alloc _ _ _ (Nat.lt_of_lt_of_le hk h.size)).trans (h.block k hk hs)⟩

theorem Chg.setCell {S : List Nat} {a w : World} (h : Chg S a w) {p : Addr} (hp : p.block ∈ S ∨ a.heap.size ≤ p.block) (u : Value) : Chg S a (w.setCell p u) :=
  ⟨h.os, h.tape, h.output, by simpa [World.setCell] using h.size, fun k hk hs => by
    rw [Below.heap_setCell _ _ _ _ (by rintro rfl; rcases hp with hp | hp; exact hs hp; omega)]
    exact h.block k hk hs⟩

theorem Chg.cell {S : List Nat} {w w' : World} (c : Chg S w w') {a : Addr} {v : Value} (h : w.cell? a = some v) (hs : a.block ∉ S := by simp) : w'.cell? a = some v :=
  (World.cell?_of_block (c.block a.block (World.block_lt_of_cell? w a h) hs)).trans h

theorem Chg.then {S T : List Nat} {a b c : World} (h : Chg S a b) (k : Chg T b c) (hs : ∀ i ∈ T, i ∈ S ∨ a.heap.size ≤ i) : Chg S a c :=
  ⟨k.os.trans h.os, k.tape.trans h.tape, k.output.trans h.output, Nat.le_trans h.size k.size,
    fun i hi hn => (k.block i (Nat.lt_of_lt_of_le hi h.size) (fun m => by rcases hs i m with m | m; exact hn m; omega)).trans (h.block i hi hn)⟩

theorem Chg.frozen {S : List Nat} {w w' : World} (c : Chg S w w') {a : Addr} (h : a.block < w.heap.size) (hs : a.block ∉ S := by simp) : w'.frozen? a = w.frozen? a :=
  World.frozen?_of_block (c.block a.block h hs)

theorem Chg.below {w w' : World} (h : Chg [] w w') : Below w.heap.size w w' := ⟨h.os, h.tape, h.output, h.size, fun k hk => h.block k hk (by simp)⟩
theorem Chg.of_below {w w' : World} (h : Below w.heap.size w w') : Chg [] w w' := ⟨h.os, h.tape, h.output, h.size, fun k hk _ => h.block k hk⟩

theorem Blk.lt {w : World} {b e xs} (h : Blk w b e xs) : b < w.heap.size := (Array.getElem?_eq_some_iff.1 h).1

theorem Blk.chg {S : List Nat} {w w' : World} {b e xs} (h : Blk w b e xs) (c : Chg S w w') (hs : b ∉ S) : Blk w' b e xs :=
  (c.block b h.lt hs).trans h

theorem Blk.cell {w : World} {b e xs} (h : Blk w b e xs) {k : Nat} {v : Value} (hk : xs[k]? = some v) : w.cell? ⟨b, k, none⟩ = some v := by
  unfold Blk at h; simp [World.cell?, h, hk]

theorem Blk.frozen {w : World} {b e xs} (h : Blk w b e xs) (k : Nat) : w.frozen? ⟨b, k, none⟩ = false := by
  unfold Blk at h; simp [World.frozen?, h]

theorem Blk.set {w : World} {b e xs} (h : Blk w b e xs) (k : Nat) (v : Value) : Blk (w.setCell ⟨b, k, none⟩ v) b e (xs.set k v) := by
  unfold Blk at h ⊢
  simp [World.setCell, Array.getElem?_modify, h]

theorem Blk.setOther {w : World} {b e xs} (h : Blk w b e xs) {p : Addr} (hp : b ≠ p.block) (v : Value) : Blk (w.setCell p v) b e xs :=
  (Below.heap_setCell w p v b hp).trans h

theorem Blk.alloc {w : World} {b e xs} (h : Blk w b e xs) (o : Obj) : Blk (w.alloc o) b e xs := (Below.heap_alloc w o b h.lt).trans h

theorem Blk.new (w : World) (xs : List Value) (e : TypeId) : Blk (w.alloc (.cells xs.toArray e)) w.heap.size e xs := by
  unfold Blk
  show (w.heap.push _)[w.heap.size]? = _
  simp

theorem Blk.drew {w : World} {b e xs} (h : Blk w b e xs) : Blk w.drew b e xs := h

end Go.Proofs.Qxb6602120a
