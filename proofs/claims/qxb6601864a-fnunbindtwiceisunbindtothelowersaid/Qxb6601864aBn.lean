import Derived.Test.Qxb6601864aRd
import Derived.Laws.AppendOwn
import Derived.Deep.LoopGhost
namespace Go.Proofs.Qxb6601864a
open Go.RowKit

def hcells (h : Hd) : List Value := [.string h.1, .string h.2.1, .bool h.2.2]

/-- The bindings at p: its map m (in block mb), what it hid. All of it behind B. -/
def Bnd (B : Nat) (w : World) (p mb : Nat) (hs : List Hd) (m : Mp) : Prop :=
  ∃ hv, Blk w p 55 [.map (some mb), hv] ∧ MapAt w mb m ∧ w.ownsRow B 57 3 hv hs.length (hs.flatMap hcells) ∧ B ≤ p ∧ B ≤ mb ∧ B ≤ w.heap.size

theorem Try.info57 : (Try.prog.info? 57).map (fun i => (i.zero, i.size, i.bytes)) = some (some (.agg #[.string ByteArray.empty, .string ByteArray.empty, .bool false]), 3, 40) := by kernel_rfl

theorem row_setOther {w : World} {B : Nat} {e : TypeId} {size : Nat} {v : Value} {n : Nat} {xs : List Value} (h : w.ownsRow B e size v n xs) {p : Addr} (hp : v.ownBlock ≠ some p.block) (u : Value) : (w.setCell p u).ownsRow B e size v n xs := by
  obtain ⟨h1, h2⟩ := h
  refine ⟨h1, ?_⟩
  rcases h2 with h2 | ⟨g, cap, cur, rfl, hb, hg, rest⟩
  · exact Or.inl h2
  · refine Or.inr ⟨g, cap, cur, rfl, hb, ?_, rest⟩
    rw [← hg]
    exact Below.heap_setCell _ _ _ _ (fun e => hp (by simp [Value.ownBlock, e]))

theorem row_ne_blk {w : World} {B : Nat} {e e' : TypeId} {size : Nat} {v : Value} {n p : Nat} {xs L : List Value} (h : w.ownsRow B e size v n xs) (hp : Blk w p e' L) (hne : e ≠ e') : v.ownBlock ≠ some p := fun hv => by
  obtain ⟨_, h2⟩ := h
  rcases h2 with ⟨rfl, _⟩ | ⟨g, cap, cur, rfl, hb, hg, rest⟩
  · cases hv
  · obtain rfl : g = p := by simpa [Value.ownBlock] using hv
    unfold Blk at hp
    rw [hg] at hp
    simp at hp
    exact hne hp.2

theorem row_ne_map {w : World} {B : Nat} {e : TypeId} {size : Nat} {v : Value} {n b : Nat} {xs : List Value} {m : Mp} (h : w.ownsRow B e size v n xs) (hm : MapAt w b m) : v.ownBlock ≠ some b := fun hv => by
  obtain ⟨_, h2⟩ := h
  rcases h2 with ⟨rfl, _⟩ | ⟨g, cap, cur, rfl, hb, hg, rest⟩
  · cases hv
  · obtain rfl : g = b := by simpa [Value.ownBlock] using hv
    unfold MapAt at hm
    rw [hg] at hm
    cases hm

theorem map_ne_blk {w : World} {b p : Nat} {e : TypeId} {L : List Value} {m : Mp} (hm : MapAt w b m) (hp : Blk w p e L) : b ≠ p := fun e => by
  subst e
  unfold MapAt at hm
  unfold Blk at hp
  rw [hp] at hm
  cases hm

theorem flat_len (hs : List Hd) : (hs.flatMap hcells).length = hs.length * 3 := by
  induction hs with
  | nil => rfl
  | cons h hs ih => rw [List.flatMap_cons, List.length_append, ih]; simp [hcells]; omega

set_option maxHeartbeats 2000000 in
theorem push_any (B p mb : Nat) (hs : List Hd) (m : Mp) (h : Hd) (w : World) (hb : Bnd B w p mb hs m) (hl : hs.length ≤ 4096) :
    Calls Try.prog 25 #[ptr p, .string h.1, .string h.2.1, .bool h.2.2] w fun e w' => e = .returned (.tuple #[]) ∧ Bnd B w' p mb (hs ++ [h]) m ∧ Below B w w' := by
  obtain ⟨hv, hP, hM, hown, h1, h2, h3⟩ := hb
  obtain ⟨i0, hi, hz0, hz1, hz2⟩ := info_parts Try.info57
  have c1 := hP.cell (k := 1) rfl
  have HH : Hid (Blk w p 55 [.map (some mb), hv] ∧ MapAt w mb m ∧ w.ownsRow B 57 3 hv hs.length (hs.flatMap hcells)) := ⟨hP, hM, hown⟩
  have hown1 := hown.alloc (.cells #[.string h.1, .string h.2.1, .bool h.2.2] 57)
  have hnew : ∀ j u, (hcells h)[j]? = some u → (w.alloc (.cells #[.string h.1, .string h.2.1, .bool h.2.2] 57)).cell? ((⟨w.heap.size, 0, none⟩ : Addr).add j) = some u := fun j u hj => by
    rw [Addr.add_lit, Nat.zero_add]
    exact (Blk.new w (hcells h) 57).cell hj
  have HN := hid hnew
  clear hP hM hown hnew
  go_enter Try.func25, Try.ntmps25
  go_wp2_with (at_builtin; refine wpList_append_own _ rfl (.tmp 12) (.tmp 17) 53 rfl B 57 i0 (.agg #[.string ByteArray.empty, .string ByteArray.empty, .bool false]) 3 40 Try.underlying53 hi hz0 hz1 hz2 rfl (by decide) _ _ _ rfl hown1 ⟨w.heap.size, 0, none⟩ 1 1 (hcells h) rfl rfl HN.out (by simp [hcells, Value.oneCell']) (by unfold maxLen; omega) (by omega) (by simp; omega) ?_)
  intro v' w2 hown2 hg hne
  obtain ⟨hP, hM, hown⟩ := HH.out
  have n1 : hv.ownBlock ≠ some p := row_ne_blk hown hP (by decide)
  have n2 : hv.ownBlock ≠ some mb := row_ne_map hown hM
  have hP1 := hP.alloc (.cells #[.string h.1, .string h.2.1, .bool h.2.2] 57)
  have hP2 : Blk w2 p 55 [.map (some mb), hv] := (hg.block p hP1.lt n1.symm).trans hP1
  have hM2 : MapAt w2 mb m := (hg.block mb (by have := hM.lt; simp; omega) n2.symm).trans ((Below.heap_alloc w _ mb hM.lt).trans hM)
  have hbel : Below B w w2 := ((Below.refl B w).alloc h3 _).grown hg (by simp; omega) (fun k hk => (hown.lt k hk).1)
  have m1 : v'.ownBlock ≠ some p := row_ne_blk hown2 hP2 (by decide)
  have mp : mb ≠ p := map_ne_blk hM2 hP2
  obtain ⟨g, cap, rfl⟩ : ∃ g cap, v' = .slice (some ⟨g, 0, none⟩) (hs.length + 1) cap := by
    rcases hown2.2 with ⟨h, _⟩ | ⟨g, cap, cur, h, _⟩
    · exact absurd h hne
    · exact ⟨g, cap, h⟩
  have f1 := hP2.cell (k := 1) rfl
  have f2 := hP2.frozen 1
  have R : Hid (Bnd B (w2.setCell ⟨p, 1, none⟩ (.slice (some ⟨g, 0, none⟩) (hs.length + 1) cap)) p mb (hs ++ [h]) m ∧ Below B w (w2.setCell ⟨p, 1, none⟩ (.slice (some ⟨g, 0, none⟩) (hs.length + 1) cap))) := by
    refine ⟨⟨_, hP2.set 1 _, ?_, ?_, h1, h2, ?_⟩, hbel.setCell h1 _⟩
    · exact (Below.heap_setCell _ _ _ _ mp).trans hM2
    · have := row_setOther hown2 (p := ⟨p, 1, none⟩) m1 (.slice (some ⟨g, 0, none⟩) (hs.length + 1) cap)
      rw [List.length_append, List.flatMap_append]
      simpa using this
    · have := hbel.size
      simp [World.setCell]; omega
  clear hP hM hown n1 n2 hP1 hP2 hM2 hbel m1 mp hown2 hg hown1 HN HH hne
  go_wp2_with fail
  go_end0
  exact ⟨rfl, R.out⟩
end Go.Proofs.Qxb6601864a
