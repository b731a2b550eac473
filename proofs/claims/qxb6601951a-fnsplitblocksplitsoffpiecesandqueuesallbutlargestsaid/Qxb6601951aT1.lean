import Derived.Test.Qxb6601951aCl
namespace Go.Proofs.Qxb6601951a
open Go.RowKit
/-- Pairs of integers, two cells each. -/
def RdP (w : World) (a : Option Addr) (n : Nat) (lo hi : Nat → Int) : Prop :=
  ∀ k, k < n → ∃ b off, a = some ⟨b, off, none⟩ ∧ w.cell? ⟨b, off + k * 2, none⟩ = some (.int .i64 (lo k)) ∧ w.cell? ⟨b, off + k * 2 + 1, none⟩ = some (.int .i64 (hi k))

theorem make_pairs (L : Int) (n : Nat) (hL : L = n) (hn : n ≤ 1000000) (w : World) :
    (Instr.makeSlice 33 (.int .i64 L) (.int .i64 L)).run Try.prog w = .ok (.slice (some ⟨w.heap.size, 0, none⟩) n n) (w.alloc (.cells (List.replicate (n * 2) (Value.int .i64 0)).toArray 35)) := by
  obtain ⟨z, bs, h0, hzc, rfl⟩ := Try.info35
  obtain ⟨i, hi, hz, hs1, hby⟩ := info_parts h0
  subst hL
  have := run_make (P := Try.prog) w 33 35 i z Try.underlying33 hi hz .i64 .i64 n n (by omega) (by omega) (by rw [hby]; omega) (by omega)
  rw [this, hs1, Int.toNat_natCast, hzc]
  have : madeCells #[Value.int .i64 0, Value.int .i64 0] (n * 2) = (List.replicate (n * 2) (Value.int .i64 0)).toArray := by
    apply Array.ext'
    apply List.ext_getElem
    · simp [madeCells]
    · intro i h1 h2
      simp [madeCells]
      rcases Nat.mod_two_eq_zero_or_one i with h | h <;> simp [h]
  rw [this]

set_option maxHeartbeats 1000000 in
theorem clonePairs_any (a : Option Addr) (n cap : Nat) (lo hi : Nat → Int) (w : World) (hs : RdP w a n lo hi) (hn : n ≤ 1000000) (ha : a = none → n = 0) :
    Calls Try.prog 15 #[.slice a n cap] w fun e w' => ∃ a', e = .returned (.slice a' n n) ∧ RdP w' a' n lo hi ∧ (∀ b ∈ blkOf a', w.heap.size ≤ b ∧ b < w'.heap.size) ∧ Chg [] w w' := by
  have hne := fun w a n c n2 c2 => Lib.run_eql_slice_nil (P := Try.prog) w 33 35 a n c n2 c2 Try.underlying33
  cases a with
  | none =>
    obtain rfl := ha rfl
    go_enter Try.func15, Try.ntmps15
    go_wp2
    go_ret
    exact ⟨none, rfl, fun k hk => by omega, by simp [blkOf], Chg.refl _ _⟩
  | some ad =>
    have hmk := make_pairs (n : Int) n rfl hn
    go_enter Try.func15, Try.ntmps15
    go_wp2
    go_loopw [4] (fun i wr => ∃ k : Nat, k ≤ n ∧ i = .int .i64 k ∧ (∃ L, Blk wr w.heap.size 35 L ∧ L.length = n * 2 ∧ ∀ j, j < k → L[j * 2]? = some (.int .i64 (lo j)) ∧ L[j * 2 + 1]? = some (.int .i64 (hi j))) ∧ Chg [] w wr) (fun i _ => n - (intOf i).toNat)
    case atStart => exact ⟨0, Nat.zero_le _, rfl, ⟨_, Blk.new w _ 35, by simp, fun j hj => by omega⟩, (Chg.refl _ _).alloc _⟩
    case round =>
      obtain ⟨k, hk, rfl, ⟨L, hb, hl, hL⟩, hc⟩ := hrel
      by_cases hlt : k < n
      · obtain ⟨b, off, had, hc0, hc1⟩ := hs k hlt
        obtain rfl : ad = ⟨b, off, none⟩ := by simpa using had
        have hcell : wr.cell? ⟨b, off + k * 2, none⟩ = some (.int .i64 (lo k)) := hc.cell hc0
        have hcell1 : wr.cell? ⟨b, off + k * 2 + 1, none⟩ = some (.int .i64 (hi k)) := hc.cell hc1
        have hd0 : wr.cell? ⟨w.heap.size, k * 2, none⟩ = some L[k * 2] := hb.cell (List.getElem?_eq_getElem (by omega))
        have hd1 : wr.cell? ⟨w.heap.size, k * 2 + 1, none⟩ = some L[k * 2 + 1] := hb.cell (List.getElem?_eq_getElem (by omega))
        obtain ⟨u0, hu0⟩ : ∃ u0, u0 = L[k * 2] := ⟨_, rfl⟩
        obtain ⟨u1, hu1⟩ : ∃ u1, u1 = L[k * 2 + 1] := ⟨_, rfl⟩
        rw [← hu0] at hd0
        rw [← hu1] at hd1
        have hf0 := hb.frozen (k * 2)
        have hf1 := hb.frozen (k * 2 + 1)
        have hb2 := (hb.set (k * 2) (.int .i64 (lo k))).set (k * 2 + 1) (.int .i64 (hi k))
        have hc2 := (hc.setCell (p := ⟨w.heap.size, k * 2, none⟩) (Or.inr (Nat.le_refl _)) (.int .i64 (lo k))).setCell (p := ⟨w.heap.size, k * 2 + 1, none⟩) (Or.inr (Nat.le_refl _)) (.int .i64 (hi k))
        have HB := hid (And.intro hb2 (And.intro hc2 (And.intro hl hL)))
        clear hs hc0 hc1 hu0 hu1 hL hl hb hc hb2 hc2
        go_wp2
        go_roundw
        case rel =>
          refine ⟨k + 1, by omega, by go_num, ⟨_, HB.out.1, by simpa using HB.out.2.2.1, fun j hj => ?_⟩, HB.out.2.1⟩
          have hl := HB.out.2.2.1
          by_cases e : j = k
          · subst e
            constructor
            · rw [List.getElem?_set_ne (by omega), List.getElem?_set_self (by omega)]
            · rw [List.getElem?_set_self (by simp; omega)]
          · have := HB.out.2.2.2 j (by omega)
            constructor
            · rw [List.getElem?_set_ne (by omega), List.getElem?_set_ne (by omega)]; exact this.1
            · rw [List.getElem?_set_ne (by omega), List.getElem?_set_ne (by omega)]; exact this.2
        case measure => simp [intOf]; omega
      · go_wp2
        go_ret
        obtain rfl : k = n := by omega
        have hlt9 := hb.lt
        refine ⟨_, rfl, fun j hj => ⟨w.heap.size, 0, rfl, ?_, ?_⟩, by simp [blkOf]; omega, hc⟩
        · rw [Nat.zero_add]; exact hb.cell (hL j hj).1
        · rw [Nat.zero_add]; exact hb.cell (hL j hj).2

/-- 'size'. -/
theorem size_any (w : World) (pb : Nat) (v0 v1 v2 : Value) (sb eb n cs ce b s t : Nat) (hp : Blk w pb 44 [v0, v1, v2, .slice (some ⟨sb, 0, none⟩) n cs, .slice (some ⟨eb, 0, none⟩) n ce])
    (h1 : w.cell? ⟨sb, b, none⟩ = some (.int .i64 s)) (h2 : w.cell? ⟨eb, b, none⟩ = some (.int .i64 t)) (hb : b < n) (hst : s ≤ t) (ht : t ≤ 1000000000) :
    Calls Try.prog 23 #[.pointer (some ⟨pb, 0, none⟩), .int .i64 b] w fun e w' => e = .returned (.int .i64 ((t - s : Nat) : Int)) ∧ (∃ k, w' = w.drewN k) := by
  have hp3 : w.cell? ⟨pb, 3, none⟩ = some (.slice (some ⟨sb, 0, none⟩) n cs) := hp.cell rfl
  have hp4 : w.cell? ⟨pb, 4, none⟩ = some (.slice (some ⟨eb, 0, none⟩) n ce) := hp.cell rfl
  have t1 : IntKind.i64.wrap ((t : Int) - (s : Int)) = ((t - s : Nat) : Int) := by rw [IntKind.wrap_i64]; omega
  clear hp
  go_enter Try.func23, Try.ntmps23
  go_wp2_with fail
  go_quiet (fail)
  go_wp2
  go_ret
  exact ⟨rfl, _, rfl⟩
end Go.Proofs.Qxb6601951a
