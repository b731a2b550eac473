import Derived.Test.Qxb6601951aRow
namespace Go.Proofs.Qxb6601951a
open Go.RowKit

set_option maxHeartbeats 1000000 in
theorem cloneInts_any (a : Option Addr) (n cap : Nat) (f : Nat → Int) (w : World) (hs : Rd int w a n f) (hn : n ≤ 1000000000) (ha : a = none → n = 0) :
    Calls Try.prog 7 #[.slice a n cap] w fun e w' => ∃ a', e = .returned (.slice a' n n) ∧ SR 3 int w' a' n n f ∧ (∀ b ∈ blkOf a', w.heap.size ≤ b) ∧ Chg [] w w' := by
  have hne := fun w a n c n2 c2 => Lib.run_eql_slice_nil (P := Try.prog) w 22 3 a n c n2 c2 Try.underlying22
  cases a with
  | none =>
    obtain rfl := ha rfl
    go_enter Try.func7, Try.ntmps7
    go_wp2
    go_ret
    exact ⟨none, rfl, Or.inl ⟨rfl, rfl, rfl⟩, by simp [blkOf], Chg.refl _ _⟩
  | some ad =>
    have hmk := make_ints (n : Int) n rfl hn
    go_enter Try.func7, Try.ntmps7
    go_wp2
    go_loopw [4] (fun i wr => ∃ k : Nat, k ≤ n ∧ i = .int .i64 k ∧ Row 3 int wr w.heap.size n n (fun j => if j < k then f j else 0) ∧ Chg [] w wr) (fun i _ => n - (intOf i).toNat)
    case atStart => exact ⟨0, Nat.zero_le _, rfl, Row.made w n _ 0 rfl, (Chg.refl _ _).alloc _⟩
    case round =>
      obtain ⟨k, hk, rfl, hb, hc⟩ := hrel
      by_cases hlt : k < n
      · obtain ⟨b, off, had, hcell0⟩ := hs k hlt
        obtain rfl : ad = ⟨b, off, none⟩ := by simpa using had
        have hcell : wr.cell? ⟨b, off + k, none⟩ = some (Value.int .i64 (f k)) := hc.cell hcell0
        have hcell2 : wr.cell? ⟨w.heap.size, k, none⟩ = some (Value.int .i64 (if k < k then f k else 0)) := hb.read hlt
        have hfr := hb.frozen k
        have hb' := hb.set k (f k)
        have hb2 := hb'.congr (g := fun j => if j < k + 1 then f j else 0) (fun j hj => by
          by_cases e : j = k
          · subst e; rw [upd_same, if_pos (by omega)]
          · rw [upd_ne _ _ e]
            by_cases e2 : j < k
            · rw [if_pos e2, if_pos (by omega)]
            · rw [if_neg e2, if_neg (by omega)])
        have hc' := hc.setCell (p := ⟨w.heap.size, k, none⟩) (Or.inr (Nat.le_refl _)) (int (f k))
        have HB := And.intro hb2 hc'
        clear hb hc hb' hc' hs hcell0 hb2
        go_wp2
        go_roundw
        case rel => exact ⟨k + 1, by omega, by go_num, HB.1, HB.2⟩
        case measure => simp [intOf]; omega
      · go_wp2
        go_ret
        obtain rfl : k = n := by omega
        exact ⟨_, rfl, (hb.congr (fun j hj => by rw [if_pos hj])).sr, by simp [blkOf], hc⟩

set_option maxHeartbeats 1000000 in
theorem cloneBools_any (a : Option Addr) (n cap : Nat) (f : Nat → Bool) (w : World) (hs : Rd Value.bool w a n f) (hn : n ≤ 1000000000) (ha : a = none → n = 0) :
    Calls Try.prog 14 #[.slice a n cap] w fun e w' => ∃ a', e = .returned (.slice a' n n) ∧ SR 4 Value.bool w' a' n n f ∧ (∀ b ∈ blkOf a', w.heap.size ≤ b) ∧ Chg [] w w' := by
  have hne := fun w a n c n2 c2 => Lib.run_eql_slice_nil (P := Try.prog) w 31 4 a n c n2 c2 Try.underlying31
  cases a with
  | none =>
    obtain rfl := ha rfl
    go_enter Try.func14, Try.ntmps14
    go_wp2
    go_ret
    exact ⟨none, rfl, Or.inl ⟨rfl, rfl, rfl⟩, by simp [blkOf], Chg.refl _ _⟩
  | some ad =>
    have hmk := make_bools (n : Int) n rfl hn
    go_enter Try.func14, Try.ntmps14
    go_wp2
    go_loopw [4] (fun i wr => ∃ k : Nat, k ≤ n ∧ i = .int .i64 k ∧ Row 4 Value.bool wr w.heap.size n n (fun j => if j < k then f j else false) ∧ Chg [] w wr) (fun i _ => n - (intOf i).toNat)
    case atStart => exact ⟨0, Nat.zero_le _, rfl, Row.made w n _ false rfl, (Chg.refl _ _).alloc _⟩
    case round =>
      obtain ⟨k, hk, rfl, hb, hc⟩ := hrel
      by_cases hlt : k < n
      · obtain ⟨b, off, had, hcell0⟩ := hs k hlt
        obtain rfl : ad = ⟨b, off, none⟩ := by simpa using had
        have hcell : wr.cell? ⟨b, off + k, none⟩ = some (Value.bool (f k)) := hc.cell hcell0
        have hcell2 : wr.cell? ⟨w.heap.size, k, none⟩ = some (Value.bool (if k < k then f k else false)) := hb.read hlt
        have hfr := hb.frozen k
        have hb' := hb.set k (f k)
        have hb2 := hb'.congr (g := fun j => if j < k + 1 then f j else false) (fun j hj => by
          by_cases e : j = k
          · subst e; rw [upd_same, if_pos (by omega)]
          · rw [upd_ne _ _ e]
            by_cases e2 : j < k
            · rw [if_pos e2, if_pos (by omega)]
            · rw [if_neg e2, if_neg (by omega)])
        have hc' := hc.setCell (p := ⟨w.heap.size, k, none⟩) (Or.inr (Nat.le_refl _)) (Value.bool (f k))
        have HB := And.intro hb2 hc'
        clear hb hc hb' hc' hs hcell0 hb2
        go_wp2
        go_roundw
        case rel => exact ⟨k + 1, by omega, by go_num, HB.1, HB.2⟩
        case measure => simp [intOf]; omega
      · go_wp2
        go_ret
        obtain rfl : k = n := by omega
        exact ⟨_, rfl, (hb.congr (fun j hj => by rw [if_pos hj])).sr, by simp [blkOf], hc⟩

theorem cloneNats_any (a : Option Addr) (n cap : Nat) (f : Nat → Nat) (w : World) (hs : Rd nat w a n f) (hn : n ≤ 1000000000) (ha : a = none → n = 0) :
    Calls Try.prog 7 #[.slice a n cap] w fun e w' => ∃ a', e = .returned (.slice a' n n) ∧ SR 3 nat w' a' n n f ∧ (∀ b ∈ blkOf a', w.heap.size ≤ b) ∧ Chg [] w w' := by
  refine (cloneInts_any a n cap (fun k => (f k : Int)) w hs hn ha).mono ?_
  rintro e w' ⟨a', rfl, h1, h2, h3⟩
  exact ⟨a', rfl, h1.toNat (fun _ _ => rfl), h2, h3⟩
end Go.Proofs.Qxb6601951a
