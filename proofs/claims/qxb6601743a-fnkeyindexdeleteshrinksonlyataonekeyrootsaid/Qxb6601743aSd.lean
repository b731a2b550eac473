import Derived.Test.Qxb6601743aSc
namespace Go.Proofs.Qxb6601743a
open Go.RowKit

set_option maxHeartbeats 1000000 in
theorem bytes_shr (a da : Option Addr) (cap dcap : Nat) (key : ByteArray) (xs : List ByteArray) (bs : List Bool) (w : World) (hs : Strs w a xs) (hl : xs.length ≤ maxLen) (hl2 : bs.length ≤ maxLen) (hk : key.size ≤ maxLen) :
    Calls Try.prog 27 #[.slice a xs.length cap, .slice da bs.length dcap, .string key] w fun e w' => IsBool e ∧ w' = w := by
  unfold maxLen at hl hl2 hk
  go_enter Try.func27, Try.ntmps27
  go_wp2
  · go_ret; exact ⟨⟨_, rfl⟩, rfl⟩
  · go_loop [7, 8] (fun n i => ∃ m k : Nat, m ≤ 1048576 ∧ k ≤ xs.length ∧ i = .int .i64 k ∧ n = .int .i64 m) (fun _ i => xs.length - (intOf i).toNat)
    case atStart => exact ⟨xs.length, 0, by omega, Nat.zero_le _, rfl, rfl⟩
    case round =>
      obtain ⟨m, k, hm, hk, rfl, rfl⟩ := hrel
      by_cases hlt : k < xs.length
      · obtain ⟨s, hsk⟩ : ∃ s, xs[k]? = some s := ⟨xs[k], by simp [hlt]⟩
        obtain ⟨b, off, rfl, hc⟩ := hs k s hsk
        clear hsk hs
        go_wp2
        · go_ret; exact ⟨⟨_, rfl⟩, rfl⟩
        · go_ret; exact ⟨⟨_, rfl⟩, rfl⟩
        · go_round
          case rel => exact ⟨m + s.size, k + 1, by omega, by omega, by go_num, by go_num⟩
          case measure => simp [intOf]; omega
      · go_wp2
        all_goals (go_ret; exact ⟨⟨_, rfl⟩, rfl⟩)

/-- What zzScriptBytes answers. -/
def ScrB (n m : Nat) (e : Ending) : Prop := ∃ t : Nat, e = .returned (.int .i64 t) ∧ t ≤ 4000000 ∧ (t ≤ 1048576 → n ≤ 65536 ∧ m ≤ 1048576)

set_option maxHeartbeats 1000000 in
theorem script_any (a da : Option Addr) (cap dcap : Nat) (xs : List ByteArray) (bs : List Bool) (w : World) (hs : Strs w a xs) (hl : xs.length ≤ maxLen) (hl2 : bs.length ≤ maxLen) :
    Calls Try.prog 10 #[.slice a xs.length cap, .slice da bs.length dcap] w fun e w' => ScrB xs.length bs.length e ∧ w' = w := by
  unfold maxLen at hl hl2
  by_cases h1 : 65536 < xs.length
  · have t1 : (65536 : Int) < (xs.length : Int) := by omega
    have t2 : decide ((65536 : Int) < (xs.length : Int)) = true := by simp; omega
    go_enter Try.func10, Try.ntmps10
    go_wp2
    go_ret
    exact ⟨⟨1048577, rfl, by omega, fun h => by omega⟩, rfl⟩
  have t1 : ¬ (65536 : Int) < (xs.length : Int) := by omega
  have t2 : decide ((65536 : Int) < (xs.length : Int)) = false := by simp; omega
  by_cases h2 : 1048576 < bs.length
  · have t3 : (1048576 : Int) < (bs.length : Int) := by omega
    have t4 : decide ((1048576 : Int) < (bs.length : Int)) = true := by simp; omega
    go_enter Try.func10, Try.ntmps10
    go_wp2
    go_ret
    exact ⟨⟨1048577, rfl, by omega, fun h => by omega⟩, rfl⟩
  have t3 : ¬ (1048576 : Int) < (bs.length : Int) := by omega
  have t4 : decide ((1048576 : Int) < (bs.length : Int)) = false := by simp; omega
  have t5 : IntKind.i64.wrap (16 * (xs.length : Int)) = 16 * (xs.length : Int) := by rw [IntKind.wrap_i64]; omega
  have t6 : IntKind.i64.wrap ((bs.length : Int) + 16 * (xs.length : Int)) = (bs.length : Int) + 16 * (xs.length : Int) := by rw [IntKind.wrap_i64]; omega
  go_enter Try.func10, Try.ntmps10
  go_wp2
  go_loop [5, 6] (fun n i => ∃ m k : Nat, (k = 0 ∧ m ≤ 2097152 ∨ m ≤ 1048576) ∧ k ≤ xs.length ∧ i = .int .i64 k ∧ n = .int .i64 m) (fun _ i => xs.length - (intOf i).toNat)
  case atStart => exact ⟨bs.length + 16 * xs.length, 0, Or.inl ⟨rfl, by omega⟩, Nat.zero_le _, rfl, by simp⟩
  case round =>
    obtain ⟨m, k, hm0, hk, rfl, rfl⟩ := hrel
    have hm : m ≤ 2097152 := by omega
    clear hm0
    by_cases hlt : k < xs.length
    · obtain ⟨s, hsk⟩ : ∃ s, xs[k]? = some s := ⟨xs[k], by simp [hlt]⟩
      obtain ⟨b, off, rfl, hc⟩ := hs k s hsk
      clear hsk hs
      go_wp2
      · go_ret; exact ⟨⟨1048577, rfl, by omega, fun h => by omega⟩, rfl⟩
      · go_ret; exact ⟨⟨m + s.size, by go_num, by omega, fun h => by omega⟩, rfl⟩
      · go_round
        case rel => exact ⟨m + s.size, k + 1, by omega, by omega, by go_num, by go_num⟩
        case measure => simp [intOf]; omega
    · go_wp2
      go_ret
      exact ⟨⟨m, rfl, by omega, fun _ => ⟨by omega, by omega⟩⟩, rfl⟩

def BoolV (w : World) (v : Value) (bs : List Bool) : Prop := ∃ a c, v = .slice a bs.length c ∧ Bools w a bs

theorem EB : Elem Try.prog 23 4 (.bool false) 1 := ⟨Try.underlying23, by kernel_rfl, fun _ => by kernel_rfl, rfl, rfl, fun _ => by kernel_rfl⟩

theorem set_snoc_b (bs : List Bool) (k : Nat) (hk : k < bs.length) :
    ((bs.take k).map Value.bool ++ List.replicate (bs.length - k) (Value.bool false)).set k (Value.bool bs[k]) = (bs.take (k + 1)).map Value.bool ++ List.replicate (bs.length - (k + 1)) (Value.bool false) := by
  rw [List.set_append, if_neg (by simp; omega), List.take_succ_eq_append_getElem hk]
  obtain ⟨m, hm⟩ : ∃ m, bs.length - k = m + 1 := ⟨bs.length - k - 1, by omega⟩
  have e : k - (List.map Value.bool (List.take k bs)).length = 0 := by simp; omega
  rw [e, hm, List.replicate_succ, List.set_cons_zero, show bs.length - (k + 1) = m by omega]
  simp only [List.map_append, List.map_cons, List.map_nil, List.append_assoc, List.cons_append, List.nil_append]

set_option maxHeartbeats 1000000 in
theorem cloneBools_any (a : Option Addr) (cap : Nat) (bs : List Bool) (w : World) (hs : Bools w a bs) (hn : a = none → bs = []) (hl : bs.length ≤ 1048576) :
    Calls Try.prog 12 #[.slice a bs.length cap] w fun e w' => ∃ v, e = .returned v ∧ BoolV w' v bs ∧ Chg [] w w' := by
  have hne := fun w a n c n2 c2 => Lib.run_eql_slice_nil (P := Try.prog) w 23 4 a n c n2 c2 Try.underlying23
  cases a with
  | none =>
    obtain rfl := hn rfl
    go_enter Try.func12, Try.ntmps12
    go_wp2
    go_ret
    exact ⟨_, rfl, ⟨none, 0, rfl, fun k s hk => by simp at hk⟩, Chg.refl _ _⟩
  | some ad =>
    have hmk := make_run EB (bs.length : Int) bs.length bs.length rfl (Nat.le_refl _) (by omega) (by omega)
    have HS := hid' hs
    clear hs hn
    go_enter Try.func12, Try.ntmps12
    go_wp2
    go_loopw [4] (fun i wr => ∃ k : Nat, k ≤ bs.length ∧ i = .int .i64 k ∧ Blk wr w.heap.size 4 ((bs.take k).map Value.bool ++ List.replicate (bs.length - k) (.bool false)) ∧ Chg [] w wr) (fun i _ => bs.length - (intOf i).toNat)
    case atStart => exact ⟨0, Nat.zero_le _, rfl, by simpa using Blk.new w (List.replicate bs.length (.bool false)) 4, (Chg.refl _ _).alloc _⟩
    case round =>
      obtain ⟨k, hk, rfl, hb, hc⟩ := hrel
      by_cases hlt : k < bs.length
      · obtain ⟨b, off, had, hcell0⟩ := HS.out k bs[k] (by simp [hlt])
        obtain rfl : ad = ⟨b, off, none⟩ := by simpa using had
        have hcell := hc.cell hcell0
        have hcell2 : wr.cell? ⟨w.heap.size, k, none⟩ = some (.bool false) := hb.cell (by rw [List.getElem?_append_right (by simp; omega)]; simp [List.getElem?_replicate]; omega)
        have hfr := hb.frozen k
        have hb' := hb.set k (.bool bs[k])
        rw [set_snoc_b bs k hlt] at hb'
        have hc' := hc.setCell (p := ⟨w.heap.size, k, none⟩) (Or.inr (Nat.le_refl _)) (.bool bs[k])
        have HB := And.intro hb' hc'
        have t1 : (k : Int) < (bs.length : Int) := by omega
        clear hb hc hb' hc' hcell0
        go_wp2
        go_roundw
        case rel => exact ⟨k + 1, by omega, by go_num, HB.1, HB.2⟩
        case measure => simp [intOf]; omega
      · have t1 : ¬ (k : Int) < (bs.length : Int) := by omega
        go_wp2
        go_ret
        obtain rfl : k = bs.length := by omega
        refine ⟨_, rfl, ⟨some ⟨w.heap.size, 0, none⟩, _, rfl, fun j s hj => ⟨w.heap.size, 0, rfl, ?_⟩⟩, hc⟩
        rw [Nat.zero_add]
        have := (List.getElem?_eq_some_iff.1 hj).1
        exact hb.cell (by rw [List.getElem?_append_left (by simp; omega), List.getElem?_map, List.getElem?_take, if_pos this, hj]; rfl)

set_option maxHeartbeats 1000000 in
theorem clone_nil (w : World) : Calls Try.prog 11 #[.slice none 0 0] w fun e w' => e = .returned (.slice none 0 0) ∧ w' = w := by
  have hne := fun w a n c n2 c2 => Lib.run_eql_slice_nil (P := Try.prog) w 22 9 a n c n2 c2 Try.underlying22
  go_enter Try.func11, Try.ntmps11
  go_wp2
  go_ret
  exact ⟨rfl, rfl⟩

theorem clone_any (a : Option Addr) (cap : Nat) (xs : List ByteArray) (w : World) (hs : Strs w a xs) (hn : a = none → xs = [] ∧ cap = 0) (hl : xs.length ≤ 65536) :
    Calls Try.prog 11 #[.slice a xs.length cap] w fun e w' => ∃ v, e = .returned v ∧ StrV w' v xs ∧ Chg [] w w' := by
  cases a with
  | none =>
    obtain ⟨rfl, rfl⟩ := hn rfl
    refine (clone_nil w).mono ?_
    rintro e w' ⟨rfl, rfl⟩
    exact ⟨_, rfl, ⟨none, 0, rfl, fun k s hk => by simp at hk, fun _ => rfl⟩, Chg.refl _ _⟩
  | some ad =>
    refine (clone_some ad xs cap w hs (by omega)).mono ?_
    rintro e w' ⟨rfl, hB, hc⟩
    exact ⟨_, rfl, ⟨some ⟨w.heap.size, 0, none⟩, _, rfl, fun k s hk => ⟨w.heap.size, 0, rfl, by rw [Nat.zero_add]; exact hB.cell (by rw [List.getElem?_map, hk]; rfl)⟩, fun h => by cases h⟩, hc⟩
end Go.Proofs.Qxb6601743a
