import Derived.Test.Qxb6601743aFlf
namespace Go.Proofs.Qxb6601743a
open Go.RowKit

/-- What a search over n keys answers: a place, and whether the key stands there. -/
def Found (n : Nat) (e : Ending) : Prop := ∃ (i : Nat) (f : Bool), e = .returned (.tuple #[.int .i64 i, .bool f]) ∧ i ≤ n ∧ (f = true → i < n)

set_option maxHeartbeats 1000000 in
theorem less_any (s t : ByteArray) (w : World) : Calls Try.prog 53 #[.string s, .string t] w fun e w' => IsBool e ∧ w' = w := by
  go_enter Try.func53, Try.ntmps53
  go_wp2
  all_goals (go_ret; exact ⟨⟨_, rfl⟩, rfl⟩)

theorem nan_any (s : ByteArray) (w : World) : Calls Try.prog 54 #[.string s] w fun e w' => e = .returned (.bool false) ∧ w' = w := by
  go_enter Try.func54, Try.ntmps54
  go_wp2
  go_ret
  exact ⟨rfl, rfl⟩

set_option maxHeartbeats 2000000 in
theorem search_any (v : Value) (b : Nat) (key : ByteArray) (xs : List ByteArray) (w : World) (hv : Own w 9 v b (xs.map Value.string)) (hl : xs.length ≤ 1000) :
    Calls Try.prog 44 #[v, .string key] w fun e w' => Found xs.length e ∧ w' = w := by
  obtain ⟨sp, rfl, hB, _⟩ := hv
  rw [List.length_map]
  have HB : Hid (∀ k s, xs[k]? = some s → w.cell? ⟨b, k, none⟩ = some (.string s)) := fun k s hk => hB.cell (by
    have hlt := (List.getElem?_eq_some_iff.1 hk).1
    rw [List.getElem?_append_left (by simpa using hlt), List.getElem?_map, hk]; rfl)
  clear hB
  go_enter Try.func44, Try.ntmps44
  go_wp2
  go_loopw [7, 8, 9] (fun p q _ wr => ∃ i j : Nat, i ≤ j ∧ j ≤ xs.length ∧ p = .int .i64 i ∧ q = .int .i64 j ∧ wr = w) (fun p q _ _ => (intOf q).toNat - (intOf p).toNat)
  case atStart => exact ⟨0, xs.length, Nat.zero_le _, Nat.le_refl _, rfl, rfl, rfl⟩
  case round =>
    obtain ⟨i, j, hij, hj, rfl, rfl, rfl⟩ := hrel
    by_cases hlt : i < j
    · obtain ⟨s, hs⟩ : ∃ s, xs[(i + j) / 2]? = some s := ⟨xs[(i + j) / 2]'(by omega), by simp⟩
      have hc := HB.out _ _ hs
      have t1 : (i : Int) < (j : Int) := by omega
      have t2 : IntKind.i64.wrap ((i : Int) + (j : Int)) = (i : Int) + (j : Int) := by rw [IntKind.wrap_i64]; omega
      have t3 : ((i : Int) + (j : Int)) / 2 = (((i + j) / 2 : Nat) : Int) := by omega
      have hm1 : i ≤ (i + j) / 2 := by omega
      have hm2 : (i + j) / 2 < j := by omega
      generalize (i + j) / 2 = m at hs hc t3 hm1 hm2
      have t4 : (m : Int) < (xs.length : Int) := by omega
      clear hs
      go_wp2_with fail
      refine (less_any _ _ _).mono ?_
      rintro e w1 ⟨⟨bb, rfl⟩, rfl⟩
      cases bb
      · go_wp2_with fail
        exact ⟨⟨i, m, hm1, by omega, rfl, rfl, trivial⟩, by simp [intOf]; omega⟩
      · go_wp2_with fail
        exact ⟨⟨m + 1, j, by omega, hj, by simp, rfl, trivial⟩, by simp [intOf]; omega⟩
    · have t1 : ¬ (i : Int) < (j : Int) := by omega
      by_cases hin : i < xs.length
      · obtain ⟨s, hs⟩ : ∃ s, xs[i]? = some s := ⟨xs[i], by simp [hin]⟩
        have hc := HB.out _ _ hs
        have t2 : (i : Int) < (xs.length : Int) := by omega
        clear hs
        by_cases he : (s.toList == key.toList) = true
        · go_wp2_with fail
          go_ret2
          exact ⟨⟨i, true, rfl, by omega, fun _ => hin⟩, rfl⟩
        · have he' : (s.toList == key.toList) = false := by simpa using he
          clear he
          go_wp2_with fail
          refine (nan_any _ _).mono ?_
          rintro e w1 ⟨rfl, rfl⟩
          go_wp2_with fail
          go_ret2
          exact ⟨⟨i, false, rfl, by omega, fun _ => hin⟩, rfl⟩
      · have t2 : ¬ (i : Int) < (xs.length : Int) := by omega
        go_wp2_with fail
        go_ret2
        exact ⟨⟨i, false, rfl, by omega, fun h => by cases h⟩, rfl⟩
end Go.Proofs.Qxb6601743a
