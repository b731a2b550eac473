import Derived.Test.Qxb6601743aTab
namespace Go.Proofs.Qxb6601743a
open Go.RowKit

set_option maxHeartbeats 1000000 in
theorem equal_any (v u : Value) (xs : List ByteArray) (w : World) (hv : StrV w v xs) (hu : StrV w u xs) (hl : xs.length ≤ 1000000) :
    Calls Try.prog 15 #[v, u] w fun e w' => e = .returned (.bool true) ∧ Chg [] w w' := by
  obtain ⟨a, c, rfl, ha, _⟩ := hv
  obtain ⟨b, d, rfl, hb, _⟩ := hu
  have h0 : ((xs.length : Int) != (xs.length : Int)) = false := by simp
  go_enter Try.func15, Try.ntmps15
  go_wp2
  go_loopw [5] (fun t wr => ∃ k : Nat, k ≤ xs.length ∧ t = .int .i64 k ∧ Chg [] w wr) (fun t _ => xs.length - (intOf t).toNat)
  case atStart => exact ⟨0, Nat.zero_le _, rfl, Chg.refl _ _⟩
  case round =>
    obtain ⟨k, hk, rfl, hc⟩ := hrel
    by_cases hlt : k < xs.length
    · obtain ⟨s, hs⟩ : ∃ s, xs[k]? = some s := ⟨xs[k], by simp [hlt]⟩
      obtain ⟨b1, o1, rfl, c1⟩ := ha k s hs
      obtain ⟨b2, o2, rfl, c2⟩ := hb k s hs
      have c1' := hc.cell c1
      have c2' := hc.cell c2
      have hki : (k : Int) < (xs.length : Int) := by omega
      have HC : Hid (Chg [] w wr) := hc
      clear ha hb c1 c2 hs hc
      go_wp2
      refine wp_region_parts (fun w' => w'.cell? ⟨b1, o1 + k, none⟩ = some (.string s) ∧ w'.cell? ⟨b2, o2 + k, none⟩ = some (.string s))
        [(0, false), (1, false), (2, false), (3, true), (4, false), (5, false), (6, false), (7, true), (8, false)] [] (by kernel_rfl) (fun _ _ _ _ _ h => h) (by kernel_rfl) ⟨c1', c2'⟩ ?_
      simp only [pick, List.map_cons, List.map_nil, List.getElem?_toArray, List.getElem?_cons_zero, List.getElem?_cons_succ]
      repeat (refine Heads.cons (v := ?_) ?_ ?_; rotate_left 1; (· (intro w' hw'; (first | (obtain ⟨_, _⟩ := hw' rfl; clear hw') | clear hw'); go_simp; (try with_reducible rfl); done)); simp only [Act.put, List.setIfInBounds_toArray, List.set_cons_zero, List.set_cons_succ])
      refine Heads.nil ?_
      refine Rest.nil ?_
      go_wp2
      go_roundw
      case rel => exact ⟨k + 1, by omega, by go_num, HC.out.drew⟩
      case measure => simp [intOf]; omega
    · go_wp2
      go_ret
      exact ⟨rfl, hc⟩

set_option maxHeartbeats 2000000 in
theorem hasRun_any (v u : Value) (H N : List ByteArray) (p : Nat) (w : World) (hv : StrV w v H) (hu : StrV w u N) (hl : H.length ≤ 1000000) (hN : 0 < N.length) (hp : p + N.length ≤ H.length)
    (hat : ∀ t s, N[t]? = some s → H[p + t]? = some s) :
    Calls Try.prog 38 #[v, u] w fun e w' => e = .returned (.bool true) ∧ Chg [] w w' := by
  obtain ⟨b1, o1, c1, rfl, hc1⟩ := hv.open (by omega)
  obtain ⟨b2, o2, c2, rfl, hc2⟩ := hu.open hN
  have HA : Hid (∀ t s, N[t]? = some s → H[p + t]? = some s) := hat
  have H1 : Hid (∀ k s, H[k]? = some s → w.cell? ⟨b1, o1 + k, none⟩ = some (.string s)) := hc1
  have H2 : Hid (∀ k s, N[k]? = some s → w.cell? ⟨b2, o2 + k, none⟩ = some (.string s)) := hc2
  clear hat hc1 hc2 hv hu
  go_enter Try.func38, Try.ntmps38
  go_wp2
  go_loopw [5, 6, 7] (fun st _ _ wr => ∃ k : Nat, k ≤ p ∧ st = .int .i64 k ∧ Chg [] w wr) (fun st _ _ _ => p - (intOf st).toNat)
  case atStart => exact ⟨0, Nat.zero_le _, rfl, Chg.refl _ _⟩
  case round =>
    obtain ⟨k, hk, rfl, hc⟩ := hrel
    have hle : (k : Int) + (N.length : Int) ≤ (H.length : Int) := by omega
    go_wp2
    go_loopw [6, 7] (fun same t wq => ∃ m : Nat, m ≤ N.length ∧ same = .bool true ∧ t = .int .i64 m ∧ Chg [] w wq) (fun _ t _ => N.length - (intOf t).toNat)
    case atStart => exact ⟨0, Nat.zero_le _, rfl, rfl, hc⟩
    case round =>
      clear hc
      obtain ⟨m, hm, rfl, rfl, hc⟩ := hrel
      by_cases hlt : m < N.length
      · obtain ⟨s2, hs2⟩ : ∃ s, N[m]? = some s := ⟨N[m], by simp [hlt]⟩
        obtain ⟨s1, hs1⟩ : ∃ s, H[k + m]? = some s := ⟨H[k + m]'(by omega), by simp⟩
        have q1 := hc.cell (H1.out _ _ hs1)
        have q2 := hc.cell (H2.out _ _ hs2)
        have HC : Hid (Chg [] w wr) := hc
        have t1 : (m : Int) < (N.length : Int) := by omega
        have t2 : (k : Int) + (m : Int) < (H.length : Int) := by omega
        have t3 : IntKind.i64.wrap ((k : Int) + (m : Int)) = (k : Int) + (m : Int) := by rw [IntKind.wrap_i64]; omega
        have t4 : (0 : Int) ≤ (k : Int) + (m : Int) := by omega
        have t5 : ((k : Int) + (m : Int)).toNat = k + m := by omega
        have HE : Hid ((s1.toList == s2.toList) = false → k < p) := fun h => by
          rcases Nat.lt_or_ge k p with h' | h'
          · exact h'
          · obtain rfl : k = p := by omega
            have := HA.out _ _ hs2
            rw [hs1] at this
            obtain rfl : s1 = s2 := by simpa using this
            rw [beq_self_eq_true] at h
            cases h
        clear hs1 hs2 hc
        by_cases he : (s1.toList == s2.toList) = true
        · clear HE
          go_wp2
          refine wp_region_parts (fun w' => w'.cell? ⟨b1, o1 + (k + m), none⟩ = some (.string s1) ∧ w'.cell? ⟨b2, o2 + m, none⟩ = some (.string s2))
            [(0, false), (1, false), (2, false), (3, false), (4, false), (5, true), (6, false), (7, false), (8, false), (9, true), (10, false)] [] (by kernel_rfl) (fun _ _ _ _ _ h => h) (by kernel_rfl) ⟨q1, q2⟩ ?_
          simp only [pick, List.map_cons, List.map_nil, List.getElem?_toArray, List.getElem?_cons_zero, List.getElem?_cons_succ]
          repeat (refine Heads.cons (v := ?_) ?_ ?_; rotate_left 1; (· (intro w' hw'; (first | (obtain ⟨_, _⟩ := hw' rfl; clear hw') | clear hw'); go_simp; (try with_reducible rfl); done)); simp only [Act.put, List.setIfInBounds_toArray, List.set_cons_zero, List.set_cons_succ])
          refine Heads.nil ?_
          refine Rest.nil ?_
          go_wp2
          go_roundw
          case rel => exact ⟨m + 1, by omega, rfl, by go_num, HC.out.drew⟩
          case measure => simp [intOf]; omega
        · have he' : (s1.toList == s2.toList) = false := by simpa using he
          have hkp := HE.out he'
          clear he HE
          go_wp2
          refine wp_region_parts (fun w' => w'.cell? ⟨b1, o1 + (k + m), none⟩ = some (.string s1) ∧ w'.cell? ⟨b2, o2 + m, none⟩ = some (.string s2))
            [(0, false), (1, false), (2, false), (3, false), (4, false), (5, true), (6, false), (7, false), (8, false), (9, true), (10, false)] [] (by kernel_rfl) (fun _ _ _ _ _ h => h) (by kernel_rfl) ⟨q1, q2⟩ ?_
          simp only [pick, List.map_cons, List.map_nil, List.getElem?_toArray, List.getElem?_cons_zero, List.getElem?_cons_succ]
          repeat (refine Heads.cons (v := ?_) ?_ ?_; rotate_left 1; (· (intro w' hw'; (first | (obtain ⟨_, _⟩ := hw' rfl; clear hw') | clear hw'); go_simp; (try with_reducible rfl); done)); simp only [Act.put, List.setIfInBounds_toArray, List.set_cons_zero, List.set_cons_succ])
          refine Heads.nil ?_
          refine Rest.nil ?_
          go_wp2
          go_roundw
          case rel => exact ⟨k + 1, by omega, by go_num, HC.out.drew⟩
          case measure => simp [intOf]; omega
      · go_wp2
        go_ret
        exact ⟨rfl, hc⟩
end Go.Proofs.Qxb6601743a
