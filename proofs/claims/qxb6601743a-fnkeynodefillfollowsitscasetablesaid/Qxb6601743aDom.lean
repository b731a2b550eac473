import Derived.Test.Qxb6601743aRd
namespace Go.Proofs.Qxb6601743a
open Go.RowKit

def BoolIf (D : Prop) (e : Ending) : Prop := ∃ b, e = .returned (.bool b) ∧ (b = true → D)
theorem boolIf_false {D : Prop} : BoolIf D (.returned (.bool false)) := ⟨false, rfl, fun h => by cases h⟩
theorem boolIf_mk {D : Prop} {b : Bool} (h : b = true → D) : BoolIf D (.returned (.bool b)) := ⟨b, rfl, h⟩

/-- fill's documented domain. -/
structure Dom (n : Nat) (ls : List Nat) (i : Int) : Prop where
  lo : 1 ≤ n
  hi : n ≤ 63
  len : ls.length = n + 1
  i0 : 0 ≤ i
  i1 : i ≤ n
  all : ∀ l ∈ ls, 31 ≤ l ∧ l ≤ 63
  here : ls[i.toNat]? = some 31

set_option maxHeartbeats 1000000 in
theorem domain_any (a ca : Option Addr) (cap ccap : Nat) (i : Int) (xs : List ByteArray) (xss : List (Value × List ByteArray)) (w : World) (hn : Nest w ca xss) (hl : xs.length ≤ maxLen)
    (hi : -9223372036854775808 ≤ i ∧ i ≤ 9223372036854775807) :
    Calls Try.prog 30 #[.slice a xs.length cap, .slice ca xss.length ccap, .int .i64 i] w fun e w' => BoolIf (Dom xs.length (xss.map (·.2.length)) i) e ∧ w' = w := by
  unfold maxLen at hl
  obtain ⟨n, hnn⟩ : ∃ n, n = xs.length := ⟨_, rfl⟩
  rw [← hnn] at hl ⊢
  clear hnn
  by_cases h1 : 1 ≤ n
  case neg =>
    have h1' : (n : Int) < 1 := by omega
    go_enter Try.func30, Try.ntmps30
    go_wp2
    go_ret
    exact ⟨boolIf_false, rfl⟩
  have h1' : ¬ (n : Int) < 1 := by omega
  have h1'' : decide ((n : Int) < 1) = false := by simp; omega
  by_cases h2 : n ≤ 63
  case neg =>
    have h2' : (63 : Int) < (n : Int) := by omega
    go_enter Try.func30, Try.ntmps30
    go_wp2
    go_ret
    exact ⟨boolIf_false, rfl⟩
  have h2' : ¬ (63 : Int) < (n : Int) := by omega
  have h2'' : decide ((63 : Int) < (n : Int)) = false := by simp; omega
  by_cases h3 : xss.length = n + 1
  case neg =>
    have h3' : ((xss.length : Int) != (n : Int) + 1) = true := by rw [bne_iff_ne]; omega
    go_enter Try.func30, Try.ntmps30
    go_wp2
    go_ret
    exact ⟨boolIf_false, rfl⟩
  have h3' : ((xss.length : Int) != (n : Int) + 1) = false := by rw [bne_eq_false_iff_eq]; omega
  have H3 : Hid (xss.length = n + 1) := h3
  have h3l : n < xss.length := by omega
  have h3r : xss.length ≤ n + 1 := by omega
  clear h3
  by_cases h4 : 0 ≤ i
  case neg =>
    have h4' : i < 0 := by omega
    go_enter Try.func30, Try.ntmps30
    go_wp2
    go_ret
    exact ⟨boolIf_false, rfl⟩
  have h4' : ¬ i < 0 := by omega
  have h4'' : decide (i < 0) = false := by simp; omega
  by_cases h5 : i ≤ n
  case neg =>
    have h5' : (n : Int) < i := by omega
    go_enter Try.func30, Try.ntmps30
    go_wp2
    go_ret
    exact ⟨boolIf_false, rfl⟩
  have h5' : ¬ (n : Int) < i := by omega
  have h5'' : decide ((n : Int) < i) = false := by simp; omega
  go_enter Try.func30, Try.ntmps30
  go_wp2
  go_loop [8] (fun t => ∃ k : Nat, k ≤ n + 1 ∧ t = .int .i64 k ∧ ∀ l ∈ (xss.map (·.2.length)).take k, 31 ≤ l ∧ l ≤ 63) (fun t => n + 1 - (intOf t).toNat)
  case atStart => exact ⟨0, Nat.zero_le _, rfl, by simp⟩
  case round =>
    obtain ⟨k, hk, rfl, hall⟩ := hrel
    have HA : Hid (∀ l ∈ (xss.map (·.2.length)).take k, 31 ≤ l ∧ l ≤ 63) := hall
    clear hall
    by_cases hlt : k ≤ n
    · have hkl : k < xss.length := by omega
      obtain ⟨v, ys, hsk⟩ : ∃ v ys, xss[k]? = some (v, ys) := ⟨xss[k].1, xss[k].2, by simp [hkl]⟩
      obtain ⟨b, off, rfl, hc, a2, c2, rfl, hys, _⟩ := hn k v ys hsk
      have HS : Hid ((xss.map (·.2.length)).take (k + 1) = (xss.map (·.2.length)).take k ++ [ys.length]) := by
        show (xss.map (·.2.length)).take (k + 1) = _
        rw [List.take_add_one, List.getElem?_map, hsk]; rfl
      clear hsk hn hys
      by_cases h6 : 31 ≤ ys.length
      case neg =>
        have h6' : (ys.length : Int) < 31 := by omega
        go_wp2
        go_ret
        exact ⟨boolIf_false, rfl⟩
      have h6' : ¬ (ys.length : Int) < 31 := by omega
      have h6'' : decide ((ys.length : Int) < 31) = false := by simp; omega
      by_cases h7 : ys.length ≤ 63
      case neg =>
        have h7' : (63 : Int) < (ys.length : Int) := by omega
        go_wp2
        go_ret
        exact ⟨boolIf_false, rfl⟩
      have h7' : ¬ (63 : Int) < (ys.length : Int) := by omega
      have h7'' : decide ((63 : Int) < (ys.length : Int)) = false := by simp; omega
      go_wp2
      go_round
      case rel => exact ⟨k + 1, by omega, by go_num, by rw [HS.out]; intro l hl; rcases List.mem_append.1 hl with h | h; exact HA.out l h; obtain rfl : l = ys.length := (by simpa using h); exact ⟨h6, h7⟩⟩
      case measure => simp [intOf]; omega
    · have hil : i.toNat < xss.length := by omega
      obtain ⟨j, rfl⟩ : ∃ j : Nat, i = j := ⟨i.toNat, by omega⟩
      have hij : j < xss.length := by omega
      obtain ⟨v, ys, hsk⟩ : ∃ v ys, xss[j]? = some (v, ys) := ⟨xss[j].1, xss[j].2, by simp [hij]⟩
      obtain ⟨b, off, rfl, hc, a2, c2, rfl, hys, _⟩ := hn j v ys hsk
      have HX : Hid ((xss.map (·.2.length))[j]? = some ys.length) := by
        show _ = _
        rw [List.getElem?_map, hsk]; rfl
      have HT : Hid ((xss.map (·.2.length)).take k = xss.map (·.2.length)) := List.take_of_length_le (by simp; omega)
      clear hsk hn hys
      have hjl : (j : Int) < (xss.length : Int) := by omega
      go_wp2
      go_ret
      refine ⟨boolIf_mk fun h => ⟨h1, h2, by simp [H3.out], by omega, by omega, by rw [← HT.out]; exact HA.out, ?_⟩, rfl⟩
      rw [Int.toNat_natCast, HX.out]
      simp at h
      exact congrArg some (by omega)
end Go.Proofs.Qxb6601743a
