import Derived.Test.Qxb6601743aProg
import Derived.Test.Qxb6601743aHeap
namespace Go.Proofs.Qxb6601743a
open Go.RowKit

/-- The strings behind a slice's address. -/
def Strs (w : World) (a : Option Addr) (xs : List ByteArray) : Prop := ∀ k s, xs[k]? = some s → ∃ b off, a = some ⟨b, off, none⟩ ∧ w.cell? ⟨b, off + k, none⟩ = some (.string s)

/-- A value that is a slice of strings. -/
def StrV (w : World) (v : Value) (xs : List ByteArray) : Prop := ∃ a c, v = .slice a xs.length c ∧ Strs w a xs ∧ (a = none → xs = [])

/-- The slices of strings behind a slice's address. -/
def Nest (w : World) (a : Option Addr) (xss : List (Value × List ByteArray)) : Prop :=
  ∀ k v xs, xss[k]? = some (v, xs) → ∃ b off, a = some ⟨b, off, none⟩ ∧ w.cell? ⟨b, off + k, none⟩ = some v ∧ StrV w v xs

def IsBool (e : Ending) : Prop := ∃ b, e = .returned (.bool b)
def IsInt (e : Ending) : Prop := ∃ n, e = .returned (.int .i64 n)

set_option maxHeartbeats 1000000 in
theorem bytes_fill (a ca : Option Addr) (cap ccap : Nat) (i : Int) (xs : List ByteArray) (xss : List (Value × List ByteArray)) (w : World) (hs : Strs w a xs) (hn : Nest w ca xss) (hl : xs.length ≤ maxLen) (hl2 : xss.length ≤ maxLen) :
    Calls Try.prog 28 #[.slice a xs.length cap, .slice ca xss.length ccap, .int .i64 i] w fun e w' => IsBool e ∧ w' = w := by
  unfold maxLen at hl hl2
  go_enter Try.func28, Try.ntmps28
  go_wp2
  · go_ret; exact ⟨⟨_, rfl⟩, rfl⟩
  · go_loop [7, 8] (fun n i => ∃ m k : Nat, m ≤ 1048576 ∧ k ≤ xs.length ∧ i = .int .i64 k ∧ n = .int .i64 m) (fun _ i => xs.length - (intOf i).toNat)
    case atStart => exact ⟨xs.length, 0, by omega, Nat.zero_le _, rfl, rfl⟩
    case round =>
      obtain ⟨m, k, hm, hk, rfl, rfl⟩ := hrel
      by_cases hlt : k < xs.length
      · obtain ⟨s, hsk⟩ : ∃ s, xs[k]? = some s := ⟨xs[k], by simp [hlt]⟩
        obtain ⟨b, off, rfl, hc⟩ := hs k s hsk
        clear hsk hs hn
        go_wp2
        · go_ret; exact ⟨⟨_, rfl⟩, rfl⟩
        · go_ret; exact ⟨⟨_, rfl⟩, rfl⟩
        · go_round
          case rel => exact ⟨m + s.size, k + 1, by omega, by omega, by go_num, by go_num⟩
          case measure => simp [intOf]; omega
      · go_wp2
        · go_ret; exact ⟨⟨_, rfl⟩, rfl⟩
        · go_ret; exact ⟨⟨_, rfl⟩, rfl⟩
        · go_loop [7, 9, 10] (fun n i _ => ∃ m k : Nat, m ≤ 1048576 ∧ k ≤ xss.length ∧ i = .int .i64 k ∧ n = .int .i64 m) (fun _ i _ => xss.length - (intOf i).toNat)
          case atStart => exact ⟨m + xss.length, 0, by omega, Nat.zero_le _, by go_num, by go_num⟩
          case round =>
            clear hm
            obtain ⟨m, k, hm, hk2, rfl, rfl⟩ := hrel
            by_cases hlt2 : k < xss.length
            · obtain ⟨v, ys, hsk⟩ : ∃ v ys, xss[k]? = some (v, ys) := ⟨xss[k].1, xss[k].2, by simp [hlt2]⟩
              obtain ⟨b, off, rfl, hc, a2, c2, rfl, hys, _⟩ := hn k v ys hsk
              clear hsk hs hn
              go_wp2
              · go_ret; exact ⟨⟨_, rfl⟩, rfl⟩
              · go_ret; exact ⟨⟨_, rfl⟩, rfl⟩
              · go_loop [7, 10] (fun n i => ∃ m t : Nat, m ≤ 1048576 ∧ t ≤ ys.length ∧ i = .int .i64 t ∧ n = .int .i64 m) (fun _ i => ys.length - (intOf i).toNat)
                case atStart => exact ⟨m + ys.length, 0, by omega, Nat.zero_le _, by go_num, by go_num⟩
                case round =>
                  clear hm
                  obtain ⟨m, t, hm, ht, rfl, rfl⟩ := hrel
                  by_cases hlt3 : t < ys.length
                  · obtain ⟨s, hst⟩ : ∃ s, ys[t]? = some s := ⟨ys[t], by simp [hlt3]⟩
                    obtain ⟨b2, off2, rfl, hc2⟩ := hys t s hst
                    clear hst hys
                    go_wp2
                    · go_ret; exact ⟨⟨_, rfl⟩, rfl⟩
                    · go_ret; exact ⟨⟨_, rfl⟩, rfl⟩
                    · go_round
                      case rel => exact ⟨m + s.size, t + 1, by omega, by omega, by go_num, by go_num⟩
                      case measure => simp [intOf]; omega
                  · go_wp2
                    go_round
                    case rel => exact ⟨m, k + 1, hm, by omega, by go_num, rfl⟩
                    case measure => simp [intOf]; omega
            · go_wp2
              go_ret
              exact ⟨⟨_, rfl⟩, rfl⟩

set_option maxHeartbeats 1000000 in
theorem fillBytes_any (a ca : Option Addr) (cap ccap : Nat) (xs : List ByteArray) (xss : List (Value × List ByteArray)) (w : World) (hs : Strs w a xs) (hn : Nest w ca xss) (hl : xs.length ≤ maxLen) (hl2 : xss.length ≤ maxLen) :
    Calls Try.prog 29 #[.slice a xs.length cap, .slice ca xss.length ccap] w fun e w' => IsInt e ∧ w' = w := by
  unfold maxLen at hl hl2
  by_cases h1 : xs.length ≤ 65536 ∧ xss.length ≤ 65536
  · obtain ⟨h1, h2⟩ := h1
    have h1' : ¬ (65536 : Int) < (xs.length : Int) := by omega
    have h2' : ¬ (65536 : Int) < (xss.length : Int) := by omega
    go_enter Try.func29, Try.ntmps29
    go_wp2
    go_loop [5, 6] (fun n i => ∃ m k : Nat, m ≤ 4194304 ∧ k ≤ xs.length ∧ i = .int .i64 k ∧ n = .int .i64 m) (fun _ i => xs.length - (intOf i).toNat)
    case atStart => exact ⟨16 * xs.length + 24 * xss.length, 0, by omega, Nat.zero_le _, rfl, by go_num⟩
    case round =>
      obtain ⟨m, k, hm, hk, rfl, rfl⟩ := hrel
      by_cases hlt : k < xs.length
      · obtain ⟨s, hsk⟩ : ∃ s, xs[k]? = some s := ⟨xs[k], by simp [hlt]⟩
        obtain ⟨b, off, rfl, hc⟩ := hs k s hsk
        clear hsk hs hn
        go_wp2
        · go_ret; exact ⟨⟨_, rfl⟩, rfl⟩
        · go_ret; exact ⟨⟨_, rfl⟩, rfl⟩
        · go_round
          case rel => exact ⟨m + s.size, k + 1, by omega, by omega, by go_num, by go_num⟩
          case measure => simp [intOf]; omega
      · go_wp2
        go_loop [5, 7, 8] (fun n i _ => ∃ m k : Nat, m ≤ 4194304 ∧ k ≤ xss.length ∧ i = .int .i64 k ∧ n = .int .i64 m) (fun _ i _ => xss.length - (intOf i).toNat)
        case atStart => exact ⟨m, 0, hm, Nat.zero_le _, rfl, rfl⟩
        case round =>
          clear hm
          obtain ⟨m, k, hm, hk2, rfl, rfl⟩ := hrel
          by_cases hlt2 : k < xss.length
          · obtain ⟨v, ys, hsk⟩ : ∃ v ys, xss[k]? = some (v, ys) := ⟨xss[k].1, xss[k].2, by simp [hlt2]⟩
            obtain ⟨b, off, rfl, hc, a2, c2, rfl, hys, _⟩ := hn k v ys hsk
            clear hsk hs hn
            go_wp2
            · go_ret; exact ⟨⟨_, rfl⟩, rfl⟩
            · go_ret; exact ⟨⟨_, rfl⟩, rfl⟩
            · go_loop [5, 8] (fun n i => ∃ m t : Nat, m ≤ 4194304 ∧ t ≤ ys.length ∧ i = .int .i64 t ∧ n = .int .i64 m) (fun _ i => ys.length - (intOf i).toNat)
              case atStart => exact ⟨m + 16 * ys.length, 0, by omega, Nat.zero_le _, by go_num, by go_num⟩
              case round =>
                clear hm
                obtain ⟨m, t, hm, ht, rfl, rfl⟩ := hrel
                by_cases hlt3 : t < ys.length
                · obtain ⟨s, hst⟩ : ∃ s, ys[t]? = some s := ⟨ys[t], by simp [hlt3]⟩
                  obtain ⟨b2, off2, rfl, hc2⟩ := hys t s hst
                  clear hst hys
                  go_wp2
                  · go_ret; exact ⟨⟨_, rfl⟩, rfl⟩
                  · go_ret; exact ⟨⟨_, rfl⟩, rfl⟩
                  · go_round
                    case rel => exact ⟨m + s.size, t + 1, by omega, by omega, by go_num, by go_num⟩
                    case measure => simp [intOf]; omega
                · go_wp2
                  go_round
                  case rel => exact ⟨m, k + 1, hm, by omega, by go_num, rfl⟩
                  case measure => simp [intOf]; omega
          · go_wp2
            go_ret
            exact ⟨⟨_, rfl⟩, rfl⟩
  · by_cases h2 : xs.length ≤ 65536
    · have h2' : ¬ (65536 : Int) < (xs.length : Int) := by omega
      have h3' : (65536 : Int) < (xss.length : Int) := by omega
      go_enter Try.func29, Try.ntmps29
      go_wp2
      go_ret
      exact ⟨⟨_, rfl⟩, rfl⟩
    · have h2' : (65536 : Int) < (xs.length : Int) := by omega
      go_enter Try.func29, Try.ntmps29
      go_wp2
      go_ret
      exact ⟨⟨_, rfl⟩, rfl⟩
end Go.Proofs.Qxb6601743a
