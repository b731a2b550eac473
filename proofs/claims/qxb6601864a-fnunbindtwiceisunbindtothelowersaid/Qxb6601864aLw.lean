import Derived.Test.Qxb6601864aAk
namespace Go.Proofs.Qxb6601864a
open Go.RowKit

set_option maxHeartbeats 2000000 in
theorem bytes_any (a ha : Option Addr) (cap hcap : Nat) (ps : List Pr) (hs : List Hd) (x y : Int) (w : World) (hp : Pairs w a ps) (hh : Hids w ha hs) (hl : ps.length ≤ maxLen) (hl2 : hs.length ≤ maxLen) :
    Calls Try.prog 27 #[.slice a ps.length cap, .slice ha hs.length hcap, .int .i64 x, .int .i64 y] w fun e w' => IsBool e ∧ w' = w := by
  unfold maxLen at hl hl2
  go_enter Try.func27, Try.ntmps27
  go_wp2
  · go_ret; exact ⟨⟨_, rfl⟩, rfl⟩
  · go_loop [9, 10] (fun n i => ∃ m k : Nat, m ≤ 1048576 ∧ k ≤ ps.length ∧ i = .int .i64 k ∧ n = .int .i64 m) (fun _ i => ps.length - (intOf i).toNat)
    case atStart => exact ⟨ps.length, 0, by omega, Nat.zero_le _, rfl, rfl⟩
    case round =>
      obtain ⟨m, k, hm, hk, rfl, rfl⟩ := hrel
      by_cases hlt : k < ps.length
      · obtain ⟨p, hsk⟩ : ∃ s, ps[k]? = some s := ⟨ps[k], by simp [hlt]⟩
        obtain ⟨b, off, rfl, c1, c2⟩ := hp k p hsk
        clear hsk hp hh
        go_wp2
        · go_ret; exact ⟨⟨_, rfl⟩, rfl⟩
        · go_ret; exact ⟨⟨_, rfl⟩, rfl⟩
        · go_ret; exact ⟨⟨_, rfl⟩, rfl⟩
        · go_ret; exact ⟨⟨_, rfl⟩, rfl⟩
        · go_round
          case rel => exact ⟨m + p.1.size + p.2.size, k + 1, by omega, by omega, by go_num, by go_num⟩
          case measure => simp [intOf]; omega
      · go_wp2
        · go_ret; exact ⟨⟨_, rfl⟩, rfl⟩
        · go_ret; exact ⟨⟨_, rfl⟩, rfl⟩
        · go_loop [9, 11] (fun n i => ∃ m k : Nat, m ≤ 1048576 ∧ k ≤ hs.length ∧ i = .int .i64 k ∧ n = .int .i64 m) (fun _ i => hs.length - (intOf i).toNat)
          case atStart => exact ⟨m + hs.length, 0, by omega, Nat.zero_le _, by go_num, by go_num⟩
          case round =>
            clear hm
            obtain ⟨m, k, hm, hk2, rfl, rfl⟩ := hrel
            by_cases hlt2 : k < hs.length
            · obtain ⟨h, hsk⟩ : ∃ s, hs[k]? = some s := ⟨hs[k], by simp [hlt2]⟩
              obtain ⟨b, off, rfl, c1, c2, _⟩ := hh k h hsk
              clear hsk hp hh
              go_wp2
              · go_ret; exact ⟨⟨_, rfl⟩, rfl⟩
              · go_ret; exact ⟨⟨_, rfl⟩, rfl⟩
              · go_ret; exact ⟨⟨_, rfl⟩, rfl⟩
              · go_ret; exact ⟨⟨_, rfl⟩, rfl⟩
              · go_round
                case rel => exact ⟨m + h.1.size + h.2.1.size, k + 1, by omega, by omega, by go_num, by go_num⟩
                case measure => simp [intOf]; omega
            · go_wp2
              go_ret
              exact ⟨⟨_, rfl⟩, rfl⟩
end Go.Proofs.Qxb6601864a
