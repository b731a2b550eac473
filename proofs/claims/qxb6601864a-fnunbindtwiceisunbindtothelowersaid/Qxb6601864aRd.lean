import Derived.Test.Qxb6601864aProg
import Derived.Test.Qxb6601864aMp
import Derived.Test.Qxb6601864aReg
namespace Go.Proofs.Qxb6601864a
open Go.RowKit

theorem hid {p : Prop} (h : p) : Hid p := h

/-- A pair of strings; what was hidden. -/
abbrev Pr := ByteArray × ByteArray
abbrev Hd := ByteArray × ByteArray × Bool

def Pairs (w : World) (a : Option Addr) (ps : List Pr) : Prop := ∀ k p, ps[k]? = some p → ∃ b off, a = some ⟨b, off, none⟩ ∧ w.cell? ⟨b, off + k * 2, none⟩ = some (.string p.1) ∧ w.cell? ⟨b, off + k * 2 + 1, none⟩ = some (.string p.2)
def Hids (w : World) (a : Option Addr) (hs : List Hd) : Prop := ∀ k p, hs[k]? = some p → ∃ b off, a = some ⟨b, off, none⟩ ∧ w.cell? ⟨b, off + k * 3, none⟩ = some (.string p.1) ∧ w.cell? ⟨b, off + k * 3 + 1, none⟩ = some (.string p.2.1) ∧ w.cell? ⟨b, off + k * 3 + 2, none⟩ = some (.bool p.2.2)

abbrev ptr (b : Nat) : Value := .pointer (some ⟨b, 0, none⟩)

def IsBool (e : Ending) : Prop := ∃ b, e = .returned (.bool b)
def IsNat (B : Nat) (e : Ending) : Prop := ∃ t : Nat, e = .returned (.int .i64 t) ∧ t ≤ B

set_option maxHeartbeats 4000000 in
theorem pairBytes (a : Option Addr) (cap : Nat) (ps : List Pr) (w : World) (hs : Pairs w a ps) (hl : ps.length ≤ 4096) :
    Calls Try.prog 14 #[.slice a ps.length cap] w fun e w' => IsNat 8388608 e ∧ Chg [] w w' := by
  have HS := hid hs
  clear hs
  go_enter Try.func14, Try.ntmps14
  go_wp2
  go_loopw [3, 4] (fun q i wr => ∃ m k : Nat, m ≤ 1048576 ∧ k ≤ ps.length ∧ i = .int .i64 k ∧ q = .int .i64 m ∧ Chg [] w wr) (fun _ i _ => ps.length - (intOf i).toNat)
  case atStart => exact ⟨0, 0, by omega, Nat.zero_le _, rfl, rfl, Chg.refl _ _⟩
  case round =>
    obtain ⟨m, k, hm, hk, rfl, rfl, hc⟩ := hrel
    have HC := hid hc
    by_cases hlt : k < ps.length
    · obtain ⟨p, hp⟩ : ∃ p, ps[k]? = some p := ⟨ps[k], by simp [hlt]⟩
      obtain ⟨b, off, rfl, h1, h2⟩ := HS.out k p hp
      have c1 := hc.cell h1
      have c2 := hc.cell h2
      have t1 : (k : Int) < (ps.length : Int) := by omega
      clear hp h1 h2 hc
      by_cases g1 : 1048576 < p.1.size
      · have t2 : (1048576 : Int) < (p.1.size : Int) := by omega
        have t3 : decide ((1048576 : Int) < (p.1.size : Int)) = true := by simp; omega
        go_wp2
        go_ret
        exact ⟨⟨1048577, rfl, by omega⟩, HC.out⟩
      · have t2 : ¬ (1048576 : Int) < (p.1.size : Int) := by omega
        have t3 : decide ((1048576 : Int) < (p.1.size : Int)) = false := by simp; omega
        by_cases g2 : 1048576 < p.2.size
        · have t4 : (1048576 : Int) < (p.2.size : Int) := by omega
          have t5 : decide ((1048576 : Int) < (p.2.size : Int)) = true := by simp; omega
          go_wp2
          go_ret
          exact ⟨⟨1048577, rfl, by omega⟩, HC.out⟩
        · have t4 : ¬ (1048576 : Int) < (p.2.size : Int) := by omega
          have t5 : decide ((1048576 : Int) < (p.2.size : Int)) = false := by simp; omega
          have w1 : IntKind.i64.wrap (32 + (p.1.size : Int)) = 32 + (p.1.size : Int) := by rw [IntKind.wrap_i64]; omega
          have w2 : IntKind.i64.wrap (32 + (p.1.size : Int) + (p.2.size : Int)) = 32 + (p.1.size : Int) + (p.2.size : Int) := by rw [IntKind.wrap_i64]; omega
          have w3 : IntKind.i64.wrap ((m : Int) + (32 + (p.1.size : Int) + (p.2.size : Int))) = (m : Int) + (32 + (p.1.size : Int) + (p.2.size : Int)) := by rw [IntKind.wrap_i64]; omega
          go_wp2
          refine wp_region_parts (fun w' => w'.cell? ⟨b, off + k * 2, none⟩ = some (.string p.1) ∧ w'.cell? ⟨b, off + k * 2 + 1, none⟩ = some (.string p.2))
            [(0, false), (1, false), (2, false), (3, false), (4, false), (5, true), (6, false), (7, false), (8, false), (9, false), (10, false), (11, false), (12, true), (13, false), (14, false), (15, false)] [(16, true)] (by kernel_rfl) (fun _ _ _ _ _ h => h) (by kernel_rfl) ⟨c1, c2⟩ ?_
          simp only [pick, List.map_cons, List.map_nil, List.getElem?_toArray, List.getElem?_cons_zero, List.getElem?_cons_succ]
          repeat (refine Heads.cons (v := ?_) ?_ ?_; rotate_left 1; (· (intro w' hw'; (first | (obtain ⟨_, _⟩ := hw' rfl; clear hw') | clear hw'); go_simp; (try with_reducible rfl); done)); simp only [Act.put, List.setIfInBounds_toArray, List.set_cons_zero, List.set_cons_succ])
          refine Heads.nil ?_
          refine Rest.cons (fun K hK => ?_)
          go_simp
          refine hK.out _ _ (fun h => by cases h) (Rest.nil ?_)
          clear hK K
          by_cases g3 : 1048576 < m + (32 + p.1.size + p.2.size)
          · have t6 : (1048576 : Int) < (m : Int) + (32 + (p.1.size : Int) + (p.2.size : Int)) := by omega
            go_wp2
            go_ret
            exact ⟨⟨m + (32 + p.1.size + p.2.size), by simp, by omega⟩, HC.out.drew⟩
          · have t6 : ¬ (1048576 : Int) < (m : Int) + (32 + (p.1.size : Int) + (p.2.size : Int)) := by omega
            go_wp2
            go_roundw
            case rel => exact ⟨m + (32 + p.1.size + p.2.size), k + 1, by omega, by omega, by simp, by simp, HC.out.drew⟩
            case measure => simp [intOf]; omega
    · have t1 : ¬ (k : Int) < (ps.length : Int) := by omega
      clear hc
      go_wp2
      go_ret
      exact ⟨⟨m, rfl, by omega⟩, HC.out⟩

set_option maxHeartbeats 4000000 in
theorem hidBytes (a : Option Addr) (cap : Nat) (ps : List Hd) (w : World) (hs : Hids w a ps) (hl : ps.length ≤ 4096) :
    Calls Try.prog 15 #[.slice a ps.length cap] w fun e w' => IsNat 8388608 e ∧ Chg [] w w' := by
  have HS := hid hs
  clear hs
  go_enter Try.func15, Try.ntmps15
  go_wp2
  go_loopw [3, 4] (fun q i wr => ∃ m k : Nat, m ≤ 1048576 ∧ k ≤ ps.length ∧ i = .int .i64 k ∧ q = .int .i64 m ∧ Chg [] w wr) (fun _ i _ => ps.length - (intOf i).toNat)
  case atStart => exact ⟨0, 0, by omega, Nat.zero_le _, rfl, rfl, Chg.refl _ _⟩
  case round =>
    obtain ⟨m, k, hm, hk, rfl, rfl, hc⟩ := hrel
    have HC := hid hc
    by_cases hlt : k < ps.length
    · obtain ⟨p, hp⟩ : ∃ p, ps[k]? = some p := ⟨ps[k], by simp [hlt]⟩
      obtain ⟨b, off, rfl, h1, h2, _⟩ := HS.out k p hp
      have c1 := hc.cell h1
      have c2 := hc.cell h2
      have t1 : (k : Int) < (ps.length : Int) := by omega
      clear hp h1 h2 hc
      by_cases g1 : 1048576 < p.1.size
      · have t2 : (1048576 : Int) < (p.1.size : Int) := by omega
        have t3 : decide ((1048576 : Int) < (p.1.size : Int)) = true := by simp; omega
        go_wp2
        go_ret
        exact ⟨⟨1048577, rfl, by omega⟩, HC.out⟩
      · have t2 : ¬ (1048576 : Int) < (p.1.size : Int) := by omega
        have t3 : decide ((1048576 : Int) < (p.1.size : Int)) = false := by simp; omega
        by_cases g2 : 1048576 < p.2.1.size
        · have t4 : (1048576 : Int) < (p.2.1.size : Int) := by omega
          have t5 : decide ((1048576 : Int) < (p.2.1.size : Int)) = true := by simp; omega
          go_wp2
          go_ret
          exact ⟨⟨1048577, rfl, by omega⟩, HC.out⟩
        · have t4 : ¬ (1048576 : Int) < (p.2.1.size : Int) := by omega
          have t5 : decide ((1048576 : Int) < (p.2.1.size : Int)) = false := by simp; omega
          have w1 : IntKind.i64.wrap (40 + (p.1.size : Int)) = 40 + (p.1.size : Int) := by rw [IntKind.wrap_i64]; omega
          have w2 : IntKind.i64.wrap (40 + (p.1.size : Int) + (p.2.1.size : Int)) = 40 + (p.1.size : Int) + (p.2.1.size : Int) := by rw [IntKind.wrap_i64]; omega
          have w3 : IntKind.i64.wrap ((m : Int) + (40 + (p.1.size : Int) + (p.2.1.size : Int))) = (m : Int) + (40 + (p.1.size : Int) + (p.2.1.size : Int)) := by rw [IntKind.wrap_i64]; omega
          go_wp2
          refine wp_region_parts (fun w' => w'.cell? ⟨b, off + k * 3, none⟩ = some (.string p.1) ∧ w'.cell? ⟨b, off + k * 3 + 1, none⟩ = some (.string p.2.1))
            [(0, false), (1, false), (2, false), (3, false), (4, false), (5, true), (6, false), (7, false), (8, false), (9, false), (10, false), (11, false), (12, true), (13, false), (14, false), (15, false)] [(16, true)] (by kernel_rfl) (fun _ _ _ _ _ h => h) (by kernel_rfl) ⟨c1, c2⟩ ?_
          simp only [pick, List.map_cons, List.map_nil, List.getElem?_toArray, List.getElem?_cons_zero, List.getElem?_cons_succ]
          repeat (refine Heads.cons (v := ?_) ?_ ?_; rotate_left 1; (· (intro w' hw'; (first | (obtain ⟨_, _⟩ := hw' rfl; clear hw') | clear hw'); go_simp; (try with_reducible rfl); done)); simp only [Act.put, List.setIfInBounds_toArray, List.set_cons_zero, List.set_cons_succ])
          refine Heads.nil ?_
          refine Rest.cons (fun K hK => ?_)
          go_simp
          refine hK.out _ _ (fun h => by cases h) (Rest.nil ?_)
          clear hK K
          by_cases g3 : 1048576 < m + (40 + p.1.size + p.2.1.size)
          · have t6 : (1048576 : Int) < (m : Int) + (40 + (p.1.size : Int) + (p.2.1.size : Int)) := by omega
            go_wp2
            go_ret
            exact ⟨⟨m + (40 + p.1.size + p.2.1.size), by simp, by omega⟩, HC.out.drew⟩
          · have t6 : ¬ (1048576 : Int) < (m : Int) + (40 + (p.1.size : Int) + (p.2.1.size : Int)) := by omega
            go_wp2
            go_roundw
            case rel => exact ⟨m + (40 + p.1.size + p.2.1.size), k + 1, by omega, by omega, by simp, by simp, HC.out.drew⟩
            case measure => simp [intOf]; omega
    · have t1 : ¬ (k : Int) < (ps.length : Int) := by omega
      clear hc
      go_wp2
      go_ret
      exact ⟨⟨m, rfl, by omega⟩, HC.out⟩

end Go.Proofs.Qxb6601864a
