import Derived.Test.Qxb6601743aIntl
import Derived.Deep.OwnRows
namespace Go.Proofs.Qxb6601743a
open Go.RowKit
theorem made_blk (w : World) (z : Value) (n : Nat) (e : TypeId) : Blk (w.alloc (.cells (madeCells #[z] n) e)) w.heap.size e (([] : List ByteArray).map Value.string ++ List.replicate (n - 0) z) := by
  have h : madeCells #[z] n = (List.replicate n z).toArray := by
    apply Array.ext'
    apply List.ext_getElem
    · simp [madeCells]
    · intro i h1 h2; simp [madeCells, Nat.mod_one]
  rw [h]
  simpa using Blk.new w (List.replicate n z) e

theorem clone_old {w : World} {b : Nat} {xs : List ByteArray} {k : Nat} (h : Blk w b 9 ((xs.take k).map Value.string ++ List.replicate (xs.length - k) (.string ByteArray.empty))) (hk : k < xs.length) : w.cell? ⟨b, k, none⟩ = some (.string ByteArray.empty) := by
  apply h.cell
  rw [List.getElem?_append_right (by simp; omega)]
  simp [List.getElem?_replicate]; omega

theorem clone_step (xs : List ByteArray) (k : Nat) (hk : k < xs.length) :
    ((xs.take k).map Value.string ++ List.replicate (xs.length - k) (Value.string ByteArray.empty)).set k (Value.string xs[k]) = (xs.take (k + 1)).map Value.string ++ List.replicate (xs.length - (k + 1)) (Value.string ByteArray.empty) := by
  rw [List.set_append, if_neg (by simp; omega), List.take_succ_eq_append_getElem hk]
  obtain ⟨m, hm⟩ : ∃ m, xs.length - k = m + 1 := ⟨xs.length - k - 1, by omega⟩
  have e : k - (List.map Value.string (List.take k xs)).length = 0 := by simp; omega
  rw [e, hm, List.replicate_succ, List.set_cons_zero, show xs.length - (k + 1) = m by omega]
  simp only [List.map_append, List.map_cons, List.map_nil, List.append_assoc, List.cons_append, List.nil_append]

set_option maxHeartbeats 400000 in
theorem clone_some (ad : Addr) (xs : List ByteArray) (cap : Nat) (w : World) (hs : Strs w (some ad) xs) (hm : xs.length * 16 ≤ 140737488351232) :
    Calls Try.prog 11 #[.slice (some ad) xs.length cap] w fun e w' => e = .returned (.slice (some ⟨w.heap.size, 0, none⟩) xs.length xs.length) ∧ Blk w' w.heap.size 9 (xs.map Value.string) ∧ Chg [] w w' := by
  have hmk := run_make_row' (P := Try.prog) 22 9 (.string ByteArray.empty) 16 Try.underlying22 Try.info9 rfl .i64 .i64 xs.length (by omega) (by omega)
  have hne := fun w a n c n2 c2 => Lib.run_eql_slice_nil (P := Try.prog) w 22 9 a n c n2 c2 Try.underlying22
  go_enter Try.func11, Try.ntmps11
  go_wp2
  go_loopw [4] (fun i wr => ∃ k : Nat, k ≤ xs.length ∧ i = .int .i64 k ∧ Blk wr w.heap.size 9 ((xs.take k).map Value.string ++ List.replicate (xs.length - k) (.string ByteArray.empty)) ∧ Chg [] w wr) (fun i _ => xs.length - (intOf i).toNat)
  case atStart => exact ⟨0, Nat.zero_le _, rfl, made_blk _ _ _ _, (Chg.refl _ _).alloc _⟩
  case round =>
    obtain ⟨k, hk, rfl, hb, hc⟩ := hrel
    by_cases hlt : k < xs.length
    · obtain ⟨b, off, had, hcell0⟩ := hs k xs[k] (by simp [hlt])
      obtain rfl : ad = ⟨b, off, none⟩ := by simpa using had
      have hcell := hc.cell hcell0
      have hcell2 := clone_old hb hlt
      have hfr := hb.frozen k
      have hb' := hb.set k (.string xs[k])
      rw [clone_step xs k hlt] at hb'
      have hc' := hc.setCell (p := ⟨w.heap.size, k, none⟩) (Or.inr (Nat.le_refl _)) (.string xs[k])
      have HB := And.intro hb' hc'
      clear hb hc hb' hc' hs hcell0
      go_wp2
      go_roundw
      case rel => exact ⟨k + 1, by omega, by go_num, HB.1, HB.2⟩
      case measure => simp [intOf]; omega
    · go_wp2
      go_ret
      obtain rfl : k = xs.length := by omega
      exact ⟨rfl, by simpa using hb, hc⟩
end Go.Proofs.Qxb6601743a
