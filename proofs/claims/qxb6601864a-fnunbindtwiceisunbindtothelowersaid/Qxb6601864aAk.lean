import Derived.Test.Qxb6601864aSb
import Derived.Laws.MakeOwn
namespace Go.Proofs.Qxb6601864a
open Go.RowKit

theorem Try.info9 : (Try.prog.info? 9).map (fun i => (i.zero, i.size, i.bytes)) = some (some (.string ByteArray.empty), 1, 16) := by kernel_rfl

theorem make_keys (L : Int) (c : Nat) (hL : L = c) (hc : c ≤ 100000) (w : World) :
    (Instr.makeSlice 39 (.int .i64 0) (.int .i64 L)).run Try.prog w = .ok (.slice (some ⟨w.heap.size, 0, none⟩) 0 c) (w.alloc (.cells (List.replicate c (Value.string ByteArray.empty)).toArray 9)) := by
  obtain ⟨i, hi, hz, hs1, hby⟩ := info_parts Try.info9
  subst hL
  have := run_make (P := Try.prog) w 39 9 i (.string ByteArray.empty) Try.underlying39 hi hz .i64 .i64 0 c (by omega) (by omega) (by rw [hby]; omega) (by omega)
  rw [this, hs1, Nat.mul_one, Int.toNat_natCast]
  have e1 : madeCells #[Value.string ByteArray.empty] c = (List.replicate c (Value.string ByteArray.empty)).toArray := by
    apply Array.ext'
    apply List.ext_getElem
    · simp [madeCells]
    · intro i h1 h2; simp [madeCells, Nat.mod_one]
  have e2 : (Value.string ByteArray.empty).cells = #[Value.string ByteArray.empty] := rfl
  rw [e2, e1]
  rfl

def StrV (w : World) (v : Value) (xs : List ByteArray) : Prop := ∃ a c, v = .slice a xs.length c ∧ Strs w a xs

theorem one_new (w : World) (s : ByteArray) : ∀ j u, ([Value.string s] : List Value)[j]? = some u → (w.alloc (.cells #[.string s] 9)).cell? ((⟨w.heap.size, 0, none⟩ : Addr).add j) = some u := fun j u hj => by
  rw [Addr.add_lit, Nat.zero_add]
  exact (Blk.new w [.string s] 9).cell hj

theorem row_form {w : World} {B : Nat} {e : TypeId} {v : Value} {n : Nat} {xs : List Value} (h : w.ownsRow B e 1 v n xs) : ∃ a c, v = .slice a n c := by
  rcases h.2 with ⟨rfl, rfl⟩ | ⟨g, cap, cur, rfl, _⟩
  · exact ⟨_, _, rfl⟩
  · exact ⟨_, _, rfl⟩

theorem row_strs {w : World} {B : Nat} {v : Value} {xs : List ByteArray} (h : w.ownsRow B 9 1 v xs.length (xs.map Value.string)) : StrV w v xs := by
  rcases h.2 with ⟨rfl, h0⟩ | ⟨g, cap, cur, rfl, q1, q2, q3, q4, q5, q6⟩
  · refine ⟨none, 0, by rw [h0], fun k s hk => ?_⟩
    have := (List.getElem?_eq_some_iff.1 hk).1
    omega
  · refine ⟨_, _, rfl, fun k s hk => ⟨g, 0, rfl, ?_⟩⟩
    have hlt := (List.getElem?_eq_some_iff.1 hk).1
    have e1 : (cur.toList.take (xs.length * 1))[k]? = some (.string s) := by rw [q6, List.getElem?_map, hk]; rfl
    rw [List.getElem?_take, if_pos (by omega)] at e1
    rw [Nat.zero_add]
    simpa [World.cell?, q2] using e1

set_option maxHeartbeats 4000000 in
theorem keys_any (a ha : Option Addr) (cap hcap : Nat) (ps : List Pr) (hs : List Hd) (w : World) (hp : Pairs w a ps) (hh : Hids w ha hs) (hl : ps.length ≤ 4096) (hl2 : hs.length ≤ 4096) :
    Calls Try.prog 21 #[.slice a ps.length cap, .slice ha hs.length hcap, .slice none 0 0] w fun e w' => ∃ v, e = .returned v ∧ ∃ ks, StrV w' v ks ∧ ks.length ≤ 10000 ∧ Chg [] w w' := by
  obtain ⟨i0, hi, hz0, hz1, hz2⟩ := info_parts Try.info9
  have HP := hid hp
  have HH := hid hh
  have hmk := make_keys ((ps.length : Int) + (hs.length : Int)) (ps.length + hs.length) (by simp) (by omega)
  have t1 : IntKind.i64.wrap ((ps.length : Int) + (hs.length : Int)) = (ps.length : Int) + (hs.length : Int) := by rw [IntKind.wrap_i64]; omega
  clear hp hh
  go_enter Try.func21, Try.ntmps21
  go_wp2
  clear hmk t1
  go_loopg [7, 8] ps.length (fun g v q wr => ∃ (k : Nat) (ks : List ByteArray), k + g = ps.length ∧ q = .int .i64 k ∧ ks.length = k ∧ wr.ownsRow w.heap.size 9 1 v (k) (ks.map Value.string) ∧ Below w.heap.size w wr)
  case atStart =>
    exact ⟨0, [], by omega, rfl, rfl, ⟨by simp, Or.inr ⟨w.heap.size, ps.length + hs.length, _, rfl, Nat.le_refl _, Blk.new w _ 9, by simp, by unfold maxLen; omega, by simp, by simp⟩⟩, ((Chg.refl [] w).alloc _).below⟩
  case round =>
    obtain ⟨k, ks, hkg, rfl, hks, hown, hbel⟩ := hrel
    obtain ⟨av, cv, rfl⟩ := row_form hown
    have HB : Hid (ks.length = k ∧ Below w.heap.size w wr ∧ k + gk = ps.length ∧ wr.ownsRow w.heap.size 9 1 (.slice av (k) cv) (k) (ks.map Value.string)) := ⟨hks, hbel, hkg, hown⟩
    by_cases hlt : k < ps.length
    · obtain ⟨p, hp⟩ : ∃ p, ps[k]? = some p := ⟨ps[k], by simp [hlt]⟩
      obtain ⟨b, off, rfl, h1, _⟩ := HP.out.below hbel k p hp
      have hown1 := hown.alloc (.cells #[.string p.1] 9)
      have hsz := hbel.size
      have t2 : (k : Int) < (ps.length : Int) := by omega
      clear hp hown hks hkg hbel
      go_wp2_with (at_builtin; refine wpList_append_own _ rfl (.tmp 26) (.tmp 32) 39 rfl w.heap.size 9 i0 (.string ByteArray.empty) 1 16 Try.underlying39 hi hz0 hz1 hz2 rfl (by decide) _ _ _ rfl hown1 ⟨wr.heap.size, 0, none⟩ 1 1 [.string p.1] rfl rfl (one_new _ _) (by simp [Value.oneCell']) (by unfold maxLen; omega) (by omega) (by simp; omega) ?_)
      intro v' w2 hown2 hg _
      have R : Hid (w2.ownsRow w.heap.size 9 1 v' ((k + 1)) ((ks ++ [p.1]).map Value.string) ∧ Below w.heap.size w w2 ∧ (ks ++ [p.1]).length = (k + 1) ∧ k + gk = ps.length) := by
        obtain ⟨q1, q2, q3, q4⟩ := HB.out
        refine ⟨?_, (q2.alloc hsz _).grown hg (by simp; omega) (fun j hj => (q4.lt j hj).1), by simp; omega, q3⟩
        rw [List.map_append, List.map_cons, List.map_nil, show (k + 1) = k + 1 by omega]
        exact hown2
      obtain ⟨av2, cv2, rfl⟩ := row_form hown2
      clear hown1 hown2 hg HB
      go_wp2_with fail
      go_roundg (gk - 1)
      case measure => have := R.out.2.2.2; omega
      case rel => exact ⟨k + 1, ks ++ [p.1], by have := R.out.2.2.2; omega, by simp, R.out.2.2.1, R.out.1, R.out.2.1⟩
    · have t2 : ¬ (k : Int) < (ps.length : Int) := by omega
      obtain rfl : k = ps.length := by omega
      have HB2 : Hid (ks.length = ps.length ∧ Below w.heap.size w wr ∧ wr.ownsRow w.heap.size 9 1 (.slice av (ps.length) cv) (ps.length) (ks.map Value.string)) := ⟨hks, hbel, hown⟩
      clear HB hks hkg hown hbel
      go_wp2_with fail
      go_loopg [7, 9] hs.length (fun g v q wr => ∃ (k : Nat) (ks : List ByteArray), k + g = hs.length ∧ q = .int .i64 k ∧ ks.length = ps.length + k ∧ wr.ownsRow w.heap.size 9 1 v (ps.length + k) (ks.map Value.string) ∧ Below w.heap.size w wr)
      case atStart =>
        exact ⟨0, ks, by omega, rfl, by simpa using HB2.out.1, by simpa using HB2.out.2.2, HB2.out.2.1⟩
      case round =>
        clear HB2
        obtain ⟨k, ks, hkg, rfl, hks, hown, hbel⟩ := hrel
        obtain ⟨av, cv, rfl⟩ := row_form hown
        have HB : Hid (ks.length = ps.length + k ∧ Below w.heap.size w wr ∧ k + gk = hs.length ∧ wr.ownsRow w.heap.size 9 1 (.slice av (ps.length + k) cv) (ps.length + k) (ks.map Value.string)) := ⟨hks, hbel, hkg, hown⟩
        by_cases hlt : k < hs.length
        · obtain ⟨p, hp⟩ : ∃ p, hs[k]? = some p := ⟨hs[k], by simp [hlt]⟩
          obtain ⟨b, off, rfl, h1, _, _⟩ := HH.out.below hbel k p hp
          have hown1 := hown.alloc (.cells #[.string p.1] 9)
          have hsz := hbel.size
          have t2 : (k : Int) < (hs.length : Int) := by omega
          clear hp hown hks hkg hbel
          go_wp2_with (at_builtin; refine wpList_append_own _ rfl (.tmp 40) (.tmp 46) 39 rfl w.heap.size 9 i0 (.string ByteArray.empty) 1 16 Try.underlying39 hi hz0 hz1 hz2 rfl (by decide) _ _ _ rfl hown1 ⟨wr.heap.size, 0, none⟩ 1 1 [.string p.1] rfl rfl (one_new _ _) (by simp [Value.oneCell']) (by unfold maxLen; omega) (by omega) (by simp; omega) ?_)
          intro v' w2 hown2 hg _
          have R : Hid (w2.ownsRow w.heap.size 9 1 v' (ps.length + (k + 1)) ((ks ++ [p.1]).map Value.string) ∧ Below w.heap.size w w2 ∧ (ks ++ [p.1]).length = ps.length + (k + 1) ∧ k + gk = hs.length) := by
            obtain ⟨q1, q2, q3, q4⟩ := HB.out
            refine ⟨?_, (q2.alloc hsz _).grown hg (by simp; omega) (fun j hj => (q4.lt j hj).1), by simp; omega, q3⟩
            rw [List.map_append, List.map_cons, List.map_nil, show ps.length + (k + 1) = ps.length + k + 1 by omega]
            exact hown2
          obtain ⟨av2, cv2, rfl⟩ := row_form hown2
          clear hown1 hown2 hg HB
          go_wp2_with fail
          go_roundg (gk - 1)
          case measure => have := R.out.2.2.2; omega
          case rel => exact ⟨k + 1, ks ++ [p.1], by have := R.out.2.2.2; omega, by simp, R.out.2.2.1, R.out.1, R.out.2.1⟩
        · have t2 : ¬ (k : Int) < (hs.length : Int) := by omega
          obtain rfl : k = hs.length := by omega
          have HB2 : Hid (ks.length = ps.length + hs.length ∧ Below w.heap.size w wr ∧ wr.ownsRow w.heap.size 9 1 (.slice av (ps.length + hs.length) cv) (ps.length + hs.length) (ks.map Value.string)) := ⟨hks, hbel, hown⟩
          clear HB hks hkg hown hbel
          go_wp2_with fail
          have HS3 : Hid (StrV wr (.slice av (ps.length + hs.length) cv) ks ∧ ks.length ≤ 10000 ∧ Chg [] w wr) := by
            obtain ⟨q1, q2, q3⟩ := HB2.out
            exact ⟨row_strs (by rw [q1]; exact q3), by omega, Chg.of_below q2⟩
          have hs3 := HS3.out
          clear HB2
          go_loopg [7, 10] 1 (fun g v q wr => g = 1 ∧ q = .int .i64 0 ∧ StrV wr v ks ∧ ks.length ≤ 10000 ∧ Chg [] w wr ∧ ∃ a n c, v = .slice a n c)
          case atStart => exact ⟨rfl, rfl, hs3.1, hs3.2.1, hs3.2.2, _, _, _, rfl⟩
          case round =>
            obtain ⟨rfl, rfl, p1, p2, p3, a3, n3, c3, rfl⟩ := hrel
            have P := hid (And.intro p1 (And.intro p2 p3))
            clear p1 p2 p3
            go_wp2_with fail
            go_ret
            exact ⟨_, rfl, ks, P.out.1, P.out.2.1, P.out.2.2⟩
end Go.Proofs.Qxb6601864a
