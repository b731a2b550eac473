import Derived.Test.Qxb6601743aSd
namespace Go.Proofs.Qxb6601743a
open Go.RowKit

set_option maxHeartbeats 4000000 in
set_option maxRecDepth 100000 in
theorem shrink_law (a da : Option Addr) (cap dcap : Nat) (key : ByteArray) (xs : List ByteArray) (bs : List Bool) (w : World) (hs : Strs w a xs) (hn : a = none → xs = [] ∧ cap = 0) (hb : Bools w da bs) (hbn : da = none → bs = []) (hl : xs.length ≤ maxLen) (hl2 : bs.length ≤ maxLen) (hk : key.size ≤ maxLen) :
    Calls Try.prog 7 #[.slice a xs.length cap, .slice da bs.length dcap, .string key] w fun e w' => e = .returned (.bool true) ∧ Chg [] w w' := by
  have K27 := hid' (bytes_shr a da cap dcap key xs bs w hs hl hl2 hk)
  have K10 := hid' (script_any a da cap dcap xs bs w hs hl hl2)
  have HS : Hid (Strs w a xs ∧ (a = none → xs = [] ∧ cap = 0) ∧ Bools w da bs ∧ (da = none → bs = [])) := ⟨hs, hn, hb, hbn⟩
  clear hs hn hb hbn hl hl2
  unfold maxLen at hk
  go_enter Try.func7, Try.ntmps7
  go_wp2_with fail
  refine K27.out.mono ?_
  rintro e w1 ⟨⟨b27, rfl⟩, rfl⟩
  clear K27
  cases b27
  · go_wp2_with fail
    go_ret
    exact ⟨rfl, Chg.refl _ _⟩
  by_cases hkey : 1048576 < key.size
  · have t1 : (1048576 : Int) < (key.size : Int) := by omega
    have t2 : decide ((1048576 : Int) < (key.size : Int)) = true := by simp; omega
    go_wp2_with fail
    go_ret
    exact ⟨rfl, Chg.refl _ _⟩
  have t1 : ¬ (1048576 : Int) < (key.size : Int) := by omega
  have t2 : decide ((1048576 : Int) < (key.size : Int)) = false := by simp; omega
  go_wp2_with fail
  refine K10.out.mono ?_
  rintro e w1 ⟨⟨t, rfl, ht, hsm⟩, rfl⟩
  clear K10
  have t3 : IntKind.i64.wrap ((t : Int) + (key.size : Int)) = (t : Int) + (key.size : Int) := by rw [IntKind.wrap_i64]; omega
  by_cases hbig : 1048576 < t + key.size
  · have t4 : (1048576 : Int) < (t : Int) + (key.size : Int) := by omega
    have t5 : decide ((1048576 : Int) < (t : Int) + (key.size : Int)) = true := by simp; omega
    go_wp2_with fail
    go_ret
    exact ⟨rfl, Chg.refl _ _⟩
  have t4 : ¬ (1048576 : Int) < (t : Int) + (key.size : Int) := by omega
  have t5 : decide ((1048576 : Int) < (t : Int) + (key.size : Int)) = false := by simp; omega
  obtain ⟨hl, hl2⟩ := hsm (by omega)
  clear hsm
  go_wp2_with fail
  refine (clone_any a cap xs w1 HS.out.1 HS.out.2.1 hl).mono ?_
  rintro e w2 ⟨v1, rfl, hv1, hc1⟩
  obtain ⟨a1, cap1, rfl, hs1, hn1⟩ := hv1
  have H1 : Hid (Strs w2 a1 xs ∧ Chg [] w1 w2) := ⟨hs1, hc1⟩
  clear hs1 hc1 hn1
  go_wp2_with fail
  have hbo : Bools w2 da bs := fun k s hk => by
    obtain ⟨b, off, e, hc⟩ := HS.out.2.2.1 k s hk
    exact ⟨b, off, e, H1.out.2.cell hc⟩
  refine (cloneBools_any da dcap bs w2 hbo HS.out.2.2.2 hl2).mono ?_
  clear hbo
  rintro e w3 ⟨v2, rfl, hv2, hc2⟩
  obtain ⟨a2, cap2, rfl, hb2⟩ := hv2
  have H2 : Hid (Bools w3 a2 bs ∧ Strs w3 a1 xs ∧ Chg [] w1 w3) := ⟨hb2, H1.out.1.chg hc2, H1.out.2.trans hc2⟩
  clear hb2 hc2 H1
  go_wp2_with fail
  refine (build_any a1 a2 cap1 cap2 xs bs w3 H2.out.2.1 H2.out.1 hl).mono ?_
  rintro e w4 ⟨bx, h, r, rfl, hI, hh, hbel⟩
  have H3 : Hid (Ix w3.heap.size w4 bx h r ∧ Chg [] w1 w4) := ⟨hI, H2.out.2.2.trans (Chg.of_below hbel)⟩
  have H3s := hid' H2.out.2.2.size
  clear hI hbel H2
  go_wp2_with fail
  refine (valid_any _ bx h r w4 H3.out.1 (by omega)).mono ?_
  rintro e w5 ⟨rfl, rfl⟩
  go_wp2_with fail
  refine (rootKeys_any _ bx h r w5 H3.out.1).mono ?_
  rintro e w6 ⟨rfl, rfl⟩
  go_wp2_with fail
  refine (zzdelete _ bx h r key w6 H3.out.1).mono ?_
  rintro e w7 ⟨rfl, h', r', hI', hor, hbel'⟩
  have H4 : Hid (Ix w3.heap.size w7 bx h' r' ∧ Chg [] w1 w7) := ⟨hI', Chg.of_below (H3.out.2.below.trans (hbel'.mono H3s.out))⟩
  have HOR := hid' hor
  clear hI' hbel' hor
  go_wp2_with fail
  refine (valid_any _ bx h' r' w7 H4.out.1 (by have := HOR.out; omega)).mono ?_
  rintro e w8 ⟨rfl, rfl⟩
  rcases HOR.out with rfl | ⟨rfl, rfl⟩
  · go_wp2_with fail
    go_ret
    exact ⟨rfl, H4.out.2⟩
  · have u1 : ((h' : Int) == ((h' + 1 : Nat) : Int)) = false := by simp; omega
    go_wp2_with fail
    go_ret
    exact ⟨rfl, H4.out.2⟩
end Go.Proofs.Qxb6601743a
