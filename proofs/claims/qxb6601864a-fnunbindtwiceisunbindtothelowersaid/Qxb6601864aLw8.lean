import Derived.Test.Qxb6601864aLw
namespace Go.Proofs.Qxb6601864a
open Go.RowKit

set_option maxHeartbeats 8000000 in
set_option maxRecDepth 100000 in
theorem unbind_law (a ha : Option Addr) (cap hcap : Nat) (ps : List Pr) (hs : List Hd) (x y : Int) (w : World) (hp : Pairs w a ps) (hh : Hids w ha hs) (hl : ps.length ≤ maxLen) (hl2 : hs.length ≤ maxLen) :
    Calls Try.prog 8 #[.slice a ps.length cap, .slice ha hs.length hcap, .int .i64 x, .int .i64 y] w fun e w' => e = .returned (.bool true) ∧ Chg [] w w' := by
  have K27 := hid (bytes_any a ha cap hcap ps hs x y w hp hh hl hl2)
  have HP : Hid (Pairs w a ps ∧ Hids w ha hs) := ⟨hp, hh⟩
  clear hp hh hl hl2
  go_enter Try.func8, Try.ntmps8
  go_wp2_with fail
  refine K27.out.mono ?_
  rintro e w1 ⟨⟨b27, rfl⟩, rfl⟩
  clear K27
  cases b27
  · go_wp2_with fail
    go_ret
    exact ⟨rfl, Chg.refl _ _⟩
  by_cases g1 : 4096 < ps.length
  · have t1 : (4096 : Int) < (ps.length : Int) := by omega
    have t2 : decide ((4096 : Int) < (ps.length : Int)) = true := by simp; omega
    go_wp2_with fail
    go_ret
    exact ⟨rfl, Chg.refl _ _⟩
  have t1 : ¬ (4096 : Int) < (ps.length : Int) := by omega
  have t2 : decide ((4096 : Int) < (ps.length : Int)) = false := by simp; omega
  by_cases g2 : 4096 < hs.length
  · have t3 : (4096 : Int) < (hs.length : Int) := by omega
    have t4 : decide ((4096 : Int) < (hs.length : Int)) = true := by simp; omega
    go_wp2_with fail
    go_ret
    exact ⟨rfl, Chg.refl _ _⟩
  have t3 : ¬ (4096 : Int) < (hs.length : Int) := by omega
  have t4 : decide ((4096 : Int) < (hs.length : Int)) = false := by simp; omega
  go_wp2_with fail
  refine (pairBytes a cap ps w1 HP.out.1 (by omega)).mono ?_
  rintro e w2 ⟨⟨n1, rfl, hn1⟩, hc1⟩
  have HC1 := hid hc1
  clear hc1
  go_wp2_with fail
  refine (hidBytes ha hcap hs w2 (HP.out.2.below HC1.out.below) (by omega)).mono ?_
  rintro e w3 ⟨⟨n2, rfl, hn2⟩, hc2⟩
  have HC2 := hid (HC1.out.trans hc2)
  clear hc2 HC1
  have t5 : IntKind.i64.wrap ((n1 : Int) + (n2 : Int)) = (n1 : Int) + (n2 : Int) := by rw [IntKind.wrap_i64]; omega
  by_cases g3 : 1048576 < n1 + n2
  · have t6 : (1048576 : Int) < (n1 : Int) + (n2 : Int) := by omega
    go_wp2_with fail
    go_ret
    exact ⟨rfl, HC2.out⟩
  have t6 : ¬ (1048576 : Int) < (n1 : Int) + (n2 : Int) := by omega
  by_cases g4 : x < 0
  · have t7 : decide (x < 0) = true := by simp; omega
    go_wp2_with fail
    go_ret
    exact ⟨rfl, HC2.out⟩
  by_cases g5 : y < 0
  · have t7 : decide (x < 0) = false := by simp; omega
    have t8 : decide (y < 0) = true := by simp; omega
    go_wp2_with fail
    go_ret
    exact ⟨rfl, HC2.out⟩
  obtain ⟨X, rfl⟩ : ∃ X : Nat, x = X := ⟨x.toNat, by omega⟩
  obtain ⟨Y, rfl⟩ : ∃ Y : Nat, y = Y := ⟨y.toNat, by omega⟩
  have t7 : decide ((X : Int) < 0) = false := by simp
  have t8 : decide ((Y : Int) < 0) = false := by simp
  go_wp2_with fail
  have hp3 : Hid (Pairs w3 a ps ∧ Hids w3 ha hs) := ⟨HP.out.1.below HC2.out.below, HP.out.2.below HC2.out.below⟩
  refine (newOf_any a ha cap hcap ps hs w3 hp3.out.1 hp3.out.2 (by omega) (by omega)).mono ?_
  rintro e w4 ⟨rfl, hB4, hb4⟩
  obtain ⟨px, hpx⟩ : ∃ px, px = w3.heap.size + 1 := ⟨_, rfl⟩
  rw [← hpx] at hB4 ⊢
  have H4 : Hid (Bnd w3.heap.size w4 px w3.heap.size hs (putAll ps) ∧ Below w3.heap.size w3 w4) := ⟨hB4, hb4⟩
  clear hB4 hb4 hpx
  go_wp2_with fail
  refine (zzunbind w3.heap.size px w3.heap.size hs (putAll ps) X w4 H4.out.1 (by omega)).mono ?_
  rintro e w5 ⟨rfl, hB5, hb5⟩
  have H5 : Hid (Bnd w3.heap.size w5 px w3.heap.size (hs.take (min X hs.length)) (undo hs (putAll ps) (min X hs.length)) ∧ Below w3.heap.size w3 w5) := ⟨hB5, H4.out.2.trans hb5⟩
  clear hB5 hb5 H4
  go_wp2_with fail
  refine (zzunbind w3.heap.size px w3.heap.size _ _ Y w5 H5.out.1 (by rw [List.length_take]; omega)).mono ?_
  rintro e w6 ⟨rfl, hB6, hb6⟩
  have hlen : (hs.take (min X hs.length)).length = min X hs.length := by rw [List.length_take]; omega
  rw [hlen, undo_two hs _ _ _ (by omega), List.take_take, show min (min Y (min X hs.length)) (min X hs.length) = min Y (min X hs.length) by omega] at hB6
  obtain ⟨N, hN⟩ : ∃ N, N = min Y (min X hs.length) := ⟨_, rfl⟩
  rw [← hN] at hB6
  have H6 : Hid (Bnd w3.heap.size w6 px w3.heap.size (hs.take N) (undo hs (putAll ps) N) ∧ Below w3.heap.size w3 w6 ∧ N = min Y (min X hs.length)) := ⟨hB6, H5.out.2.trans hb6, hN⟩
  clear hB6 hb6 hN hlen H5
  have FIN : Hid (∀ (Lo : Nat), N = min Lo hs.length → ∀ w8, (Bnd w6.heap.size w8 (w6.heap.size + 1) w6.heap.size (hs.take (min Lo hs.length)) (undo hs (putAll ps) (min Lo hs.length)) ∧ Below w6.heap.size w6 w8) →
      Bnd w6.heap.size w8 (w6.heap.size + 1) w6.heap.size (hs.take N) (undo hs (putAll ps) N) ∧ Bnd w3.heap.size w8 px w3.heap.size (hs.take N) (undo hs (putAll ps) N) ∧ Chg [] w1 w8 ∧ Pairs w8 a ps ∧ Hids w8 ha hs) := fun Lo hLo w8 ⟨h1, h2⟩ => by
    rw [← hLo] at h1
    have hc38 : Below w3.heap.size w3 w8 := H6.out.2.1.trans (h2.mono H6.out.2.1.size)
    exact ⟨h1, H6.out.1.below h2 (Nat.le_refl _), HC2.out.trans (Chg.of_below hc38), hp3.out.1.below hc38, hp3.out.2.below hc38⟩
  have hp6 : Hid (Pairs w6 a ps ∧ Hids w6 ha hs) := ⟨hp3.out.1.below H6.out.2.1, hp3.out.2.below H6.out.2.1⟩
  have hNn : Hid (N = min Y (min X hs.length)) := H6.out.2.2
  clear H6 hp3 HC2 HP
  by_cases hxy : Y < X
  · have u1 : (Y : Int) < (X : Int) := by omega
    go_wp2_with fail
    refine (newOf_any a ha cap hcap ps hs w6 hp6.out.1 hp6.out.2 (by omega) (by omega)).mono ?_
    rintro e w7 ⟨rfl, hB7, hb7⟩
    have H7 : Hid (Bnd w6.heap.size w7 (w6.heap.size + 1) w6.heap.size hs (putAll ps) ∧ Below w6.heap.size w6 w7) := ⟨hB7, hb7⟩
    clear hB7 hb7
    go_wp2_with fail
    refine (zzunbind w6.heap.size (w6.heap.size + 1) w6.heap.size hs (putAll ps) Y w7 H7.out.1 (by omega)).mono ?_
    rintro e w8 ⟨rfl, hB8, hb8⟩
    have H8 := hid (FIN.out Y (by have := hNn.out; omega) w8 ⟨hB8, H7.out.2.trans hb8⟩)
    clear hB8 hb8 H7 FIN hp6
    go_wp2_with fail
    refine (keys_any a ha cap hcap ps hs w8 H8.out.2.2.2.1 H8.out.2.2.2.2 (by omega) (by omega)).mono ?_
    rintro e w9 ⟨v, rfl, ks, ⟨ka, kc, rfl, hks⟩, hkl, hc9⟩
    have H9 : Hid (Strs w9 ka ks ∧ Chg [] w8 w9) := ⟨hks, hc9⟩
    clear hks hc9
    go_wp2_with fail
    refine (same_any w3.heap.size w6.heap.size px (w6.heap.size + 1) w3.heap.size w6.heap.size (hs.take N) (undo hs (putAll ps) N) ka kc ks w9 (H8.out.2.1.chg H9.out.2) (H8.out.1.chg H9.out.2) H9.out.1 (by rw [List.length_take]; omega) hkl).mono ?_
    rintro e w10 ⟨rfl, hc10⟩
    have R := hid (H8.out.2.2.1.trans (H9.out.2.trans hc10))
    clear hc10
    go_wp2_with fail
    go_ret
    exact ⟨rfl, R.out⟩
  · have u1 : ¬ (Y : Int) < (X : Int) := by omega
    go_wp2_with fail
    refine (newOf_any a ha cap hcap ps hs w6 hp6.out.1 hp6.out.2 (by omega) (by omega)).mono ?_
    rintro e w7 ⟨rfl, hB7, hb7⟩
    have H7 : Hid (Bnd w6.heap.size w7 (w6.heap.size + 1) w6.heap.size hs (putAll ps) ∧ Below w6.heap.size w6 w7) := ⟨hB7, hb7⟩
    clear hB7 hb7
    go_wp2_with fail
    refine (zzunbind w6.heap.size (w6.heap.size + 1) w6.heap.size hs (putAll ps) X w7 H7.out.1 (by omega)).mono ?_
    rintro e w8 ⟨rfl, hB8, hb8⟩
    have H8 := hid (FIN.out X (by have := hNn.out; omega) w8 ⟨hB8, H7.out.2.trans hb8⟩)
    clear hB8 hb8 H7 FIN hp6
    go_wp2_with fail
    refine (keys_any a ha cap hcap ps hs w8 H8.out.2.2.2.1 H8.out.2.2.2.2 (by omega) (by omega)).mono ?_
    rintro e w9 ⟨v, rfl, ks, ⟨ka, kc, rfl, hks⟩, hkl, hc9⟩
    have H9 : Hid (Strs w9 ka ks ∧ Chg [] w8 w9) := ⟨hks, hc9⟩
    clear hks hc9
    go_wp2_with fail
    refine (same_any w3.heap.size w6.heap.size px (w6.heap.size + 1) w3.heap.size w6.heap.size (hs.take N) (undo hs (putAll ps) N) ka kc ks w9 (H8.out.2.1.chg H9.out.2) (H8.out.1.chg H9.out.2) H9.out.1 (by rw [List.length_take]; omega) hkl).mono ?_
    rintro e w10 ⟨rfl, hc10⟩
    have R := hid (H8.out.2.2.1.trans (H9.out.2.trans hc10))
    clear hc10
    go_wp2_with fail
    go_ret
    exact ⟨rfl, R.out⟩
end Go.Proofs.Qxb6601864a
