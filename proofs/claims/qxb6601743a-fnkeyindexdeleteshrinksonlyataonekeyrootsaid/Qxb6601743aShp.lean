import Derived.Test.Qxb6601743aFl
import Derived.Test.Qxb6601743aIno
namespace Go.Proofs.Qxb6601743a
open Go.RowKit

set_option maxHeartbeats 4000000 in
theorem shape_gr (w : World) (nd : Nat → Option Nd) (G : Gr w nd) : ∀ (L n : Nat) (ni : Nd) (rt : Bool), nd n = some ni → ni.lv = L → (rt = true → 1 ≤ ni.ks.length) → (rt = false → 31 ≤ ni.ks.length) → L ≤ 1000000 → (∀ b j, nd b = some j → j.lv < L → 31 ≤ j.ks.length) →
    Calls Try.prog 39 #[ptr n, .bool rt] w fun e w' => e = .returned (.tuple #[.int .i64 ((L : Int) + 1), .bool true]) ∧ w' = w := by
  intro L
  induction L with
  | zero =>
    intro n ni rt hn hl h1 h31 _ _
    obtain ⟨kc, hB⟩ := G.leaf_form hn hl
    have hh := (G.loc n ni hn).hi
    have c1 := hB.cell (k := 0) rfl
    have c2 := hB.cell (k := 1) rfl
    have hnp := neq_nil_ptr
    have hnl := fun w a n c n2 c2 => Lib.run_eql_slice_nil (P := Try.prog) w 45 34 a n c n2 c2 Try.underlying45
    have t1 : ¬ (63 : Int) < (ni.ks.length : Int) := by omega
    have t2 : decide ((63 : Int) < (ni.ks.length : Int)) = false := by simp; omega
    cases rt with
    | true =>
      have h1' := h1 rfl
      have t3 : ¬ (ni.ks.length : Int) < 1 := by omega
      have t4 : decide ((ni.ks.length : Int) < 1) = false := by simp; omega
      clear h1 h31 hl hB hn
      go_enter Try.func39, Try.ntmps39
      go_wp2
      go_ret2
      exact ⟨rfl, rfl⟩
    | false =>
      have h1' := h31 rfl
      have t3 : ¬ (ni.ks.length : Int) < 31 := by omega
      have t4 : decide ((ni.ks.length : Int) < 31) = false := by simp; omega
      clear h1 h31 hl hB hn
      go_enter Try.func39, Try.ntmps39
      go_wp2
      go_ret2
      exact ⟨rfl, rfl⟩
  | succ L ih =>
    intro n ni rt hn hl h1 h31 hL hmin
    obtain ⟨cn, kc, cc, _, hB, hcell⟩ := G.inner_form hn hl
    have hh := (G.loc n ni hn).hi
    have hlen := G.kids_len hn (by omega)
    have c1 := hB.cell (k := 0) rfl
    have c2 := hB.cell (k := 1) rfl
    have hnp := neq_nil_ptr
    have hnl := fun w a n c n2 c2 => Lib.run_eql_slice_nil (P := Try.prog) w 45 34 a n c n2 c2 Try.underlying45
    have t1 : ¬ (63 : Int) < (ni.ks.length : Int) := by omega
    have t2 : decide ((63 : Int) < (ni.ks.length : Int)) = false := by simp; omega
    have t5 : IntKind.i64.wrap ((ni.ks.length : Int) + 1) = (ni.ks.length : Int) + 1 := by rw [IntKind.wrap_i64]; omega
    have t6 : ((ni.kids.length : Int) != (ni.ks.length : Int) + 1) = false := by rw [bne_eq_false_iff_eq]; omega
    have HCE := hid' hcell
    have HK : Hid (∀ k c, ni.kids[k]? = some c → ∃ ci, nd c = some ci ∧ ci.lv = L ∧ 31 ≤ ci.ks.length) := fun k c hk => by
      obtain ⟨ci, h1, h2, _⟩ := G.kid hn hl (List.mem_of_getElem? hk)
      exact ⟨ci, h1, h2, hmin c ci h1 (by omega)⟩
    have HIH : Hid (∀ c ci, nd c = some ci → ci.lv = L → 31 ≤ ci.ks.length → Calls Try.prog 39 #[ptr c, .bool false] w fun e w' => e = .returned (.tuple #[.int .i64 ((L : Int) + 1), .bool true]) ∧ w' = w) :=
      fun c ci h1 h2 h3 => ih c ci false h1 h2 (fun h => by cases h) (fun _ => h3) (by omega) (fun b j hb hj => hmin b j hb (by omega))
    clear hB hcell ih hmin hl hn
    cases rt with
    | true =>
      have h1' := h1 rfl
      have t3 : ¬ (ni.ks.length : Int) < 1 := by omega
      have t4 : decide ((ni.ks.length : Int) < 1) = false := by simp; omega
      clear h1 h31
      go_enter Try.func39, Try.ntmps39
      go_wp2
      go_loopw [9, 10, 11, 12] (fun dp q _ _ wr => ∃ k d : Nat, k ≤ ni.kids.length ∧ q = .int .i64 k ∧ dp = .int .i64 d ∧ (k = 0 ∨ d = L + 1) ∧ wr = w) (fun _ q _ _ _ => ni.kids.length - (intOf q).toNat)
      case atStart => exact ⟨0, 0, Nat.zero_le _, rfl, rfl, Or.inl rfl, rfl⟩
      case round =>
        obtain ⟨k, d, hk, rfl, rfl, hd, rfl⟩ := hrel
        have HD := hid' hd
        clear hd
        by_cases hlt : k < ni.kids.length
        · obtain ⟨c, hc⟩ : ∃ c, ni.kids[k]? = some c := ⟨ni.kids[k], by simp [hlt]⟩
          obtain ⟨ci, hci, hcl, h31'⟩ := HK.out k c hc
          have K39 := HIH.out c ci hci hcl h31'
          have HKC := hid' K39
          have c3 := HCE.out k c hc
          have u1 : (k : Int) < (ni.kids.length : Int) := by omega
          clear hc hci hcl h31' K39
          go_wp2_with fail
          refine HKC.out.mono ?_
          rintro e w1 ⟨rfl, rfl⟩
          by_cases hk0 : k = 0
          · subst hk0
            go_wp2_with fail
            go_roundw
            case rel => exact ⟨1, L + 1, by omega, rfl, rfl, Or.inr rfl, trivial⟩
            case measure => simp [intOf]; omega
          · have u2 : ¬ ((k : Int) = 0) := by omega
            have u3 : ((k : Int) == 0) = false := by simp; omega
            have hd := HD.out
            have u4 : (((L : Int) + 1) != (d : Int)) = false := by rw [bne_eq_false_iff_eq]; omega
            have u5 : (L : Int) + 1 = (d : Int) := by omega
            clear hd
            go_wp2_with fail
            go_roundw
            case rel => exact ⟨k + 1, d, by omega, by simp, rfl, Or.inr (by omega), trivial⟩
            case measure => simp [intOf]; omega
        · have u1 : ¬ (k : Int) < (ni.kids.length : Int) := by omega
          obtain rfl : d = L + 1 := by have := HD.out; omega
          have u2 : IntKind.i64.wrap (((L + 1 : Nat) : Int) + 1) = (L : Int) + 1 + 1 := by rw [IntKind.wrap_i64]; omega
          go_wp2_with fail
          go_ret2
          exact ⟨by simp, rfl⟩
    | false =>
      have h1' := h31 rfl
      have t3 : ¬ (ni.ks.length : Int) < 31 := by omega
      have t4 : decide ((ni.ks.length : Int) < 31) = false := by simp; omega
      clear h1 h31
      go_enter Try.func39, Try.ntmps39
      go_wp2
      go_loopw [9, 10, 11, 12] (fun dp q _ _ wr => ∃ k d : Nat, k ≤ ni.kids.length ∧ q = .int .i64 k ∧ dp = .int .i64 d ∧ (k = 0 ∨ d = L + 1) ∧ wr = w) (fun _ q _ _ _ => ni.kids.length - (intOf q).toNat)
      case atStart => exact ⟨0, 0, Nat.zero_le _, rfl, rfl, Or.inl rfl, rfl⟩
      case round =>
        obtain ⟨k, d, hk, rfl, rfl, hd, rfl⟩ := hrel
        have HD := hid' hd
        clear hd
        by_cases hlt : k < ni.kids.length
        · obtain ⟨c, hc⟩ : ∃ c, ni.kids[k]? = some c := ⟨ni.kids[k], by simp [hlt]⟩
          obtain ⟨ci, hci, hcl, h31'⟩ := HK.out k c hc
          have K39 := HIH.out c ci hci hcl h31'
          have HKC := hid' K39
          have c3 := HCE.out k c hc
          have u1 : (k : Int) < (ni.kids.length : Int) := by omega
          clear hc hci hcl h31' K39
          go_wp2_with fail
          refine HKC.out.mono ?_
          rintro e w1 ⟨rfl, rfl⟩
          by_cases hk0 : k = 0
          · subst hk0
            go_wp2_with fail
            go_roundw
            case rel => exact ⟨1, L + 1, by omega, rfl, rfl, Or.inr rfl, trivial⟩
            case measure => simp [intOf]; omega
          · have u2 : ¬ ((k : Int) = 0) := by omega
            have u3 : ((k : Int) == 0) = false := by simp; omega
            have hd := HD.out
            have u4 : (((L : Int) + 1) != (d : Int)) = false := by rw [bne_eq_false_iff_eq]; omega
            have u5 : (L : Int) + 1 = (d : Int) := by omega
            clear hd
            go_wp2_with fail
            go_roundw
            case rel => exact ⟨k + 1, d, by omega, by simp, rfl, Or.inr (by omega), trivial⟩
            case measure => simp [intOf]; omega
        · have u1 : ¬ (k : Int) < (ni.kids.length : Int) := by omega
          obtain rfl : d = L + 1 := by have := HD.out; omega
          have u2 : IntKind.i64.wrap (((L + 1 : Nat) : Int) + 1) = (L : Int) + 1 + 1 := by rw [IntKind.wrap_i64]; omega
          go_wp2_with fail
          go_ret2
          exact ⟨by simp, rfl⟩
end Go.Proofs.Qxb6601743a
