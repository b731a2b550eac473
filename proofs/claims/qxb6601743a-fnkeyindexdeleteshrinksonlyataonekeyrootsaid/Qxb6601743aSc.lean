import Derived.Test.Qxb6601743aIsr
import Derived.Test.Qxb6601743aShp
import Derived.Test.Qxb6601743aClone
namespace Go.Proofs.Qxb6601743a
open Go.RowKit

theorem delete_any (B bx h r : Nat) (key : ByteArray) (w : World) (hI : Ix B w bx h r) : Calls Try.prog 41 #[ptr bx, .string key] w fun e w' => e = .returned (.tuple #[]) ∧ Shrunk B w w' bx h r := by
  obtain ⟨h1, h2, ⟨rfl, rfl, hx⟩ | ⟨nd, root, ri, H, rfl, hx, T, hri, hr, hr1⟩⟩ := hI
  · exact delete_none B bx key w hx h1 h2
  · exact delete_some B bx root H r nd ri key w hx T hri hr hr1 h1

set_option maxHeartbeats 1000000 in
theorem zzdelete (B bx h r : Nat) (key : ByteArray) (w : World) (hI : Ix B w bx h r) : Calls Try.prog 25 #[ptr bx, .string key] w fun e w' => e = .returned (.tuple #[]) ∧ Shrunk B w w' bx h r := by
  have HI := hid' hI
  clear hI
  go_enter Try.func25, Try.ntmps25
  go_wp2_with fail
  refine (delete_any B bx h r key w HI.out).mono ?_
  rintro e w1 ⟨rfl, hs⟩
  go_wp2_with fail
  go_end0
  exact ⟨rfl, hs⟩

set_option maxHeartbeats 1000000 in
theorem zzinsert (B bx h r : Nat) (key : ByteArray) (w : World) (hI : Ix B w bx h r) : Calls Try.prog 20 #[ptr bx, .string key] w fun e w' => e = .returned (.tuple #[]) ∧ Grew B w w' bx h := by
  have HI := hid' hI
  clear hI
  go_enter Try.func20, Try.ntmps20
  go_wp2_with fail
  refine (insert_any B bx h r key w HI.out).mono ?_
  rintro e w1 ⟨rfl, hs⟩
  go_wp2_with fail
  go_end0
  exact ⟨rfl, hs⟩

set_option maxHeartbeats 1000000 in
theorem valid_any (B bx h r : Nat) (w : World) (hI : Ix B w bx h r) (hh : h ≤ 1000000) : Calls Try.prog 14 #[ptr bx] w fun e w' => e = .returned (.tuple #[.int .i64 h, .bool true]) ∧ w' = w := by
  obtain ⟨h1, h2, ⟨rfl, rfl, hx⟩ | ⟨nd, root, ri, H, rfl, hx, T, hri, hr, hr1⟩⟩ := hI
  · have c1 := hx.cell (k := 0) rfl
    have hq := eql_nil
    clear hx
    go_enter Try.func14, Try.ntmps14
    go_wp2
    go_ret2
    exact ⟨rfl, rfl⟩
  · have c1 := hx.cell (k := 0) rfl
    have hq := eql_ptr
    have K := shape_gr w nd T.gr H root ri true hri (by obtain ⟨j, hj, hl⟩ := T.rt; rw [hri] at hj; cases hj; exact hl) (fun _ => by omega) (fun h => by cases h) (by omega) (fun b j hb hj => T.mn b j hb (T.ne_root hb hj))
    have HK := hid' K
    clear hx T hri K
    go_enter Try.func14, Try.ntmps14
    go_wp2_with (go_at_call 17; go_in)
    refine HK.out.mono ?_
    rintro e w1 ⟨rfl, rfl⟩
    go_wp2_with fail
    go_ret2
    exact ⟨by simp, rfl⟩

set_option maxHeartbeats 1000000 in
theorem rootKeys_any (B bx h r : Nat) (w : World) (hI : Ix B w bx h r) : Calls Try.prog 23 #[ptr bx] w fun e w' => e = .returned (.int .i64 r) ∧ w' = w := by
  obtain ⟨h1, h2, ⟨rfl, rfl, hx⟩ | ⟨nd, root, ri, H, rfl, hx, T, hri, hr, hr1⟩⟩ := hI
  · have c1 := hx.cell (k := 0) rfl
    have hq := eql_nil
    clear hx
    go_enter Try.func23, Try.ntmps23
    go_wp2
    go_ret
    exact ⟨rfl, rfl⟩
  · have c1 := hx.cell (k := 0) rfl
    have hq := eql_ptr
    obtain ⟨kc, cv, hB⟩ := T.gr.form hri
    have c2 := hB.cell (k := 0) rfl
    rw [hr] at c2
    clear hx T hri hB hr
    go_enter Try.func23, Try.ntmps23
    go_wp2
    go_ret
    exact ⟨rfl, rfl⟩

/-- The bools behind a slice's address. -/
def Bools (w : World) (a : Option Addr) (bs : List Bool) : Prop := ∀ k s, bs[k]? = some s → ∃ b off, a = some ⟨b, off, none⟩ ∧ w.cell? ⟨b, off + k, none⟩ = some (.bool s)

/-- What zzBuild leaves. -/
def Built (w w' : World) (m : Nat) (e : Ending) : Prop := ∃ bx h r, e = .returned (ptr bx) ∧ Ix w.heap.size w' bx h r ∧ h ≤ m ∧ Below w.heap.size w w'

theorem Below.cell' {w wr : World} {a : Addr} {v : Value} (h : Below w.heap.size w wr) (hc : w.cell? a = some v) : wr.cell? a = some v := (Chg.of_below h).cell hc

set_option maxHeartbeats 4000000 in
theorem build_any (a da : Option Addr) (cap dcap : Nat) (xs : List ByteArray) (bs : List Bool) (w : World) (hs : Strs w a xs) (hb : Bools w da bs) (hl : xs.length ≤ 65536) :
    Calls Try.prog 13 #[.slice a xs.length cap, .slice da bs.length dcap] w fun e w' => Built w w' (2 * xs.length) e := by
  have HS := hid' hs
  have HB := hid' hb
  clear hs hb
  go_enter Try.func13, Try.ntmps13
  go_wp2
  go_loopw [6] (fun q wr => ∃ k h r : Nat, k ≤ xs.length ∧ q = .int .i64 k ∧ Ix w.heap.size wr w.heap.size h r ∧ h ≤ 2 * k ∧ Below w.heap.size w wr) (fun q _ => xs.length - (intOf q).toNat)
  case atStart =>
    refine ⟨0, 0, 0, Nat.zero_le _, rfl, ⟨Nat.le_refl _, by simp, Or.inl ⟨rfl, rfl, Blk.new w [.pointer none] 55⟩⟩, Nat.zero_le _, ((Chg.refl _ _).alloc _).below⟩
  case round =>
    obtain ⟨k, h, r, hk, rfl, hI, hh, hbel⟩ := hrel
    have HI : Hid (Ix w.heap.size wr w.heap.size h r ∧ h ≤ 2 * k ∧ Below w.heap.size w wr) := ⟨hI, hh, hbel⟩
    clear hI hh hbel
    by_cases hlt : k < xs.length
    · obtain ⟨s, hs⟩ : ∃ s, xs[k]? = some s := ⟨xs[k], by simp [hlt]⟩
      obtain ⟨b, off, rfl, hc0⟩ := HS.out k s hs
      have hc := Below.cell' HI.out.2.2 hc0
      have t1 : (k : Int) < (xs.length : Int) := by omega
      clear hs hc0
      have INS : Hid (∀ w', Grew w.heap.size wr w' w.heap.size h → ∃ h' r', Ix w.heap.size w' w.heap.size h' r' ∧ h' ≤ 2 * (k + 1) ∧ Below w.heap.size w w') := fun w' hg => by
        obtain ⟨h', r', q1, q2, q3⟩ := hg
        have := HI.out.2.1
        exact ⟨h', r', q1, by omega, HI.out.2.2.trans q3⟩
      have DEL : Hid (∀ w', Shrunk w.heap.size wr w' w.heap.size h r → ∃ h' r', Ix w.heap.size w' w.heap.size h' r' ∧ h' ≤ 2 * (k + 1) ∧ Below w.heap.size w w') := fun w' hg => by
        obtain ⟨h', r', q1, q2, q3⟩ := hg
        have := HI.out.2.1
        exact ⟨h', r', q1, by omega, HI.out.2.2.trans q3⟩
      by_cases hd : k < bs.length
      · obtain ⟨d, hdk⟩ : ∃ d, bs[k]? = some d := ⟨bs[k], by simp [hd]⟩
        obtain ⟨b2, off2, rfl, hc1⟩ := HB.out k d hdk
        have hc2 := Below.cell' HI.out.2.2 hc1
        have t2 : (k : Int) < (bs.length : Int) := by omega
        clear hdk hc1
        cases d
        · go_wp2_with fail
          refine (zzinsert w.heap.size w.heap.size h r s wr HI.out.1).mono ?_
          rintro e w1 ⟨rfl, hg⟩
          obtain ⟨h', r', q⟩ := INS.out w1 hg
          have HQ := hid' q
          clear q hg
          go_wp2_with fail
          go_roundw
          case rel => exact ⟨k + 1, h', r', by omega, by simp, HQ.out.1, HQ.out.2.1, HQ.out.2.2⟩
          case measure => simp [intOf]; omega
        · go_wp2_with fail
          refine (zzdelete w.heap.size w.heap.size h r s wr HI.out.1).mono ?_
          rintro e w1 ⟨rfl, hg⟩
          obtain ⟨h', r', q⟩ := DEL.out w1 hg
          have HQ := hid' q
          clear q hg
          go_wp2_with fail
          go_roundw
          case rel => exact ⟨k + 1, h', r', by omega, by simp, HQ.out.1, HQ.out.2.1, HQ.out.2.2⟩
          case measure => simp [intOf]; omega
      · have t2 : ¬ (k : Int) < (bs.length : Int) := by omega
        have t3 : decide ((k : Int) < (bs.length : Int)) = false := by simp; omega
        go_wp2_with fail
        refine (zzinsert w.heap.size w.heap.size h r s wr HI.out.1).mono ?_
        rintro e w1 ⟨rfl, hg⟩
        obtain ⟨h', r', q⟩ := INS.out w1 hg
        have HQ := hid' q
        clear q hg
        go_wp2_with fail
        go_roundw
        case rel => exact ⟨k + 1, h', r', by omega, by simp, HQ.out.1, HQ.out.2.1, HQ.out.2.2⟩
        case measure => simp [intOf]; omega
    · have t1 : ¬ (k : Int) < (xs.length : Int) := by omega
      go_wp2_with fail
      go_ret
      exact ⟨_, h, r, rfl, HI.out.1, by have := HI.out.2.1; omega, HI.out.2.2⟩
end Go.Proofs.Qxb6601743a
