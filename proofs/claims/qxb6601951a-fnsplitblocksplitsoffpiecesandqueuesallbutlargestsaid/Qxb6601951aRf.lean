import Derived.Test.Qxb6601951aWt
import Derived.Test.Qxb6601951aNp
namespace Go.Proofs.Qxb6601951a
open Go.RowKit

abbrev nilS : Value := .slice none 0 0

/-- What 'ZZNewRefinement' leaves. -/
def NewR (w : World) (a0 : Option Addr) (c0 size n : Nat) (blk : Nat → Nat) (wa : Option Addr) (wn wc qb : Nat) (W : Nat → Int) (V : Nat → Bool) (v6 : Value) (e : Ending) (w' : World) : Prop :=
  ∃ rb pb mb ab sb eb P, e = .returned (.pointer (some ⟨rb, 0, none⟩)) ∧ RSt w' rb pb mb ab sb eb a0 c0 n n size n P wa wn wc qb n n W V nilS nilS nilS v6 nilS ∧ P.Ok size n ∧ P.blk = blk ∧ (∀ b, b < n → P.en b - P.st b = hits blk b size) ∧ (∀ b ∈ [rb, pb, mb, ab, sb, eb], w.heap.size ≤ b) ∧ Chg [] w w'

set_option maxHeartbeats 2000000 in
theorem newRef_any (w : World) (a0 : Option Addr) (c0 size n : Nat) (blk : Nat → Nat) (wa va : Option Addr) (wn wc qb vn vc : Nat) (W : Nat → Int) (V : Nat → Bool) (hb : SR 3 nat w a0 c0 size blk) (hlt : ∀ x, x < size → blk x < n) (hsz : size ≤ 1000000) (hn : n ≤ 1000000) (hn0 : 0 < n)
    (hW : SR 3 int w wa wc wn W) (hV : Row 4 Value.bool w qb n n V) (hd1 : qb ∉ blkOf a0) (hd2 : ∀ x ∈ blkOf wa, x ≠ qb ∧ x ∉ blkOf a0) (hwc : wc ≤ 9223372036854775807) :
    Calls Try.prog 16 #[.slice a0 size c0, .int .i64 n, .slice wa wn wc, .slice (some ⟨qb, 0, none⟩) n n, .slice va vn vc] w fun e w' => NewR w a0 c0 size n blk wa wn wc qb W V (.slice va vn vc) e w' := by
  have K := hid (newPart_any w a0 c0 size n blk hb hlt hsz hn hn0)
  have H := hid (And.intro hb (And.intro hW hV))
  clear hb hlt hW hV
  go_enter Try.func16, Try.ntmps16
  go_wp2_with fail
  refine K.out.mono ?_
  rintro e w1 ⟨pb, mb, ab, sb, eb, P, rfl, hp, hP, hbl, hh, hlo, hc⟩
  have R := hid (And.intro hp (And.intro hP (And.intro hbl (And.intro hh (And.intro hlo hc)))))
  clear hp hP hbl hh hlo hc K
  go_wp2_with fail
  go_ret
  obtain ⟨hp, hP, hbl, hh, hlo, hc⟩ := R.out
  obtain ⟨hb, hW, hV⟩ := H.out
  have hsz := hc.size
  have l1 := hp.str.lt
  have l2 := hp.mem.lt
  have l3 := hp.pos.lt
  have l4 := hp.st.lt
  have l5 := hp.en.lt
  have l6 := hb.lt
  have l7 := hV.lt
  have l8 := hW.lt
  have c2 := (Chg.refl [] w1).alloc (.cells #[.pointer (some ⟨pb, 0, none⟩), .slice wa wn wc, .slice (some ⟨qb, 0, none⟩) n n, nilS, nilS, nilS, .slice va vn vc, nilS] 50)
  refine ⟨w1.heap.size, pb, mb, ab, sb, eb, P, rfl, ⟨Blk.new w1 _ 50, hp.chg0 c2, (hW.chg hc (by simp)).chg c2 (by simp), (hV.chg hc (by simp)).chg c2 (by simp), by omega, fun x hx hm => ?_, fun x hx hm => ?_, hwc⟩, hP, hbl, hh, fun b hb => ?_, hc.trans c2⟩
  · rcases List.mem_append.1 hm with hm | hm
    · have q1 := hlo x hm
      simp at hx hm
      omega
    · have := l6 x hm
      simp at hx
      rcases hx with hx | hx
      · omega
      · subst hx; exact hd1 hm
  · have q0 := l8 x hx
    have q1 := hd2 x hx
    rcases List.mem_append.1 hm with hm | hm
    · by_cases e : x ∈ [pb, mb, ab, sb, eb]
      · have := hlo x e; omega
      · simp at hm e; omega
    · exact q1.2 hm
  · by_cases e : b ∈ [pb, mb, ab, sb, eb]
    · exact hlo b e
    · simp at hb e; omega

theorem results_tmp7 {fn : Func} {t0 t1 t2 t3 t4 t5 t6 : Tmp} (h : fn.results = #[.tmp t0, .tmp t1, .tmp t2, .tmp t3, .tmp t4, .tmp t5, .tmp t6]) (tmps : Array Value) (P : Program) (w : World) :
    (results fn tmps).run P w = .ok (.tuple #[tmps.getD t0 undef, tmps.getD t1 undef, tmps.getD t2 undef, tmps.getD t3 undef, tmps.getD t4 undef, tmps.getD t5 undef, tmps.getD t6 undef]) w := by
  simp [results, h]

set_option maxHeartbeats 4000000 in
theorem fields_any (w : World) (rb pb mb ab sb eb : Nat) (a3 : Option Addr) (c3 cs ce size nb : Nat) (P : Pt) (wa : Option Addr) (wn wc qb qn qc : Nat) (W : Nat → Int) (V : Nat → Bool) (v3 v4 v5 v6 v7 : Value) (h : RSt w rb pb mb ab sb eb a3 c3 cs ce size nb P wa wn wc qb qn qc W V v3 v4 v5 v6 v7) :
    Calls Try.prog 17 #[.pointer (some ⟨rb, 0, none⟩)] w fun e w' => e = .returned (.tuple #[.slice (some ⟨mb, 0, none⟩) size size, .slice (some ⟨ab, 0, none⟩) size size, .slice a3 size c3, .slice (some ⟨sb, 0, none⟩) nb cs, .slice (some ⟨eb, 0, none⟩) nb ce, .slice wa wn wc, .slice (some ⟨qb, 0, none⟩) qn qc]) ∧ (∃ k, w' = w.drewN k) := by
  have r0 := h.r0
  have r1 := h.r1
  have r2 := h.r2
  have f0 := h.part.f0
  have f1 := h.part.f1
  have f2 := h.part.f2
  have f3 := h.part.f3
  have f4 := h.part.f4
  clear h
  go_enter Try.func17, Try.ntmps17
  go_wp2_with fail
  go_quiet (fail)
  go_wp2
  (try simp only [Exit.inBlock, Exit.then])
  refine bodyPost_ret (results_tmp7 rfl _ _ _) rfl ?_
  exact ⟨rfl, _, rfl⟩
end Go.Proofs.Qxb6601951a
