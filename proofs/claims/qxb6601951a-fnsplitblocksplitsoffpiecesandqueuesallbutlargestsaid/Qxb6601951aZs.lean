import Derived.Test.Qxb6601951aSb
namespace Go.Proofs.Qxb6601951a
open Go.RowKit

theorem zzSplitBlock (w : World) (rb pb mb ab sb eb : Nat) (a3 : Option Addr) (c3 cs ce size n : Nat) (P0 : Pt) (wa : Option Addr) (wn wc qb : Nat) (W : Nat → Int) (V : Nat → Bool) (v3 v4 v5 v7 : Value) (va pa : Option Addr) (vn vc pc c m : Nat) (lo hi vals mark : Nat → Nat) (Vl : Nat → Int) (kp : Nat) (ss : Nat → Nat) (q : Nat → Bool)
    (h : RSt w rb pb mb ab sb eb a3 c3 cs ce size n P0 wa wn wc qb n n W V v3 v4 v5 (.slice va vn vc) v7) (hP : P0.Ok size n) (hc : c < n) (hpc : Pcs P0.blk size c m lo hi vals mark) (hhi : ∀ k, k < m → hi k ≤ vn)
    (hpr : RdP w pa m (fun k => (lo k : Int)) (fun k => (hi k : Int))) (hvr : SR 3 int w va vc vn Vl) (hvl : ∀ k, k < m → ∀ j, lo k ≤ j → j < hi k → Vl j = vals j) (hd : ∀ x ∈ blkOf va ++ blkOf pa, x ∉ [rb, qb, pb, mb, ab, sb, eb] ++ blkOf wa ++ blkOf a3)
    (hkp : kp = if sumTo (len2 lo hi) m = P0.en c - P0.st c then arg (len2 lo hi) m else m) (hss : ∀ k, k < m → k ≠ kp → ss (nw kp k) = hi k - lo k)
    (hq : q = qd (V c) n c (mostOf n c (arg (part (P0.en c - P0.st c - sumTo ss (nw kp m)) ss) (nw kp m + 1))))
    (hsz : size ≤ 1000000) (hn : n ≤ 100000) (hm : m ≤ 100000) (hvn : vn ≤ 1000000) (hwn : wn ≤ 1000000) (hcs : cs ≤ 9223372036854775807) (hce : ce ≤ 9223372036854775807) :
    Calls Try.prog 18 #[.pointer (some ⟨rb, 0, none⟩), .int .i64 c, .slice pa m pc] w fun e w' => SbP w rb pb mb ab sb eb a3 c3 size n P0 wa wn qb W V v3 v4 v5 (.slice va vn vc) v7 c m lo hi vals kp ss q e w' := by
  have K := hid (splitBlock_any w rb pb mb ab sb eb a3 c3 cs ce size n P0 wa wn wc qb W V v3 v4 v5 v7 va pa vn vc pc c m lo hi vals mark Vl kp ss q h hP hc hpc hhi hpr hvr hvl hd hkp hss hq hsz hn hm hvn hwn hcs hce)
  clear h hP hpc hhi hpr hvr hvl hd hkp hss hq
  go_enter Try.func18, Try.ntmps18
  go_wp2_with fail
  refine K.out.mono ?_
  rintro e w' h
  obtain rfl := h.1
  have HH := hid h
  clear h K
  go_wp2_with fail
  go_end0
  exact HH.out
end Go.Proofs.Qxb6601951a
