import Derived.Test.Qxb6601951aRf
import Derived.Test.Qxb6601951aSb
import Derived.Test.Qxb6601951aVp
namespace Go.Proofs.Qxb6601951a
open Go.RowKit

/-- The code behind region 'id', cut at it. -/
def afterRegion (id : Nat) : Code → Option (Code × Code)
  | .seq a b => match a with
    | .region n ops d => if n == id then some (.region n ops d, b) else afterRegion id b
    | _ => afterRegion id b
  | _ => none


def Post5 (w0 : World) : Exit → Act → World → Prop := bodyPost Try.prog Try.f5 fun e w' => e = .returned (.bool true) ∧ Chg [] w0 w'

/-- What the guards leave. -/
structure Env1 (w0 w : World) (a0 a2 a3 a4 a6 : Option Addr) (n0 n2 n3 n4 n6 C kb : Nat) (B Wk : Nat → Int) (Vt : Nat → Bool) (Vl lo hi : Nat → Int) (blk lo' hi' vals mark : Nat → Nat) : Prop where
  r0 : Rd int w0 a0 n0 B
  r2 : Rd int w0 a2 n2 Wk
  r3 : Rd Value.bool w0 a3 n3 Vt
  r4 : Rd int w0 a4 n4 Vl
  r6 : RdP w0 a6 n6 lo hi
  z0 : a0 = none → n0 = 0
  z2 : a2 = none → n2 = 0
  z3 : a3 = none → n3 = 0
  z4 : a4 = none → n4 = 0
  z6 : a6 = none → n6 = 0
  g0 : n0 ≤ 131072
  g2 : n2 ≤ 131072
  g3 : n3 ≤ 65536
  g4 : n4 ≤ 131072
  g6 : n6 ≤ 65536
  hC : C < n3
  hB : ∀ j, j < n0 → B j = blk j ∧ blk j < n3
  pc : Pcs blk n0 C n6 lo' hi' vals mark
  lh : ∀ k, k < n6 → lo k = lo' k ∧ hi k = hi' k ∧ hi' k ≤ n4
  vl : ∀ k, k < n6 → ∀ j, lo' k ≤ j → j < hi' k → Vl j = vals j
  mrk : Row 3 nat w kb n0 n0 mark
  kb0 : w0.heap.size ≤ kb
  c : Chg [] w0 w


def mxTo (g : Nat → Nat) : Nat → Nat
  | 0 => 0
  | k + 1 => if mxTo g k < g k then g k else mxTo g k

theorem mxTo_arg (g : Nat → Nat) : ∀ k, 0 < k → mxTo g k = g (arg g k)
  | 0, h => by omega
  | 1, _ => by
    have e : arg g 1 = 0 := by simp [arg]
    rw [e]
    have h0 : mxTo g 1 = if 0 < g 0 then g 0 else 0 := rfl
    rw [h0]
    split <;> omega
  | k + 2, _ => by
    have ih := mxTo_arg g (k + 1) (by omega)
    rw [mxTo, arg, ih]
    split <;> rfl

/-- All the law's own copies. -/
structure Env2 (w0 w : World) (A0 A2 A4 A6 : Option Addr) (n0 n2 N n4 n6 C kb qb : Nat) (Wk : Nat → Int) (Vt : Nat → Bool) (Vl : Nat → Int) (blk lo hi vals mark : Nat → Nat) : Prop where
  s0 : SR 3 nat w A0 n0 n0 blk
  s2 : SR 3 int w A2 n2 n2 Wk
  s3 : Row 4 Value.bool w qb N N Vt
  s4 : SR 3 int w A4 n4 n4 Vl
  s6 : RdP w A6 n6 (fun k => (lo k : Int)) (fun k => (hi k : Int))
  mrk : Row 3 nat w kb n0 n0 mark
  g0 : n0 ≤ 131072
  g2 : n2 ≤ 131072
  g3 : N ≤ 65536
  g4 : n4 ≤ 131072
  g6 : n6 ≤ 65536
  hC : C < N
  hB : ∀ j, j < n0 → blk j < N
  pc : Pcs blk n0 C n6 lo hi vals mark
  hn : ∀ k, k < n6 → hi k ≤ n4
  vl : ∀ k, k < n6 → ∀ j, lo k ≤ j → j < hi k → Vl j = vals j
  c : Chg [] w0 w
  dk : ∀ x ∈ blkOf A0 ++ blkOf A2 ++ blkOf A4 ++ blkOf A6 ++ [qb], kb ≠ x
  d0 : ∀ x ∈ blkOf A0, x ∉ blkOf A2 ∧ x ≠ qb ∧ x ∉ blkOf A4 ∧ x ∉ blkOf A6
  d2 : ∀ x ∈ blkOf A2, x ≠ qb ∧ x ∉ blkOf A4 ∧ x ∉ blkOf A6
  d3 : qb ∉ blkOf A4 ∧ qb ∉ blkOf A6
  lo0 : ∀ x ∈ kb :: qb :: blkOf A0 ++ blkOf A2 ++ blkOf A4 ++ blkOf A6, w0.heap.size ≤ x ∧ x < w.heap.size

section
variable {w0 w : World} {A0 A2 A4 A6 : Option Addr} {n0 n2 N n4 n6 C kb qb : Nat} {Wk : Nat → Int} {Vt : Nat → Bool} {Vl : Nat → Int} {blk lo hi vals mark : Nat → Nat}
theorem RdP.chg0 {a : Option Addr} {n : Nat} {l h : Nat → Int} (hr : RdP w a n l h) {w' : World} (c : Chg [] w w') : RdP w' a n l h := fun k hk => by
  obtain ⟨b, off, e, h1, h2⟩ := hr k hk
  exact ⟨b, off, e, c.cell h1, c.cell h2⟩
theorem Env2.chg0 (h : Env2 w0 w A0 A2 A4 A6 n0 n2 N n4 n6 C kb qb Wk Vt Vl blk lo hi vals mark) {w' : World} (c : Chg [] w w') : Env2 w0 w' A0 A2 A4 A6 n0 n2 N n4 n6 C kb qb Wk Vt Vl blk lo hi vals mark :=
  ⟨h.s0.chg c (by simp), h.s2.chg c (by simp), h.s3.chg c (by simp), h.s4.chg c (by simp), h.s6.chg0 c, h.mrk.chg c (by simp), h.g0, h.g2, h.g3, h.g4, h.g6, h.hC, h.hB, h.pc, h.hn, h.vl, h.c.trans c, h.dk, h.d0, h.d2, h.d3, fun x hx => ⟨(h.lo0 x hx).1, Nat.lt_of_lt_of_le (h.lo0 x hx).2 c.size⟩⟩
end

/-- Which piece is kept. -/
def keepOf (blk : Nat → Nat) (n0 C n6 : Nat) (lo hi : Nat → Nat) : Nat := if sumTo (len2 lo hi) n6 = hits blk C n0 then arg (len2 lo hi) n6 else n6

/-- .. and the table of the new blocks. -/
structure Env3 (w0 w : World) (A0 A2 A4 A6 : Option Addr) (n0 n2 N n4 n6 C kb qb ib zb : Nat) (Wk : Nat → Int) (Vt : Nat → Bool) (Vl : Nat → Int) (blk lo hi vals mark : Nat → Nat) (idx : Nat → Int) (ss : Nat → Nat) (kp : Nat) : Prop where
  e2 : Env2 w0 w A0 A2 A4 A6 n0 n2 N n4 n6 C kb qb Wk Vt Vl blk lo hi vals mark
  ri : Row 3 int w ib n6 n6 idx
  rz : Row 3 nat w zb n6 n6 ss
  hkp : kp = keepOf blk n0 C n6 lo hi
  hss : ∀ k, k < n6 → k ≠ kp → ss (nw kp k) = hi k - lo k
  hidx : ∀ k, k < n6 → idx k = if k = kp then -1 else (nw kp k : Int)
  hcut : sumTo ss (nw kp n6) ≤ hits blk C n0
  dz : ib ≠ zb
  di : ∀ x ∈ kb :: qb :: blkOf A0 ++ blkOf A2 ++ blkOf A4 ++ blkOf A6, x ≠ ib ∧ x ≠ zb
  lo3 : w0.heap.size ≤ ib ∧ w0.heap.size ≤ zb

section
variable {w0 w : World} {A0 A2 A4 A6 : Option Addr} {n0 n2 N n4 n6 C kb qb ib zb : Nat} {Wk : Nat → Int} {Vt : Nat → Bool} {Vl : Nat → Int} {blk lo hi vals mark : Nat → Nat} {idx : Nat → Int} {ss : Nat → Nat} {kp : Nat}
theorem Env3.chg0 (h : Env3 w0 w A0 A2 A4 A6 n0 n2 N n4 n6 C kb qb ib zb Wk Vt Vl blk lo hi vals mark idx ss kp) {w' : World} (c : Chg [] w w') : Env3 w0 w' A0 A2 A4 A6 n0 n2 N n4 n6 C kb qb ib zb Wk Vt Vl blk lo hi vals mark idx ss kp :=
  ⟨h.e2.chg0 c, h.ri.chg c (by simp), h.rz.chg c (by simp), h.hkp, h.hss, h.hidx, h.hcut, h.dz, h.di, h.lo3⟩
end

/-- The queue's answer. -/
def quOf (Vt : Nat → Bool) (N C : Nat) (blk : Nat → Nat) (n0 : Nat) (ss : Nat → Nat) (s : Nat) : Nat → Bool :=
  qd (Vt C) N C (mostOf N C (arg (part (hits blk C n0 - sumTo ss s) ss) (s + 1)))

theorem wp_any {P : Program} {sc : Code} {Q : Exit → Act → World → Prop} {a : Act} {w : World} {R : Act → World → Prop} (h : ∀ K : Act → World → Prop, (∀ a w, R a w → K a w) → Code.wp P sc (Exit.then K Q) a w) : Code.wp P sc (Exit.then R Q) a w := h R (fun _ _ h => h)

/-- What the law compares. -/
structure Env5 (w0 w : World) (A0 B0 B2 M0 wa : Option Addr) (n0 n2 N n6 C kb qb ib zb ub b3 t0 f0 mb ab sb eb s cs ce wn wc qc : Nat) (Wk W : Nat → Int) (Vt V : Nat → Bool) (blk lo hi vals mark : Nat → Nat) (idx : Nat → Int) (ss : Nat → Nat) (kp : Nat) (P0 P : Pt) : Prop where
  g0 : n0 ≤ 131072
  g2 : n2 ≤ 131072
  g3 : N ≤ 65536
  g6 : n6 ≤ 65536
  hC : C < N
  hs : s = nw kp n6
  c : Chg [] w0 w
  mrk : Row 3 nat w kb n0 n0 mark
  ri : Row 3 int w ib n6 n6 idx
  rz : Row 3 nat w zb n6 n6 ss
  ru : Row 4 Value.bool w ub (N + s) (N + s) (quOf Vt N C blk n0 ss s)
  gb : Rd nat w B0 n0 blk
  gw : Rd int w B2 n2 Wk
  gv : Row 4 Value.bool w b3 N N Vt
  m0 : Rd nat w M0 n0 P0.mem
  rs : Row 3 nat w t0 N N P0.st
  re : Row 3 nat w f0 N N P0.en
  mem : Row 3 nat w mb n0 n0 P.mem
  pos : Row 3 nat w ab n0 n0 P.pos
  blk' : SR 3 nat w A0 n0 n0 P.blk
  st : Row 3 nat w sb (N + s) cs P.st
  en : Row 3 nat w eb (N + s) ce P.en
  wk : Rd int w wa wn W
  wt : Row 4 Value.bool w qb (N + s) qc V
  hidx : ∀ k, k < n6 → idx k = if k = kp then -1 else (nw kp k : Int)
  pc : Pcs P0.blk n0 C n6 lo hi vals mark
  hbl : P0.blk = blk
  ok0 : P0.Ok n0 N
  ran : Ran P0 n0 N C lo hi vals kp ss n6 P
  hwn : wn = n2 + cnt (quOf Vt N C blk n0 ss s) (N + s)
  qu : Qu (quOf Vt N C blk n0 ss s) n2 N Wk Vt (N + s) W V

section
variable {w0 w : World} {A0 B0 B2 M0 wa : Option Addr} {n0 n2 N n6 C kb qb ib zb ub b3 t0 f0 mb ab sb eb s cs ce wn wc qc : Nat} {Wk W : Nat → Int} {Vt V : Nat → Bool} {blk lo hi vals mark : Nat → Nat} {idx : Nat → Int} {ss : Nat → Nat} {kp : Nat} {P0 P : Pt}
theorem Env5.chg0 (h : Env5 w0 w A0 B0 B2 M0 wa n0 n2 N n6 C kb qb ib zb ub b3 t0 f0 mb ab sb eb s cs ce wn wc qc Wk W Vt V blk lo hi vals mark idx ss kp P0 P) {w' : World} (c : Chg [] w w') : Env5 w0 w' A0 B0 B2 M0 wa n0 n2 N n6 C kb qb ib zb ub b3 t0 f0 mb ab sb eb s cs ce wn wc qc Wk W Vt V blk lo hi vals mark idx ss kp P0 P :=
  ⟨h.g0, h.g2, h.g3, h.g6, h.hC, h.hs, h.c.trans c, h.mrk.chg c (by simp), h.ri.chg c (by simp), h.rz.chg c (by simp), h.ru.chg c (by simp), h.gb.chg0 c, h.gw.chg0 c, h.gv.chg c (by simp), h.m0.chg0 c, h.rs.chg c (by simp), h.re.chg c (by simp), h.mem.chg c (by simp), h.pos.chg c (by simp), h.blk'.chg c (by simp), h.st.chg c (by simp), h.en.chg c (by simp), h.wk.chg0 c, h.wt.chg c (by simp), h.hidx, h.pc, h.hbl, h.ok0, h.ran, h.hwn, h.qu⟩
end
end Go.Proofs.Qxb6601951a
