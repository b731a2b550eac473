import Derived.Test.Qxb6602120aMs
namespace Go.Proofs.Qxb6602120a
open Go.RowKit
theorem Stack.len {st : Nat → Nat} {m L : Nat} {sk : Nat → Nat} (h : Stack st m L sk) {q : Nat} (hm : m ≤ q) (hq : q ≤ 100000) : L ≤ 100000 := by
  have : ∀ x, x < L → x ≤ sk x := fun x => by
    induction x with
    | zero => intro _; omega
    | succ x ih => intro hx; have h1 := ih (by omega); have h2 := h.b x (x + 1) (by omega) hx; omega
  by_cases e : L = 0
  · omega
  · have h1 := this (L - 1) (by omega)
    have h2 := (h.a (L - 1) (by omega)).1
    omega

/-- What 'matchHPXExpansions' answers. -/
def MatP (s : ByteArray) (w : World) (e : Ending) (w' : World) : Prop :=
  ∃ (a : Option Addr) (n cap : Nat) (oD : Nat → Nat) (oC : Nat → Int), e = .returned (.slice a n cap) ∧ n = cnt (fun x => decide ((run (vOf s) s.size s.size).st x = 1)) (run (vOf s) s.size s.size).m ∧
    (∀ k, k < n → ∃ b, a = some ⟨b, 0, none⟩ ∧ w'.cell? ⟨b, k * 2, none⟩ = some (.int .i64 (oD k)) ∧ w'.cell? ⟨b, k * 2 + 1, none⟩ = some (.int .i64 (oC k))) ∧
    (∀ j, j < (run (vOf s) s.size s.size).m → (run (vOf s) s.size s.size).st j = 1 → oD (cnt (fun x => decide ((run (vOf s) s.size s.size).st x = 1)) j) = (run (vOf s) s.size s.size).ds j ∧ oC (cnt (fun x => decide ((run (vOf s) s.size s.size).st x = 1)) j) = (run (vOf s) s.size s.size).cl j) ∧ Chg [] w w'
end Go.Proofs.Qxb6602120a
