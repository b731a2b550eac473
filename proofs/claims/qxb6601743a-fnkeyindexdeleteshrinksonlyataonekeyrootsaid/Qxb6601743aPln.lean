import Derived.Test.Qxb6601743aTab
namespace Go.Proofs.Qxb6601743a

/-- child 0, key 0, child 1, .. -/
def interT : List ByteArray → List (List ByteArray) → List ByteArray
  | _, [] => []
  | [], c :: cs => c ++ interT [] cs
  | x :: pk, c :: cs => x :: (c ++ interT pk cs)

/-- What follows a child: key 0, child 1, .. -/
def interL (pk : List ByteArray) : List (List ByteArray) → List ByteArray
  | [] => []
  | c :: cs => c ++ interT pk cs

theorem interTo_app (pk : List ByteArray) (cks : List (List ByteArray)) (x : ByteArray) (c : List ByteArray) : ∀ k, interTo (x :: pk) (c :: cks) (k + 1) = c ++ x :: interTo pk cks k
  | 0 => by simp [interTo]
  | k + 1 => by
    rw [interTo, interTo_app pk cks x c k]
    simp [interTo]

theorem interTo_app0 (cks : List (List ByteArray)) (c : List ByteArray) : ∀ k, interTo [] (c :: cks) (k + 1) = c ++ interTo [] cks k
  | 0 => by simp [interTo]
  | k + 1 => by
    rw [interTo, interTo_app0 cks c k]
    simp [interTo]

theorem interT_nil (cs : List (List ByteArray)) : interT [] cs = interTo [] cs cs.length := by
  induction cs with
  | nil => rfl
  | cons c cs ih => rw [interT, List.length_cons, interTo_app0, ih]

theorem interL_eq : ∀ (cks : List (List ByteArray)) (pk : List ByteArray), pk.length < cks.length → interTo pk cks cks.length = interL pk cks
  | [], pk, h => by simp at h
  | [c], [], _ => by simp [interTo, interL, interT]
  | c :: d :: cs, [], _ => by rw [List.length_cons, interTo_app0, interL, interT_nil]
  | [c], x :: pk, h => by simp at h
  | c :: d :: cs, x :: pk, h => by
    have ih := interL_eq (d :: cs) pk (by simpa using h)
    rw [List.length_cons, interTo_app, ih, interL, interL, interT]

/-- Cut at a child. -/
theorem interT_cut : ∀ (c1 : List (List ByteArray)) (p1 : List ByteArray) (x : ByteArray) (p2 : List ByteArray) (c : List ByteArray) (c2 : List (List ByteArray)), p1.length = c1.length → interT (p1 ++ x :: p2) (c1 ++ c :: c2) = interT p1 c1 ++ x :: (c ++ interT p2 c2)
  | [], [], x, p2, c, c2, _ => by simp [interT]
  | [], _ :: _, _, _, _, _, h => by simp at h
  | _ :: _, [], _, _, _, _, h => by simp at h
  | d :: c1, y :: p1, x, p2, c, c2, h => by
    simp only [List.cons_append, interT]
    rw [interT_cut c1 p1 x p2 c c2 (by simpa using h)]
    simp

/-- Cut at child m and child m + 1: what stands ahead hangs on neither, nor on the key between them. -/
theorem interL_cut (c1 : List (List ByteArray)) (p1 : List ByteArray) (h : p1.length = c1.length) : ∃ A, ∀ (x : ByteArray) (p2 : List ByteArray) (a b : List ByteArray) (c2 : List (List ByteArray)),
    interL (p1 ++ x :: p2) (c1 ++ a :: b :: c2) = A ++ (a ++ x :: (b ++ interT p2 c2)) ∧ interL (p1 ++ p2) (c1 ++ a :: c2) = A ++ (a ++ interT p2 c2) := by
  match c1, p1, h with
  | [], [], _ => exact ⟨[], fun x p2 a b c2 => ⟨by simp [interL, interT], by simp [interL]⟩⟩
  | d :: c1, [], h => simp at h
  | [], y :: p1, h => simp at h
  | d :: c1, y :: p1, h =>
    -- the keys are one ahead of the children from here on
    obtain ⟨q, z, hq⟩ : ∃ q z, y :: p1 = q ++ [z] := ⟨(y :: p1).dropLast, (y :: p1).getLast (by simp), (List.dropLast_concat_getLast _).symm⟩
    have hl : q.length = c1.length := by
      have := congrArg List.length hq
      simp at this h
      omega
    refine ⟨d ++ (interT q c1 ++ [z]), fun x p2 a b c2 => ⟨?_, ?_⟩⟩
    · show d ++ interT (y :: p1 ++ x :: p2) (c1 ++ a :: b :: c2) = _
      rw [hq, List.append_assoc, List.singleton_append, interT_cut c1 q z (x :: p2) a (b :: c2) hl, interT]
      simp
    · show d ++ interT (y :: p1 ++ p2) (c1 ++ a :: c2) = _
      rw [hq, List.append_assoc, List.singleton_append, interT_cut c1 q z p2 a c2 hl]
      simp

theorem split_at {α : Type} (l : List α) (m : Nat) (a b : α) (h1 : l[m]? = some a) (h2 : l[m + 1]? = some b) : l = l.take m ++ a :: b :: l.drop (m + 2) := by
  have hm := (List.getElem?_eq_some_iff.1 h2).1
  have e1 : l.drop m = a :: l.drop (m + 1) := by
    rw [List.drop_eq_getElem_cons (by omega)]
    congr 1
    have := (List.getElem?_eq_some_iff.1 h1).2
    exact this
  have e2 : l.drop (m + 1) = b :: l.drop (m + 2) := by
    rw [List.drop_eq_getElem_cons (by omega)]
    congr 1
    exact (List.getElem?_eq_some_iff.1 h2).2
  conv => lhs; rw [← List.take_append_drop m l, e1, e2]

theorem split_one {α : Type} (l : List α) (m : Nat) (a : α) (h1 : l[m]? = some a) : l = l.take m ++ a :: l.drop (m + 1) := by
  have hm := (List.getElem?_eq_some_iff.1 h1).1
  have e1 : l.drop m = a :: l.drop (m + 1) := by
    rw [List.drop_eq_getElem_cons hm]
    congr 1
    exact (List.getElem?_eq_some_iff.1 h1).2
  conv => lhs; rw [← List.take_append_drop m l, e1]

theorem set_two {α : Type} (l1 l2 : List α) (a b a' b' : α) : ((l1 ++ a :: b :: l2).set l1.length a').set (l1.length + 1) b' = l1 ++ a' :: b' :: l2 := by
  simp [Nat.add_sub_cancel_left]

theorem set_two' {α : Type} (l1 l2 : List α) (a b a' b' : α) : ((l1 ++ a :: b :: l2).set (l1.length + 1) b').set l1.length a' = l1 ++ a' :: b' :: l2 := by
  simp [Nat.add_sub_cancel_left]

/-- What the law asks of the state behind fill. -/
structure Good (pk : List ByteArray) (cks : List (List ByteArray)) (i : Nat) (pk' : List ByteArray) (cks' : List (List ByteArray)) (j : Nat) : Prop where
  tab : cks'.map List.length = (table (cks.map List.length) i).1
  idx : j = (table (cks.map List.length) i).2
  len : cks'.length = pk'.length + 1
  all : ∀ y ∈ cks', 31 ≤ y.length ∧ y.length ≤ 63
  run : ∃ ys ci p, cks'[j]? = some ys ∧ 31 < ys.length ∧ cks[i]? = some ci ∧ p + ci.length ≤ ys.length ∧ ∀ t s, ci[t]? = some s → ys[p + t]? = some s
  same : interTo pk' cks' cks'.length = interTo pk cks cks.length

theorem lens_get {cks : List (List ByteArray)} {k : Nat} {c : List ByteArray} (h : cks[k]? = some c) : (cks.map List.length)[k]? = some c.length := by rw [List.getElem?_map, h]; rfl

theorem good_left (pk : List ByteArray) (cks : List (List ByteArray)) (i : Nat) (x y : ByteArray) (l0 c : List ByteArray) (h0 : 0 < i) (hx : pk[i - 1]? = some x) (hl : cks[i - 1]? = some (l0 ++ [y])) (hc : cks[i]? = some c)
    (h31 : 31 ≤ l0.length) (hc31 : c.length = 31) (hlen : cks.length = pk.length + 1) (hall : ∀ y ∈ cks, 31 ≤ y.length ∧ y.length ≤ 63) :
    Good pk cks i (pk.set (i - 1) y) ((cks.set (i - 1) l0).set i (x :: c)) i := by
  have hil : i < cks.length := (List.getElem?_eq_some_iff.1 hc).1
  have hl63 := hall _ (List.mem_of_getElem? hl)
  simp at hl63
  have ht : table (cks.map List.length) i = (((cks.map List.length).set (i - 1) (l0.length + 1 - 1)).set i 32, i) := by
    have := lens_get hl
    rw [List.length_append, List.length_singleton] at this
    exact table_left h0 this (by omega)
  have hck := split_at cks (i - 1) (l0 ++ [y]) c hl (by rw [show i - 1 + 1 = i by omega]; exact hc)
  have hpk := split_one pk (i - 1) x hx
  have hl1 : (cks.take (i - 1)).length = i - 1 := by simp; omega
  have hl2 : (pk.take (i - 1)).length = i - 1 := by simp; omega
  refine ⟨?_, by rw [ht], by simpa using hlen, ?_, ⟨x :: c, c, 1, ?_, by simp; omega, hc, by simp; omega, fun t s h => by rw [Nat.add_comm, List.getElem?_cons_succ]; exact h⟩, ?_⟩
  · rw [ht]
    simp [List.map_set, hc31]
  · intro z hz
    rcases List.mem_or_eq_of_mem_set hz with hz | rfl
    · rcases List.mem_or_eq_of_mem_set hz with hz | rfl
      · exact hall z hz
      · omega
    · simp; omega
  · rw [List.getElem?_set_self (by simpa using hil)]
  · obtain ⟨A, hA⟩ := interL_cut (cks.take (i - 1)) (pk.take (i - 1)) (by omega)
    rw [interL_eq _ _ (by simp; omega), interL_eq _ _ (by omega)]
    have e1 : (cks.set (i - 1) l0).set i (x :: c) = cks.take (i - 1) ++ l0 :: (x :: c) :: cks.drop (i - 1 + 2) := by
      have := set_two (cks.take (i - 1)) (cks.drop (i - 1 + 2)) (l0 ++ [y]) c l0 (x :: c)
      rw [← hck, hl1, show i - 1 + 1 = i by omega] at this
      exact this
    have e2 : pk.set (i - 1) y = pk.take (i - 1) ++ y :: pk.drop (i - 1 + 1) := by
      conv => lhs; rw [hpk]
      rw [List.set_append, if_neg (by omega), hl2, Nat.sub_self, List.set_cons_zero]
    rw [e1, e2, (hA _ _ _ _ _).1]
    conv => rhs; rw [hck, hpk, (hA _ _ _ _ _).1]
    simp

theorem good_right (pk : List ByteArray) (cks : List (List ByteArray)) (i : Nat) (x y : ByteArray) (r0 c : List ByteArray) (h0 : i = 0 ∨ ∃ m, (cks.map List.length)[i - 1]? = some m ∧ m ≤ 31) (hx : pk[i]? = some x) (hr : cks[i + 1]? = some (y :: r0)) (hc : cks[i]? = some c)
    (h31 : 31 ≤ r0.length) (hc31 : c.length = 31) (hlen : cks.length = pk.length + 1) (hall : ∀ y ∈ cks, 31 ≤ y.length ∧ y.length ≤ 63) :
    Good pk cks i (pk.set i y) ((cks.set (i + 1) r0).set i (c ++ [x])) i := by
  have hil : i + 1 < cks.length := (List.getElem?_eq_some_iff.1 hr).1
  have hl63 := hall _ (List.mem_of_getElem? hr)
  simp at hl63
  have ht : table (cks.map List.length) i = (((cks.map List.length).set (i + 1) (r0.length + 1 - 1)).set i 32, i) := by
    have := lens_get hr
    rw [List.length_cons] at this
    exact table_right h0 this (by omega)
  have hck := split_at cks i c (y :: r0) hc hr
  have hpk := split_one pk i x hx
  have hl1 : (cks.take i).length = i := by simp; omega
  have hl2 : (pk.take i).length = i := by have := (List.getElem?_eq_some_iff.1 hx).1; simp; omega
  refine ⟨?_, by rw [ht], by simpa using hlen, ?_, ⟨c ++ [x], c, 0, ?_, by simp; omega, hc, by simp, fun t s h => by rw [Nat.zero_add, List.getElem?_append_left (List.getElem?_eq_some_iff.1 h).1]; exact h⟩, ?_⟩
  · rw [ht]
    simp [List.map_set, hc31]
  · intro z hz
    rcases List.mem_or_eq_of_mem_set hz with hz | rfl
    · rcases List.mem_or_eq_of_mem_set hz with hz | rfl
      · exact hall z hz
      · omega
    · simp; omega
  · rw [List.getElem?_set_self (by simp; omega)]
  · obtain ⟨A, hA⟩ := interL_cut (cks.take i) (pk.take i) (by omega)
    rw [interL_eq _ _ (by simp; omega), interL_eq _ _ (by omega)]
    have e1 : (cks.set (i + 1) r0).set i (c ++ [x]) = cks.take i ++ (c ++ [x]) :: r0 :: cks.drop (i + 2) := by
      have := set_two' (cks.take i) (cks.drop (i + 2)) c (y :: r0) (c ++ [x]) r0
      rw [← hck, hl1] at this
      exact this
    have e2 : pk.set i y = pk.take i ++ y :: pk.drop (i + 1) := by
      conv => lhs; rw [hpk]
      rw [List.set_append, if_neg (by omega), hl2, Nat.sub_self, List.set_cons_zero]
    rw [e1, e2, (hA _ _ _ _ _).1]
    conv => rhs; rw [hck, hpk, (hA _ _ _ _ _).1]
    simp

theorem good_merge (pk : List ByteArray) (cks : List (List ByteArray)) (i m : Nat) (x : ByteArray) (a b : List ByteArray) (hx : pk[m]? = some x) (ha : cks[m]? = some a) (hb : cks[m + 1]? = some b)
    (hi : i = m ∨ i = m + 1) (hci : ∀ c, cks[i]? = some c → c.length = 31) (ht : table (cks.map List.length) i = ((cks.map List.length).take m ++ [a.length + b.length + 1] ++ (cks.map List.length).drop (m + 2), m))
    (ha31 : a.length = 31) (hb31 : b.length = 31) (hlen : cks.length = pk.length + 1) (hall : ∀ y ∈ cks, 31 ≤ y.length ∧ y.length ≤ 63) :
    Good pk cks i (pk.take m ++ pk.drop (m + 1)) (cks.take m ++ (a ++ [x] ++ b) :: cks.drop (m + 2)) m := by
  have hil : m + 1 < cks.length := (List.getElem?_eq_some_iff.1 hb).1
  have hck := split_at cks m a b ha hb
  have hpk := split_one pk m x hx
  have hl1 : (cks.take m).length = m := by simp; omega
  have hl2 : (pk.take m).length = m := by have := (List.getElem?_eq_some_iff.1 hx).1; simp; omega
  refine ⟨?_, by rw [ht], by simp; omega, ?_, ?_, ?_⟩
  · rw [ht]
    simp
    omega
  · intro z hz
    rcases List.mem_append.1 hz with hz | hz
    · exact hall z (List.mem_of_mem_take hz)
    · rcases List.mem_cons.1 hz with rfl | hz
      · simp; omega
      · exact hall z (List.mem_of_mem_drop hz)
  · have e0 : (cks.take m ++ (a ++ [x] ++ b) :: cks.drop (m + 2))[m]? = some (a ++ [x] ++ b) := by
      rw [List.getElem?_append_right (by omega), hl1, Nat.sub_self]; rfl
    rcases hi with rfl | rfl
    · exact ⟨_, a, 0, e0, by simp; omega, ha, by simp, fun t s h => by rw [Nat.zero_add, List.append_assoc, List.getElem?_append_left (List.getElem?_eq_some_iff.1 h).1]; exact h⟩
    · refine ⟨_, b, a.length + 1, e0, by simp; omega, hb, by simp; omega, fun t s h => ?_⟩
      rw [List.getElem?_append_right (by simp), List.length_append, List.length_singleton, Nat.add_sub_cancel_left]
      exact h
  · obtain ⟨A, hA⟩ := interL_cut (cks.take m) (pk.take m) (by omega)
    rw [interL_eq _ _ (by simp; omega), interL_eq _ _ (by omega), (hA x _ _ [] _).2]
    conv => rhs; rw [hck, hpk, (hA _ _ _ _ _).1]
    simp
end Go.Proofs.Qxb6601743a
