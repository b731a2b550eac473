namespace Go.Proofs.Qxb6602120a

def upd {α : Type} (f : Nat → α) (i : Nat) (v : α) : Nat → α := fun j => if j = i then v else f j
theorem upd_same {α : Type} (f : Nat → α) (i : Nat) (v : α) : upd f i v i = v := by simp [upd]
theorem upd_ne {α : Type} (f : Nat → α) {i j : Nat} (v : α) (h : j ≠ i) : upd f i v j = f j := by simp [upd, h]

def cnt (p : Nat → Bool) : Nat → Nat
  | 0 => 0
  | n + 1 => cnt p n + (if p n then 1 else 0)

theorem cnt_le (p : Nat → Bool) : ∀ {a b : Nat}, a ≤ b → cnt p a ≤ cnt p b
  | a, 0, h => by have : a = 0 := by omega
                  subst this; exact Nat.le_refl _
  | a, b + 1, h => by
    by_cases e : a = b + 1
    · subst e; exact Nat.le_refl _
    · rw [cnt]; have := cnt_le p (show a ≤ b by omega); omega

theorem cnt_lt (p : Nat → Bool) {a b : Nat} (h : a < b) (hp : p a = true) : cnt p a < cnt p b := by
  have := cnt_le p (show a + 1 ≤ b by omega)
  rw [cnt, if_pos hp] at this
  omega

theorem cnt_le_self (p : Nat → Bool) : ∀ n, cnt p n ≤ n
  | 0 => Nat.le_refl _
  | n + 1 => by rw [cnt]; have := cnt_le_self p n; split <;> omega

theorem cnt_congr {p q : Nat → Bool} : ∀ {n : Nat}, (∀ i, i < n → p i = q i) → cnt p n = cnt q n
  | 0, _ => rfl
  | n + 1, h => by rw [cnt, cnt, cnt_congr (fun i hi => h i (by omega)), h n (by omega)]

theorem cnt_one_more {p q : Nat → Bool} (x : Nat) (hp : p x = false) (hq : q x = true) : ∀ n, x < n → (∀ i, i < n → i ≠ x → q i = p i) → cnt q n = cnt p n + 1
  | 0, hx, _ => by omega
  | n + 1, hx, h => by
    rw [cnt, cnt]
    by_cases e : x = n
    · subst e
      rw [cnt_congr (p := q) (q := p) (fun i hi => h i (by omega) (by omega)), hp, hq]; simp
    · rw [cnt_one_more x hp hq n (by omega) (fun i hi hn => h i (by omega) hn), h n (by omega) (by omega)]; omega

theorem cnt_pos {p : Nat → Bool} : ∀ {n : Nat}, 0 < cnt p n → ∃ j, j < n ∧ p j = true
  | 0, h => by simp [cnt] at h
  | n + 1, h => by
    rw [cnt] at h
    by_cases e : p n = true
    · exact ⟨n, by omega, e⟩
    · rw [if_neg e] at h
      obtain ⟨j, h1, h2⟩ := cnt_pos (p := p) (n := n) (by omega)
      exact ⟨j, by omega, h2⟩

theorem cnt_find (p : Nat → Bool) : ∀ n k, k < cnt p n → ∃ j, j < n ∧ p j = true ∧ cnt p j = k
  | 0, k, h => by simp [cnt] at h
  | n + 1, k, h => by
    rw [cnt] at h
    by_cases e : k < cnt p n
    · obtain ⟨j, h1, h2⟩ := cnt_find p n k e
      exact ⟨j, by omega, h2⟩
    · by_cases e2 : p n = true
      · rw [if_pos e2] at h; exact ⟨n, by omega, e2, by omega⟩
      · rw [if_neg e2] at h; omega

/-- The openers so far: where, of which kind, their states (0 open, 1 closed, 2 text), their closers. -/
structure St where
  m : Nat
  ds : Nat → Nat
  kd : Nat → Nat
  st : Nat → Nat
  cl : Nat → Int

def lastOpen (st kd : Nat → Nat) (k : Nat) : Nat → Option Nat
  | 0 => none
  | m + 1 => if st m = 0 ∧ kd m = k then some m else lastOpen st kd k m

theorem lastOpen_some {st kd : Nat → Nat} {k : Nat} : ∀ {m j : Nat}, j < m → st j = 0 → kd j = k → (∀ x, j < x → x < m → ¬ (st x = 0 ∧ kd x = k)) → lastOpen st kd k m = some j
  | 0, j, h, _, _, _ => by omega
  | m + 1, j, h, h1, h2, h3 => by
    rw [lastOpen]
    by_cases e : j = m
    · subst e; rw [if_pos ⟨h1, h2⟩]
    · rw [if_neg (h3 m (by omega) (by omega))]
      exact lastOpen_some (by omega) h1 h2 (fun x a b => h3 x a (by omega))

theorem lastOpen_none {st kd : Nat → Nat} {k : Nat} : ∀ {m : Nat}, (∀ x, x < m → ¬ (st x = 0 ∧ kd x = k)) → lastOpen st kd k m = none
  | 0, _ => rfl
  | m + 1, h => by rw [lastOpen, if_neg (h m (by omega))]; exact lastOpen_none (fun x hx => h x (by omega))

def closeSt (m j : Nat) (st : Nat → Nat) : Nat → Nat := fun x => if x = j then 1 else if j < x ∧ x < m ∧ st x = 0 then 2 else st x

def isOpen (v : Nat → Nat) (n i : Nat) : Bool := decide (v i = 36) && decide (i + 1 < n) && (decide (v (i + 1) = 123) || decide (v (i + 1) = 91))

def kindOf (c : Nat) : Option Nat := if c = 125 then some 123 else if c = 93 then some 91 else none

def St.opened (s : St) (v : Nat → Nat) (i : Nat) : St := ⟨s.m + 1, upd s.ds s.m i, upd s.kd s.m (v (i + 1)), upd s.st s.m 0, upd s.cl s.m (-1)⟩
def St.closed (s : St) (j i : Nat) : St := ⟨s.m, s.ds, s.kd, closeSt s.m j s.st, upd s.cl j i⟩

def step (v : Nat → Nat) (n : Nat) (s : St) (i : Nat) : St :=
  if isOpen v n i then s.opened v i
  else match kindOf (v i) with
    | none => s
    | some k => match lastOpen s.st s.kd k s.m with
      | none => s
      | some j => s.closed j i

def run (v : Nat → Nat) (n : Nat) : Nat → St
  | 0 => ⟨0, fun _ => 0, fun _ => 0, fun _ => 0, fun _ => 0⟩
  | i + 1 => step v n (run v n i) i

theorem lastOpen_lt {st kd : Nat → Nat} {k : Nat} : ∀ {m j : Nat}, lastOpen st kd k m = some j → j < m ∧ st j = 0 ∧ kd j = k
  | 0, j, h => by simp [lastOpen] at h
  | m + 1, j, h => by
    rw [lastOpen] at h
    split at h
    · rename_i c
      obtain rfl : m = j := by simpa using h
      exact ⟨by omega, c.1, c.2⟩
    · obtain ⟨h1, h2⟩ := lastOpen_lt h
      exact ⟨by omega, h2⟩

structure Inv (v : Nat → Nat) (n i : Nat) (s : St) : Prop where
  le : s.m ≤ i
  ds : ∀ j, j < s.m → s.ds j + 1 < n ∧ s.kd j = v (s.ds j + 1)
  c1 : ∀ j, j < s.m → s.st j = 1 → 0 ≤ s.cl j
  c2 : ∀ j, j < s.m → s.st j ≠ 1 → s.cl j = -1

theorem isOpen_iff {v : Nat → Nat} {n i : Nat} : isOpen v n i = true ↔ v i = 36 ∧ i + 1 < n ∧ (v (i + 1) = 123 ∨ v (i + 1) = 91) := by
  simp [isOpen, and_assoc]

theorem Inv.opened {v : Nat → Nat} {n i : Nat} {s : St} (h : Inv v n i s) (ho : isOpen v n i = true) : Inv v n (i + 1) (s.opened v i) := by
  obtain ⟨_, h2, _⟩ := isOpen_iff.1 ho
  refine ⟨by have := h.le; show s.m + 1 ≤ i + 1; omega, fun j hj => ?_, fun j hj hs => ?_, fun j hj hs => ?_⟩
  · by_cases e : j = s.m
    · subst e; simp only [St.opened, upd_same]; exact ⟨h2, trivial⟩
    · have hj' : j < s.m := by have : j < s.m + 1 := hj; omega
      simp only [St.opened, upd_ne _ _ e]; exact h.ds j hj'
  · by_cases e : j = s.m
    · subst e; simp only [St.opened, upd_same] at hs; omega
    · have hj' : j < s.m := by have : j < s.m + 1 := hj; omega
      simp only [St.opened, upd_ne _ _ e] at hs ⊢; exact h.c1 j hj' hs
  · by_cases e : j = s.m
    · subst e; simp only [St.opened, upd_same]
    · have hj' : j < s.m := by have : j < s.m + 1 := hj; omega
      simp only [St.opened, upd_ne _ _ e] at hs ⊢; exact h.c2 j hj' hs

theorem Inv.closed {v : Nat → Nat} {n i j : Nat} {s : St} (h : Inv v n i s) : Inv v n (i + 1) (s.closed j i) := by
  refine ⟨by have := h.le; show s.m ≤ i + 1; omega, h.ds, fun x hx hs => ?_, fun x hx hs => ?_⟩
  · simp only [St.closed, closeSt] at hs ⊢
    by_cases e : x = j
    · subst e; rw [upd_same]; omega
    · rw [upd_ne _ _ e]
      rw [if_neg e] at hs
      split at hs
      · omega
      · exact h.c1 x hx hs
  · simp only [St.closed, closeSt] at hs ⊢
    by_cases e : x = j
    · rw [if_pos e] at hs; omega
    · rw [upd_ne _ _ e]
      rw [if_neg e] at hs
      split at hs
      · rename_i c; exact h.c2 x hx (by omega)
      · exact h.c2 x hx hs

theorem Inv.stay {v : Nat → Nat} {n i : Nat} {s : St} (h : Inv v n i s) : Inv v n (i + 1) s := ⟨by have := h.le; omega, h.ds, h.c1, h.c2⟩

theorem run_inv (v : Nat → Nat) (n : Nat) : ∀ i, Inv v n i (run v n i)
  | 0 => ⟨Nat.le_refl _, fun j h => by simp [run] at h, fun j h => by simp [run] at h, fun j h => by simp [run] at h⟩
  | i + 1 => by
    have ih := run_inv v n i
    rw [run, step]
    by_cases ho : isOpen v n i = true
    · rw [if_pos ho]; exact ih.opened ho
    · rw [if_neg ho]
      cases hk : kindOf (v i) with
      | none => exact ih.stay
      | some k =>
        simp only
        cases hl : lastOpen (run v n i).st (run v n i).kd k (run v n i).m with
        | none => exact ih.stay
        | some j => exact ih.closed

/-- The program skips the bracket behind an opener. -/
theorem run_skip {v : Nat → Nat} {n i : Nat} (ho : isOpen v n i = true) : run v n (i + 2) = (run v n i).opened v i := by
  have h1 : run v n (i + 1) = (run v n i).opened v i := by rw [run, step, if_pos ho]
  rw [run, h1, step]
  obtain ⟨_, _, h3⟩ := isOpen_iff.1 ho
  have hno : ¬ isOpen v n (i + 1) = true := fun h => by have := (isOpen_iff.1 h).1; omega
  have hk : kindOf (v (i + 1)) = none := by unfold kindOf; rw [if_neg (by omega), if_neg (by omega)]
  rw [if_neg hno, hk]

/-! ### the program's stack and counters -/
/-- Everything open at p or behind it has become text. -/
def cutFrom (p : Nat) (st : Nat → Nat) : Nat → Nat := fun x => if p ≤ x ∧ st x = 0 then 2 else st x

/-- How many of kind k are open. -/
def openOf (st kd : Nat → Nat) (k m : Nat) : Nat := cnt (fun j => decide (st j = 0) && decide (kd j = k)) m

structure Stack (st : Nat → Nat) (m L : Nat) (sk : Nat → Nat) : Prop where
  a : ∀ x, x < L → sk x < m ∧ st (sk x) = 0
  b : ∀ x y, x < y → y < L → sk x < sk y
  c : ∀ j, j < m → st j = 0 → ∃ x, x < L ∧ sk x = j

theorem Stack.push {st : Nat → Nat} {m L : Nat} {sk : Nat → Nat} (h : Stack st m L sk) : Stack (upd st m 0) (m + 1) (L + 1) (upd sk L m) := by
  refine ⟨fun x hx => ?_, fun x y h1 h2 => ?_, fun j hj h0 => ?_⟩
  · by_cases e : x = L
    · subst e; rw [upd_same, upd_same]; exact ⟨by omega, rfl⟩
    · have := h.a x (by omega)
      rw [upd_ne _ _ e, upd_ne _ _ (by omega)]; exact ⟨by omega, this.2⟩
  · by_cases e : y = L
    · subst e
      have := h.a x h1
      rw [upd_same, upd_ne _ _ (by omega)]; exact this.1
    · rw [upd_ne _ _ e, upd_ne _ _ (by omega)]; exact h.b x y h1 (by omega)
  · by_cases e : j = m
    · exact ⟨L, by omega, by rw [upd_same, e]⟩
    · rw [upd_ne _ _ e] at h0
      obtain ⟨x, h1, h2⟩ := h.c j (by omega) h0
      exact ⟨x, by omega, by rw [upd_ne _ _ (by omega)]; exact h2⟩

theorem openOf_push (st kd : Nat → Nat) (m c k : Nat) : openOf (upd st m 0) (upd kd m c) k (m + 1) = openOf st kd k m + (if c = k then 1 else 0) := by
  unfold openOf
  rw [cnt, cnt_congr (q := fun j => decide (st j = 0) && decide (kd j = k)) (fun i hi => by rw [upd_ne _ _ (by omega), upd_ne _ _ (by omega)])]
  rw [upd_same, upd_same]
  by_cases e : c = k <;> simp [e]

/-- The stack while it is popped: L' of its L are left; what is cut is behind the last of them. -/
structure Pop (st kd : Nat → Nat) (m L : Nat) (sk : Nat → Nat) (b L' p : Nat) : Prop where
  le : L' ≤ L
  lo : ∀ x, x < L' → sk x < p
  hi : ∀ x, L' ≤ x → x < L → p ≤ sk x
  no : ∀ j, p ≤ j → j < m → st j = 0 → kd j ≠ b

theorem Pop.zero {st kd : Nat → Nat} {m L : Nat} {sk : Nat → Nat} {b : Nat} (h : Stack st m L sk) : Pop st kd m L sk b L m :=
  ⟨Nat.le_refl _, fun x hx => (h.a x hx).1, fun x h1 h2 => by omega, fun j h1 h2 => by omega⟩

/-- One is popped. -/
theorem Pop.next {st kd : Nat → Nat} {m L : Nat} {sk : Nat → Nat} {b L' p : Nat} (hs : Stack st m L sk) (h : Pop st kd m L sk b L' p) (hl : 0 < L') (hk : kd (sk (L' - 1)) ≠ b) : Pop st kd m L sk b (L' - 1) (sk (L' - 1)) := by
  refine ⟨by have := h.le; omega, fun x hx => hs.b x _ (by omega) (by have := h.le; omega), fun x h1 h2 => ?_, fun j h1 h2 h0 => ?_⟩
  · by_cases e : x = L' - 1
    · rw [e]; exact Nat.le_refl _
    · have := hs.b (L' - 1) x (by omega) h2; omega
  · obtain ⟨x, hx, rfl⟩ := hs.c j h2 h0
    by_cases e : x = L' - 1
    · rw [e]; exact hk
    · by_cases e2 : x < L' - 1
      · have := hs.b x (L' - 1) e2 (by have := h.le; omega); omega
      · exact h.no _ (h.hi x (by omega) hx) h2 h0

theorem openOf_cut {st kd : Nat → Nat} {m L : Nat} {sk : Nat → Nat} {b L' p : Nat} (hs : Stack st m L sk) (h : Pop st kd m L sk b L' p) (hl : 0 < L') (k : Nat) :
    openOf (cutFrom p st) kd k m = openOf (cutFrom (sk (L' - 1)) st) kd k m + (if kd (sk (L' - 1)) = k then 1 else 0) := by
  obtain ⟨h1, h2⟩ := hs.a (L' - 1) (by have := h.le; omega)
  have h3 := h.lo (L' - 1) (by omega)
  have same : ∀ i, i < m → i ≠ sk (L' - 1) → cutFrom p st i = cutFrom (sk (L' - 1)) st i := fun i hi hne => by
    unfold cutFrom
    by_cases e0 : st i = 0
    · obtain ⟨x, hx, rfl⟩ := hs.c i hi e0
      by_cases e : x < L' - 1
      · have q1 := hs.b x (L' - 1) e (by have := h.le; omega)
        have q2 := h.lo x (by omega)
        rw [if_neg (by omega), if_neg (by omega)]
      · have e2 : x ≠ L' - 1 := fun e2 => hne (by rw [e2])
        have q1 := hs.b (L' - 1) x (by omega) hx
        have q2 := h.hi x (by omega) hx
        rw [if_pos ⟨by omega, e0⟩, if_pos ⟨by omega, e0⟩]
    · rw [if_neg (fun h => e0 h.2), if_neg (fun h => e0 h.2)]
  have a1 : cutFrom p st (sk (L' - 1)) = 0 := by unfold cutFrom; rw [if_neg (by omega)]; exact h2
  have a2 : cutFrom (sk (L' - 1)) st (sk (L' - 1)) = 2 := by unfold cutFrom; rw [if_pos ⟨Nat.le_refl _, h2⟩]
  unfold openOf
  by_cases e : kd (sk (L' - 1)) = k
  · rw [if_pos e]
    exact cnt_one_more (sk (L' - 1)) (by simp [a2]) (by simp [a1, e]) m h1 (fun i hi hne => by rw [same i hi hne])
  · rw [if_neg e, Nat.add_zero]
    refine cnt_congr (fun i hi => ?_)
    by_cases e2 : i = sk (L' - 1)
    · subst e2; simp [e]
    · rw [same i hi e2]

/-- The one that is closed. -/
theorem Pop.found {st kd : Nat → Nat} {m L : Nat} {sk : Nat → Nat} {b L' p : Nat} (hs : Stack st m L sk) (h : Pop st kd m L sk b L' p) (hl : 0 < L') (hk : kd (sk (L' - 1)) = b) :
    lastOpen st kd b m = some (sk (L' - 1)) ∧ Stack (closeSt m (sk (L' - 1)) st) m (L' - 1) sk ∧ ∀ k, openOf (closeSt m (sk (L' - 1)) st) kd k m = openOf (cutFrom (sk (L' - 1)) st) kd k m := by
  obtain ⟨h1, h2⟩ := hs.a (L' - 1) (by have := h.le; omega)
  have hle := h.le
  refine ⟨lastOpen_some h1 h2 hk (fun x q1 q2 q3 => ?_), ⟨fun x hx => ?_, fun x y q1 q2 => hs.b x y q1 (by omega), fun j hj h0 => ?_⟩, fun k => ?_⟩
  · obtain ⟨y, hy, rfl⟩ := hs.c x q2 q3.1
    by_cases e : y < L'
    · by_cases e2 : y = L' - 1
      · rw [e2] at q1; omega
      · have := hs.b y (L' - 1) (by omega) (by omega); omega
    · exact h.no _ (h.hi y (by omega) hy) q2 q3.1 q3.2
  · obtain ⟨r1, r2⟩ := hs.a x (by omega)
    have := hs.b x (L' - 1) hx (by omega)
    refine ⟨r1, ?_⟩
    unfold closeSt
    rw [if_neg (by omega), if_neg (by omega)]; exact r2
  · unfold closeSt at h0
    by_cases e : j = sk (L' - 1)
    · rw [if_pos e] at h0; omega
    · rw [if_neg e] at h0
      split at h0
      · omega
      · rename_i c
        obtain ⟨x, hx, rfl⟩ := hs.c j hj h0
        refine ⟨x, ?_, rfl⟩
        by_cases e2 : x < L' - 1
        · exact e2
        · exfalso
          have e3 : x ≠ L' - 1 := fun e3 => e (by rw [e3])
          have := hs.b (L' - 1) x (by omega) hx
          exact c ⟨this, hj, h0⟩
  · unfold openOf
    refine cnt_congr (fun i hi => ?_)
    have : (closeSt m (sk (L' - 1)) st i = 0) ↔ (cutFrom (sk (L' - 1)) st i = 0) := by
      unfold closeSt cutFrom
      by_cases e : i = sk (L' - 1)
      · subst e; simp [h2]
      · by_cases e0 : st i = 0
        · by_cases e1 : sk (L' - 1) < i
          · rw [if_neg e, if_pos ⟨e1, hi, e0⟩, if_pos ⟨by omega, e0⟩]
          · rw [if_neg e, if_neg (fun h => e1 h.1), if_neg (by omega)]
        · rw [if_neg e, if_neg (fun h => e0 h.2.2), if_neg (fun h => e0 h.2)]
    simp [this]

/-- None open of the kind: nothing is closed. -/
theorem openOf_zero {st kd : Nat → Nat} {k m : Nat} (h : openOf st kd k m = 0) : lastOpen st kd k m = none :=
  lastOpen_none (fun x hx hn => by
    have := cnt_lt (fun j => decide (st j = 0) && decide (kd j = k)) hx (by simp [hn])
    unfold openOf at h; omega)

theorem cut_all (st : Nat → Nat) (m : Nat) (kd : Nat → Nat) (k : Nat) : openOf (cutFrom m st) kd k m = openOf st kd k m := by
  unfold openOf
  refine cnt_congr (fun i hi => ?_)
  unfold cutFrom
  rw [if_neg (by omega)]

/-- As long as one of the kind is open, something is on the stack. -/
theorem Pop.some {st kd : Nat → Nat} {m L : Nat} {sk : Nat → Nat} {b L' p : Nat} (hs : Stack st m L sk) (h : Pop st kd m L sk b L' p) (h0 : 0 < openOf (cutFrom p st) kd b m) : 0 < L' := by
  obtain ⟨j, hj, hp⟩ := cnt_pos h0
  simp only [Bool.and_eq_true, decide_eq_true_eq] at hp
  unfold cutFrom at hp
  split at hp
  · omega
  · rename_i c
    obtain ⟨x, hx, rfl⟩ := hs.c j hj hp.1
    by_cases e : x < L'
    · omega
    · exact absurd ⟨h.hi x (by omega) hx, hp.1⟩ c
end Go.Proofs.Qxb6602120a
