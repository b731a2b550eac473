namespace Go.Proofs.Qxb6601951a

/-! Plain side: rows as functions. -/
def upd {α : Type} (f : Nat → α) (i : Nat) (v : α) : Nat → α := fun j => if j = i then v else f j
theorem upd_same {α : Type} (f : Nat → α) (i : Nat) (v : α) : upd f i v i = v := by simp [upd]
theorem upd_ne {α : Type} (f : Nat → α) {i j : Nat} (v : α) (h : j ≠ i) : upd f i v j = f j := by simp [upd, h]
theorem upd_app {α : Type} (f : Nat → α) (i j : Nat) (v : α) : upd f i v j = if j = i then v else f j := rfl

def sumTo (f : Nat → Nat) : Nat → Nat
  | 0 => 0
  | n + 1 => sumTo f n + f n

def cnt (p : Nat → Bool) : Nat → Nat
  | 0 => 0
  | n + 1 => cnt p n + (if p n then 1 else 0)

theorem sumTo_congr {f g : Nat → Nat} : ∀ {n : Nat}, (∀ i, i < n → f i = g i) → sumTo f n = sumTo g n
  | 0, _ => rfl
  | n + 1, h => by rw [sumTo, sumTo, sumTo_congr (fun i hi => h i (by omega)), h n (by omega)]

theorem sumTo_le {f : Nat → Nat} : ∀ {a b : Nat}, a ≤ b → sumTo f a ≤ sumTo f b
  | a, 0, h => by have : a = 0 := by omega
                  subst this; exact Nat.le_refl _
  | a, b + 1, h => by
    by_cases e : a = b + 1
    · subst e; exact Nat.le_refl _
    · rw [sumTo]; have := sumTo_le (f := f) (show a ≤ b by omega); omega

theorem sumTo_bump (f : Nat → Nat) (b0 d : Nat) : ∀ n, b0 < n → sumTo (fun b => f b + (if b = b0 then d else 0)) n = sumTo f n + d
  | 0, h => by omega
  | n + 1, h => by
    rw [sumTo, sumTo]
    by_cases e : b0 = n
    · subst e
      rw [sumTo_congr (g := f) (fun i hi => by rw [if_neg (by omega)]; omega)]
      simp; omega
    · rw [sumTo_bump f b0 d n (by omega), if_neg (by omega)]; omega

theorem cnt_le (p : Nat → Bool) : ∀ {a b : Nat}, a ≤ b → cnt p a ≤ cnt p b
  | a, 0, h => by have : a = 0 := by omega
                  subst this; exact Nat.le_refl _
  | a, b + 1, h => by
    by_cases e : a = b + 1
    · subst e; exact Nat.le_refl _
    · rw [cnt]; have := cnt_le p (show a ≤ b by omega); omega

theorem cnt_lt (p : Nat → Bool) {a b : Nat} (h : a < b) (hp : p a = true) : cnt p a < cnt p b := by
  have := cnt_le p (show a + 1 ≤ b by omega)
  rw [cnt, if_pos hp] at this
  omega

theorem cnt_le_self (p : Nat → Bool) : ∀ n, cnt p n ≤ n
  | 0 => Nat.le_refl _
  | n + 1 => by rw [cnt]; have := cnt_le_self p n; split <;> omega

/-- How many of the first i values have block b. -/
def hits (blk : Nat → Nat) (b i : Nat) : Nat := cnt (fun x => blk x == b) i

theorem hits_succ (blk : Nat → Nat) (b i : Nat) : hits blk b (i + 1) = hits blk b i + (if b = blk i then 1 else 0) := by
  unfold hits; rw [cnt]; by_cases h : blk i = b
  · simp [h]
  · have h2 : ¬ b = blk i := fun h' => h h'.symm
    simp [h, h2]

theorem hits_sum (blk : Nat → Nat) (n : Nat) : ∀ i, (∀ x, x < i → blk x < n) → sumTo (fun b => hits blk b i) n = i
  | 0, _ => by
    have : ∀ m, sumTo (fun b => hits blk b 0) m = 0 := fun m => by
      induction m with
      | zero => rfl
      | succ m ih => rw [sumTo, ih]; rfl
    exact this n
  | i + 1, h => by
    have := sumTo_bump (fun b => hits blk b i) (blk i) 1 n (h i (by omega))
    rw [sumTo_congr (fun b _ => hits_succ blk b i), this, hits_sum blk n i (fun x hx => h x (by omega))]

/-- A partition: members, at, block, start, end. -/
structure Pt where
  mem : Nat → Nat
  pos : Nat → Nat
  blk : Nat → Nat
  st : Nat → Nat
  en : Nat → Nat

structure Pt.Ok (P : Pt) (size nb : Nat) : Prop where
  m1 : ∀ k, k < size → P.mem k < size ∧ P.pos (P.mem k) = k
  m2 : ∀ x, x < size → P.pos x < size ∧ P.mem (P.pos x) = x
  b1 : ∀ x, x < size → P.blk x < nb
  se : ∀ b, b < nb → P.st b ≤ P.en b ∧ P.en b ≤ size
  ins : ∀ x, x < size → P.st (P.blk x) ≤ P.pos x ∧ P.pos x < P.en (P.blk x)
  out : ∀ b, b < nb → ∀ k, P.st b ≤ k → k < P.en b → P.blk (P.mem k) = b
  sum : sumTo (fun b => P.en b - P.st b) nb = size

/-! ### the counting sort -/
def starts (blk : Nat → Nat) (size : Nat) (b : Nat) : Nat := sumTo (fun b => hits blk b size) b

theorem starts_succ (blk : Nat → Nat) (size b : Nat) : starts blk size (b + 1) = starts blk size b + hits blk b size := rfl

structure FillInv (blk : Nat → Nat) (n size i : Nat) (mem pos : Nat → Nat) : Prop where
  a : ∀ b, b < n → ∀ k, starts blk size b ≤ k → k < starts blk size b + hits blk b i → mem k < i ∧ blk (mem k) = b ∧ pos (mem k) = k
  b : ∀ x, x < i → starts blk size (blk x) ≤ pos x ∧ pos x < starts blk size (blk x) + hits blk (blk x) i ∧ mem (pos x) = x

theorem starts_apart (blk : Nat → Nat) (size : Nat) {b b' k : Nat} (h1 : starts blk size b ≤ k) (h2 : k < starts blk size b + hits blk b size) (h3 : starts blk size b' ≤ k) (h4 : k < starts blk size b' + hits blk b' size) : b = b' := by
  rcases Nat.lt_trichotomy b b' with h | h | h
  · have := sumTo_le (f := fun b => hits blk b size) (show b + 1 ≤ b' by omega)
    have e := starts_succ blk size b
    unfold starts at *
    omega
  · exact h
  · have := sumTo_le (f := fun b => hits blk b size) (show b' + 1 ≤ b by omega)
    have e := starts_succ blk size b'
    unfold starts at *
    omega

theorem hits_le (blk : Nat → Nat) (b : Nat) {i j : Nat} (h : i ≤ j) : hits blk b i ≤ hits blk b j := cnt_le _ h

theorem FillInv.zero (blk : Nat → Nat) (n size : Nat) (mem pos : Nat → Nat) : FillInv blk n size 0 mem pos :=
  ⟨fun b _ k h1 h2 => by simp [hits, cnt] at h2; omega, fun x h => by omega⟩

theorem fill_lt {blk : Nat → Nat} {size i : Nat} (h : i < size) : hits blk (blk i) i < hits blk (blk i) size := by
  have := hits_le blk (blk i) (show i + 1 ≤ size by omega)
  rw [hits_succ, if_pos rfl] at this
  omega

theorem starts_size {blk : Nat → Nat} {n size : Nat} (hb : ∀ x, x < size → blk x < n) {b : Nat} (h : b < n) : starts blk size b + hits blk b size ≤ size := by
  have := sumTo_le (f := fun b => hits blk b size) (show b + 1 ≤ n by omega)
  rw [hits_sum blk n size hb] at this
  exact this

theorem FillInv.step {blk : Nat → Nat} {n size i : Nat} {mem pos : Nat → Nat} (h : FillInv blk n size i mem pos) (hi : i < size) (_hb : blk i < n) :
    FillInv blk n size (i + 1) (upd mem (starts blk size (blk i) + hits blk (blk i) i) i) (upd pos i (starts blk size (blk i) + hits blk (blk i) i)) := by
  have hf := fill_lt (blk := blk) hi
  refine ⟨fun b hbn k h1 h2 => ?_, fun x hx => ?_⟩
  · rw [hits_succ] at h2
    by_cases e : k = starts blk size (blk i) + hits blk (blk i) i
    · have hle : hits blk b i + (if b = blk i then 1 else 0) ≤ hits blk b size := by
        rw [← hits_succ]; exact hits_le _ _ (by omega)
      have : b = blk i := starts_apart blk size (k := k) h1 (by omega) (by omega) (by omega)
      rw [e, upd_same]
      exact ⟨by omega, this.symm, by rw [upd_same]⟩
    · rw [upd_ne _ _ e]
      have h3 : k < starts blk size b + hits blk b i := by
        by_cases e2 : b = blk i
        · rw [if_pos e2] at h2; subst e2; omega
        · rw [if_neg e2] at h2; omega
      obtain ⟨q1, q2, q3⟩ := h.a b hbn k h1 h3
      exact ⟨by omega, q2, by rw [upd_ne _ _ (by omega)]; exact q3⟩
  · rw [hits_succ]
    by_cases e : x = i
    · subst e
      rw [upd_same, upd_same, if_pos rfl]
      exact ⟨by omega, by omega, rfl⟩
    · obtain ⟨q1, q2, q3⟩ := h.b x (by omega)
      rw [upd_ne _ _ e]
      have hle := hits_le blk (blk x) (show i ≤ size by omega)
      refine ⟨q1, by omega, ?_⟩
      rw [upd_ne _ _ ?_]
      · exact q3
      · intro e2
        have : blk x = blk i := starts_apart blk size (k := pos x) q1 (by omega) (by omega) (by omega)
        rw [this] at q2
        omega

/-- Which block's range a place falls into. -/
theorem starts_find (blk : Nat → Nat) (size : Nat) : ∀ n k, k < starts blk size n → ∃ b, b < n ∧ starts blk size b ≤ k ∧ k < starts blk size b + hits blk b size
  | 0, k, h => by simp [starts, sumTo] at h
  | n + 1, k, h => by
    by_cases e : k < starts blk size n
    · obtain ⟨b, h1, h2⟩ := starts_find blk size n k e
      exact ⟨b, by omega, h2⟩
    · exact ⟨n, by omega, by omega, by rw [starts_succ] at h; exact h⟩

theorem fill_ok {blk : Nat → Nat} {n size : Nat} {mem pos : Nat → Nat} {st en : Nat → Nat} (hb : ∀ x, x < size → blk x < n) (h : FillInv blk n size size mem pos)
    (hs : ∀ b, b < n → st b = starts blk size b) (he : ∀ b, b < n → en b = starts blk size b + hits blk b size) : Pt.Ok ⟨mem, pos, blk, st, en⟩ size n := by
  refine ⟨fun k hk => ?_, fun x hx => ?_, hb, fun b hbn => ?_, fun x hx => ?_, fun b hbn k h1 h2 => ?_, ?_⟩
  · obtain ⟨b, h1, h2, h3⟩ := starts_find blk size n k (by unfold starts; rw [hits_sum blk n size hb]; exact hk)
    obtain ⟨q1, _, q3⟩ := h.a b h1 k h2 h3
    exact ⟨q1, q3⟩
  · obtain ⟨q1, q2, q3⟩ := h.b x hx
    have := starts_size hb (hb x hx)
    exact ⟨by simp only; omega, q3⟩
  · have := starts_size hb hbn
    simp only [hs b hbn, he b hbn]
    omega
  · obtain ⟨q1, q2, q3⟩ := h.b x hx
    simp only [hs _ (hb x hx), he _ (hb x hx)]
    omega
  · simp only [hs b hbn, he b hbn] at h1 h2
    exact (h.a b hbn k h1 h2).2.1
  · rw [← hits_sum blk n size hb]
    exact sumTo_congr (fun b hbn => by simp only [hs b hbn, he b hbn]; omega)

/-! ### split -/
structure SplitInv (P : Pt) (size b : Nat) (vals : Nat → Nat) (t : Nat) (mem pos : Nat → Nat) : Prop where
  m1 : ∀ k, k < size → mem k < size ∧ pos (mem k) = k
  m2 : ∀ x, x < size → pos x < size ∧ mem (pos x) = x
  keep : ∀ k, k < size → ¬ (P.st b ≤ k ∧ k < P.en b) → mem k = P.mem k
  ins : ∀ k, P.st b ≤ k → k < P.en b → P.blk (mem k) = b
  done : ∀ t', t' < t → mem (P.en b - 1 - t') = vals t'
  room : P.st b + t ≤ P.en b

/-- What is asked of the values that leave. -/
structure Leave (P : Pt) (size b : Nat) (vals : Nat → Nat) (L : Nat) : Prop where
  lt : ∀ t, t < L → vals t < size
  blk : ∀ t, t < L → P.blk (vals t) = b
  inj : ∀ t t', t < L → t' < L → vals t = vals t' → t = t'

theorem SplitInv.zero {P : Pt} {size nb b : Nat} {vals : Nat → Nat} (h : P.Ok size nb) (hb : b < nb) : SplitInv P size b vals 0 P.mem P.pos :=
  ⟨h.m1, h.m2, fun _ _ _ => rfl, h.out b hb, fun t h => by omega, (h.se b hb).1⟩

theorem SplitInv.where {P : Pt} {size nb b : Nat} {vals : Nat → Nat} {L t : Nat} {mem pos : Nat → Nat} (hP : P.Ok size nb) (hb : b < nb) (hL : Leave P size b vals L) (h : SplitInv P size b vals t mem pos) (ht : t < L) :
    P.st b ≤ pos (vals t) ∧ pos (vals t) < P.en b - t := by
  have hv := hL.lt t ht
  obtain ⟨p1, p2⟩ := h.m2 _ hv
  have hse := hP.se b hb
  have hroom := h.room
  have hin : P.st b ≤ pos (vals t) ∧ pos (vals t) < P.en b := by
    by_cases c : P.st b ≤ pos (vals t) ∧ pos (vals t) < P.en b
    · exact c
    · exfalso
      have h1 := h.keep _ p1 c
      rw [p2] at h1
      have h2 := hP.ins _ hv
      rw [hL.blk t ht] at h2
      have h3 := (hP.m1 _ p1).2
      rw [← h1] at h3
      omega
  refine ⟨hin.1, ?_⟩
  by_cases c : pos (vals t) < P.en b - t
  · exact c
  · exfalso
    have h1 := h.done (P.en b - 1 - pos (vals t)) (by omega)
    rw [show P.en b - 1 - (P.en b - 1 - pos (vals t)) = pos (vals t) by omega, p2] at h1
    have := hL.inj _ _ ht (by omega) h1
    omega

theorem SplitInv.step {P : Pt} {size nb b : Nat} {vals : Nat → Nat} {L t : Nat} {mem pos : Nat → Nat} (hP : P.Ok size nb) (hb : b < nb) (hL : Leave P size b vals L) (h : SplitInv P size b vals t mem pos) (ht : t < L) :
    SplitInv P size b vals (t + 1) (upd (upd mem (pos (vals t)) (mem (P.en b - 1 - t))) (P.en b - 1 - t) (vals t)) (upd (upd pos (mem (P.en b - 1 - t)) (pos (vals t))) (vals t) (P.en b - 1 - t)) := by
  obtain ⟨w1, w2⟩ := h.where hP hb hL ht
  have hv := hL.lt t ht
  have hse := hP.se b hb
  obtain ⟨p1, p2⟩ := h.m2 _ hv
  obtain ⟨l, hl⟩ : ∃ l, l = P.en b - 1 - t := ⟨_, rfl⟩
  obtain ⟨i, hi⟩ : ∃ i, i = pos (vals t) := ⟨_, rfl⟩
  obtain ⟨x, hx⟩ : ∃ x, x = vals t := ⟨_, rfl⟩
  obtain ⟨y, hy⟩ : ∃ y, y = mem l := ⟨_, rfl⟩
  obtain ⟨l1, l2⟩ := h.m1 l (by omega)
  rw [← hl, ← hy, ← hi, ← hx]
  rw [← hi] at w1 w2 p1 p2
  rw [← hx] at hv p2 hi
  rw [← hy] at l1 l2
  refine ⟨fun k hk => ?_, fun z hz => ?_, fun k hk hn => ?_, fun k h1 h2 => ?_, fun t' ht' => ?_, by omega⟩
  · have := h.m1 k hk
    unfold upd
    by_cases e1 : k = l
    · simp [e1, hv]
    · by_cases e2 : k = i
      · simp [e2]
        grind
      · simp [e1, e2, this]
        grind
  · have := h.m2 z hz
    unfold upd
    grind
  · rw [upd_ne _ _ (by omega), upd_ne _ _ (by omega)]
    exact h.keep k hk hn
  · unfold upd
    have a1 := h.ins k h1 h2
    have a2 := h.ins l (by omega) (by omega)
    have a3 := hL.blk t ht
    grind
  · by_cases e : t' = t
    · subst e; rw [← hl, upd_same, ← hx]
    · rw [upd_ne _ _ (by omega), upd_ne _ _ (by omega)]
      exact h.done t' (by omega)

/-- The answer of 'split'. -/
structure Split (P : Pt) (size nb b : Nat) (vals : Nat → Nat) (L : Nat) (Q : Pt) : Prop where
  ok : Q.Ok size (nb + 1)
  st : ∀ c, c < nb → Q.st c = P.st c
  en : ∀ c, c < nb → Q.en c = if c = b then P.en b - L else P.en c
  stn : Q.st nb = P.en b - L
  enn : Q.en nb = P.en b
  room : P.st b + L ≤ P.en b
  mem : ∀ k, k < size → ¬ (P.st b ≤ k ∧ k < P.en b) → Q.mem k = P.mem k
  new : ∀ t, t < L → Q.blk (vals t) = nb
  old : ∀ x, (∀ t, t < L → vals t ≠ x) → Q.blk x = P.blk x

theorem split_ok {P : Pt} {size nb b : Nat} {vals : Nat → Nat} {L : Nat} {mem pos blk st en : Nat → Nat} (hP : P.Ok size nb) (hb : b < nb) (hL : Leave P size b vals L) (h : SplitInv P size b vals L mem pos)
    (hst : ∀ c, c < nb → st c = P.st c) (hen : ∀ c, c < nb → en c = if c = b then P.en b - L else P.en c) (hstn : st nb = P.en b - L) (henn : en nb = P.en b)
    (hnew : ∀ t, t < L → blk (vals t) = nb) (hold : ∀ x, (∀ t, t < L → vals t ≠ x) → blk x = P.blk x) : Split P size nb b vals L ⟨mem, pos, blk, st, en⟩ := by
  have hse := hP.se b hb
  have hroom := h.room
  have apart : ∀ c, c < nb → c ≠ b → ∀ k, P.st c ≤ k → k < P.en c → ¬ (P.st b ≤ k ∧ k < P.en b) := fun c hc hne k h1 h2 ⟨h3, h4⟩ => by
    have e1 := hP.out c hc k h1 h2
    have e2 := hP.out b hb k h3 h4
    omega
  have cls : ∀ x, (∃ t, t < L ∧ vals t = x) ∨ (∀ t, t < L → vals t ≠ x) := fun x => by
    by_cases c : ∃ t, t < L ∧ vals t = x
    · exact Or.inl c
    · exact Or.inr (fun t ht e => c ⟨t, ht, e⟩)
  have posv : ∀ t, t < L → pos (vals t) = P.en b - 1 - t := fun t ht => by
    have := (h.m1 (P.en b - 1 - t) (by omega)).2
    rw [h.done t ht] at this
    exact this
  refine ⟨⟨h.m1, h.m2, fun x hx => ?_, fun c hc => ?_, fun x hx => ?_, fun c hc k h1 h2 => ?_, ?_⟩, hst, hen, hstn, henn, hroom, h.keep, hnew, hold⟩
  · simp only
    rcases cls x with ⟨t, ht, rfl⟩ | c
    · rw [hnew t ht]; omega
    · rw [hold x c]; have := hP.b1 x hx; omega
  · simp only
    by_cases e : c = nb
    · subst e; omega
    · rw [hst c (by omega), hen c (by omega)]
      have := hP.se c (by omega)
      split
      · rename_i e2; subst e2; omega
      · exact this
  · simp only
    rcases cls x with ⟨t, ht, rfl⟩ | c
    · rw [hnew t ht, hstn, henn, posv t ht]; omega
    · rw [hold x c]
      have hbx := hP.b1 x hx
      rw [hst _ hbx, hen _ hbx]
      obtain ⟨p1, p2⟩ := h.m2 x hx
      by_cases cin : P.st b ≤ pos x ∧ pos x < P.en b
      · have e1 := h.ins _ cin.1 cin.2
        rw [p2] at e1
        rw [e1, if_pos rfl]
        refine ⟨cin.1, ?_⟩
        by_cases cc : pos x < P.en b - L
        · exact cc
        · exfalso
          have := h.done (P.en b - 1 - pos x) (by omega)
          rw [show P.en b - 1 - (P.en b - 1 - pos x) = pos x by omega, p2] at this
          exact c _ (by omega) this.symm
      · have e1 := h.keep _ p1 cin
        rw [p2] at e1
        have e2 := (hP.m1 _ p1).2
        rw [← e1] at e2
        have e3 := hP.ins x hx
        rw [e2] at e3
        by_cases eb : P.blk x = b
        · rw [eb] at e3; exact absurd e3 cin
        · rw [if_neg eb]; exact e3
  · simp only at h1 h2 ⊢
    by_cases e : c = nb
    · subst e
      rw [hstn] at h1
      rw [henn] at h2
      have := h.done (P.en b - 1 - k) (by omega)
      rw [show P.en b - 1 - (P.en b - 1 - k) = k by omega] at this
      rw [this, hnew _ (by omega)]
    · rw [hst c (by omega)] at h1
      rw [hen c (by omega)] at h2
      have hnot : ∀ t, t < L → vals t ≠ mem k := fun t ht e2 => by
        have hk : k < size := by
          have := (hP.se c (by omega)).2
          split at h2 <;> omega
        have e3 := posv t ht
        rw [e2, (h.m1 k hk).2] at e3
        by_cases ecb : c = b
        · rw [if_pos ecb] at h2; omega
        · rw [if_neg ecb] at h2
          exact apart c (by omega) ecb k h1 h2 ⟨by omega, by omega⟩
      rw [hold _ hnot]
      by_cases ecb : c = b
      · rw [if_pos ecb] at h2
        subst ecb
        exact h.ins k h1 (by omega)
      · rw [if_neg ecb] at h2
        rw [h.keep k (by have := (hP.se c (by omega)).2; omega) (apart c (by omega) ecb k h1 h2)]
        exact hP.out c (by omega) k h1 h2
  · simp only
    rw [sumTo, hstn, henn]
    have e1 : sumTo (fun c => en c - st c) nb + L = sumTo (fun c => P.en c - P.st c) nb := by
      have := sumTo_bump (fun c => en c - st c) b L nb hb
      rw [← this]
      refine sumTo_congr (fun c hc => ?_)
      rw [hst c hc, hen c hc]
      by_cases ecb : c = b
      · subst ecb; simp; omega
      · simp [ecb]
    rw [hP.sum] at e1
    omega

/-! ### first of the largest -/
def arg (g : Nat → Nat) : Nat → Nat
  | 0 => 0
  | n + 1 => if g (arg g n) < g n then n else arg g n

theorem arg_lt (g : Nat → Nat) : ∀ n, 0 < n → arg g n < n
  | 0, h => by omega
  | n + 1, _ => by
    rw [arg]
    split
    · omega
    · by_cases e : n = 0
      · subst e; simp [arg]
      · have := arg_lt g n (by omega); omega

theorem arg_max (g : Nat → Nat) : ∀ n k, k < n → g k ≤ g (arg g n)
  | 0, k, h => by omega
  | n + 1, k, h => by
    rw [arg]
    by_cases e : k = n
    · subst e; split <;> omega
    · have := arg_max g n k (by omega)
      split <;> omega

theorem arg_first (g : Nat → Nat) : ∀ n k, k < arg g n → g k < g (arg g n)
  | 0, k, h => by simp [arg] at h
  | n + 1, k, h => by
    rw [arg] at h ⊢
    split
    · rename_i c
      rw [if_pos c] at h
      have := arg_max g n k h
      omega
    · rename_i c
      rw [if_neg c] at h
      exact arg_first g n k h

theorem arg_eq (g : Nat → Nat) {n k : Nat} (h1 : g k = g (arg g n)) (h2 : ∀ j, j < k → g j ≠ g (arg g n)) : k = arg g n := by
  rcases Nat.lt_trichotomy k (arg g n) with h | h | h
  · have := arg_first g n k h; omega
  · exact h
  · exact absurd rfl (h2 _ h)

/-! ### the pieces -/
structure Pcs (blk : Nat → Nat) (size c m : Nat) (lo hi vals mark : Nat → Nat) : Prop where
  le : ∀ k, k < m → lo k ≤ hi k
  ins : ∀ k, k < m → ∀ j, lo k ≤ j → j < hi k → vals j < size ∧ blk (vals j) = c ∧ mark (vals j) = k + 1
  inj : ∀ k, k < m → ∀ j j', lo k ≤ j → j < hi k → lo k ≤ j' → j' < hi k → vals j = vals j' → j = j'
  mkd : ∀ x, x < size → mark x ≠ 0 → ∃ k, k < m ∧ mark x = k + 1 ∧ ∃ j, lo k ≤ j ∧ j < hi k ∧ vals j = x
  tot : cnt (fun x => mark x != 0) size = sumTo (fun k => hi k - lo k) m

theorem cnt_congr {p q : Nat → Bool} : ∀ {n : Nat}, (∀ i, i < n → p i = q i) → cnt p n = cnt q n
  | 0, _ => rfl
  | n + 1, h => by rw [cnt, cnt, cnt_congr (fun i hi => h i (by omega)), h n (by omega)]

theorem cnt_imp {p q : Nat → Bool} : ∀ {n : Nat}, (∀ i, i < n → p i = true → q i = true) → cnt p n ≤ cnt q n
  | 0, _ => Nat.le_refl _
  | n + 1, h => by
    rw [cnt, cnt]
    have h1 := cnt_imp (p := p) (q := q) (n := n) (fun i hi => h i (by omega))
    have h2 := h n (by omega)
    by_cases e : p n = true
    · rw [if_pos e, if_pos (h2 e)]; omega
    · rw [if_neg e]; omega

theorem cnt_one_more {p q : Nat → Bool} (x : Nat) (hp : p x = false) (hq : q x = true) (h : ∀ i, i ≠ x → q i = p i) : ∀ n, x < n → cnt q n = cnt p n + 1
  | 0, hx => by omega
  | n + 1, hx => by
    rw [cnt, cnt]
    by_cases e : x = n
    · subst e
      rw [cnt_congr (p := q) (q := p) (fun i hi => h i (by omega)), hp, hq]; simp
    · rw [cnt_one_more x hp hq h n (by omega), h n (by omega)]; omega

theorem Pcs.zero (blk : Nat → Nat) (size c : Nat) (lo hi vals : Nat → Nat) : Pcs blk size c 0 lo hi vals (fun _ => 0) := by
  refine ⟨fun k h => by omega, fun k h => by omega, fun k h => by omega, fun x _ h => absurd rfl h, ?_⟩
  have : ∀ n, cnt (fun x => (0 : Nat) != 0) n = 0 := fun n => by
    induction n with
    | zero => rfl
    | succ n ih => rw [cnt, ih]; rfl
  exact this size

theorem Pcs.begin {blk : Nat → Nat} {size c k : Nat} {lo hi vals mark : Nat → Nat} (h : Pcs blk size c k lo hi vals mark) : Pcs blk size c (k + 1) lo (upd hi k (lo k)) vals mark := by
  refine ⟨fun i hi' => ?_, fun i hi' j h1 h2 => ?_, fun i hi' j j' h1 h2 h3 h4 => ?_, fun x hx hm => ?_, ?_⟩
  · unfold upd; split
    · rename_i e; subst e; exact Nat.le_refl _
    · exact h.le i (by omega)
  · unfold upd at h2; split at h2
    · rename_i e; subst e; omega
    · exact h.ins i (by omega) j h1 h2
  · unfold upd at h2 h4; split at h2
    · rename_i e; subst e; omega
    · rename_i e; rw [if_neg e] at h4; exact h.inj i (by omega) j j' h1 h2 h3 h4
  · obtain ⟨i, h1, h2, j, h3, h4, h5⟩ := h.mkd x hx hm
    exact ⟨i, by omega, h2, j, h3, by rw [upd_ne _ _ (by omega)]; exact h4, h5⟩
  · rw [sumTo, h.tot, upd_same, Nat.sub_self, Nat.add_zero]
    exact sumTo_congr (fun i hi' => by rw [upd_ne _ _ (by omega)])

theorem Pcs.finish {blk : Nat → Nat} {size c k : Nat} {lo hi vals mark : Nat → Nat} (h : Pcs blk size c (k + 1) lo (upd hi k (hi k)) vals mark) : Pcs blk size c (k + 1) lo hi vals mark := by
  have e : upd hi k (hi k) = hi := by
    funext i; unfold upd; split
    · rename_i e; rw [e]
    · rfl
  rw [e] at h; exact h

theorem Pcs.step {blk : Nat → Nat} {size c k j : Nat} {lo hi vals mark : Nat → Nat} (h : Pcs blk size c (k + 1) lo (upd hi k j) vals mark) (hj : lo k ≤ j) (hx : vals j < size) (hb : blk (vals j) = c) (h0 : mark (vals j) = 0) :
    Pcs blk size c (k + 1) lo (upd hi k (j + 1)) vals (upd mark (vals j) (k + 1)) := by
  refine ⟨fun i hi' => ?_, fun i hi' j1 h1 h2 => ?_, fun i hi' j1 j2 h1 h2 h3 h4 he => ?_, fun x hx' hm => ?_, ?_⟩
  · have := h.le i hi'
    unfold upd at this ⊢; split
    · rename_i e; subst e; omega
    · rename_i e; rw [if_neg e] at this; exact this
  · by_cases e : i = k
    · subst e
      rw [upd_same] at h2
      by_cases e2 : j1 = j
      · subst e2; exact ⟨hx, hb, by rw [upd_same]⟩
      · obtain ⟨q1, q2, q3⟩ := h.ins i hi' j1 h1 (by rw [upd_same]; omega)
        exact ⟨q1, q2, by rw [upd_ne _ _ (by intro e3; rw [e3] at q3; omega)]; exact q3⟩
    · rw [upd_ne _ _ e] at h2
      obtain ⟨q1, q2, q3⟩ := h.ins i hi' j1 h1 (by rw [upd_ne _ _ e]; exact h2)
      exact ⟨q1, q2, by rw [upd_ne _ _ (by intro e3; rw [e3] at q3; omega)]; exact q3⟩
  · by_cases e : i = k
    · subst e
      rw [upd_same] at h2 h4
      have A : ∀ j', lo i ≤ j' → j' < j → vals j' ≠ vals j := fun j' a1 a2 a3 => by
        have := (h.ins i hi' j' a1 (by rw [upd_same]; exact a2)).2.2
        rw [a3] at this; omega
      by_cases e1 : j1 = j
      · by_cases e2 : j2 = j
        · omega
        · rw [e1] at he; exact absurd he.symm (A j2 h3 (by omega))
      · by_cases e2 : j2 = j
        · rw [e2] at he; exact absurd he (A j1 h1 (by omega))
        · exact h.inj i hi' j1 j2 h1 (by rw [upd_same]; omega) h3 (by rw [upd_same]; omega) he
    · rw [upd_ne _ _ e] at h2 h4
      exact h.inj i hi' j1 j2 h1 (by rw [upd_ne _ _ e]; exact h2) h3 (by rw [upd_ne _ _ e]; exact h4) he
  · by_cases e : x = vals j
    · subst e
      exact ⟨k, by omega, by rw [upd_same], j, hj, by rw [upd_same]; omega, rfl⟩
    · rw [upd_ne _ _ e] at hm ⊢
      obtain ⟨i, h1, h2, j', h3, h4, h5⟩ := h.mkd x hx' hm
      refine ⟨i, h1, h2, j', h3, ?_, h5⟩
      by_cases e2 : i = k
      · subst e2; rw [upd_same] at h4 ⊢; omega
      · rw [upd_ne _ _ e2] at h4 ⊢; exact h4
  · have := cnt_one_more (p := fun x => mark x != 0) (q := fun x => upd mark (vals j) (k + 1) x != 0) (vals j) (by simp [h0]) (by simp [upd_same]) (fun i hi' => by rw [upd_ne _ _ hi']) size hx
    rw [this, h.tot, sumTo, sumTo, upd_same, upd_same]
    rw [sumTo_congr (f := fun i => upd hi k j i - lo i) (g := fun i => upd hi k (j + 1) i - lo i) (fun i hi' => by rw [upd_ne _ _ (by omega), upd_ne _ _ (by omega)])]
    omega

theorem Pcs.tot_le {blk : Nat → Nat} {size c m : Nat} {lo hi vals mark : Nat → Nat} (h : Pcs blk size c m lo hi vals mark) : sumTo (fun k => hi k - lo k) m ≤ hits blk c size := by
  rw [← h.tot]
  refine cnt_imp (fun x hx hm => ?_)
  obtain ⟨k, h1, h2, j, h3, h4, h5⟩ := h.mkd x hx (by simpa using hm)
  have := (h.ins k h1 j h3 h4).2.1
  rw [h5] at this
  simp [this]

/-! ### the run over the pieces -/
/-- How many blocks the first k pieces make; kp makes none. -/
def nw (kp k : Nat) : Nat := cnt (fun i => i != kp) k

theorem nw_succ (kp k : Nat) : nw kp (k + 1) = nw kp k + (if k = kp then 0 else 1) := by
  unfold nw; rw [cnt]; by_cases e : k = kp <;> simp [e]

theorem nw_le (kp : Nat) {a b : Nat} (h : a ≤ b) : nw kp a ≤ nw kp b := cnt_le _ h
theorem nw_lt (kp : Nat) {a b : Nat} (h : a < b) (hn : a ≠ kp) : nw kp a < nw kp b := cnt_lt _ h (by simpa using hn)
theorem nw_self (kp k : Nat) : nw kp k ≤ k := cnt_le_self _ _

theorem nw_find (kp : Nat) : ∀ m j, j < nw kp m → ∃ k, k < m ∧ k ≠ kp ∧ nw kp k = j
  | 0, j, h => by simp [nw, cnt] at h
  | m + 1, j, h => by
    rw [nw_succ] at h
    by_cases e : j < nw kp m
    · obtain ⟨k, h1, h2⟩ := nw_find kp m j e
      exact ⟨k, by omega, h2⟩
    · by_cases e2 : m = kp
      · rw [if_pos e2] at h; omega
      · rw [if_neg e2] at h; exact ⟨m, by omega, e2, by omega⟩

structure Ran (P0 : Pt) (size n c : Nat) (lo hi vals : Nat → Nat) (kp : Nat) (ss : Nat → Nat) (k : Nat) (P : Pt) : Prop where
  ok : P.Ok size (n + nw kp k)
  st : ∀ b, b < n → P.st b = P0.st b
  en : ∀ b, b < n → P.en b = if b = c then P0.en c - sumTo ss (nw kp k) else P0.en b
  room : P0.st c + sumTo ss (nw kp k) ≤ P0.en c
  new : ∀ j, j < nw kp k → P.en (n + j) = P0.en c - sumTo ss j ∧ P.st (n + j) = P0.en c - sumTo ss (j + 1)
  mem : ∀ i, i < size → ¬ (P0.st c ≤ i ∧ i < P0.en c) → P.mem i = P0.mem i
  same : nw kp k = 0 → ∀ i, i < size → P.mem i = P0.mem i
  bnew : ∀ k', k' < k → k' ≠ kp → ∀ j, lo k' ≤ j → j < hi k' → P.blk (vals j) = n + nw kp k'
  bold : ∀ x, (∀ k', k' < k → k' ≠ kp → ∀ j, lo k' ≤ j → j < hi k' → vals j ≠ x) → P.blk x = P0.blk x

theorem Ran.zero {P0 : Pt} {size n c : Nat} {lo hi vals : Nat → Nat} {kp : Nat} {ss : Nat → Nat} (h : P0.Ok size n) (hc : c < n) : Ran P0 size n c lo hi vals kp ss 0 P0 :=
  ⟨h, fun _ _ => rfl, fun b _ => by
    show P0.en b = if b = c then P0.en c - 0 else P0.en b
    split
    · rename_i e; subst e; omega
    · rfl, by show P0.st c + 0 ≤ _; have := (h.se c hc).1; omega, fun j h => by simp [nw, cnt] at h, fun _ _ _ => rfl, fun _ _ _ => rfl, fun k h => by omega, fun _ _ => rfl⟩

theorem Ran.skip {P0 P : Pt} {size n c : Nat} {lo hi vals : Nat → Nat} {kp : Nat} {ss : Nat → Nat} {k : Nat} (h : Ran P0 size n c lo hi vals kp ss k P) (hk : k = kp) : Ran P0 size n c lo hi vals kp ss (k + 1) P := by
  have e : nw kp (k + 1) = nw kp k := by rw [nw_succ, if_pos hk]; rfl
  refine ⟨by rw [e]; exact h.ok, h.st, by rw [e]; exact h.en, by rw [e]; exact h.room, by rw [e]; exact h.new, h.mem, by rw [e]; exact h.same, fun k' h1 h2 => h.bnew k' (by omega) h2, fun x hx => h.bold x (fun k' h1 h2 => hx k' (by omega) h2)⟩

theorem Ran.leave {P0 P : Pt} {size n c m : Nat} {lo hi vals mark : Nat → Nat} {kp : Nat} {ss : Nat → Nat} {k : Nat} (h : Ran P0 size n c lo hi vals kp ss k P) (hp : Pcs P0.blk size c m lo hi vals mark) (hk : k < m) :
    Leave P size c (fun t => vals (lo k + t)) (hi k - lo k) := by
  refine ⟨fun t ht => (hp.ins k hk _ (by omega) (by omega)).1, fun t ht => ?_, fun t t' h1 h2 he => ?_⟩
  · obtain ⟨q1, q2, q3⟩ := hp.ins k hk (lo k + t) (by omega) (by omega)
    rw [h.bold _ (fun k' h1 _ j h3 h4 e => ?_)]
    · exact q2
    · have := (hp.ins k' (by omega) j h3 h4).2.2
      rw [e] at this; omega
  · have := hp.inj k hk _ _ (by omega) (by omega) (by omega) (by omega) he
    omega

theorem Ran.step {P0 P Q : Pt} {size n c m : Nat} {lo hi vals mark : Nat → Nat} {kp : Nat} {ss : Nat → Nat} {k : Nat} (h : Ran P0 size n c lo hi vals kp ss k P) (hp : Pcs P0.blk size c m lo hi vals mark) (hc : c < n) (hk : k < m) (hne : k ≠ kp)
    (hss : ss (nw kp k) = hi k - lo k) (hs : Split P size (n + nw kp k) c (fun t => vals (lo k + t)) (hi k - lo k) Q) : Ran P0 size n c lo hi vals kp ss (k + 1) Q := by
  have e : nw kp (k + 1) = nw kp k + 1 := by rw [nw_succ, if_neg hne]
  have hen : P.en c = P0.en c - sumTo ss (nw kp k) := by rw [h.en c hc, if_pos rfl]
  have hst : P.st c = P0.st c := h.st c hc
  have hr := hs.room
  have hr0 := h.room
  refine ⟨by rw [e]; exact hs.ok, fun b hb => by rw [hs.st b (by omega), h.st b hb], fun b hb => ?_, ?_, fun j hj => ?_, fun i hi' hn => ?_, fun h0 => by omega, fun k' h1 h2 j h3 h4 => ?_, fun x hx => ?_⟩
  · rw [hs.en b (by omega), h.en b hb, e, sumTo]
    split
    · omega
    · rfl
  · rw [e, sumTo]; omega
  · by_cases ej : j = nw kp k
    · subst ej; rw [hs.enn, hs.stn, sumTo]; omega
    · have hj' : j < nw kp k := by omega
      rw [hs.en _ (by omega), hs.st _ (by omega), if_neg (by omega)]
      exact h.new j hj'
  · rw [hs.mem i hi' (by omega), h.mem i hi' hn]
  · by_cases ek : k' = k
    · subst ek
      have := hs.new (j - lo k') (by omega)

      rw [show lo k' + (j - lo k') = j by omega] at this
      exact this
    · rw [hs.old _ (fun t ht et => ?_)]
      · exact h.bnew k' (by omega) h2 j h3 h4
      · have a1 := (hp.ins k' (by omega) j h3 h4).2.2
        have a2 := (hp.ins k hk (lo k + t) (by omega) (by omega)).2.2
        rw [et] at a2; omega
  · rw [hs.old x (fun t ht et => ?_)]
    · exact h.bold x (fun k' h1 h2 => hx k' (by omega) h2)
    · exact hx k (by omega) hne (lo k + t) (by omega) (by omega) et

/-- The block of each value behind the run. -/
theorem Ran.blk {P0 P : Pt} {size n c m : Nat} {lo hi vals mark : Nat → Nat} {kp : Nat} {ss : Nat → Nat} (h : Ran P0 size n c lo hi vals kp ss m P) (hp : Pcs P0.blk size c m lo hi vals mark) {x : Nat} (hx : x < size) :
    P.blk x = if mark x ≠ 0 ∧ mark x - 1 ≠ kp then n + nw kp (mark x - 1) else P0.blk x := by
  by_cases e : mark x ≠ 0 ∧ mark x - 1 ≠ kp
  · obtain ⟨k, h1, h2, j, h3, h4, h5⟩ := hp.mkd x hx e.1
    rw [if_pos e, ← h5, h.bnew k h1 (by omega) j h3 h4, h5, h2, Nat.add_sub_cancel]
  · rw [if_neg e]
    refine h.bold x (fun k' h1 h2 j h3 h4 h5 => e ?_)
    have := (hp.ins k' h1 j h3 h4).2.2
    rw [h5] at this
    omega

/-! ### which part is the largest, and the queue -/
def part (rest : Nat) (ss : Nat → Nat) : Nat → Nat := fun i => if i = 0 then rest else ss (i - 1)

def mostOf (n c i : Nat) : Nat := if i = 0 then c else n + (i - 1)

/-- Whether block b is queued. -/
def qd (wc : Bool) (n c most b : Nat) : Bool := if wc then decide (n ≤ b) else if b < n then decide (b = c) && decide (most ≠ c) else decide (b ≠ most)

structure Qu (q : Nat → Bool) (len n : Nat) (work : Nat → Int) (waiting : Nat → Bool) (p : Nat) (W : Nat → Int) (V : Nat → Bool) : Prop where
  v : ∀ b, V b = ((decide (b < n) && waiting b) || (decide (b < p) && q b))
  old : ∀ i, i < len → W i = work i
  new : ∀ b, b < p → q b = true → W (len + cnt q b) = b

theorem Qu.skip {q : Nat → Bool} {len n p : Nat} {work W : Nat → Int} {waiting V : Nat → Bool} (h : Qu q len n work waiting p W V) (hq : q p = false) : Qu q len n work waiting (p + 1) W V := by
  refine ⟨fun b => ?_, h.old, fun b h1 h2 => h.new b ?_ h2⟩
  · rw [h.v b]
    by_cases e : b = p
    · subst e; simp [hq]
    · have : decide (b < p + 1) = decide (b < p) := by simp; omega
      rw [this]
  · by_cases e : b = p
    · subst e; rw [hq] at h2; cases h2
    · omega

theorem Qu.step {q : Nat → Bool} {len n p : Nat} {work W : Nat → Int} {waiting V : Nat → Bool} (h : Qu q len n work waiting p W V) (hq : q p = true) :
    Qu q len n work waiting (p + 1) (upd W (len + cnt q p) p) (upd V p true) := by
  refine ⟨fun b => ?_, fun i hi => ?_, fun b h1 h2 => ?_⟩
  · by_cases e : b = p
    · subst e; rw [upd_same]; simp [hq]
    · rw [upd_ne _ _ e, h.v b]
      have : decide (b < p + 1) = decide (b < p) := by simp; omega
      rw [this]
  · rw [upd_ne _ _ (by omega)]; exact h.old i hi
  · by_cases e : b = p
    · subst e; rw [upd_same]
    · have := cnt_lt q (show b < p by omega) h2
      rw [upd_ne _ _ (by omega)]
      exact h.new b (by omega) h2

theorem Qu.skips {q : Nat → Bool} {len n p : Nat} {work W : Nat → Int} {waiting V : Nat → Bool} (h : Qu q len n work waiting p W V) : ∀ d, (∀ b, p ≤ b → b < p + d → q b = false) → Qu q len n work waiting (p + d) W V
  | 0, _ => h
  | d + 1, hq => (Qu.skips h d (fun b h1 h2 => hq b h1 (by omega))).skip (hq (p + d) (by omega) (by omega))

theorem cnt_none {q : Nat → Bool} : ∀ n, (∀ b, b < n → q b = false) → cnt q n = 0
  | 0, _ => rfl
  | n + 1, h => by rw [cnt, cnt_none n (fun b hb => h b (by omega)), h n (by omega)]; rfl

theorem cnt_from {q : Nat → Bool} (p : Nat) : ∀ d, (∀ b, p ≤ b → b < p + d → q b = false) → cnt q (p + d) = cnt q p
  | 0, _ => rfl
  | d + 1, h => by rw [← Nat.add_assoc, cnt, cnt_from p d (fun b h1 h2 => h b h1 (by omega)), h (p + d) (by omega) (by omega)]; rfl

theorem Qu.zero (q : Nat → Bool) (len n : Nat) (work : Nat → Int) (waiting V : Nat → Bool) (hV : ∀ b, V b = (decide (b < n) && waiting b)) : Qu q len n work waiting 0 work V :=
  ⟨fun b => by rw [hV b]; simp, fun _ _ => rfl, fun b h => by omega⟩

theorem Qu.plain {wc : Bool} {n c most len : Nat} {work : Nat → Int} {waiting V : Nat → Bool} (hV : ∀ b, V b = (decide (b < n) && waiting b)) (h : wc = true ∨ most = c) :
    Qu (qd wc n c most) len n work waiting n work V ∧ cnt (qd wc n c most) n = 0 := by
  have hq : ∀ b, b < n → qd wc n c most b = false := fun b hb => by
    unfold qd
    rcases h with h | h
    · simp [h]; omega
    · simp [h, hb]
  refine ⟨?_, cnt_none n hq⟩
  have := (Qu.zero (qd wc n c most) len n work waiting V hV).skips n (fun b _ h2 => hq b (by omega))
  rwa [Nat.zero_add] at this

theorem Qu.first {n c most len : Nat} {work : Nat → Int} {waiting V : Nat → Bool} (hV : ∀ b, V b = (decide (b < n) && waiting b)) (hc : c < n) (h : most ≠ c) :
    Qu (qd false n c most) len n work waiting n (upd work len c) (upd V c true) ∧ cnt (qd false n c most) n = 1 := by
  have hq : ∀ b, b < n → b ≠ c → qd false n c most b = false := fun b hb hn => by
    unfold qd; simp [hb, hn]
  have hqc : qd false n c most c = true := by unfold qd; simp [hc, h]
  have h1 := (Qu.zero (qd false n c most) len n work waiting V hV).skips c (fun b _ h2 => hq b (by omega) (by omega))
  rw [Nat.zero_add] at h1
  have h0 : cnt (qd false n c most) c = 0 := cnt_none c (fun b hb => hq b (by omega) (by omega))
  have h2 := h1.step hqc
  rw [h0, Nat.add_zero] at h2
  have h3 := h2.skips (n - (c + 1)) (fun b h1 h2 => hq b (by omega) (by omega))
  have h4 := cnt_from (q := qd false n c most) (c + 1) (n - (c + 1)) (fun b h1 h2 => hq b (by omega) (by omega))
  rw [show c + 1 + (n - (c + 1)) = n by omega] at h3 h4
  refine ⟨h3, ?_⟩
  rw [h4, cnt, h0, hqc]; rfl
end Go.Proofs.Qxb6601951a
