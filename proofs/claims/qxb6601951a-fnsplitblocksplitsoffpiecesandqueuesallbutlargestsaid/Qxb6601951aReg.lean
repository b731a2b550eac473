import Derived.OrdersHeld
import Derived.WalkKit
namespace Go.Proofs.Qxb6601951a
open Go.RowKit

/-! A region that draws its order: what only reads comes first, in whatever order; then a forced row of operations that write.
    'nd': the operations whose value hangs on the world (loads): they yield in every world that meets S. 'ex': the operations of the row that wait for every load: behind them S need not hold. -/

section
variable {P : Program} {ops : Array Oper} {Q : Exit → Act → World → Prop} {md : Region.Mode} {S T : World → Prop} {ex : List Nat}

/-- j waits for i, at one remove or more. -/
def waits (md : Region.Mode) (ops : Array Oper) (i : Nat) : Nat → Nat → Bool
  | 0, _ => false
  | f + 1, j => match ops[j]? with
    | some oj => oj.after.any fun e => Region.binds md e && (e.on == i || waits md ops i f e.on)
    | none => false

def ShutDown (md : Region.Mode) (ops : Array Oper) (listed : Array Bool) : Prop :=
  ∀ j oj, ops[j]? = some oj → listed.getD j false = true → ∀ e ∈ oj.after, Region.binds md e = true → listed.getD e.on false = true

theorem waits_listed {i : Nat} {listed : Array Bool} (hc : ShutDown md ops listed) : ∀ (f j : Nat) (oj : Oper), ops[j]? = some oj → (∀ e ∈ oj.after, Region.binds md e = true → listed.getD e.on false = true) → waits md ops i f j = true → listed.getD i false = true
  | 0, _, _, _, _, h => by cases h
  | f + 1, j, oj, hj, hall, h => by
    simp only [waits, hj] at h
    obtain ⟨e, he, hb⟩ := Array.any_eq_true'.1 h
    simp only [Bool.and_eq_true, Bool.or_eq_true, beq_iff_eq] at hb
    have h1 := hall e he hb.1
    rcases hb.2 with h2 | h2
    · rw [← h2]; exact h1
    · cases ho : ops[e.on]? with
      | none => cases f <;> simp [waits, ho] at h2
      | some oe => exact waits_listed hc f e.on oe ho (hc e.on oe ho h1) h2

theorem getD_false_of {listed : Array Bool} {i : Nat} (h : listed.getD i true = false) : listed.getD i false = false := by
  rcases Nat.lt_or_ge i listed.size with h' | h'
  · simp [h'] at h ⊢; exact h
  · simp [Array.getElem?_eq_none h'] at h

theorem ShutDown.set {i : Nat} {listed : Array Bool} (hc : ShutDown md ops listed) (hi : i ∈ Region.ready md ops listed) : ShutDown md ops (listed.setIfInBounds i true) := by
  obtain ⟨_, oi, hoi, hall⟩ := mem_ready.1 hi
  intro j oj hj hl e he hb
  by_cases hij : i = j
  · subst hij
    obtain rfl : oj = oi := Option.some.inj (hj.symm.trans hoi)
    exact getD_set_true (hall e he hb)
  · rw [getD_set_ne false hij] at hl
    exact getD_set_true (hc j oj hj hl e he hb)

/-- Whatever order is picked from here on; an operation that is none of 'ex' keeps S. -/
def wpAnyD (P : Program) (md : Region.Mode) (ops : Array Oper) (Q : Exit → Act → World → Prop) (S : World → Prop) (ex : List Nat) : Nat → Array Bool → Act → World → Prop
  | 0, listed, a, w => Region.ready md ops listed = [] ∧ Q .normal a w
  | fuel + 1, listed, a, w =>
    (Region.ready md ops listed = [] → Q .normal a w) ∧
    ∀ i ∈ Region.ready md ops listed, wpOp P ops Q i (fun a' w' => (i ∉ ex → S w → S w') ∧ wpAnyD P md ops Q S ex fuel (listed.setIfInBounds i true) a' w') a w

theorem wpAny_of_D : ∀ (fuel : Nat) (listed : Array Bool) (a : Act) (w : World), wpAnyD P md ops Q S ex fuel listed a w → wpAny P md ops Q fuel listed a w
  | 0, _, _, _, h => h
  | fuel + 1, _, _, _, h => ⟨h.1, fun i hi => wpOp_mono (fun a' w' h' => wpAny_of_D fuel _ a' w' h'.2) (h.2 i hi)⟩

theorem wpAnyD_first {n i : Nat} {oi : Oper} {v : Value} (hi : ops[i]? = some oi) (hsel : ∀ (j : Nat) (o : Oper) cs b, ops[j]? = some o → o.op ≠ .select cs b)
    (hQ : ∀ c a w, Q (.panic c) (a.put oi.dst v) w → Q (.panic c) a w) (hk : (∀ w, T w) ∨ (T = S ∧ ∀ j ∈ ex, waits md ops i n j = true)) :
    ∀ (fuel : Nat) (listed : Array Bool) (a : Act) (w : World), ShutDown md ops listed →
      (∀ j oj, ops[j]? = some oj → j ≠ i → listed.getD j true = false → (∀ e ∈ oj.after, Region.binds md e = true → e.on ≠ i) → oi.apart ops oj = true) →
      i ∈ Region.ready md ops listed → YieldsIf P ops T oi v a → T w →
      wpAnyD P md ops Q S ex fuel (listed.setIfInBounds i true) (a.put oi.dst v) w → wpAnyD P md ops Q S ex (fuel + 1) listed a w := by
  have hkeep : ∀ (listed : Array Bool) (j : Nat) (w w' : World), ShutDown md ops listed → i ∈ Region.ready md ops listed → j ∈ Region.ready md ops listed → T w → (j ∉ ex → S w → S w') → T w' := fun listed j w w' hc hr hj hTw h => by
    rcases hk with hk | ⟨rfl, hk⟩
    · exact hk w'
    · refine h (fun he => ?_) hTw
      obtain ⟨_, oj, hoj, hall⟩ := mem_ready.1 hj
      have h1 := waits_listed hc n j oj hoj hall (hk j he)
      have h0 := getD_false_of (mem_ready.1 hr).1
      rw [h0] at h1; cases h1
  intro fuel
  induction fuel with
  | zero =>
    intro listed a w hc _ hr hy hTw H
    refine ⟨fun h => (by rw [h] at hr; cases hr), fun j hj => ?_⟩
    by_cases hji : j = i
    · subst hji; exact hy.wpOp hi hTw ⟨fun _ h => h, H⟩
    · have := ready_mono hj hji
      rw [H.1] at this
      cases this
  | succ fuel ih =>
    intro listed a w hc hfree hr hy hTw H
    refine ⟨fun h => (by rw [h] at hr; cases hr), fun j hj => ?_⟩
    by_cases hji : j = i
    · subst hji; exact hy.wpOp hi hTw ⟨fun _ h => h, H⟩
    · have h1 := H.2 j (ready_mono hj hji)
      obtain ⟨hjun, oj, hoj, hall⟩ := mem_ready.1 hj
      have hnot : ∀ e ∈ oj.after, Region.binds md e = true → e.on ≠ i := fun e he hb heq => by
        have h1 := hall e he hb
        have h0 := getD_false_of (mem_ready.1 hr).1
        rw [heq, h0] at h1; cases h1
      have h2 := wpOp_putIf hoj (hfree j oj hoj hji hjun hnot) (fun cs b => hsel i oi cs b hi) (fun cs b => hsel j oj cs b hoj) hQ hy h1
      have hfree' : ∀ k ok, ops[k]? = some ok → k ≠ i → (listed.setIfInBounds j true).getD k true = false →
          (∀ e ∈ ok.after, Region.binds md e = true → e.on ≠ i) → oi.apart ops ok = true := fun k ok hk hki hun hno => by
        refine hfree k ok hk hki ?_ hno
        by_cases hjk : j = k
        · subst hjk; exact hjun
        · rw [getD_set_ne true hjk] at hun; exact hun
      refine wpOp_mono (fun a' w' h3 => ⟨h3.2.1, ih (listed.setIfInBounds j true) a' w' (hc.set hj) hfree' (ready_mono hr (Ne.symm hji)) h3.1 (hkeep listed j w w' hc hr hj hTw h3.2.1) ?_⟩) h2
      rw [Array.setIfInBounds_comm _ _ hji]
      exact h3.2.2

/-- The head of the region: each operation of 'hs' (with the mark 'its value hangs on S') may be taken now. -/
def headB (md : Region.Mode) (ops : Array Oper) (ex : List Nat) : List (Nat × Bool) → Array Bool → Bool
  | [], _ => true
  | (i, b) :: hs, listed => (Region.ready md ops listed).contains i && Region.free md ops listed i && (!b || ex.all fun j => waits md ops i ops.size j) && headB md ops ex hs (listed.setIfInBounds i true)

/-- The row behind it: one operation alone may come up, each time. -/
def rowB (md : Region.Mode) (ops : Array Oper) : List Nat → Array Bool → Bool
  | [], listed => (Region.ready md ops listed).isEmpty
  | t :: ts, listed => decide (Region.ready md ops listed = [t]) && rowB md ops ts (listed.setIfInBounds t true)

def listedBy : List (Nat × Bool) → Array Bool → Array Bool
  | [], listed => listed
  | (i, _) :: hs, listed => listedBy hs (listed.setIfInBounds i true)

def Head (P : Program) (ops : Array Oper) (S : World → Prop) : List (Nat × Bool) → Act → (Act → Prop) → Prop
  | [], a, K => K a
  | (i, b) :: hs, a, K => ∃ o v, ops[i]? = some o ∧ YieldsIf P ops (fun w => b = true → S w) o v a ∧ Head P ops S hs (a.put o.dst v) K

def Tail (P : Program) (ops : Array Oper) (Q : Exit → Act → World → Prop) (S : World → Prop) (ex : List Nat) : List Nat → Act → World → Prop
  | [], a, w => Q .normal a w
  | t :: ts, a, w => wpOp P ops Q t (fun a' w' => (t ∉ ex → S w → S w') ∧ Tail P ops Q S ex ts a' w') a w

theorem wpAnyD_of_tail : ∀ (ts : List Nat) (listed : Array Bool) (a : Act) (w : World), rowB md ops ts listed = true → Tail P ops Q S ex ts a w → wpAnyD P md ops Q S ex ts.length listed a w
  | [], listed, a, w, hB, h => ⟨by simpa [rowB] using hB, h⟩
  | t :: ts, listed, a, w, hB, h => by
    simp only [rowB, Bool.and_eq_true, decide_eq_true_eq] at hB
    refine ⟨fun h1 => (by rw [hB.1] at h1; cases h1), fun i hi => ?_⟩
    rw [hB.1] at hi
    obtain rfl : i = t := by simpa using hi
    exact wpOp_mono (fun a' w' h' => ⟨h'.1, wpAnyD_of_tail ts _ a' w' hB.2 h'.2⟩) h

theorem wpAnyD_of_head (hsel : Region.noSelect ops = true) (hQ : ∀ c a d v w, Q (.panic c) (a.put d v) w → Q (.panic c) a w) {K : Act → Prop} {w : World} (hS : S w) {g : Nat} :
    ∀ (hs : List (Nat × Bool)) (listed : Array Bool) (a : Act), ShutDown md ops listed → headB md ops ex hs listed = true →
      (∀ a', K a' → wpAnyD P md ops Q S ex g (listedBy hs listed) a' w) → Head P ops S hs a K → wpAnyD P md ops Q S ex (hs.length + g) listed a w
  | [], listed, a, _, _, hK, h => by rw [List.length_nil, Nat.zero_add]; exact hK a h
  | (i, b) :: hs, listed, a, hc, hB, hK, ⟨o, v, hi, hy, h⟩ => by
    simp only [headB, Bool.and_eq_true] at hB
    obtain ⟨⟨⟨hr, hf⟩, he⟩, hB'⟩ := hB
    have hr' : i ∈ Region.ready md ops listed := by simpa using hr
    rw [List.length_cons, show hs.length + 1 + g = (hs.length + g) + 1 by omega]
    refine wpAnyD_first (n := ops.size) (T := fun w => b = true → S w) hi (Region.noSelect_spec hsel) (fun c a w => hQ c a o.dst v w) ?_ (hs.length + g) listed a w hc (Region.free_spec hi hf) hr' hy (fun _ => hS) ?_
    · cases b with
      | false => exact Or.inl (fun _ h => by cases h)
      | true => exact Or.inr ⟨funext fun w => propext ⟨fun h => h rfl, fun h _ => h⟩, fun j hj => List.all_eq_true.1 (by simpa using he) j hj⟩
    · exact wpAnyD_of_head hsel hQ hS hs _ _ (hc.set hr') hB' hK h

theorem shutDown_start (n : Nat) : ShutDown md ops (Array.replicate n false) := fun j oj _ hl => by
  rcases Nat.lt_or_ge j n with h | h
  · simp [h] at hl
  · simp [h] at hl

/-- THE WHOLE REGION: the head under S, then the row. -/
theorem wp_region_rows {id : Nat} {a : Act} {w : World} (S : World → Prop) (hs : List (Nat × Bool)) (ts ex : List Nat) (hm : P.follows .mixedOrders = true)
    (hQ : ∀ c a d v w, Q (.panic c) (a.put (some d) v) w → Q (.panic c) a w)
    (hB : (Region.noSelect ops && headB .any ops ex hs (Array.replicate ops.size false) && rowB .any ops ts (listedBy hs (Array.replicate ops.size false)) && hs.length + ts.length == ops.size) = true)
    (hS : S w.drew) (h : Head P ops S hs a (fun a' => Tail P ops Q S ex ts a' w.drew)) : (Code.region id ops true).wp P Q a w := by
  simp only [Bool.and_eq_true, beq_iff_eq] at hB
  obtain ⟨⟨⟨hsel, hh⟩, hr⟩, hl⟩ := hB
  refine wp_region_any hm (wpAny_of_D (S := S) (ex := ex) _ _ _ _ ?_)
  have := wpAnyD_of_head (P := P) (Q := Q) (md := .any) (ex := ex) (w := w.drew) (g := ts.length) hsel (fun c a d v w h => match d, h with | some d, h => hQ c a d v w h | none, h => h) hS hs _ a (shutDown_start ops.size) hh (fun a' hK => wpAnyD_of_tail ts _ a' w.drew hr hK) h
  rw [hl] at this
  exact this

/-- The operations themselves, looked up. -/
def pick (ops : Array Oper) (hs : List (Nat × Bool)) : List (Option Oper × Bool) := hs.map fun p => (ops[p.1]?, p.2)

/-- The head, no operation guarded: the operations written out. -/
def Heads (P : Program) (S : World → Prop) : List (Option Oper × Bool) → Act → (Act → Prop) → Prop
  | [], a, K => K a
  | (some o, b) :: hs, a, K => ∃ v, (∀ w, (b = true → S w) → (execOp a.eval o).run P w = .ok (.value v) w) ∧ Heads P S hs (a.put o.dst v) K
  | (none, _) :: _, _, _ => False

/-- The row, no operation guarded; the mark: S need not hold behind it. -/
def Rest (P : Program) (Q : Exit → Act → World → Prop) (S : World → Prop) : List (Option Oper × Bool) → Act → World → Prop
  | [], a, w => Q .normal a w
  | (some o, b) :: ts, a, w => o.wp P a w (fun a' w' => (b = false → S w → S w') ∧ Rest P Q S ts a' w') Q
  | (none, _) :: _, _, _ => False

def plainB (ops : Array Oper) : Bool := ops.all fun o => o.guard.isNone

theorem wanted_plain (hp : plainB ops = true) {i : Nat} {o : Oper} (hi : ops[i]? = some o) (a : Act) : Region.wanted o (yielded ops a.tmps) = true := by
  have h1 : o ∈ ops := Array.mem_of_getElem? hi
  have h2 := (Array.all_eq_true_iff_forall_mem.1 hp) o h1
  simp only [Option.isNone_iff_eq_none] at h2
  simp [Region.wanted, h2]

theorem head_of_heads (hp : plainB ops = true) : ∀ (hs : List (Nat × Bool)) (a : Act) (K K' : Act → Prop), (∀ a, K a → K' a) → Heads P S (pick ops hs) a K → Head P ops S hs a K'
  | [], a, K, K', hK, h => hK a h
  | (i, b) :: hs, a, K, K', hK, h => by
    simp only [pick, List.map_cons] at h
    cases hi : ops[i]? with
    | none => rw [hi] at h; exact h.elim
    | some o =>
      rw [hi] at h
      obtain ⟨v, hy, h⟩ := h
      exact ⟨o, v, hi, Or.inl ⟨wanted_plain hp hi a, hy⟩, head_of_heads hp hs _ K K' hK h⟩

theorem tail_of_rest (hp : plainB ops = true) : ∀ (ts : List (Nat × Bool)) (_ : ∀ p ∈ ts, p.2 = true ↔ p.1 ∈ ex) (a : Act) (w : World), Rest P Q S (pick ops ts) a w → Tail P ops Q S ex (ts.map (·.1)) a w
  | [], _, _, _, h => h
  | (t, b) :: ts, hex, a, w, h => by
    simp only [pick, List.map_cons] at h
    cases hi : ops[t]? with
    | none => rw [hi] at h; exact h.elim
    | some o =>
      rw [hi] at h
      show wpOp P ops Q t _ a w
      unfold wpOp
      simp only [hi, wanted_plain hp hi a, if_true]
      refine Or.inl (Oper.wp_mono (fun a' w' h' => ⟨fun hn => h'.1 ?_, tail_of_rest hp ts (fun p hp' => hex p (List.mem_cons_of_mem _ hp')) a' w' h'.2⟩) h)
      cases b with
      | false => rfl
      | true => exact absurd ((hex (t, true) (List.mem_cons_self ..)).1 rfl) hn

/-- THE WHOLE REGION, no operation guarded: the head under S, then the row, the operations written out. 'ts': each with the mark 'S need not hold behind it'. -/
theorem wp_region_parts {id : Nat} {a : Act} {w : World} (S : World → Prop) (hs ts : List (Nat × Bool)) (hm : P.follows .mixedOrders = true)
    (hQ : ∀ c a d v w, Q (.panic c) (a.put (some d) v) w → Q (.panic c) a w)
    (hB : (plainB ops && (Region.noSelect ops && headB .any ops ((ts.filter (·.2)).map (·.1)) hs (Array.replicate ops.size false) && rowB .any ops (ts.map (·.1)) (listedBy hs (Array.replicate ops.size false)) && hs.length + (ts.map (·.1)).length == ops.size) &&
      ts.all fun p => p.2 == ((ts.filter (·.2)).map (·.1)).contains p.1) = true)
    (hS : S w.drew) (h : Heads P S (pick ops hs) a (fun a' => Rest P Q S (pick ops ts) a' w.drew)) : (Code.region id ops true).wp P Q a w := by
  simp only [Bool.and_eq_true (plainB ops && _), Bool.and_eq_true (plainB ops)] at hB
  obtain ⟨⟨hp, hB⟩, hx⟩ := hB
  refine wp_region_rows S hs (ts.map (·.1)) ((ts.filter (·.2)).map (·.1)) hm hQ hB hS (head_of_heads hp hs a _ _ (fun a' h' => ?_) h)
  refine tail_of_rest hp ts (fun p hp' => ?_) a' w.drew h'
  have := List.all_eq_true.1 hx p hp'
  rw [beq_iff_eq] at this
  rw [this, List.contains_iff_mem]

theorem Heads.cons {b : Bool} {hs : List (Option Oper × Bool)} {a : Act} {K : Act → Prop} {o : Oper} {v : Value}
    (hy : ∀ w, (b = true → S w) → (execOp a.eval o).run P w = .ok (.value v) w) (h : Heads P S hs (a.put o.dst v) K) : Heads P S ((some o, b) :: hs) a K := ⟨v, hy, h⟩

theorem Heads.nil {a : Act} {K : Act → Prop} (h : K a) : Heads P S [] a K := h
theorem Rest.nil {a : Act} {w : World} (h : Q .normal a w) : Rest P Q S [] a w := h

theorem Rest.cons {b : Bool} {ts : List (Option Oper × Bool)} {a : Act} {w : World} {o : Oper}
    (h : ∀ K' : Act → World → Prop, Hid (∀ a' w', (b = false → S w → S w') → Rest P Q S ts a' w' → K' a' w') → Oper.wp P o a w K' Q) : Rest P Q S ((some o, b) :: ts) a w :=
  h _ (fun _ _ h1 h2 => ⟨h1, h2⟩)
end
end Go.Proofs.Qxb6601951a
