import Derived.Test.Qxb6601951aT2
namespace Go.Proofs.Qxb6601951a
open Go.RowKit

/-- A partition in memory. -/
structure PAt (w : World) (pb mb ab sb eb : Nat) (a3 : Option Addr) (c3 cs ce size nb : Nat) (P : Pt) : Prop where
  str : Blk w pb 44 [.slice (some ⟨mb, 0, none⟩) size size, .slice (some ⟨ab, 0, none⟩) size size, .slice a3 size c3, .slice (some ⟨sb, 0, none⟩) nb cs, .slice (some ⟨eb, 0, none⟩) nb ce]
  mem : Row 3 nat w mb size size P.mem
  pos : Row 3 nat w ab size size P.pos
  blk : SR 3 nat w a3 c3 size P.blk
  st : Row 3 nat w sb nb cs P.st
  en : Row 3 nat w eb nb ce P.en
  ne : [pb, mb, ab, sb, eb].Nodup
  na : ∀ b ∈ blkOf a3, b ∉ [pb, mb, ab, sb, eb]

section
variable {w : World} {pb mb ab sb eb : Nat} {a3 : Option Addr} {c3 cs ce size nb : Nat} {P : Pt}

theorem PAt.nes (h : PAt w pb mb ab sb eb a3 c3 cs ce size nb P) : pb ≠ mb ∧ pb ≠ ab ∧ pb ≠ sb ∧ pb ≠ eb ∧ mb ≠ ab ∧ mb ≠ sb ∧ mb ≠ eb ∧ ab ≠ sb ∧ ab ≠ eb ∧ sb ≠ eb := by
  have := h.ne
  simp at this
  grind

theorem PAt.chg (h : PAt w pb mb ab sb eb a3 c3 cs ce size nb P) {S : List Nat} {w' : World} (c : Chg S w w') (hs : ∀ b ∈ [pb, mb, ab, sb, eb], b ∉ S) (ha : ∀ b ∈ blkOf a3, b ∉ S) : PAt w' pb mb ab sb eb a3 c3 cs ce size nb P :=
  ⟨h.str.chg c (hs _ (by simp)), h.mem.chg c (hs _ (by simp)), h.pos.chg c (hs _ (by simp)), h.blk.chg c ha, h.st.chg c (hs _ (by simp)), h.en.chg c (hs _ (by simp)), h.ne, h.na⟩

theorem PAt.chg0 (h : PAt w pb mb ab sb eb a3 c3 cs ce size nb P) {w' : World} (c : Chg [] w w') : PAt w' pb mb ab sb eb a3 c3 cs ce size nb P := h.chg c (by simp) (by simp)

theorem PAt.congr (h : PAt w pb mb ab sb eb a3 c3 cs ce size nb P) {Q : Pt} (h1 : ∀ k, k < size → P.mem k = Q.mem k) (h2 : ∀ k, k < size → P.pos k = Q.pos k) (h3 : ∀ k, k < size → P.blk k = Q.blk k) (h4 : ∀ k, k < nb → P.st k = Q.st k) (h5 : ∀ k, k < nb → P.en k = Q.en k) :
    PAt w pb mb ab sb eb a3 c3 cs ce size nb Q :=
  ⟨h.str, h.mem.congr h1, h.pos.congr h2, h.blk.congr h3, h.st.congr h4, h.en.congr h5, h.ne, h.na⟩

theorem chg_cell (w : World) (b k : Nat) (u : Value) : Chg [b] w (w.setCell ⟨b, k, none⟩ u) := (Chg.refl [b] w).setCell (Or.inl (by simp)) u

theorem PAt.setMem (h : PAt w pb mb ab sb eb a3 c3 cs ce size nb P) (k v : Nat) (u : Value) (hu : u = nat v) : PAt (w.setCell ⟨mb, k, none⟩ u) pb mb ab sb eb a3 c3 cs ce size nb { P with mem := upd P.mem k v } := by
  obtain ⟨n1, n2, n3, n4, n5, n6, n7, n8, n9, n10⟩ := h.nes
  have c := chg_cell w mb k u
  subst hu
  have ha : ∀ b ∈ blkOf a3, b ∉ [mb] := fun b hb hx => h.na b hb (by simp at hx; simp [hx])
  exact ⟨h.str.chg c (by simp; omega), h.mem.set k v, h.pos.chg c (by simp; omega), h.blk.chg c ha, h.st.chg c (by simp; omega), h.en.chg c (by simp; omega), h.ne, h.na⟩
theorem PAt.setPos (h : PAt w pb mb ab sb eb a3 c3 cs ce size nb P) (k v : Nat) (u : Value) (hu : u = nat v) : PAt (w.setCell ⟨ab, k, none⟩ u) pb mb ab sb eb a3 c3 cs ce size nb { P with pos := upd P.pos k v } := by
  obtain ⟨n1, n2, n3, n4, n5, n6, n7, n8, n9, n10⟩ := h.nes
  have c := chg_cell w ab k u
  subst hu
  have ha : ∀ b ∈ blkOf a3, b ∉ [ab] := fun b hb hx => h.na b hb (by simp at hx; simp [hx])
  exact ⟨h.str.chg c (by simp; omega), h.mem.chg c (by simp; omega), h.pos.set k v, h.blk.chg c ha, h.st.chg c (by simp; omega), h.en.chg c (by simp; omega), h.ne, h.na⟩
theorem PAt.setSt (h : PAt w pb mb ab sb eb a3 c3 cs ce size nb P) (k v : Nat) (u : Value) (hu : u = nat v) : PAt (w.setCell ⟨sb, k, none⟩ u) pb mb ab sb eb a3 c3 cs ce size nb { P with st := upd P.st k v } := by
  obtain ⟨n1, n2, n3, n4, n5, n6, n7, n8, n9, n10⟩ := h.nes
  have c := chg_cell w sb k u
  subst hu
  have ha : ∀ b ∈ blkOf a3, b ∉ [sb] := fun b hb hx => h.na b hb (by simp at hx; simp [hx])
  exact ⟨h.str.chg c (by simp; omega), h.mem.chg c (by simp; omega), h.pos.chg c (by simp; omega), h.blk.chg c ha, h.st.set k v, h.en.chg c (by simp; omega), h.ne, h.na⟩
theorem PAt.setEn (h : PAt w pb mb ab sb eb a3 c3 cs ce size nb P) (k v : Nat) (u : Value) (hu : u = nat v) : PAt (w.setCell ⟨eb, k, none⟩ u) pb mb ab sb eb a3 c3 cs ce size nb { P with en := upd P.en k v } := by
  obtain ⟨n1, n2, n3, n4, n5, n6, n7, n8, n9, n10⟩ := h.nes
  have c := chg_cell w eb k u
  subst hu
  have ha : ∀ b ∈ blkOf a3, b ∉ [eb] := fun b hb hx => h.na b hb (by simp at hx; simp [hx])
  exact ⟨h.str.chg c (by simp; omega), h.mem.chg c (by simp; omega), h.pos.chg c (by simp; omega), h.blk.chg c ha, h.st.chg c (by simp; omega), h.en.set k v, h.ne, h.na⟩
theorem PAt.setBlk {b3 : Nat} (h : PAt w pb mb ab sb eb (some ⟨b3, 0, none⟩) c3 cs ce size nb P) (k v : Nat) (u : Value) (hu : u = nat v) : PAt (w.setCell ⟨b3, k, none⟩ u) pb mb ab sb eb (some ⟨b3, 0, none⟩) c3 cs ce size nb { P with blk := upd P.blk k v } := by
  have c := chg_cell w b3 k u
  subst hu
  have hn := h.na b3 (by simp [blkOf])
  have hb : Row 3 nat w b3 size c3 P.blk := by
    rcases h.blk with ⟨h, _⟩ | ⟨b, h1, h2⟩
    · cases h
    · obtain rfl : b3 = b := by simpa using h1
      exact h2
  simp only [List.mem_cons, List.not_mem_nil, or_false, not_or] at hn
  obtain ⟨m1, m2, m3, m4, m5⟩ := hn
  exact ⟨h.str.chg c (by simp; omega), h.mem.chg c (by simp; omega), h.pos.chg c (by simp; omega), (hb.set k v).sr, h.st.chg c (by simp; omega), h.en.chg c (by simp; omega), h.ne, h.na⟩

theorem PAt.f0 (h : PAt w pb mb ab sb eb a3 c3 cs ce size nb P) : w.cell? ⟨pb, 0, none⟩ = some (.slice (some ⟨mb, 0, none⟩) size size) := h.str.cell rfl
theorem PAt.f1 (h : PAt w pb mb ab sb eb a3 c3 cs ce size nb P) : w.cell? ⟨pb, 1, none⟩ = some (.slice (some ⟨ab, 0, none⟩) size size) := h.str.cell rfl
theorem PAt.f2 (h : PAt w pb mb ab sb eb a3 c3 cs ce size nb P) : w.cell? ⟨pb, 2, none⟩ = some (.slice a3 size c3) := h.str.cell rfl
theorem PAt.f3 (h : PAt w pb mb ab sb eb a3 c3 cs ce size nb P) : w.cell? ⟨pb, 3, none⟩ = some (.slice (some ⟨sb, 0, none⟩) nb cs) := h.str.cell rfl
theorem PAt.f4 (h : PAt w pb mb ab sb eb a3 c3 cs ce size nb P) : w.cell? ⟨pb, 4, none⟩ = some (.slice (some ⟨eb, 0, none⟩) nb ce) := h.str.cell rfl
theorem PAt.rmem (h : PAt w pb mb ab sb eb a3 c3 cs ce size nb P) {k : Nat} (hk : k < size) : w.cell? ⟨mb, k, none⟩ = some (.int .i64 (P.mem k)) := h.mem.read hk
theorem PAt.rpos (h : PAt w pb mb ab sb eb a3 c3 cs ce size nb P) {k : Nat} (hk : k < size) : w.cell? ⟨ab, k, none⟩ = some (.int .i64 (P.pos k)) := h.pos.read hk
theorem PAt.rst (h : PAt w pb mb ab sb eb a3 c3 cs ce size nb P) {k : Nat} (hk : k < nb) : w.cell? ⟨sb, k, none⟩ = some (.int .i64 (P.st k)) := h.st.read hk
theorem PAt.ren (h : PAt w pb mb ab sb eb a3 c3 cs ce size nb P) {k : Nat} (hk : k < nb) : w.cell? ⟨eb, k, none⟩ = some (.int .i64 (P.en k)) := h.en.read hk
end

theorem Row.made' {α : Type} {e : TypeId} {enc : α → Value} (w : World) (n b : Nat) (z : Value) (v : α) (hb : b = w.heap.size) (hz : enc v = z) : Row e enc (w.alloc (.cells (List.replicate n z).toArray e)) b n n (fun _ => v) := by
  subst hb; exact Row.made w n z v hz
theorem Blk.new' (w : World) (b : Nat) (xs : List Value) (e : TypeId) (hb : b = w.heap.size) : Blk (w.alloc (.cells xs.toArray e)) b e xs := by subst hb; exact Blk.new w xs e
end Go.Proofs.Qxb6601951a
