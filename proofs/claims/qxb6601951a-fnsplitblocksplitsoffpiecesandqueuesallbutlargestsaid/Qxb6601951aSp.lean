import Derived.Test.Qxb6601951aAp
import Derived.BigRegion
import Derived.Test.Qxb6601951aReg
namespace Go.Proofs.Qxb6601951a
open Go.RowKit

/-- What 'split' leaves. -/
def SplitP (w : World) (pb mb ab sb eb : Nat) (a3 : Option Addr) (c3 size nb b : Nat) (vals : Nat → Nat) (L : Nat) (P : Pt) (e : Ending) (w' : World) : Prop :=
  e = .returned (.int .i64 nb) ∧ ∃ sb' eb' cs' ce' Q, PAt w' pb mb ab sb' eb' a3 c3 cs' ce' size (nb + 1) Q ∧ Split P size nb b vals L Q ∧ (sb' = sb ∨ w.heap.size ≤ sb') ∧ (eb' = eb ∨ w.heap.size ≤ eb') ∧ cs' ≤ 9223372036854775807 ∧ ce' ≤ 9223372036854775807 ∧ Chg ([pb, mb, ab, sb, eb] ++ blkOf a3) w w'

set_option maxHeartbeats 8000000 in
set_option maxRecDepth 100000 in
theorem split_any (w : World) (pb mb ab sb eb : Nat) (a3 av : Option Addr) (c3 cs ce cv size nb b : Nat) (P : Pt) (vals : Nat → Nat) (L : Nat) (hp : PAt w pb mb ab sb eb a3 c3 cs ce size nb P) (hP : P.Ok size nb) (hb : b < nb)
    (hv : Rd nat w av L vals) (hL : Leave P size b vals L) (hav : ∀ x ∈ blkOf av, x ∉ [pb, mb, ab, sb, eb] ++ blkOf a3) (hcs : cs ≤ 9223372036854775807) (hce : ce ≤ 9223372036854775807) (hsz : size ≤ 1000000) (hnb : nb ≤ 1000000) :
    Calls Try.prog 20 #[.pointer (some ⟨pb, 0, none⟩), .int .i64 b, .slice av L cv] w fun e w' => SplitP w pb mb ab sb eb a3 c3 size nb b vals L P e w' := by
  have H := hid (And.intro hP (And.intro hL (And.intro hv hav)))
  have HP := hid hp
  clear hp hP hv hL hav
  go_enter Try.func20, Try.ntmps20
  go_wp2_with fail
  go_loopg [8, 9, 10, 11, 17] L (fun g x la y ii i wr => ∃ (t : Nat) (mem pos : Nat → Nat), t + g = L ∧ i = .int .i64 t ∧ SplitInv P size b vals t mem pos ∧ PAt wr pb mb ab sb eb a3 c3 cs ce size nb ⟨mem, pos, P.blk, P.st, upd P.en b (P.en b - t)⟩ ∧ Chg ([pb, mb, ab, sb, eb] ++ blkOf a3) w wr)
  case atStart =>
    refine ⟨0, _, _, by omega, rfl, SplitInv.zero H.out.1 hb, HP.out.congr (fun _ _ => rfl) (fun _ _ => rfl) (fun _ _ => rfl) (fun _ _ => rfl) (fun k _ => ?_), Chg.refl _ _⟩
    simp only
    by_cases e : k = b
    · subst e; rw [upd_same]; rfl
    · rw [upd_ne _ _ e]
  case round =>
    obtain ⟨t, mem, pos, htg, rfl, hsi, hp, hc⟩ := hrel
    by_cases hlt : t < L
    · obtain ⟨hP, hL, hv, hav⟩ := H.out
      obtain ⟨vb, off, rfl, r0'⟩ := hv.chg hc hav t hlt
      have r0 : wr.cell? ⟨vb, off + t, none⟩ = some (.int .i64 (vals t)) := r0'
      have hx := hL.lt t hlt
      obtain ⟨w1, w2⟩ := hsi.where hP hb hL hlt
      have hse := hP.se b hb
      have hsi' := hsi.step hP hb hL hlt
      obtain ⟨x, hx'⟩ : ∃ x, x = vals t := ⟨_, rfl⟩
      obtain ⟨l, hl⟩ : ∃ l, l = P.en b - 1 - t := ⟨_, rfl⟩
      rw [← hx'] at r0 hx w1 w2 hsi'
      rw [← hl] at hsi'
      obtain ⟨i, hi⟩ : ∃ i, i = pos x := ⟨_, rfl⟩
      obtain ⟨y, hy⟩ : ∃ y, y = mem l := ⟨_, rfl⟩
      rw [← hi] at w1 w2
      rw [← hi, ← hy] at hsi'
      have hy2 : y < size := by rw [hy]; exact (hsi.m1 l (by omega)).1
      have rf4 := hp.f4
      have rf0 := hp.f0
      have rf1 := hp.f1
      have re : wr.cell? ⟨eb, b, none⟩ = some (.int .i64 ((P.en b - t : Nat) : Int)) := by have := hp.ren hb; simpa [upd_same] using this
      have rm : wr.cell? ⟨mb, l, none⟩ = some (.int .i64 y) := by rw [hy]; exact hp.rmem (by omega)
      have rp : wr.cell? ⟨ab, x, none⟩ = some (.int .i64 i) := by rw [hi]; exact hp.rpos hx
      have rm2 := hp.rmem (k := i) (by omega)
      have fm1 := hp.mem.frozen i
      have hp1 := hp.setMem i y (.int .i64 y) rfl
      have sm1 := hp1.rmem (k := l) (by omega)
      have fm2 := hp1.mem.frozen l
      have hp2 := hp1.setMem l x (.int .i64 x) rfl
      have hc2 := (hc.setCell (p := ⟨mb, i, none⟩) (Or.inl (by simp)) (.int .i64 y)).setCell (p := ⟨mb, l, none⟩) (Or.inl (by simp)) (.int .i64 x)
      obtain ⟨W2, hW2⟩ : ∃ W2, (wr.setCell ⟨mb, i, none⟩ (.int .i64 y)).setCell ⟨mb, l, none⟩ (.int .i64 x) = W2 := ⟨_, rfl⟩
      rw [hW2] at hp2 hc2
      have r2f1 := hp2.f1
      have r2p := hp2.rpos hy2
      have f2p := hp2.pos.frozen y
      have hp3 := hp2.setPos y i (.int .i64 i) rfl
      have r3p := hp3.rpos hx
      have f3p := hp3.pos.frozen x
      have hp4 := hp3.setPos x l (.int .i64 l) rfl
      have hc4 := (hc2.setCell (p := ⟨ab, y, none⟩) (Or.inl (by simp)) (.int .i64 i)).setCell (p := ⟨ab, x, none⟩) (Or.inl (by simp)) (.int .i64 l)
      obtain ⟨W4, hW4⟩ : ∃ W4, (W2.setCell ⟨ab, y, none⟩ (.int .i64 i)).setCell ⟨ab, x, none⟩ (.int .i64 l) = W4 := ⟨_, rfl⟩
      rw [hW4] at hp4 hc4
      have r4f := hp4.f4
      have r4e := hp4.ren hb
      have f4e := hp4.en.frozen b
      have hp5 := hp4.setEn b l (.int .i64 l) rfl
      have hc5 := hc4.setCell (p := ⟨eb, b, none⟩) (Or.inl (by simp)) (.int .i64 l)
      have R : Hid (SplitInv P size b vals (t + 1) (upd (upd mem i y) l x) (upd (upd pos y i) x l) ∧ PAt (W4.setCell ⟨eb, b, none⟩ (.int .i64 l)) pb mb ab sb eb a3 c3 cs ce size nb ⟨upd (upd mem i y) l x, upd (upd pos y i) x l, P.blk, P.st, upd P.en b (P.en b - (t + 1))⟩ ∧ Chg ([pb, mb, ab, sb, eb] ++ blkOf a3) w (W4.setCell ⟨eb, b, none⟩ (.int .i64 l))) := by
        refine ⟨hsi', hp5.congr (fun _ _ => rfl) (fun _ _ => rfl) (fun _ _ => rfl) (fun _ _ => rfl) (fun k _ => ?_), hc5⟩
        simp only
        by_cases e : k = b
        · subst e; rw [upd_same, upd_same, hl]; omega
        · rw [upd_ne _ _ e, upd_ne _ _ e, upd_ne _ _ e]
      have t0 : (t : Int) < (L : Int) := by omega
      have t1 : IntKind.i64.wrap (((P.en b - t : Nat) : Int) - 1) = (l : Int) := by rw [IntKind.wrap_i64]; omega
      have t2 : (l : Int) < (size : Int) := by omega
      have t3 : (i : Int) < (size : Int) := by omega
      have t4 : (y : Int) < (size : Int) := by omega
      have t5 : (x : Int) < (size : Int) := by omega
      have t6 : (b : Int) < (nb : Int) := by omega
      clear hp hp1 hp2 hp3 hp4 hp5 hc hc2 hc4 hc5 hsi hsi' hl hi hy hx' hP hL hv hav r0'
      go_wp2_with fail
      go_region
      go_wp2_with fail
      go_region
      go_wp2_with fail
      go_roundg (L - (t + 1))
      case measure => omega
      case rel =>
        refine ⟨t + 1, _, _, by omega, by simp, R.out.1, ?_, ?_⟩
        · exact R.out.2.1.chg0 (Chg.refl [] _).drew.drew
        · exact R.out.2.2.drew.drew
    · obtain rfl : t = L := by omega
      have t0 : ¬ (t : Int) < (t : Int) := by omega
      have hse := H.out.1.se b hb
      have hroom := hsi.room
      obtain ⟨E, hE⟩ : ∃ E, E = P.en b - t := ⟨_, rfl⟩
      rw [← hE] at hp
      obtain ⟨n1, n2, n3, n4, n5, n6, n7, n8, n9, n10⟩ := hp.nes
      have rf3 := hp.f3
      have rf4 := hp.f4
      have re : wr.cell? ⟨eb, b, none⟩ = some (.int .i64 E) := by have := hp.ren hb; simpa [upd_same] using this
      -- the append to start
      have hW0 : Chg [] wr (wr.alloc (.cells #[.int .i64 E] 3)).drew := ((Chg.refl [] wr).alloc _).drew
      obtain ⟨sb', cs', Wa, hra, hsrow, hca, hsb, hcs'⟩ := append_nat1 hp.st hcs (by omega) hW0 wr.heap.size E ((Blk.new wr [.int .i64 E] 3).cell rfl)
      have hpa := hp.str.chg hca (by simp; omega)
      have ra3 : Wa.cell? ⟨pb, 3, none⟩ = some (.slice (some ⟨sb, 0, none⟩) nb cs) := hpa.cell rfl
      have fa3 := hpa.frozen 3
      have HE := hid hE
      clear hE
      have xa4 : ∀ o, (wr.alloc o).cell? ⟨pb, 4, none⟩ = some (.slice (some ⟨eb, 0, none⟩) nb ce) := fun o => (hp.str.alloc o).cell rfl
      have xae : ∀ o, (wr.alloc o).cell? ⟨eb, b, none⟩ = some (.int .i64 E) := fun o => ((Chg.refl [] wr).alloc o).cell re
      have xa3 : ∀ o, (wr.alloc o).cell? ⟨pb, 3, none⟩ = some (.slice (some ⟨sb, 0, none⟩) nb cs) := fun o => (hp.str.alloc o).cell rfl
      obtain ⟨W1, hW1⟩ : ∃ W1, Wa.setCell ⟨pb, 3, none⟩ (.slice (some ⟨sb', 0, none⟩) (nb + 1) cs') = W1 := ⟨_, rfl⟩
      have HA : Hid (Blk W1 pb 44 [.slice (some ⟨mb, 0, none⟩) size size, .slice (some ⟨ab, 0, none⟩) size size, .slice a3 size c3, .slice (some ⟨sb', 0, none⟩) (nb + 1) cs', .slice (some ⟨eb, 0, none⟩) nb ce] ∧ Row 3 nat W1 mb size size mem ∧ Row 3 nat W1 ab size size pos ∧ SR 3 nat W1 a3 c3 size P.blk ∧ Row 3 nat W1 sb' (nb + 1) cs' (upd P.st nb E) ∧ Row 3 nat W1 eb nb ce (upd P.en b E)
          ∧ Chg [pb, sb] wr W1 ∧ (sb' = sb ∨ wr.heap.size ≤ sb')) := by
        have hca2 : Chg [pb, sb] wr W1 := by rw [← hW1]; exact (hca.sub (by simp)).setCell (Or.inl (by simp)) _
        have hne : pb ≠ sb' := by
          rcases hsb with h | h
          · rw [h]; exact n3
          · have := hp.str.lt; omega
        have hna := hp.na
        refine ⟨?_, hp.mem.chg hca2 (by simp; omega), hp.pos.chg hca2 (by simp; omega), hp.blk.chg hca2 (fun x hx => ?_), ?_, hp.en.chg hca2 (by simp; omega), hca2, hsb⟩
        · rw [← hW1]; exact hpa.set 3 _
        · have := hna x hx; simp at this ⊢; omega
        · rw [← hW1]; exact hsrow.other (fun h => hne h.symm) _
      have rb4 : W1.cell? ⟨pb, 4, none⟩ = some (.slice (some ⟨eb, 0, none⟩) nb ce) := HA.out.1.cell rfl
      have rbe : W1.cell? ⟨eb, b, none⟩ = some (.int .i64 E) := by have := HA.out.2.2.2.2.2.1.read hb; simpa [upd_same, nat] using this
      obtain ⟨F, hF⟩ : ∃ F, F = P.en b := ⟨_, rfl⟩
      have HF := hid hF
      have t4 : IntKind.i64.wrap ((E : Int) + (t : Int)) = (F : Int) := by have := HE.out; rw [IntKind.wrap_i64]; omega
      clear hF
      have hW10 : Chg [] W1 (W1.alloc (.cells #[.int .i64 F] 3)).drew := ((Chg.refl [] W1).alloc _).drew
      obtain ⟨eb', ce', Wc, hrc, herow, hcc, heb, hce'⟩ := append_nat1 HA.out.2.2.2.2.2.1 hce (by omega) hW10 W1.heap.size F ((Blk.new W1 [.int .i64 F] 3).cell rfl)
      have hpc := HA.out.1.chg hcc (by simp; omega)
      have rc4 : Wc.cell? ⟨pb, 4, none⟩ = some (.slice (some ⟨eb, 0, none⟩) nb ce) := hpc.cell rfl
      have fc4 := hpc.frozen 4
      obtain ⟨W3, hW3⟩ : ∃ W3, Wc.setCell ⟨pb, 4, none⟩ (.slice (some ⟨eb', 0, none⟩) (nb + 1) ce') = W3 := ⟨_, rfl⟩
      have HC : Hid (PAt W3 pb mb ab sb' eb' a3 c3 cs' ce' size (nb + 1) ⟨mem, pos, P.blk, upd P.st nb E, upd (upd P.en b E) nb F⟩ ∧ Chg ([pb, mb, ab, sb, eb] ++ blkOf a3) w W3 ∧ (sb' = sb ∨ w.heap.size ≤ sb') ∧ (eb' = eb ∨ w.heap.size ≤ eb') ∧ SplitInv P size b vals t mem pos) := by
        obtain ⟨a1, a2, a3', a4, a5, a6, a7, a8⟩ := HA.out
        have hc2 : Chg [pb, eb] W1 W3 := by rw [← hW3]; exact (hcc.sub (by simp)).setCell (Or.inl (by simp)) _
        have hsz1 := hc.size
        have hsz2 := a7.size
        have l1 := hp.str.lt
        have l2 := hp.mem.lt
        have l3 := hp.pos.lt
        have l4 := hp.st.lt
        have l5 := hp.en.lt
        have l6 := hp.blk.lt
        have m1 : pb ≠ eb' := by rcases heb with h | h <;> omega
        have m2 : mb ≠ eb' := by rcases heb with h | h <;> omega
        have m3 : ab ≠ eb' := by rcases heb with h | h <;> omega
        have m4 : pb ≠ sb' := by rcases a8 with h | h <;> omega
        have m5 : mb ≠ sb' := by rcases a8 with h | h <;> omega
        have m6 : ab ≠ sb' := by rcases a8 with h | h <;> omega
        have m7 : sb' ≠ eb := by rcases a8 with h | h <;> omega
        have l7 := a5.lt
        have m8 : sb' ≠ eb' := by rcases heb with h | h <;> omega
        have hna := hp.na
        refine ⟨⟨?_, a2.chg hc2 (by simp; omega), a3'.chg hc2 (by simp; omega), a4.chg hc2 (fun x hx => ?_), a5.chg hc2 (by simp; omega), ?_, ?_, fun x hx => ?_⟩, ?_, ?_, ?_, hsi⟩
        · rw [← hW3]; exact hpc.set 4 _
        · have := hna x hx; simp at this ⊢; omega
        · rw [← hW3]; exact herow.other (fun h => m1 h.symm) _
        · simp; omega
        · have q1 := hna x hx
          have q2 := l6 x hx
          simp at q1 ⊢
          refine ⟨q1.1, q1.2.1, q1.2.2.1, ?_, ?_⟩
          · rcases a8 with h | h <;> omega
          · rcases heb with h | h <;> omega
        · refine (hc.then (a7.sub (T := [pb, mb, ab, sb, eb] ++ blkOf a3) (by simp)) (fun i hi => Or.inl hi)).then hc2 (fun i hi => Or.inl ?_)
          simp at hi ⊢; omega
        · rcases a8 with h | h
          · exact Or.inl h
          · exact Or.inr (by omega)
        · rcases heb with h | h
          · exact Or.inl h
          · exact Or.inr (by omega)
      have HCE := hid (And.intro hcs' hce')
      have xbe : ∀ o, (W1.alloc o).cell? ⟨eb, b, none⟩ = some (.int .i64 E) := fun o => ((Chg.refl [] W1).alloc o).cell rbe
      have xb4 : ∀ o, (W1.alloc o).cell? ⟨pb, 4, none⟩ = some (.slice (some ⟨eb, 0, none⟩) nb ce) := fun o => (HA.out.1.alloc o).cell rfl
      clear hp hsi hc hca hsrow hsb hpa herow hcc heb hpc hcs' hce' HA hW0 hW10
      have t5 : (b : Int) < (nb : Int) := by omega
      go_upto_region 12 with fail
      refine wp_region_parts (fun w' => w'.cell? ⟨pb, 3, none⟩ = some (.slice (some ⟨sb, 0, none⟩) nb cs) ∧ w'.cell? ⟨pb, 4, none⟩ = some (.slice (some ⟨eb, 0, none⟩) nb ce) ∧ w'.cell? ⟨eb, b, none⟩ = some (.int .i64 E))
        [(0, false), (1, false), (2, false), (3, false), (4, true), (5, false), (6, false), (7, false), (8, true), (9, false), (10, false), (11, true)] [(12, false), (13, true), (14, true), (15, true), (16, true)] (by kernel_rfl) (fun _ _ _ _ _ h => h) (by kernel_rfl) ⟨rf3, rf4, re⟩ ?_
      simp only [pick, List.map_cons, List.map_nil, List.getElem?_toArray, List.getElem?_cons_zero, List.getElem?_cons_succ]
      repeat (refine Heads.cons (v := ?_) ?_ ?_; rotate_left 1; (· (intro w' hw'; (first | (obtain ⟨_, _, _⟩ := hw' rfl; clear hw') | clear hw'); go_simp; (try with_reducible rfl); done)); simp only [Act.put, List.setIfInBounds_toArray, List.set_cons_zero, List.set_cons_succ])
      refine Heads.nil ?_
      refine Rest.cons (fun K hK => ?_)
      go_simp
      refine hK.out _ _ (fun _ _ => ⟨xa3 _, xa4 _, xae _⟩) ?_
      clear hK K
      refine Rest.cons (fun K hK => ?_)
      refine wp_append_eq _ (.tmp 88) (.tmp 96) 22 22 rfl (.slice (some ⟨sb, 0, none⟩) nb cs) (.slice (some ⟨wr.heap.size, 0, none⟩) 1 1) (by simp [Act.eval]) (by simp [Act.eval]) (hra _) ?_
      refine hK.out _ _ (fun h => by cases h) ?_
      clear hK K
      simp only [Act.put, List.setIfInBounds_toArray, List.set_cons_zero, List.set_cons_succ]
      refine Rest.cons (fun K hK => ?_)
      go_simp
      refine hK.out _ _ (fun h => by cases h) ?_
      clear hK K
      refine Rest.cons (fun K hK => ?_)
      go_simp
      refine hK.out _ _ (fun h => by cases h) ?_
      clear hK K
      refine Rest.cons (fun K hK => ?_)
      go_simp
      refine hK.out _ _ (fun h => by cases h) (Rest.nil ?_)
      clear hK K
      clear hra
      go_upto_region 13 with fail
      refine wp_region_parts (fun w' => w'.cell? ⟨pb, 4, none⟩ = some (.slice (some ⟨eb, 0, none⟩) nb ce) ∧ w'.cell? ⟨eb, b, none⟩ = some (.int .i64 E))
        [(0, false), (1, false), (2, false), (3, false), (4, true), (5, false), (6, false), (7, false), (8, true), (9, false), (10, false), (11, true), (12, false), (13, false), (14, false)] [(15, false), (16, true), (17, true), (18, true), (19, true)] (by kernel_rfl) (fun _ _ _ _ _ h => h) (by kernel_rfl) ⟨rb4, rbe⟩ ?_
      simp only [pick, List.map_cons, List.map_nil, List.getElem?_toArray, List.getElem?_cons_zero, List.getElem?_cons_succ]
      repeat (refine Heads.cons (v := ?_) ?_ ?_; rotate_left 1; (· (intro w' hw'; (first | (obtain ⟨_, _⟩ := hw' rfl; clear hw') | clear hw'); go_simp; (try with_reducible rfl); done)); simp only [Act.put, List.setIfInBounds_toArray, List.set_cons_zero, List.set_cons_succ])
      refine Heads.nil ?_
      refine Rest.cons (fun K hK => ?_)
      go_simp
      refine hK.out _ _ (fun _ _ => ⟨xb4 _, xbe _⟩) ?_
      clear hK K
      refine Rest.cons (fun K hK => ?_)
      refine wp_append_eq _ (.tmp 104) (.tmp 115) 22 22 rfl (.slice (some ⟨eb, 0, none⟩) nb ce) (.slice (some ⟨W1.heap.size, 0, none⟩) 1 1) (by simp [Act.eval]) (by simp [Act.eval]) (hrc _) ?_
      refine hK.out _ _ (fun h => by cases h) ?_
      clear hK K
      simp only [Act.put, List.setIfInBounds_toArray, List.set_cons_zero, List.set_cons_succ]
      refine Rest.cons (fun K hK => ?_)
      go_simp
      refine hK.out _ _ (fun h => by cases h) ?_
      clear hK K
      refine Rest.cons (fun K hK => ?_)
      go_simp
      refine hK.out _ _ (fun h => by cases h) ?_
      clear hK K
      refine Rest.cons (fun K hK => ?_)
      go_simp
      refine hK.out _ _ (fun h => by cases h) (Rest.nil ?_)
      clear hK K
      clear hrc hW1 hW3 xa3 xa4 xae xb4 xbe ra3 fa3 rb4 rbe rc4 fc4 rf3 rf4 re
      go_wp2_with fail
      clear t0
      go_loopg [14, 121] t (fun g x i wr => ∃ (k : Nat) (blk : Nat → Nat), k + g = t ∧ i = .int .i64 k ∧ (∀ j, j < k → blk (vals j) = nb) ∧ (∀ x, (∀ j, j < k → vals j ≠ x) → blk x = P.blk x) ∧ PAt wr pb mb ab sb' eb' a3 c3 cs' ce' size (nb + 1) ⟨mem, pos, blk, upd P.st nb E, upd (upd P.en b E) nb F⟩ ∧ Chg ([pb, mb, ab, sb, eb] ++ blkOf a3) w wr)
      case atStart => exact ⟨0, _, by omega, rfl, fun j h => by omega, fun _ _ => rfl, HC.out.1, HC.out.2.1⟩
      case round =>
        obtain ⟨k, blk, hkg, rfl, hnew, hold, hp, hc⟩ := hrel
        by_cases hlt : k < t
        · obtain ⟨hP, hL, hv, hav⟩ := H.out
          obtain ⟨vb, off, rfl, r0'⟩ := hv.chg hc hav k hlt
          have r0 : wr.cell? ⟨vb, off + k, none⟩ = some (.int .i64 (vals k)) := r0'
          have hx := hL.lt k hlt
          obtain ⟨b3, rfl, hrow⟩ := hp.blk.at hx
          have r2 := hp.f2
          have r3 : wr.cell? ⟨b3, vals k, none⟩ = some (.int .i64 (blk (vals k))) := hrow.read hx
          have f3 := hrow.frozen (vals k)
          have R : Hid ((∀ j, j < k + 1 → upd blk (vals k) nb (vals j) = nb) ∧ (∀ x, (∀ j, j < k + 1 → vals j ≠ x) → upd blk (vals k) nb x = P.blk x) ∧ PAt (wr.setCell ⟨b3, vals k, none⟩ (.int .i64 nb)) pb mb ab sb' eb' (some ⟨b3, 0, none⟩) c3 cs' ce' size (nb + 1) ⟨mem, pos, upd blk (vals k) nb, upd P.st nb E, upd (upd P.en b E) nb F⟩ ∧ Chg ([pb, mb, ab, sb, eb] ++ blkOf (some ⟨b3, 0, none⟩)) w (wr.setCell ⟨b3, vals k, none⟩ (.int .i64 nb))) := by
            refine ⟨fun j hj => ?_, fun x hx => ?_, hp.setBlk (vals k) nb _ rfl, hc.setCell (Or.inl (by simp [blkOf])) _⟩
            · unfold upd; split
              · rfl
              · rename_i e
                refine hnew j ?_
                by_cases e2 : j = k
                · subst e2; exact absurd rfl e
                · omega
            · rw [upd_ne _ _ (fun h => hx k (by omega) h.symm)]
              exact hold x (fun j hj => hx j (by omega))
          have t1 : (k : Int) < (t : Int) := by omega
          have t2 : (vals k : Int) < (size : Int) := by omega
          obtain ⟨x, hx'⟩ : ∃ x, x = vals k := ⟨_, rfl⟩
          rw [← hx'] at r0 r3 f3 t2 hx
          rw [← hx'] at R
          clear hp hc hrow hnew hold hP hL hv hav r0' hx'
          go_wp2_with fail
          go_roundg (t - (k + 1))
          case measure => omega
          case rel => exact ⟨k + 1, _, by omega, by simp, R.out.1, R.out.2.1, R.out.2.2.1, R.out.2.2.2⟩
        · obtain rfl : k = t := by omega
          have t1 : ¬ (k : Int) < (k : Int) := by omega
          have R : Hid (PAt wr pb mb ab sb' eb' a3 c3 cs' ce' size (nb + 1) ⟨mem, pos, blk, upd P.st nb E, upd (upd P.en b E) nb F⟩ ∧ Split P size nb b vals k ⟨mem, pos, blk, upd P.st nb E, upd (upd P.en b E) nb F⟩ ∧ Chg ([pb, mb, ab, sb, eb] ++ blkOf a3) w wr) := by
            refine ⟨hp, split_ok H.out.1 hb H.out.2.1 HC.out.2.2.2.2 (fun c hc => upd_ne _ _ (by omega)) (fun c hc => ?_) ?_ ?_ hnew hold, hc⟩
            · rw [upd_ne _ _ (by omega), ← HE.out]; rfl
            · rw [upd_same, HE.out]
            · rw [upd_same, HF.out]
          clear hp hnew hold hc
          go_wp2_with fail
          go_ret
          exact ⟨rfl, sb', eb', cs', ce', _, R.out.1, R.out.2.1, HC.out.2.2.1, HC.out.2.2.2.1, HCE.out.1, HCE.out.2, R.out.2.2⟩
end Go.Proofs.Qxb6601951a
