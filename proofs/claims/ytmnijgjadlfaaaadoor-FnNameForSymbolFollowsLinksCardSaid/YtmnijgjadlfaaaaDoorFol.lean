/- FollowSymbols over a table whose links point to earlier symbols of the same source: it answers the root, and the table keeps its roots. -/
import Derived.Test.YtmnijgjadlfaaaaDoorSym
import Derived.WalkKit
import Derived.WalkSpells
import Derived.LoopTactic
import Derived.BigRegion
import Derived.Deep.RegionWith
import Derived.Deep.DeepCutAuto
import Derived.Deep.Light
import Derived.Outline
namespace Go.Proofs.YtmnijgjadlfaaaaDoor
open Go.RowKit
set_option linter.unusedVariables false
set_option linter.unusedSimpArgs false

theorem grown_tr {a b c : World} {row : Option Nat} (h : a.grownBy b row) (k : b.grownBy c row) : a.grownBy c row :=
  ⟨k.os.trans h.os, k.tape.trans h.tape, k.output.trans h.output, Nat.le_trans h.size k.size, fun i hi hne => (k.block i (Nat.lt_of_lt_of_le hi h.size) hne).trans (h.block i hi hne)⟩
theorem grown_any {a b : World} {row : Option Nat} (h : a.grownBy b none) : a.grownBy b row := ⟨h.os, h.tape, h.output, h.size, fun i hi _ => h.block i hi (by simp)⟩
/-- A table with these roots. -/
def Linked (w : World) (g n : Nat) (nm : Nat → ByteArray) (R : Nat → Nat) (s : Nat) : Prop :=
  ∃ la lb, Syms w g n n nm la lb ∧ ∀ m, m < n → (la m = 4294967295 ∧ lb m = 4294967295 ∧ R m = m) ∨ ∃ j : Nat, la m = s ∧ lb m = j ∧ j < m ∧ R j = R m
def Roots (n : Nat) (R : Nat → Nat) : Prop := ∀ m, m < n → R m ≤ m ∧ R (R m) = R m
theorem Linked.grown {w w' : World} {g n s : Nat} {nm : Nat → ByteArray} {R : Nat → Nat} {row : Option Nat} (h : Linked w g n nm R s) (hb : w.grownBy w' row) (hg : some g ≠ row) : Linked w' g n nm R s := by
  obtain ⟨la, lb, h1, h2⟩ := h
  exact ⟨la, lb, h1.grown hb hg, h2⟩
theorem Linked.lt {w : World} {g n s : Nat} {nm : Nat → ByteArray} {R : Nat → Nat} (h : Linked w g n nm R s) : g < w.heap.size := by
  obtain ⟨la, lb, h1, _⟩ := h
  exact h1.lt
theorem Linked.name {w : World} {g n s : Nat} {nm : Nat → ByteArray} {R : Nat → Nat} (h : Linked w g n nm R s) {m : Nat} (hm : m < n) : w.cell? ⟨g, m * 10 + 1, none⟩ = some (.string (nm m)) := by
  obtain ⟨la, lb, h1, _⟩ := h
  exact h1.name hm
theorem Linked.frozen {w : World} {g n s : Nat} {nm : Nat → ByteArray} {R : Nat → Nat} (h : Linked w g n nm R s) (m : Nat) : w.frozen? ⟨g, m, none⟩ = false := by
  obtain ⟨la, lb, h1, _⟩ := h
  exact h1.frozen m
theorem Linked.at_ {w : World} {g n s : Nat} {nm : Nat → ByteArray} {R : Nat → Nat} (h : Linked w g n nm R s) (hR : Roots n R) {m : Nat} (hm : m < n) :
    (R m = m ∧ w.cell? ⟨g, m * 10 + 2, none⟩ = some (.int .u32 4294967295) ∧ w.cell? ⟨g, m * 10 + 3, none⟩ = some (.int .u32 4294967295)) ∨
    ∃ j : Nat, j < m ∧ R j = R m ∧ R m < m ∧ w.cell? ⟨g, m * 10 + 2, none⟩ = some (.int .u32 s) ∧ w.cell? ⟨g, m * 10 + 3, none⟩ = some (.int .u32 j) := by
  obtain ⟨la, lb, h1, h2⟩ := h
  have hl := h1.link hm
  rcases h2 m hm with ⟨e1, e2, e3⟩ | ⟨j, e1, e2, e3, e4⟩
  · exact .inl ⟨e3, by rw [hl.1, e1], by rw [hl.2, e2]⟩
  · exact .inr ⟨j, e3, e4, by have := (hR j (by omega)).1; omega, by rw [hl.1, e1], by rw [hl.2, e2]⟩
theorem Linked.put {w : World} {g n s : Nat} {nm : Nat → ByteArray} {R : Nat → Nat} (h : Linked w g n nm R s) (hR : Roots n R) {i : Nat} (hi : i < n) (hlt : R i < i) :
    Linked ((w.setCell ⟨g, i * 10 + 2, none⟩ (.int .u32 s)).setCell ⟨g, i * 10 + 3, none⟩ (.int .u32 (R i : Nat))) g n nm R s := by
  obtain ⟨la, lb, h1, h2⟩ := h
  refine ⟨_, _, h1.setLink hi (Nat.le_refl _) s (R i), fun m hm => ?_⟩
  by_cases e : m = i
  · subst e
    exact .inr ⟨R m, by rw [if_pos rfl], by rw [if_pos rfl], hlt, (hR m hm).2⟩
  · rcases h2 m hm with h3 | ⟨j, h3⟩
    · exact .inl ⟨by rw [if_neg e]; exact h3.1, by rw [if_neg e]; exact h3.2.1, h3.2.2⟩
    · exact .inr ⟨j, by rw [if_neg e]; exact h3.1, by rw [if_neg e]; exact h3.2.1, h3.2.2⟩
def FolPost (w : World) (g n : Nat) (nm : Nat → ByteArray) (R : Nat → Nat) (s i : Nat) (e : Ending) (w' : World) : Prop :=
  e = .returned (.agg #[.int .u32 s, .int .u32 (R i : Nat)]) ∧ Linked w' g n nm R s ∧ w.grownBy w' (some g)
/-- What stands while FollowSymbols runs: its boxes, the table, the variable. -/
structure FSt (w W : World) (o N c g n : Nat) (nm : Nat → ByteArray) (R : Nat → Nat) (s i : Nat) : Prop where
  b2 : Blk W w.heap.size 30 #[.slice (some ⟨o, 0, none⟩) N c]
  b3 : Blk W (w.heap.size + 1) 38 #[.int .u32 s, .int .u32 i]
  b4 : Blk W (w.heap.size + 2) 38 #[.int .u32 0, .int .u32 0]
  tab : Linked W g n nm R s
  inv : Inv W
  out : OutAt W o s N g n
  gr : w.grownBy W (some g)
theorem FSt.next {w W W' : World} {o N c g n s i : Nat} {nm : Nat → ByteArray} {R : Nat → Nat} (h : FSt w W o N c g n nm R s i) (hg : W.grownBy W' (some g)) (ht : Linked W' g n nm R s) (hgw : g < w.heap.size) (ho : o ≠ g) (h0 : g ≠ 0) : FSt w W' o N c g n nm R s i :=
  ⟨h.b2.grown hg (by simp; omega), h.b3.grown hg (by simp; omega), h.b4.grown hg (by simp; omega), ht, h.inv.grown hg (by simp; omega), h.out.grown hg (by simpa using ho), grown_tr h.gr hg⟩
theorem ref_size : (Tryd.prog.info? 38).map (·.size) = some 2 := by kernel_rfl
set_option maxHeartbeats 4000000 in
set_option maxRecDepth 100000 in
theorem follow (o N c g n : Nat) (nm : Nat → ByteArray) (R : Nat → Nat) (s : Nat) (hs : s < 4096) (hN : N ≤ 4096) (hn : n ≤ 16777216) (ho : o ≠ g) (h0 : g ≠ 0) (hR : Roots n R) :
    ∀ i, i < n → ∀ w : World, Inv w → OutAt w o s N g n → Linked w g n nm R s →
    Calls Tryd.prog 16 #[.agg #[.slice (some ⟨o, 0, none⟩) N c], .agg #[.int .u32 s, .int .u32 i]] w (FolPost w g n nm R s i) := by
  intro i
  induction i using Nat.strongRecOn with
  | ind i ih =>
    intro hi w hinv hout htab
    have IH := Lib.hid ih; have HR := Lib.hid hR
    have hgw := htab.lt
    have how := hout.1
    have h0w := hinv.pos
    obtain ⟨w3, hw3⟩ : ∃ w3, w3 = ((w.alloc (.cells #[.slice (some ⟨o, 0, none⟩) N c] 30)).alloc (.cells #[.int .u32 s, .int .u32 i] 38)).alloc (.cells #[.int .u32 0, .int .u32 0] 38) := ⟨_, rfl⟩
    have hg3 : w.grownBy w3 (some g) := by rw [hw3]; exact only_alloc (only_alloc (only_alloc (World.grownBy.refl _ _) _) _) _
    have hgn : w.grownBy w3 none := by rw [hw3]; exact only_alloc (only_alloc (only_alloc (World.grownBy.refl _ _) _) _) _
    have S3 : FSt w w3 o N c g n nm R s i := by
      refine ⟨?_, ?_, ?_, htab.grown hgn (by simp), hinv.grown hgn (by simp), hout.grown hgn (by simp), hg3⟩
      · rw [hw3]; exact ((Blk.new w 30 _).alloc _).alloc _
      · rw [hw3]; have := (Blk.new (w.alloc (.cells #[.slice (some ⟨o, 0, none⟩) N c] 30)) 38 #[.int .u32 s, .int .u32 i]).alloc (.cells #[.int .u32 0, .int .u32 0] 38); simpa using this
      · rw [hw3]; have := Blk.new ((w.alloc (.cells #[.slice (some ⟨o, 0, none⟩) N c] 30)).alloc (.cells #[.int .u32 s, .int .u32 i] 38)) 38 #[.int .u32 0, .int .u32 0]; simpa using this
    have HS3 := Lib.hid S3; have HW3 := Lib.hid hw3
    clear S3 hg3 hgn htab hinv hout ih hR
    go_enter Tryd.func16, Tryd.ntmps16
    go_wp2_with (go_at_call 17; rw [← HW3.out]; refine (getS o s N c g n i _ HS3.out.out hi (by omega) hn).mono ?_)
    rintro e w4 ⟨rfl, hg⟩
    have HS4 := Lib.hid (HS3.out.next (grown_any hg) (HS3.out.tab.grown hg (by simp)) hgw ho h0)
    clear hg hw3 HW3 HS3
    obtain ⟨z0, z1⟩ := HS4.out.inv.cells
    have k0 : w4.cell? ⟨w.heap.size, 0, none⟩ = some (.slice (some ⟨o, 0, none⟩) N c) := HS4.out.b2.cell 0
    have k1 : w4.cell? ⟨w.heap.size + 1, 0, none⟩ = some (.int .u32 s) := HS4.out.b3.cell 0
    have k2 : w4.cell? ⟨w.heap.size + 1, 1, none⟩ = some (.int .u32 i) := HS4.out.b3.cell 1
    have k3 : w4.cell? ⟨w.heap.size + 2, 0, none⟩ = some (.int .u32 0) := HS4.out.b4.cell 0
    have k4 : w4.cell? ⟨w.heap.size + 2, 1, none⟩ = some (.int .u32 0) := HS4.out.b4.cell 1
    have f3 : w4.frozen? ⟨w.heap.size + 2, 0, none⟩ = false := HS4.out.b4.frozen 0
    have f4 : w4.frozen? ⟨w.heap.size + 2, 1, none⟩ = false := HS4.out.b4.frozen 1
    rcases HS4.out.tab.at_ HR.out hi with ⟨hRi, l0, l1⟩ | ⟨j, hji, hRj, hRlt, l0, l1⟩
    · have hfin : ∀ W : World, W = ((w4.setCell ⟨w.heap.size + 1 + 1, 0, none⟩ (.int .u32 s)).setCell ⟨w.heap.size + 1 + 1, 1, none⟩ (.int .u32 i)).drew →
          Blk W (w.heap.size + 1 + 1) 38 #[.int .u32 s, .int .u32 i] ∧ Linked W g n nm R s ∧ w.grownBy W (some g) := fun W hW => by
        subst hW
        have hg4 : w4.grownBy (((w4.setCell ⟨w.heap.size + 1 + 1, 0, none⟩ (.int .u32 s)).setCell ⟨w.heap.size + 1 + 1, 1, none⟩ (.int .u32 i)).drew) (some (w.heap.size + 1 + 1)) :=
          only_drew (only_setCell (p := ⟨w.heap.size + 1 + 1, 1, none⟩) (only_setCell (p := ⟨w.heap.size + 1 + 1, 0, none⟩) (World.grownBy.refl _ _) (Or.inl rfl) _) (Or.inl rfl) _)
        refine ⟨((HS4.out.b4.set_ 0 _).set_ 1 _).drew, HS4.out.tab.grown hg4 (by simp; omega), ?_⟩
        exact only_drew (only_setCell (p := ⟨w.heap.size + 1 + 1, 1, none⟩) (only_setCell (p := ⟨w.heap.size + 1 + 1, 0, none⟩) HS4.out.gr (Or.inr (by show w.heap.size ≤ w.heap.size + 1 + 1; omega)) _) (Or.inr (by show w.heap.size ≤ w.heap.size + 1 + 1; omega)) _)
      have HFIN := Lib.hid hfin; have HRI := Lib.hid hRi
      clear hfin hRi
      go_wp2
      go_region
      go_wp2
      obtain ⟨r1, r2, r3⟩ := HFIN.out _ rfl
      (try simp only [Exit.inBlock, Exit.then])
      refine bodyPost_ret (results_cell_row rfl _ _ (w.heap.size + 1 + 1) 38 #[.int .u32 s, .int .u32 i] (0, 0) _ rfl r1 Tryd.underlying38 rfl ref_size) rfl ?_
      exact ⟨by rw [HRI.out], r2, r3⟩
    · have t1 : ((s : Int) == 4294967295) = false := by rw [beq_eq_false_iff_ne]; omega
      have hjn : j < n := by omega
      have HSA : Hid (∀ W : World, (W = w4.drew.drew ∨ W = w4.drew.drew.alloc (.cells #[.int .u32 0, .int .u32 0] 38) ∨ W = w4.drew ∨ W = w4.drew.alloc (.cells #[.int .u32 0, .int .u32 0] 38)) → FSt w W o N c g n nm R s i) := Lib.hid (fun W hW => by
        have h1 : w4.grownBy W none := by
          rcases hW with rfl | rfl | rfl | rfl
          · exact only_drew (only_drew (World.grownBy.refl _ _))
          · exact only_alloc (only_drew (only_drew (World.grownBy.refl _ _))) _
          · exact only_drew (World.grownBy.refl _ _)
          · exact only_alloc (only_drew (World.grownBy.refl _ _)) _
        exact HS4.out.next (grown_any h1) (HS4.out.tab.grown h1 (by simp)) hgw ho h0)
      have HBX : Hid (∀ (W w5 : World), (W = w4.drew.drew.alloc (.cells #[.int .u32 0, .int .u32 0] 38) ∨ W = w4.drew.alloc (.cells #[.int .u32 0, .int .u32 0] 38)) → W.grownBy w5 (some g) → Blk w5 w4.heap.size 38 #[.int .u32 0, .int .u32 0]) := Lib.hid (fun W w5 hW hg => by
        have h4 := HS4.out.b4.lt
        rcases hW with rfl | rfl
        · exact (Blk.new w4.drew.drew 38 #[.int .u32 0, .int .u32 0]).grown hg (by show some w4.heap.size ≠ some g; simp; omega)
        · exact (Blk.new w4.drew 38 #[.int .u32 0, .int .u32 0]).grown hg (by show some w4.heap.size ≠ some g; simp; omega))
      have hs4 : w.heap.size + 3 ≤ w4.heap.size := by have := HS4.out.b4.lt; omega
      have HFA : Hid (∀ w5 : World, FSt w w5 o N c g n nm R s i → ∃ b6, Value.pointer (some ⟨w5.heap.size, 0, none⟩) = .pointer (some ⟨b6, 0, none⟩) ∧ w.heap.size + 3 ≤ b6 ∧ Blk (w5.alloc (.cells #[.int .u32 s, .int .u32 (R i : Nat)] 38)) b6 38 #[.int .u32 s, .int .u32 (R i : Nat)] ∧ FSt w (w5.alloc (.cells #[.int .u32 s, .int .u32 (R i : Nat)] 38)) o N c g n nm R s i) := Lib.hid (fun w5 h => by
        have h1 : w5.grownBy (w5.alloc (.cells #[.int .u32 s, .int .u32 (R i : Nat)] 38)) none := only_alloc (World.grownBy.refl _ _) _
        exact ⟨w5.heap.size, rfl, by have := h.b4.lt; omega, Blk.new _ _ _, h.next (grown_any h1) (h.tab.grown h1 (by simp)) hgw ho h0⟩)
      have HFB : Hid (∀ w5 : World, FSt w w5 o N c g n nm R s i → Blk w5 w4.heap.size 38 #[.int .u32 0, .int .u32 0] → ∃ b6, Value.pointer (some ⟨w4.heap.size, 0, none⟩) = .pointer (some ⟨b6, 0, none⟩) ∧ w.heap.size + 3 ≤ b6 ∧ Blk ((w5.setCell ⟨w4.heap.size, 0, none⟩ (.int .u32 s)).setCell ⟨w4.heap.size, 1, none⟩ (.int .u32 (R i : Nat))) b6 38 #[.int .u32 s, .int .u32 (R i : Nat)] ∧ FSt w ((w5.setCell ⟨w4.heap.size, 0, none⟩ (.int .u32 s)).setCell ⟨w4.heap.size, 1, none⟩ (.int .u32 (R i : Nat))) o N c g n nm R s i) := Lib.hid (fun w5 h hk => by
        have h4 := HS4.out.b4.lt
        have h1 : w5.grownBy ((w5.setCell ⟨w4.heap.size, 0, none⟩ (.int .u32 s)).setCell ⟨w4.heap.size, 1, none⟩ (.int .u32 (R i : Nat))) (some w4.heap.size) :=
          only_setCell (p := ⟨w4.heap.size, 1, none⟩) (only_setCell (p := ⟨w4.heap.size, 0, none⟩) (World.grownBy.refl _ _) (Or.inl rfl) _) (Or.inl rfl) _
        refine ⟨w4.heap.size, rfl, by omega, (hk.set_ 0 _).set_ 1 _, ?_⟩
        exact ⟨h.b2.grown h1 (by simp; omega), h.b3.grown h1 (by simp; omega), h.b4.grown h1 (by simp; omega), h.tab.grown h1 (fun e => by have := Option.some.inj e; omega), h.inv.grown h1 (fun e => by have := Option.some.inj e; omega), h.out.grown h1 (fun e => by have := Option.some.inj e; omega),
          only_setCell (p := ⟨w4.heap.size, 1, none⟩) (only_setCell (p := ⟨w4.heap.size, 0, none⟩) h.gr (Or.inr (by show w.heap.size ≤ w4.heap.size; omega)) _) (Or.inr (by show w.heap.size ≤ w4.heap.size; omega)) _⟩)
      have hg4' : g < w4.heap.size := by omega
      have hb4' : w.heap.size < w4.heap.size := by omega
      go_wp2
      go_region
      go_wp2_with fail
      go_cut [6] (fun v wx => ∃ b6, v = .pointer (some ⟨b6, 0, none⟩) ∧ w.heap.size + 3 ≤ b6 ∧ Blk wx b6 38 #[.int .u32 s, .int .u32 (R i : Nat)] ∧ FSt w wx o N c g n nm R s i)
      case first =>
        go_region_with (go_at_call 16; refine (IH.out j hji hjn _ (HSA.out _ (by first | exact Or.inl rfl | exact Or.inr (Or.inl rfl) | exact Or.inr (Or.inr (Or.inl rfl)) | exact Or.inr (Or.inr (Or.inr rfl)))).inv (HSA.out _ (by first | exact Or.inl rfl | exact Or.inr (Or.inl rfl) | exact Or.inr (Or.inr (Or.inl rfl)) | exact Or.inr (Or.inr (Or.inr rfl)))).out (HSA.out _ (by first | exact Or.inl rfl | exact Or.inr (Or.inl rfl) | exact Or.inr (Or.inr (Or.inl rfl)) | exact Or.inr (Or.inr (Or.inr rfl)))).tab).mono ?_; rintro e w5 ⟨rfl, ht5, hg5⟩; try (have kb := HBX.out _ w5 (by first | exact Or.inl rfl | exact Or.inr rfl) hg5; have kb0 : w5.cell? ⟨w4.heap.size, 0, none⟩ = some (.int .u32 0) := kb.cell 0; have kb1 : w5.cell? ⟨w4.heap.size, 1, none⟩ = some (.int .u32 0) := kb.cell 1; have kf0 : w5.frozen? ⟨w4.heap.size, 0, none⟩ = false := kb.frozen 0; have kf1 : w5.frozen? ⟨w4.heap.size, 1, none⟩ = false := kb.frozen 1; have KB := Lib.hid kb; clear kb))
        all_goals
          have hst := (HSA.out _ (by first | exact Or.inl rfl | exact Or.inr (Or.inl rfl) | exact Or.inr (Or.inr (Or.inl rfl)) | exact Or.inr (Or.inr (Or.inr rfl)))).next hg5 ht5 hgw ho h0
          go_wp2_with fail
          go_meet
          first | exact HFA.out w5 hst | exact HFB.out w5 hst KB.out
      case rest =>
        obtain ⟨b6, rfl, hb6, hk6, hst⟩ := hcut
        have HST := Lib.hid hst; have HK6 := Lib.hid hk6
        clear hst hk6
        obtain ⟨j', hj', e0, e1⟩ : ∃ j' : Nat, j' < i ∧ wc.cell? ⟨g, i * 10 + 2, none⟩ = some (.int .u32 s) ∧ wc.cell? ⟨g, i * 10 + 3, none⟩ = some (.int .u32 j') := by
          rcases HST.out.tab.at_ HR.out hi with ⟨h, _⟩ | ⟨j', h1, _, _, h2, h3⟩
          · omega
          · exact ⟨j', h1, h2, h3⟩
        have m0 : wc.cell? ⟨b6, 0, none⟩ = some (.int .u32 s) := HK6.out.cell 0
        have m1 : wc.cell? ⟨b6, 1, none⟩ = some (.int .u32 (R i : Nat)) := HK6.out.cell 1
        have k3 : wc.cell? ⟨w.heap.size + 2, 0, none⟩ = some (.int .u32 0) := HST.out.b4.cell 0
        have k4 : wc.cell? ⟨w.heap.size + 2, 1, none⟩ = some (.int .u32 0) := HST.out.b4.cell 1
        have f3 : wc.frozen? ⟨w.heap.size + 2, 0, none⟩ = false := HST.out.b4.frozen 0
        have f4 : wc.frozen? ⟨w.heap.size + 2, 1, none⟩ = false := HST.out.b4.frozen 1
        have q1 : ((s : Int) != s) = false := by simp
        have fg2 : wc.frozen? ⟨g, i * 10 + 2, none⟩ = false := HST.out.tab.frozen _
        have fg3 : wc.frozen? ⟨g, i * 10 + 3, none⟩ = false := HST.out.tab.frozen _
        have hgb : g ≠ w.heap.size + 1 + 1 := by omega
        have hgb' : ¬ w.heap.size + 1 + 1 = g := by omega
        have hgb6 : ¬ b6 = g := by omega
        have hend : ∀ W0 W : World, FSt w W0 o N c g n nm R s i → W = ((W0.setCell ⟨w.heap.size + 1 + 1, 0, none⟩ (.int .u32 s)).setCell ⟨w.heap.size + 1 + 1, 1, none⟩ (.int .u32 (R i : Nat))).drew →
            Blk W (w.heap.size + 1 + 1) 38 #[.int .u32 s, .int .u32 (R i : Nat)] ∧ Linked W g n nm R s ∧ w.grownBy W (some g) := fun W0 W h hW => by
          subst hW
          have hg4 : W0.grownBy (((W0.setCell ⟨w.heap.size + 1 + 1, 0, none⟩ (.int .u32 s)).setCell ⟨w.heap.size + 1 + 1, 1, none⟩ (.int .u32 (R i : Nat))).drew) (some (w.heap.size + 1 + 1)) :=
            only_drew (only_setCell (p := ⟨w.heap.size + 1 + 1, 1, none⟩) (only_setCell (p := ⟨w.heap.size + 1 + 1, 0, none⟩) (World.grownBy.refl _ _) (Or.inl rfl) _) (Or.inl rfl) _)
          refine ⟨((h.b4.set_ 0 _).set_ 1 _).drew, h.tab.grown hg4 (by simp; omega), ?_⟩
          exact only_drew (only_setCell (p := ⟨w.heap.size + 1 + 1, 1, none⟩) (only_setCell (p := ⟨w.heap.size + 1 + 1, 0, none⟩) h.gr (Or.inr (by show w.heap.size ≤ w.heap.size + 1 + 1; omega)) _) (Or.inr (by show w.heap.size ≤ w.heap.size + 1 + 1; omega)) _)
        have hput : FSt w ((wc.setCell ⟨g, i * 10 + 2, none⟩ (.int .u32 s)).setCell ⟨g, i * 10 + 3, none⟩ (.int .u32 (R i : Nat))) o N c g n nm R s i :=
          HST.out.next (only_setCell (p := ⟨g, i * 10 + 3, none⟩) (only_setCell (p := ⟨g, i * 10 + 2, none⟩) (World.grownBy.refl _ _) (Or.inl rfl) _) (Or.inl rfl) _) (HST.out.tab.put HR.out hi hRlt) hgw ho h0
        have HEND := Lib.hid hend; have HPUT := Lib.hid hput
        clear hend hput
        by_cases hjr : j' = R i
        · have q2 : ((j' : Int) != (R i : Nat)) = false := by rw [hjr]; simp
          go_wp2
          go_region
          go_wp2
          obtain ⟨r1, r2, r3⟩ := HEND.out _ _ HST.out rfl
          (try simp only [Exit.inBlock, Exit.then])
          refine bodyPost_ret (results_cell_row rfl _ _ (w.heap.size + 1 + 1) 38 #[.int .u32 s, .int .u32 (R i : Nat)] (0, 0) _ rfl r1 Tryd.underlying38 rfl ref_size) rfl ?_
          exact ⟨rfl, r2, r3⟩
        · have q2 : ((j' : Int) != (R i : Nat)) = true := by rw [bne_iff_ne]; omega
          go_wp2
          go_region
          go_wp2
          obtain ⟨r1, r2, r3⟩ := HEND.out _ _ HPUT.out rfl
          (try simp only [Exit.inBlock, Exit.then])
          refine bodyPost_ret (results_cell_row rfl _ _ (w.heap.size + 1 + 1) 38 #[.int .u32 s, .int .u32 (R i : Nat)] (0, 0) _ rfl r1 Tryd.underlying38 rfl ref_size) rfl ?_
          exact ⟨rfl, r2, r3⟩
end Go.Proofs.YtmnijgjadlfaaaaDoor
