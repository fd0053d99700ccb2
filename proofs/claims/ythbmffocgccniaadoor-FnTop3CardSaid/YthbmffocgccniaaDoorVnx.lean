/- The reader's next byte; one place before another. -/
import Derived.Test.YthbmffocgccniaaDoorVpt
import Derived.Deep.QuietTactic
import Derived.BigQuiet
import Derived.BigRegion
import Derived.Handy
namespace Go.Proofs.YthbmffocgccniaaDoor
open Go.RowKit
set_option linter.unusedVariables false
set_option linter.unusedSimpArgs false
/-- The reader: its block, the bytes that it hands out. -/
structure RD (B : Nat) (rb : Nat) (A : Option Addr) (n cap : Nat) (zs : List Int) (w : World) : Prop where
  st : ∃ i : Nat, Blk w rb 25 #[.slice A n cap, .int .i64 (i : Int)] ∧ i ≤ n
  rd : Reads w B 1 A n (zs.map (Value.int .u8))
  hz : ∀ z ∈ zs, 0 ≤ z ∧ z ≤ 255
  hb : B ≤ rb
theorem RD.keep {B rb : Nat} {A : Option Addr} {n cap : Nat} {zs : List Int} {w w' : World} (h : RD B rb A n cap zs w) (hk : ∀ i, i < B ∨ i = rb → i < w.heap.size → w'.heap[i]? = w.heap[i]?) : RD B rb A n cap zs w' := by
  obtain ⟨⟨i, h1, h2⟩, h3, h4, h5⟩ := h
  refine ⟨⟨i, (hk rb (.inr rfl) h1.lt).trans h1, h2⟩, ⟨h3.1, fun hn => ?_⟩, h4, h5⟩
  obtain ⟨ad, e, hb, hc⟩ := h3.2 hn
  refine ⟨ad, e, hb, fun j u hu => ?_⟩
  have := hc j u hu
  have hlt := World.block_lt_of_cell? _ _ this
  rw [block_of_add] at hlt
  rw [← this]
  exact World.cell?_of_block (by rw [block_of_add]; exact hk _ (.inl hb) hlt)
theorem RD.grown {B rb : Nat} {A : Option Addr} {n cap : Nat} {zs : List Int} {w w' : World} (h : RD B rb A n cap zs w) (hg : w.grownBy w' none) : RD B rb A n cap zs w' := h.keep fun i _ hi => hg.block i hi (by simp)
def NextPost (B rb : Nat) (A : Option Addr) (n cap : Nat) (zs : List Int) (w : World) (e : Ending) (w' : World) : Prop := ∃ v : Nat, e = .returned (.int .i64 (v : Int)) ∧ v ≤ 255 ∧ RD B rb A n cap zs w' ∧ w.grownBy w' (some rb)
set_option maxHeartbeats 1000000 in
set_option maxRecDepth 100000 in
theorem next_any (B rb : Nat) (A : Option Addr) (n cap : Nat) (zs : List Int) (w : World) (h : RD B rb A n cap zs w) (hn : n ≤ 16777216) :
    Calls Tryd.prog 4 #[.pointer (some ⟨rb, 0, none⟩)] w (NextPost B rb A n cap zs w) := by
  have HR := Lib.hid h
  obtain ⟨⟨i, hb, hi⟩, hrd, hz, hB⟩ := h
  have c0 : w.cell? ⟨rb, 0, none⟩ = some (.slice A n cap) := hb.cell 0
  have c1 : w.cell? ⟨rb, 1, none⟩ = some (.int .i64 (i : Int)) := hb.cell 1
  have z1 := hb.frozen 1
  have HBK := Lib.hid hb
  by_cases hlt : i < n
  · have hlt' : (i : Int) < (n : Int) := by omega
    obtain ⟨ad, u, rfl, hab, hu, hc⟩ := hrd.at_ hlt
    rw [List.getElem?_map] at hu
    obtain ⟨z, hz1, rfl⟩ := Option.map_eq_some_iff.1 hu
    have hz2 := hz z (List.mem_of_getElem? hz1)
    have hwz : IntKind.i64.wrap z = z := by rw [IntKind.wrap_i64]; omega
    have hwi : IntKind.i64.wrap ((i : Int) + 1) = (i : Int) + 1 := by rw [IntKind.wrap_i64]; omega
    obtain ⟨w1, hw1⟩ : ∃ W, W = w.setCell ⟨rb, 1, none⟩ (.int .i64 ((i : Int) + 1)) := ⟨_, rfl⟩
    have HFIN : Hid (∀ W, (∃ k : Nat, W = (w.drewN k).setCell ⟨rb, 1, none⟩ (.int .i64 ((i : Int) + 1))) → NextPost B rb (some ad) n cap zs w (.returned (.int .i64 z)) W) := Lib.hid (fun W hW => by
      obtain ⟨k, rfl⟩ := hW
      have hgr : w.grownBy ((w.drewN k).setCell ⟨rb, 1, none⟩ (.int .i64 ((i : Int) + 1))) (some rb) := only_setCell (only_drewN (World.grownBy.refl _ _) _) (.inl rfl) _
      have hrd' := HR.out.rd
      refine ⟨z.toNat, by rw [Int.toNat_of_nonneg hz2.1], by omega, ⟨⟨i + 1, ?_, by omega⟩, ?_, hz, hB⟩, hgr⟩
      · have := Blk.set_ (Blk.drewN HBK.out k) 1 (.int .i64 ((i : Int) + 1))
        simpa using this
      · exact Reads.setCell (hrd'.drewN k) hB _)
    clear hrd hz hB hz1 hu hab hb
    go_enter Tryd.func4, Tryd.ntmps4
    go_wp2
    go_quiet (fail)
    go_wp2
    go_quiet (fail)
    go_wp2
    go_ret
    exact HFIN.out _ ⟨_, rfl⟩
  · have hlt' : ¬ (i : Int) < (n : Int) := by omega
    have HFIN : Hid (∀ W, (∃ k : Nat, W = w.drewN k) → NextPost B rb A n cap zs w (.returned (.int .i64 0)) W) := Lib.hid (fun W hW => by
      obtain ⟨k, rfl⟩ := hW
      have hgr : w.grownBy (w.drewN k) none := only_drewN (World.grownBy.refl _ _) _
      exact ⟨0, rfl, by omega, HR.out.grown hgr, only_drewN (World.grownBy.refl _ _) _⟩)
    clear hrd hz hB hb
    go_enter Tryd.func4, Tryd.ntmps4
    go_wp2
    go_quiet (fail)
    go_wp2
    go_ret
    exact HFIN.out _ ⟨_, rfl⟩
def BefPost (b : Bool) (w : World) (e : Ending) (w' : World) : Prop := e = .returned (.bool b) ∧ w.grownBy w' none
theorem two_boxes (w : World) (t : TypeId) (a b c d : Value) : w.grownBy ((w.alloc (.cells #[a, b] t)).alloc (.cells #[c, d] t)) none := only_alloc (only_alloc (World.grownBy.refl _ _) _) _
set_option maxHeartbeats 1000000 in
set_option maxRecDepth 100000 in
theorem before_any (a b l c : Int) (w : World) :
    Calls Tryd.prog 11 #[.agg #[.int .i64 a, .int .i64 b], .agg #[.int .i64 l, .int .i64 c]] w (BefPost (decide (a < l ∨ (a = l ∧ b < c))) w) := by
  have HG := Lib.hid (two_boxes w 32 (.int .i64 a) (.int .i64 b) (.int .i64 l) (.int .i64 c))
  obtain ⟨r, hr⟩ : ∃ r, r = decide (a < l ∨ (a = l ∧ b < c)) := ⟨_, rfl⟩
  have HR := Lib.hid hr
  rw [← hr]
  by_cases h1 : a < l
  · obtain rfl : r = true := by rw [hr]; simp [h1]
    have q1 : decide (a < l) = true := by simp [h1]
    clear hr
    go_enter Tryd.func11, Tryd.ntmps11
    go_wp2
    go_ret
    exact ⟨rfl, HG.out⟩
  · have q1 : decide (a < l) = false := by simp; omega
    by_cases h2 : a = l
    · subst h2
      have q2 : (a == a) = true := by simp
      by_cases h3 : b < c
      · obtain rfl : r = true := by rw [hr]; simp [h3]
        have q3 : decide (b < c) = true := by simp [h3]
        clear hr
        go_enter Tryd.func11, Tryd.ntmps11
        go_wp2
        go_ret
        exact ⟨rfl, HG.out⟩
      · obtain rfl : r = false := by rw [hr]; simp; omega
        have q3 : decide (b < c) = false := by simp; omega
        clear hr
        go_enter Tryd.func11, Tryd.ntmps11
        go_wp2
        go_ret
        exact ⟨rfl, HG.out⟩
    · obtain rfl : r = false := by rw [hr]; simp; omega
      have q2 : (a == l) = false := by rw [beq_eq_false_iff_ne]; exact h2
      clear hr
      go_enter Tryd.func11, Tryd.ntmps11
      go_wp2
      go_ret
      exact ⟨rfl, HG.out⟩
end Go.Proofs.YthbmffocgccniaaDoor
