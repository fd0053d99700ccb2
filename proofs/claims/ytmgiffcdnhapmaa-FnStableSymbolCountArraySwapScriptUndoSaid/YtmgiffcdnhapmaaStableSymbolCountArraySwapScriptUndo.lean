/-
  PROVED: any script of swaps permutes the list as it permutes the places, Len stays n, and playing it backwards restores the list.
-/
import Derived.Test.YtmgiffcdnhapmaaRows
import Derived.WalkKit
import Derived.ProofKit
import Derived.Outline
import Derived.LoopTactic
import Derived.WalkSpells
import Derived.BigRegion
import Derived.BigQuiet
import Derived.Deep.QuietTactic
import Derived.Deep.DeepCutAuto
import Derived.Deep.Light
import Derived.Test.YtmgiffcdnhapmaaCln
import Derived.Test.YtmgiffcdnhapmaaQdW
import Derived.OpenShut
import Derived.ShutString
import Derived.ChangeOld
import Derived.Below
import Derived.Carry
namespace Go.Proofs.Ytmgiffcdnhapmaa.fnStableSymbolCountArraySwapScriptUndo
open Go.ChangeShapes Go.WideShapes Go.ChangeAt Go.RowKit
open Go.ChangeMaps (open_string shut_string)
set_option linter.unusedVariables false
set_option linter.unusedSimpArgs false

theorem own : ownKnob Try.prog.godebug = none := by kernel_rfl
theorem laidOut : laidOutB Try.pinned.checked.prog = true := by kernel_rfl

/-- What the walk is told of a slice of integers that came in. -/
def IsRow (k : IntKind) (w : World) (a : Option Addr) (len cap : Nat) (zs : List Int) : Prop :=
  (a = none ∧ len = 0 ∧ cap = 0 ∧ zs = []) ∨
  ∃ x, a = some x ∧ len ≤ cap ∧ cap ≤ maxLen ∧ zs.length = cap ∧ (∀ i, i < zs.length → w.cell? (x.add i) = some (.int k (zs.getD i 0))) ∧ ∀ n ∈ zs, (Lit.int k n).wf = true
theorem isrow_reads {k : IntKind} {w : World} {a : Option Addr} {len cap : Nat} {zs : List Int} (h : IsRow k w a len cap zs) : Reads w w.heap.size 1 a len ((zs.take len).map (Value.int k)) ∧ (a = none → len = 0) ∧ len ≤ maxLen := by
  rcases h with ⟨rfl, rfl, rfl, rfl⟩ | ⟨x, rfl, hl, hm, hz, hc, _⟩
  · exact ⟨Reads.none_, fun _ => rfl, by unfold maxLen; omega⟩
  · refine ⟨⟨by simp; omega, fun hn => ⟨x, rfl, ?_, fun j u hu => ?_⟩⟩, (fun h => by cases h), by omega⟩
    · have := hc 0 (by omega)
      exact World.block_lt_of_cell? w x (by simpa [Addr.add] using this)
    · have hj : j < len := by
        have := (List.getElem?_eq_some_iff.1 hu).1
        simp at this; omega
      rw [hc j (by omega)]
      rw [List.getElem?_map, List.getElem?_take_of_lt hj, List.getElem?_eq_getElem (by omega)] at hu
      rw [List.getD_eq_getElem?_getD, List.getElem?_eq_getElem (by omega)]
      exact hu



def AnyBool (w : World) (e : Ending) (w' : World) : Prop := ∃ b, e = .returned (.bool b) ∧ w = w'
set_option maxHeartbeats 1000000 in
set_option maxRecDepth 100000 in
theorem zb (A : Option Addr) (n c : Nat) (B : Option Addr) (m d : Nat) (C : Option Addr) (k f : Nat) (D : Option Addr) (l g : Nat) (E : Option Addr) (p h : Nat) (w : World) (hn : n ≤ maxLen) (hm : m ≤ maxLen) (hk : k ≤ maxLen) (hl : l ≤ maxLen) (hp : p ≤ maxLen) :
    Calls Try.prog 4 #[.slice A n c, .slice B m d, .slice C k f, .slice D l g, .slice E p h] w (AnyBool w) := by
  unfold maxLen at hn hm hk hl hp
  go_enter Try.func4, Try.ntmps4
  go_wp2
  all_goals
    go_ret
    exact ⟨_, rfl, rfl⟩
def FitPost (n m k l p : Nat) (w : World) (e : Ending) (w' : World) : Prop := ∃ b, e = .returned (.bool b) ∧ w = w' ∧ (b = true → m = n ∧ k = n ∧ l = n ∧ 1 ≤ n ∧ n ≤ 65536 ∧ p ≤ 65536)
set_option maxHeartbeats 2000000 in
set_option maxRecDepth 100000 in
theorem fit (A : Option Addr) (n c : Nat) (B : Option Addr) (m d : Nat) (C : Option Addr) (k f : Nat) (D : Option Addr) (l g : Nat) (E : Option Addr) (p h : Nat) (w : World) (hn : n ≤ maxLen) (hm : m ≤ maxLen) (hk : k ≤ maxLen) (hl : l ≤ maxLen) (hp : p ≤ maxLen) :
    Calls Try.prog 5 #[.slice A n c, .slice B m d, .slice C k f, .slice D l g, .slice E p h] w (FitPost n m k l p w) := by
  unfold maxLen at hn hm hk hl hp
  by_cases h1 : 65536 < n ∨ 65536 < m ∨ 65536 < k ∨ 65536 < l ∨ 65536 < p
  · have H1 := Lib.hid h1
    clear h1
    go_enter Try.func5, Try.ntmps5
    go_wp2
    all_goals first
      | (go_ret; exact ⟨_, rfl, rfl, fun h => by cases h⟩)
      | (exfalso; have hq := H1.out; go_light; omega)
  · have g1 : n ≤ 65536 := by omega
    have g2 : m ≤ 65536 := by omega
    have g3 : k ≤ 65536 := by omega
    have g4 : l ≤ 65536 := by omega
    have g5 : p ≤ 65536 := by omega
    clear h1 hn hm hk hl hp
    by_cases h2 : m = n ∧ k = n ∧ l = n
    · obtain ⟨rfl, rfl, rfl⟩ := h2
      have q1 : ((l : Int) != l) = false := by simp
      go_enter Try.func5, Try.ntmps5
      go_wp2
      all_goals
        go_ret
        refine ⟨_, rfl, rfl, fun h => ?_⟩
        first | (cases h; done) | (refine ⟨rfl, rfl, rfl, ?_, g1, g5⟩; simp at h; omega)
    · have H2 := Lib.hid h2
      clear h2
      go_enter Try.func5, Try.ntmps5
      go_wp2
      all_goals
        go_ret
        refine ⟨_, rfl, rfl, fun h => ?_⟩
        first | (cases h; done) | (exfalso; have hq := H2.out; (try simp only [bne_iff_ne, bne_eq_false_iff_eq, ne_eq, beq_iff_eq] at *); go_light; omega)
/-- A row of ints: room for n, the first k are P. -/
def PRow (w : World) (g n k : Nat) (P : Nat → Nat) : Prop := ∃ cs : Array Value, Blk w g 3 cs ∧ cs.size = n ∧ ∀ m, m < k → cs[m]? = some (.int .i64 (P m : Nat))
section
variable {w w' : World} {g n k : Nat} {P : Nat → Nat}
theorem PRow.lt (h : PRow w g n k P) : g < w.heap.size := by obtain ⟨cs, h1, _⟩ := h; exact h1.lt
theorem PRow.new (w : World) (n : Nat) (cs : Array Value) (h : cs.size = n) (P : Nat → Nat) : PRow (w.alloc (.cells cs 3)) w.heap.size n 0 P := ⟨cs, Blk.new w 3 cs, h, fun m hm => by omega⟩
theorem PRow.grown {row : Option Nat} (h : PRow w g n k P) (hb : w.grownBy w' row) (hg : some g ≠ row) : PRow w' g n k P := by
  obtain ⟨cs, h1, h2⟩ := h
  exact ⟨cs, h1.grown hb hg, h2⟩
theorem PRow.cell (h : PRow w g n k P) {m : Nat} (hm : m < k) : w.cell? ⟨g, m, none⟩ = some (.int .i64 (P m : Nat)) := by
  obtain ⟨cs, h1, _, h2⟩ := h
  rw [h1.cell]; exact h2 m hm
theorem PRow.old (h : PRow w g n k P) {m : Nat} (hm : m < n) : ∃ v, w.cell? ⟨g, m, none⟩ = some v := by
  obtain ⟨cs, h1, h2, _⟩ := h
  exact ⟨_, by rw [h1.cell, Array.getElem?_eq_getElem (by omega)]⟩
theorem PRow.frozen (h : PRow w g n k P) (m : Nat) : w.frozen? ⟨g, m, none⟩ = false := by
  obtain ⟨cs, h1, _⟩ := h
  exact h1.frozen m
theorem PRow.drewN (h : PRow w g n k P) (j : Nat) : PRow (w.drewN j) g n k P := h
theorem PRow.snoc (h : PRow w g n k P) (hk : k < n) : PRow (w.setCell ⟨g, k, none⟩ (.int .i64 (P k : Nat))) g n (k + 1) P := by
  obtain ⟨cs, h1, h2, h3⟩ := h
  refine ⟨_, h1.set_ _ _, by simpa using h2, fun m hm => ?_⟩
  rw [Array.getElem?_setIfInBounds]
  by_cases e : k = m
  · subst e; rw [if_pos rfl, if_pos (by omega)]
  · rw [if_neg e]; exact h3 m (by omega)
theorem PRow.swap (h : PRow w g n n P) {i j : Nat} (hi : i < n) (hj : j < n) : PRow ((w.setCell ⟨g, i, none⟩ (.int .i64 (P j : Nat))).setCell ⟨g, j, none⟩ (.int .i64 (P i : Nat))) g n n (exE P i j) := by
  obtain ⟨cs, h1, h2, h3⟩ := h
  refine ⟨_, (h1.set_ _ _).set_ _ _, by simpa using h2, fun m hm => ?_⟩
  simp only [Array.getElem?_setIfInBounds, Array.size_setIfInBounds, h2, exE]
  by_cases e1 : m = j
  · subst e1
    rw [if_pos rfl, if_pos hj]
    by_cases e2 : m = i
    · subst e2; rw [if_pos rfl]
    · rw [if_neg e2, if_pos rfl]
  · rw [if_neg (fun e => e1 e.symm)]
    by_cases e2 : m = i
    · subst e2; rw [if_pos rfl, if_pos hm, if_pos rfl]
    · rw [if_neg (fun e => e2 e.symm), if_neg e2, if_neg e1]; exact h3 m hm
end
theorem colA_grown {w w' : World} {g n : Nat} {F : Nat → Int} {row : Option Nat} (h : ColA w g n F) (hb : w.grownBy w' row) (hg : some g ≠ row) : ColA w' g n F :=
  ⟨Nat.lt_of_lt_of_le h.1 hb.size, fun m hm => (World.cell?_of_block (hb.block g h.1 hg)).trans (h.2 m hm)⟩
/-- The places after s steps. -/
def perm (I J : Nat → Nat) : Nat → Nat → Nat
  | 0 => fun m => m
  | s + 1 => exE (perm I J s) (I s) (J s)
theorem perm_lt {I J : Nat → Nat} {n : Nat} (hI : ∀ s, I s < n) (hJ : ∀ s, J s < n) : ∀ s m, m < n → perm I J s m < n
  | 0, m, h => h
  | s + 1, m, h => by
    unfold perm exE
    split
    · exact perm_lt hI hJ s _ (hJ s)
    · split
      · exact perm_lt hI hJ s _ (hI s)
      · exact perm_lt hI hJ s m h
theorem exE_comp {α : Type} (E : Nat → α) (P : Nat → Nat) (i j : Nat) : exE (fun m => E (P m)) i j = fun m => E (exE P i j m) := by
  funext m; unfold exE; split <;> (try split) <;> rfl
theorem exE_exE {α : Type} (E : Nat → α) (i j : Nat) : exE (exE E i j) i j = E := by
  funext m
  unfold exE
  by_cases h1 : m = i
  · subst h1
    by_cases h2 : j = m
    · subst h2; simp
    · simp [h2]
  · by_cases h2 : m = j
    · subst h2; simp [h1]
    · simp [h1, h2]
set_option maxRecDepth 100000 in
theorem len4_ (g n c : Nat) (w : World) : Calls Try.prog 9 #[.slice (some ⟨g, 0, none⟩) n c] w fun e w' => e = .returned (.int .i64 n) ∧ w = w' := by
  go_enter Try.func9, Try.ntmps9
  go_wp2
  go_ret
  exact ⟨rfl, rfl⟩
theorem bne_self (x : Int) : (x != x) = false := by simp
def mkI (n : Nat) : Array Value := madeCells #[.int .i64 0] n
theorem int_info : (Try.prog.info? 3).map (fun i => (i.zero, i.size, i.bytes)) = some (some (.int .i64 0), 1, 8) := by kernel_rfl
/-! ### STEP 1: THE WALK -/
set_option maxHeartbeats 4000000 in
set_option maxRecDepth 100000 in
theorem walk (a0 : Option Addr) (len0 cap0 : Nat) (z0 : List Int) (a1 : Option Addr) (len1 cap1 : Nat) (z1 : List Int) (a2 : Option Addr) (len2 cap2 : Nat) (z2 : List Int) (a3 : Option Addr) (len3 cap3 : Nat) (z3 : List Int) (a4 : Option Addr) (len4 cap4 : Nat) (z4 : List Int) (w : World) (w0 : IsRow .u32 w a0 len0 cap0 z0) (w1 : IsRow .u32 w a1 len1 cap1 z1) (w2 : IsRow .u32 w a2 len2 cap2 z2) (w3 : IsRow .u32 w a3 len3 cap3 z3) (w4 : IsRow .u32 w a4 len4 cap4 z4)  :
    Calls Try.prog 3 #[.slice a0 len0 cap0, .slice a1 len1 cap1, .slice a2 len2 cap2, .slice a3 len3 cap3, .slice a4 len4 cap4] w fun e w' => e = .returned (.bool true) ∧ Below w.heap.size w w' := by
  obtain ⟨hr0, hA0, hl0⟩ := isrow_reads w0
  obtain ⟨hr1, hA1, hl1⟩ := isrow_reads w1
  obtain ⟨hr2, hA2, hl2⟩ := isrow_reads w2
  obtain ⟨hr3, hA3, hl3⟩ := isrow_reads w3
  obtain ⟨hr4, hA4, hl4⟩ := isrow_reads w4
  have hwf : ∀ m ∈ z4.take len4, 0 ≤ m ∧ m ≤ 4294967295 := fun m hm => by
    rcases w4 with ⟨_, _, _, rfl⟩ | ⟨_, _, _, _, _, _, hw⟩
    · simp at hm
    · have := hw m (List.mem_of_mem_take hm)
      simp [Lit.wf, IntKind.min, IntKind.max, IntKind.signed, IntKind.bits] at this
      omega
  obtain ⟨X0, hX0⟩ : ∃ X, X = z0.take len0 := ⟨_, rfl⟩
  obtain ⟨X1, hX1⟩ : ∃ X, X = z1.take len1 := ⟨_, rfl⟩
  obtain ⟨X2, hX2⟩ : ∃ X, X = z2.take len2 := ⟨_, rfl⟩
  obtain ⟨X3, hX3⟩ : ∃ X, X = z3.take len3 := ⟨_, rfl⟩
  obtain ⟨X4, hX4⟩ : ∃ X, X = z4.take len4 := ⟨_, rfl⟩
  rw [← hX0] at hr0
  rw [← hX1] at hr1
  rw [← hX2] at hr2
  rw [← hX3] at hr3
  rw [← hX4] at hr4 hwf
  have HX0 := Lib.hid (show X0.length = len0 by have := hr0.1; simpa using this)
  have HX1 := Lib.hid (show X1.length = len1 by have := hr1.1; simpa using this)
  have HX2 := Lib.hid (show X2.length = len2 by have := hr2.1; simpa using this)
  have HX3 := Lib.hid (show X3.length = len3 by have := hr3.1; simpa using this)
  have HX4 := Lib.hid (show X4.length = len4 by have := hr4.1; simpa using this)
  have HR0 := Lib.hid hr0; have HR1 := Lib.hid hr1; have HR2 := Lib.hid hr2; have HR3 := Lib.hid hr3; have HR4 := Lib.hid hr4
  have HA0 := Lib.hid hA0; have HA1 := Lib.hid hA1; have HA2 := Lib.hid hA2; have HA3 := Lib.hid hA3; have HA4 := Lib.hid hA4
  have HL0 := Lib.hid hl0; have HL1 := Lib.hid hl1; have HL2 := Lib.hid hl2; have HL3 := Lib.hid hl3; have HL4 := Lib.hid hl4
  have HWF := Lib.hid hwf
  clear hr0 hr1 hr2 hr3 hr4 hA0 hA1 hA2 hA3 hA4 w0 w1 w2 w3 w4 hX0 hX1 hX2 hX3 hX4 hl0 hl1 hl2 hl3 hl4 hwf
  go_enter Try.func3, Try.ntmps3
  go_wp2_with (go_at_call 4; refine (zb a0 len0 cap0 a1 len1 cap1 a2 len2 cap2 a3 len3 cap3 a4 len4 cap4 _ HL0.out HL1.out HL2.out HL3.out HL4.out).mono ?_)
  rintro e wz ⟨bz, rfl, rfl⟩
  cases bz
  · go_wp2
    go_ret
    exact ⟨rfl, Below.refl _ _⟩
  go_wp2_with (go_at_call 5; refine (fit a0 len0 cap0 a1 len1 cap1 a2 len2 cap2 a3 len3 cap3 a4 len4 cap4 _ HL0.out HL1.out HL2.out HL3.out HL4.out).mono ?_)
  rintro e wz ⟨bz, rfl, rfl, hfit⟩
  cases bz
  · clear hfit
    go_wp2
    go_ret
    exact ⟨rfl, Below.refl _ _⟩
  obtain ⟨rfl, rfl, rfl, hn1, hn, hp⟩ := hfit rfl
  clear hfit
  go_wp2_with (go_at_call 6; refine (clone a0 len3 cap0 X0 w HR0.out (by omega)).mono ?_)
  rintro e w1 (⟨hn0, _, _⟩ | ⟨gs, _, rfl, hge, hbk, hb1⟩)
  · have := HA0.out hn0; omega
  have CS := Lib.hid (ColA.of_blk hbk HX0.out); have B1 := Lib.hid hb1
  clear hbk hb1 hge
  go_wp2_with (go_at_call 6; refine (clone a1 len3 cap1 X1 w1 ((HR1.out.below B1.out).more B1.out.size) (by omega)).mono ?_)
  rintro e w2 (⟨hn0, _, _⟩ | ⟨gi, _, rfl, hge, hbk, hb1⟩)
  · have := HA1.out hn0; omega
  have CI := Lib.hid (ColA.of_blk hbk HX1.out); have CS2 := Lib.hid (CS.out.below hb1 (Nat.le_refl _)); have B2 := Lib.hid (B1.out.trans (hb1.mono B1.out.size))
  clear hbk hb1 hge CS
  go_wp2_with (go_at_call 6; refine (clone a2 len3 cap2 X2 w2 ((HR2.out.below B2.out).more B2.out.size) (by omega)).mono ?_)
  rintro e w3 (⟨hn0, _, _⟩ | ⟨gc, _, rfl, hge, hbk, hb1⟩)
  · have := HA2.out hn0; omega
  have CC := Lib.hid (ColA.of_blk hbk HX2.out); have CI3 := Lib.hid (CI.out.below hb1 (Nat.le_refl _)); have CS3 := Lib.hid (CS2.out.below hb1 (Nat.le_refl _)); have B3 := Lib.hid (B2.out.trans (hb1.mono B2.out.size))
  clear hbk hb1 hge CS2 CI
  go_wp2_with (go_at_call 6; refine (clone a3 len3 cap3 X3 w3 ((HR3.out.below B3.out).more B3.out.size) (by omega)).mono ?_)
  rintro e w4 (⟨hn0, _, _⟩ | ⟨gt, _, rfl, hge, hbk, hb1⟩)
  · have := HA3.out hn0; omega
  have CT := Lib.hid (ColA.of_blk hbk HX3.out); have CC4 := Lib.hid (CC.out.below hb1 (Nat.le_refl _)); have CI4 := Lib.hid (CI3.out.below hb1 (Nat.le_refl _)); have CS4 := Lib.hid (CS3.out.below hb1 (Nat.le_refl _)); have B4 := Lib.hid (B3.out.trans (hb1.mono B3.out.size))
  clear hbk hb1 hge CS3 CI3 CC B1 B2 B3
  go_wp2_with (go_at_call 6; refine (clone a4 len4 cap4 X4 w4 ((HR4.out.below B4.out).more B4.out.size) (by omega)).mono ?_)
  rintro e w5 hcl
  obtain ⟨A5, c5, rfl, hcol, hb1⟩ : ∃ A5 c5, e = .returned (.slice A5 len4 c5) ∧ (0 < len4 → ∃ g4, A5 = some ⟨g4, 0, none⟩ ∧ ColA w5 g4 len4 (fun m => X4.getD m 0)) ∧ Below w4.heap.size w4 w5 := by
    rcases hcl with ⟨hn0, he, hw⟩ | ⟨g4, _, he, hge, hbk, hb1⟩
    · have h0 := HA4.out hn0
      exact ⟨none, 0, by rw [he, h0], fun h => by omega, by rw [← hw]; exact Below.refl _ _⟩
    · exact ⟨_, _, he, fun _ => ⟨g4, rfl, ColA.of_blk hbk HX4.out⟩, hb1⟩
  clear hcl
  have CT5 := Lib.hid (CT.out.below hb1 (Nat.le_refl _)); have CC5 := Lib.hid (CC4.out.below hb1 (Nat.le_refl _)); have CI5 := Lib.hid (CI4.out.below hb1 (Nat.le_refl _)); have CS5 := Lib.hid (CS4.out.below hb1 (Nat.le_refl _)); have B5 := Lib.hid (B4.out.trans (hb1.mono B4.out.size))
  have HCOL := Lib.hid hcol
  clear hb1 hcol CT CC4 CI4 CS4 B4
  obtain ⟨E, hE⟩ : ∃ E, E = ent4 (fun m => X0.getD m 0) (fun m => X1.getD m 0) (fun m => X2.getD m 0) (fun m => X3.getD m 0) := ⟨_, rfl⟩
  go_wp2_with (go_at_call 7; refine (arr4 gs gi gc gt len3 len3 len3 len3 len3 _ _ _ _ w5 CS5.out CI5.out CC5.out CT5.out (by omega)).mono ?_; rw [← hE])
  rintro e w6 ⟨go_, rfl, hge, hq, hb1⟩
  have Q6 := Lib.hid hq; have B6 := Lib.hid (B5.out.trans (hb1.mono B5.out.size)); have L6 := Lib.hid hb1
  have CT6 := Lib.hid (CT5.out.below hb1 (Nat.le_refl _)); have CC6 := Lib.hid (CC5.out.below hb1 (Nat.le_refl _)); have CI6 := Lib.hid (CI5.out.below hb1 (Nat.le_refl _)); have CS6 := Lib.hid (CS5.out.below hb1 (Nat.le_refl _))
  clear hq hb1 hge
  go_wp2_with (go_at_call 7; refine (arr4 gs gi gc gt len3 len3 len3 len3 len3 _ _ _ _ w6 CS6.out CI6.out CC6.out CT6.out (by omega)).mono ?_; rw [← hE])
  rintro e w7 ⟨ga, rfl, hge, hq, hb1⟩
  have hga := hge
  have hgo := Q6.out.lt
  have Q7 := Lib.hid (Q6.out.below' hb1 (Nat.le_refl _)); have QA := Lib.hid hq; have B7 := Lib.hid (B6.out.trans (hb1.mono B6.out.size))
  have hne1 : go_ ≠ ga := by omega
  have HCOL7 : Hid (0 < len4 → ∃ g4, A5 = some ⟨g4, 0, none⟩ ∧ g4 < w6.heap.size ∧ ColA w7 g4 len4 (fun m => X4.getD m 0)) := Lib.hid (fun h => by
    obtain ⟨g4, e4, c4⟩ := HCOL.out h
    have c6 := c4.below L6.out (Nat.le_refl _)
    exact ⟨g4, e4, c6.1, c6.below hb1 (Nat.le_refl _)⟩)
  have hs6 := B6.out.size
  clear hq hb1 hge CT5 CT6 CC5 CC6 CI5 CI6 CS5 CS6 HCOL L6 B6 Q6 B5
  obtain ⟨i1, hi1, hz0, hz1, hz2⟩ := info_parts int_info
  have hmk : ∀ W : World, (Instr.makeSlice 28 (.int .i64 (len3 : Int)) (.int .i64 (len3 : Int))).run Try.prog W = .ok (.slice (some ⟨W.heap.size, 0, none⟩) len3 len3) (W.alloc (.cells (mkI len3) 3)) := fun W => by
    have := run_make (P := Try.prog) W 28 3 i1 (.int .i64 0) Try.underlying28 hi1 hz0 .i64 .i64 len3 len3 (by omega) (by omega) (by rw [hz2]; omega) (by omega)
    simpa [hz1, Value.cells, mkI] using this
  have HP0 := Lib.hid (PRow.new w7 len3 (mkI len3) (by simp [mkI, madeCells]) (fun m => m))
  have hg7 := QA.out.lt
  go_wp2
  clear hmk hi1 hz0 hz1 hz2
  go_loopw [15] (fun t wr => ∃ k : Nat, t = .int .i64 k ∧ k ≤ len3 ∧ PRow wr w7.heap.size len3 k (fun m => m) ∧ Below w7.heap.size w7 wr) (fun t _ => len3 - (intOf t).toNat)
  case atStart => exact ⟨0, rfl, by omega, HP0.out, (Below.refl _ _).alloc (Nat.le_refl _) _⟩
  case round =>
    obtain ⟨k, rfl, hk, hp1, hb⟩ := hrel
    have HBL := Lib.hid hb
    by_cases hlt : k < len3
    · obtain ⟨v0, d0⟩ := hp1.old hlt
      have z0 := hp1.frozen k
      have HPN := Lib.hid (hp1.snoc hlt)
      clear hb hp1
      go_wp2
      go_roundw
      case rel => exact ⟨k + 1, by go_num, by omega, HPN.out, HBL.out.setCell (p := ⟨w7.heap.size, k, none⟩) (Nat.le_refl _) _⟩
      case measure => simp [intOf]; omega
    obtain rfl : len3 = k := by omega
    have hs8 := hb.size
    have hl8 := hp1.lt
    have HP8 := Lib.hid hp1; have HQO := Lib.hid (Q7.out.below' hb (Nat.le_refl _)); have HQA := Lib.hid (QA.out.below' hb (Nat.le_refl _))
    have HC8 : Hid (0 < len4 → ∃ g4, A5 = some ⟨g4, 0, none⟩ ∧ g4 < w6.heap.size ∧ ColA wr g4 len4 (fun m => X4.getD m 0)) := Lib.hid (fun h => by
      obtain ⟨g4, e4, l4, c4⟩ := HCOL7.out h
      exact ⟨g4, e4, l4, c4.below hb (Nat.le_refl _)⟩)
    have HB8 := Lib.hid (B7.out.trans (hb.mono B7.out.size))
    clear hb hp1 HBL HCOL7 B7 Q7 QA
    go_wp2
    obtain ⟨st, hst⟩ : ∃ st : Nat, ((len4 : Int) / 2) = st := ⟨len4 / 2, by omega⟩
    have hst2 : st * 2 ≤ len4 := by omega
    rw [hst]
    obtain ⟨I, hI⟩ : ∃ I : Nat → Nat, I = fun s => (X4.getD (2 * s) 0).toNat % len3 := ⟨_, rfl⟩
    obtain ⟨J, hJ⟩ : ∃ J : Nat → Nat, J = fun s => (X4.getD (2 * s + 1) 0).toNat % len3 := ⟨_, rfl⟩
    have HIn : Hid (∀ s, I s < len3) := Lib.hid (fun s => by rw [hI]; exact Nat.mod_lt _ (by omega))
    have HJn : Hid (∀ s, J s < len3) := Lib.hid (fun s => by rw [hJ]; exact Nat.mod_lt _ (by omega))
    have HIJ : Hid (∀ s, s < st → ∃ a c : Nat, X4.getD (2 * s) 0 = a ∧ X4.getD (2 * s + 1) 0 = c ∧ a ≤ 4294967295 ∧ c ≤ 4294967295 ∧ (a : Int) % len3 = (I s : Nat) ∧ (c : Int) % len3 = (J s : Nat)) := Lib.hid (fun s hs => by
      have hx : ∀ m, 0 ≤ X4.getD m 0 ∧ X4.getD m 0 ≤ 4294967295 := fun m => by
        rw [List.getD_eq_getElem?_getD]
        by_cases hm : m < X4.length
        · rw [List.getElem?_eq_getElem hm]; exact HWF.out _ (List.getElem_mem hm)
        · rw [List.getElem?_eq_none (by omega)]; simp
      have h1 := hx (2 * s)
      have h2 := hx (2 * s + 1)
      refine ⟨(X4.getD (2 * s) 0).toNat, (X4.getD (2 * s + 1) 0).toNat, by omega, by omega, by omega, by omega, ?_, ?_⟩
      · rw [hI]; simp
      · rw [hJ]; simp)
    clear hI hJ hst
    go_loopw [17] (fun t wr => ∃ s : Nat, t = .int .i64 s ∧ s ≤ st ∧ Quads wr ga 35 len3 len3 (fun m => E (perm I J s m)) ∧ Quads wr go_ 35 len3 len3 E ∧ PRow wr w7.heap.size len3 len3 (perm I J s) ∧ (0 < len4 → ∃ g4, A5 = some ⟨g4, 0, none⟩ ∧ g4 < w6.heap.size ∧ ColA wr g4 len4 (fun m => X4.getD m 0)) ∧ Below w.heap.size w wr) (fun t _ => st - (intOf t).toNat)
    case atStart => exact ⟨0, rfl, by omega, HQA.out, HQO.out, HP8.out, HC8.out, HB8.out⟩
    case round =>
      clear HQA HQO HP8 HC8 HB8
      obtain ⟨s, rfl, hs, hqa, hqo, hpr, hcl, hb⟩ := hrel
      have HQA := Lib.hid hqa; have HQO := Lib.hid hqo; have HPR := Lib.hid hpr; have HCL := Lib.hid hcl; have HB := Lib.hid hb
      clear hqa hqo hpr hcl hb
      by_cases hlt : s < st
      · obtain ⟨g4, rfl, hg4, hcol⟩ := HCL.out (by omega)
        obtain ⟨a, c, ha, hc, ha1, hc1, ham, hcm⟩ := HIJ.out s hlt
        have c0 := hcol.2 (2 * s) (by omega)
        have c1 := hcol.2 (2 * s + 1) (by omega)
        simp only [ha, hc] at c0 c1
        have HCOL := Lib.hid hcol
        clear hcol ha hc
        have hi := HIn.out s
        have hj := HJn.out s
        have HH := Lib.hid hi; have HJ := Lib.hid hj
        go_wp2_with (go_at_call 8; refine (swap4 ga len3 len3 (fun m => E (perm I J s m)) (I s) (J s) hi hj (by omega) _ HQA.out).mono ?_)
        rintro e w9 ⟨rfl, hq, hg⟩
        rw [exE_comp] at hq
        have HQ9 := Lib.hid (show Quads w9 ga 35 len3 len3 (fun m => E (perm I J (s + 1) m)) from hq)
        have HO9 := Lib.hid (HQO.out.grown hg (by simp; exact hne1))
        have hp9 := HPR.out.grown hg (by simp; omega)
        have HC9 := Lib.hid (colA_grown HCOL.out hg (by simp; omega))
        have HB9 := Lib.hid (HB.out.grown hg HB.out.size (fun k hk => by obtain rfl := Option.some.inj hk; omega))
        have e1 := hp9.cell hi
        have e2 := hp9.cell hj
        have z1 := hp9.frozen (I s)
        have z2 := hp9.frozen (J s)
        have HP9 := Lib.hid (hp9.swap hi hj)
        have hl9 := hp9.lt
        clear hq hg hp9 c0 c1
        have hfin : ∀ W : World, W = (w9.setCell ⟨w7.heap.size, I s, none⟩ (.int .i64 (perm I J s (J s) : Nat))).setCell ⟨w7.heap.size, J s, none⟩ (.int .i64 (perm I J s (I s) : Nat)) →
            Quads W ga 35 len3 len3 (fun m => E (perm I J (s + 1) m)) ∧ Quads W go_ 35 len3 len3 E ∧ PRow W w7.heap.size len3 len3 (perm I J (s + 1)) ∧ ColA W g4 len4 (fun m => X4.getD m 0) ∧ Below w.heap.size w W := fun W hW => by
          subst hW
          refine ⟨(HQ9.out.far (p := ⟨w7.heap.size, I s, none⟩) (by show ga ≠ w7.heap.size; omega) _).far (p := ⟨w7.heap.size, J s, none⟩) (by show ga ≠ w7.heap.size; omega) _,
            (HO9.out.far (p := ⟨w7.heap.size, I s, none⟩) (by show go_ ≠ w7.heap.size; omega) _).far (p := ⟨w7.heap.size, J s, none⟩) (by show go_ ≠ w7.heap.size; omega) _, HP9.out, ?_,
            (HB9.out.setCell (p := ⟨w7.heap.size, I s, none⟩) (by show w.heap.size ≤ w7.heap.size; omega) _).setCell (p := ⟨w7.heap.size, J s, none⟩) (by show w.heap.size ≤ w7.heap.size; omega) _⟩
          refine ⟨by rw [size_setCell, size_setCell]; exact HC9.out.1, fun m hm => ?_⟩
          rw [World.cell?_setCell_other _ _ _ _ (fun e => by have := congrArg Addr.block e; simp at this; omega), World.cell?_setCell_other _ _ _ _ (fun e => by have := congrArg Addr.block e; simp at this; omega)]
          exact HC9.out.2 m hm
        have HFIN := Lib.hid hfin
        clear hfin
        generalize perm I J s (I s) = pI at *
        generalize perm I J s (J s) = pJ at *
        by_cases hij : I s = J s
        · have hji : J s = I s := hij.symm
          have hpp : pJ = pI := by
            rw [hji, e1] at e2
            injection e2 with e2
            injection e2 with _ e2
            exact Int.ofNat.inj e2.symm
          subst hpp
          have HF2 : Hid (∀ W : World, W = (w9.setCell ⟨w7.heap.size, I s, none⟩ (.int .i64 (pJ : Nat))).setCell ⟨w7.heap.size, I s, none⟩ (.int .i64 (pJ : Nat)) →
              Quads W ga 35 len3 len3 (fun m => E (perm I J (s + 1) m)) ∧ Quads W go_ 35 len3 len3 E ∧ PRow W w7.heap.size len3 len3 (perm I J (s + 1)) ∧ ColA W g4 len4 (fun m => X4.getD m 0) ∧ Below w.heap.size w W) := Lib.hid (by
            have := HFIN.out
            rw [hji] at this
            exact this)
          clear HFIN hij e2 z2 hj
          rw [hji]
          clear hji hcm
          go_wp2
          go_roundw
          case rel =>
            obtain ⟨f1, f2, f3, f4, f5⟩ := HF2.out _ rfl
            exact ⟨s + 1, by go_num, by omega, f1, f2, f3, fun _ => ⟨g4, rfl, hg4, f4⟩, f5⟩
          case measure => simp [intOf]; omega
        · go_wp2
          go_roundw
          case rel =>
            obtain ⟨f1, f2, f3, f4, f5⟩ := HFIN.out _ rfl
            exact ⟨s + 1, by go_num, by omega, f1, f2, f3, fun _ => ⟨g4, rfl, hg4, f4⟩, f5⟩
          case measure => simp [intOf]; omega
      obtain rfl : st = s := by omega
      have q1 : ((len3 : Int) != len3) = false := by simp
      obtain ⟨w10, rfl⟩ : ∃ x, x = wr := ⟨_, rfl⟩
      go_wp2_with (go_at_call 9; refine (len4_ ga len3 len3 _).mono ?_)
      rintro e wz ⟨rfl, rfl⟩
      go_wp2
      go_loopw [22] (fun t wx => ∃ k : Nat, t = .int .i64 k ∧ k ≤ len3 ∧ Below w10.heap.size w10 wx) (fun t _ => len3 - (intOf t).toNat)
      case atStart => exact ⟨0, rfl, by omega, Below.refl _ _⟩
      case round =>
        obtain ⟨k, rfl, hk, hb⟩ := hrel
        have HBK := Lib.hid hb
        clear hb
        by_cases hlt2 : k < len3
        · obtain ⟨x, hx⟩ : ∃ x, perm I J st k = x := ⟨_, rfl⟩
          have hxl : x < len3 := by rw [← hx]; exact perm_lt HIn.out HJn.out st k hlt2
          obtain ⟨p0, p1, p2, p3⟩ := (HQA.out.below' HBK.out (Nat.le_refl _)).cell hlt2
          obtain ⟨o0, o1, o2, o3⟩ := (HQO.out.below' HBK.out (Nat.le_refl _)).cell hxl
          have r0 : wr.cell? ⟨w7.heap.size, k, none⟩ = some (.int .i64 (x : Nat)) := by
            have := HPR.out.cell hlt2
            rw [hx] at this
            exact (HBK.out.cell (p := ⟨w7.heap.size, k, none⟩) HPR.out.lt).trans this
          simp only [hx] at p0 p1 p2 p3
          have f0 := bne_self (E x).a
          have f1 := bne_self (E x).b
          have f2 := bne_self (E x).c
          have f3 := bne_self (E x).d
          generalize (E x).a = ea at p0 o0 f0
          generalize (E x).b = eb at p1 o1 f1
          generalize (E x).c = ec at p2 o2 f2
          generalize (E x).d = ed at p3 o3 f3
          clear hx
          go_wp2
          go_quiet (fail)
          go_wp2
          go_roundw
          case rel => exact ⟨k + 1, by go_num, by omega, below_drewN HBK.out _⟩
          case measure => simp [intOf]; omega
        obtain rfl : len3 = k := by omega
        have HQA2 := Lib.hid (HQA.out.below' HBK.out (Nat.le_refl _)); have HQO2 := Lib.hid (HQO.out.below' HBK.out (Nat.le_refl _))
        have HCL2 : Hid (0 < len4 → ∃ g4, A5 = some ⟨g4, 0, none⟩ ∧ g4 < w6.heap.size ∧ ColA wr g4 len4 (fun m => X4.getD m 0)) := Lib.hid (fun h => by
          obtain ⟨g4, e4, l4, c4⟩ := HCL.out h
          exact ⟨g4, e4, l4, c4.below HBK.out (Nat.le_refl _)⟩)
        have HB2 := Lib.hid (HB.out.trans (HBK.out.mono HB.out.size))
        obtain ⟨w11, rfl⟩ : ∃ x, x = wr := ⟨_, rfl⟩
        clear HQA HQO HPR HCL HB HBK
        go_wp2
        go_loopw [23] (fun t wx => ∃ (z : Int) (s : Nat), t = .int .i64 z ∧ z = (s : Int) - 1 ∧ s ≤ st ∧ Quads wx ga 35 len3 len3 (fun m => E (perm I J s m)) ∧ Quads wx go_ 35 len3 len3 E ∧ (0 < len4 → ∃ g4, A5 = some ⟨g4, 0, none⟩ ∧ g4 < w6.heap.size ∧ ColA wx g4 len4 (fun m => X4.getD m 0)) ∧ Below w.heap.size w wx) (fun t _ => (intOf t + 1).toNat)
        case atStart => exact ⟨_, st, rfl, by omega, by omega, HQA2.out, HQO2.out, HCL2.out, HB2.out⟩
        case round =>
          obtain ⟨z, s, rfl, hz, hs2, hqa, hqo, hcl, hb⟩ := hrel
          have HQA := Lib.hid hqa; have HQO := Lib.hid hqo; have HCL := Lib.hid hcl; have HB := Lib.hid hb
          clear hqa hqo hcl hb HQA2 HQO2 HCL2 HB2
          cases s with
          | succ s =>
            obtain rfl : z = (s : Nat) := by omega
            clear hz
            obtain ⟨g4, rfl, hg4, hcol⟩ := HCL.out (by omega)
            obtain ⟨a, c, ha, hc, ha1, hc1, ham, hcm⟩ := HIJ.out s (by omega)
            have c0 := hcol.2 (2 * s) (by omega)
            have c1 := hcol.2 (2 * s + 1) (by omega)
            simp only [ha, hc] at c0 c1
            have HCOL := Lib.hid hcol
            clear hcol ha hc
            have hi := HIn.out s
            have hj := HJn.out s
            go_wp2_with (go_at_call 8; refine (swap4 ga len3 len3 (fun m => E (perm I J (s + 1) m)) (I s) (J s) hi hj (by omega) _ HQA.out).mono ?_)
            rintro e w9 ⟨rfl, hq, hg⟩
            rw [exE_comp, show exE (perm I J (s + 1)) (I s) (J s) = perm I J s from exE_exE _ _ _] at hq
            have HQ9 := Lib.hid hq
            have HO9 := Lib.hid (HQO.out.grown hg (by simp; exact hne1))
            have HC9 := Lib.hid (colA_grown HCOL.out hg (by simp; omega))
            have HB9 := Lib.hid (HB.out.grown hg HB.out.size (fun k hk => by obtain rfl := Option.some.inj hk; omega))
            clear hq hg c0 c1
            go_wp2
            go_roundw
            case rel => exact ⟨_, s, rfl, by omega, by omega, HQ9.out, HO9.out, fun _ => ⟨g4, rfl, hg4, HC9.out⟩, HB9.out⟩
            case measure => first | (simp [intOf]; done) | (simp [intOf]; omega)
          | zero =>
            obtain rfl : z = -1 := by omega
            clear hz
            obtain ⟨w12, rfl⟩ : ∃ x, x = wr := ⟨_, rfl⟩
            go_wp2
            go_loopw [26] (fun t wx => ∃ k : Nat, t = .int .i64 k ∧ k ≤ len3 ∧ Below w12.heap.size w12 wx) (fun t _ => len3 - (intOf t).toNat)
            case atStart => exact ⟨0, rfl, by omega, Below.refl _ _⟩
            case round =>
              obtain ⟨k, rfl, hk, hb⟩ := hrel
              have HBK := Lib.hid hb
              clear hb
              by_cases hlt2 : k < len3
              · obtain ⟨p0, p1, p2, p3⟩ := (HQA.out.below' HBK.out (Nat.le_refl _)).cell hlt2
                obtain ⟨o0, o1, o2, o3⟩ := (HQO.out.below' HBK.out (Nat.le_refl _)).cell hlt2
                simp only [perm] at p0 p1 p2 p3
                have f0 := bne_self (E k).a
                have f1 := bne_self (E k).b
                have f2 := bne_self (E k).c
                have f3 := bne_self (E k).d
                generalize (E k).a = ea at p0 o0 f0
                generalize (E k).b = eb at p1 o1 f1
                generalize (E k).c = ec at p2 o2 f2
                generalize (E k).d = ed at p3 o3 f3
                go_wp2
                go_quiet (fail)
                go_wp2
                go_roundw
                case rel => exact ⟨k + 1, by go_num, by omega, below_drewN HBK.out _⟩
                case measure => simp [intOf]; omega
              · have HF := Lib.hid (HB.out.trans (HBK.out.mono HB.out.size))
                go_wp2
                go_ret
                exact ⟨rfl, HF.out⟩

/-! ### THE ROW's STEP -/
set_option maxRecDepth 100000 in
theorem lifted (os : Os) (started : os.Started) (H : Type) (enc : TypeId × Value → H) :
    ReturnsInHanded {} Try.checked os 3 .any (Rows.fnStableSymbolCountArraySwapScriptUndoSpec.pre6 enc Try.prog Try.f3 Rows.fnStableSymbolCountArraySwapScriptUndoRow.domain false) (Rows.fnStableSymbolCountArraySwapScriptUndoSpec.post enc Try.prog Try.f3 false true false false) := by
  refine returnsInHanded_of_change (C := Try.checked) own started (by kernel_rfl) Try.func3
    (ChangeSpec.witness6 (enc := enc) (C := Try.checked) false ⟨#[], #[.slice none 0 0, .slice none 0 0, .slice none 0 0, .slice none 0 0, .slice none 0 0], []⟩ 8 (by kernel_rfl) (by kernel_rfl) (by kernel_rfl) (by kernel_rfl)) ?_
  intro W base args ds gs before hval0 hW hcnd _
  have hval : ∀ (j : Nat) t v, Try.f3.params[j]? = some t → args[j]? = some v → Value.okWide Try.prog W .any base t v := hval0
  have hW' := hW
  obtain ⟨p, q, hA0, hV, rfl, hfz, hnd⟩ := hW
  have hA : DataW.TrodAll enc Try.prog W 0 (fun _ => true) true Try.f3.params.toList args.toList ds p := hA0
  rw [Try.params3] at hA hval
  obtain ⟨v0, vs0, d0, ds0, p0, q0, hargs, rfl, rfl, h0, r0⟩ := trodAll_cons hA
  obtain ⟨v1, vs1, d1, ds1, p1, q1, rfl, rfl, rfl, h1, r1⟩ := trodAll_cons r0
  obtain ⟨v2, vs2, d2, ds2, p2, q2, rfl, rfl, rfl, h2, r2⟩ := trodAll_cons r1
  obtain ⟨v3, vs3, d3, ds3, p3, q3, rfl, rfl, rfl, h3, r3⟩ := trodAll_cons r2
  obtain ⟨v4, vs4, d4, ds4, p4, q4, rfl, rfl, rfl, h4, r4⟩ := trodAll_cons r3
  obtain ⟨rfl, rfl, rfl⟩ := trodAll_nil r4
  obtain rfl : args = #[v0, v1, v2, v3, v4] := by cases args; simp_all
  obtain ⟨rfl, rfl⟩ := trodVars_none hV
  have k0 := h0
  have lt0 : ∀ x ∈ p0, x.block < W.heap.size := by obtain ⟨m, hm⟩ := k0; exact DataW.trod_lt m _ _ _ hm
  have k1 := h1
  have lt1 : ∀ x ∈ p1, x.block < W.heap.size := by obtain ⟨m, hm⟩ := k1; exact DataW.trod_lt m _ _ _ hm
  have k2 := h2
  have lt2 : ∀ x ∈ p2, x.block < W.heap.size := by obtain ⟨m, hm⟩ := k2; exact DataW.trod_lt m _ _ _ hm
  have k3 := h3
  have lt3 : ∀ x ∈ p3, x.block < W.heap.size := by obtain ⟨m, hm⟩ := k3; exact DataW.trod_lt m _ _ _ hm
  have k4 := h4
  have lt4 : ∀ x ∈ p4, x.block < W.heap.size := by obtain ⟨m, hm⟩ := k4; exact DataW.trod_lt m _ _ _ hm
  obtain ⟨a0, len0, cap0, rfl⟩ := okWide_slice Try.underlying22 (hval 0 22 v0 rfl rfl)
  obtain ⟨z0, w0⟩ : ∃ zs, IsRow .u32 W a0 len0 cap0 zs := by
    obtain ⟨fuel, hf⟩ := h0
    rcases open_ints Try.underlying22 Try.underlying29 (by kernel_rfl) hf with ⟨hcs, _⟩ | ⟨x, l, c, zs, hcs, _, hl, hm, hz, _, hcell, hwz⟩
    · simp [Value.cells] at hcs
      obtain ⟨rfl, rfl, rfl⟩ := hcs
      exact ⟨[], .inl ⟨rfl, rfl, rfl, rfl⟩⟩
    · simp [Value.cells] at hcs
      obtain ⟨rfl, rfl, rfl⟩ := hcs
      exact ⟨zs, .inr ⟨_, rfl, hl, hm, by simpa using hz, hcell, hwz⟩⟩
  obtain ⟨a1, len1, cap1, rfl⟩ := okWide_slice Try.underlying22 (hval 1 22 v1 rfl rfl)
  obtain ⟨z1, w1⟩ : ∃ zs, IsRow .u32 W a1 len1 cap1 zs := by
    obtain ⟨fuel, hf⟩ := h1
    rcases open_ints Try.underlying22 Try.underlying29 (by kernel_rfl) hf with ⟨hcs, _⟩ | ⟨x, l, c, zs, hcs, _, hl, hm, hz, _, hcell, hwz⟩
    · simp [Value.cells] at hcs
      obtain ⟨rfl, rfl, rfl⟩ := hcs
      exact ⟨[], .inl ⟨rfl, rfl, rfl, rfl⟩⟩
    · simp [Value.cells] at hcs
      obtain ⟨rfl, rfl, rfl⟩ := hcs
      exact ⟨zs, .inr ⟨_, rfl, hl, hm, by simpa using hz, hcell, hwz⟩⟩
  obtain ⟨a2, len2, cap2, rfl⟩ := okWide_slice Try.underlying22 (hval 2 22 v2 rfl rfl)
  obtain ⟨z2, w2⟩ : ∃ zs, IsRow .u32 W a2 len2 cap2 zs := by
    obtain ⟨fuel, hf⟩ := h2
    rcases open_ints Try.underlying22 Try.underlying29 (by kernel_rfl) hf with ⟨hcs, _⟩ | ⟨x, l, c, zs, hcs, _, hl, hm, hz, _, hcell, hwz⟩
    · simp [Value.cells] at hcs
      obtain ⟨rfl, rfl, rfl⟩ := hcs
      exact ⟨[], .inl ⟨rfl, rfl, rfl, rfl⟩⟩
    · simp [Value.cells] at hcs
      obtain ⟨rfl, rfl, rfl⟩ := hcs
      exact ⟨zs, .inr ⟨_, rfl, hl, hm, by simpa using hz, hcell, hwz⟩⟩
  obtain ⟨a3, len3, cap3, rfl⟩ := okWide_slice Try.underlying22 (hval 3 22 v3 rfl rfl)
  obtain ⟨z3, w3⟩ : ∃ zs, IsRow .u32 W a3 len3 cap3 zs := by
    obtain ⟨fuel, hf⟩ := h3
    rcases open_ints Try.underlying22 Try.underlying29 (by kernel_rfl) hf with ⟨hcs, _⟩ | ⟨x, l, c, zs, hcs, _, hl, hm, hz, _, hcell, hwz⟩
    · simp [Value.cells] at hcs
      obtain ⟨rfl, rfl, rfl⟩ := hcs
      exact ⟨[], .inl ⟨rfl, rfl, rfl, rfl⟩⟩
    · simp [Value.cells] at hcs
      obtain ⟨rfl, rfl, rfl⟩ := hcs
      exact ⟨zs, .inr ⟨_, rfl, hl, hm, by simpa using hz, hcell, hwz⟩⟩
  obtain ⟨a4, len4, cap4, rfl⟩ := okWide_slice Try.underlying22 (hval 4 22 v4 rfl rfl)
  obtain ⟨z4, w4⟩ : ∃ zs, IsRow .u32 W a4 len4 cap4 zs := by
    obtain ⟨fuel, hf⟩ := h4
    rcases open_ints Try.underlying22 Try.underlying29 (by kernel_rfl) hf with ⟨hcs, _⟩ | ⟨x, l, c, zs, hcs, _, hl, hm, hz, _, hcell, hwz⟩
    · simp [Value.cells] at hcs
      obtain ⟨rfl, rfl, rfl⟩ := hcs
      exact ⟨[], .inl ⟨rfl, rfl, rfl, rfl⟩⟩
    · simp [Value.cells] at hcs
      obtain ⟨rfl, rfl, rfl⟩ := hcs
      exact ⟨zs, .inr ⟨_, rfl, hl, hm, by simpa using hz, hcell, hwz⟩⟩
  clear hA0 hval0
  refine (walk a0 len0 cap0 z0 a1 len1 cap1 z1 a2 len2 cap2 z2 a3 len3 cap3 z3 a4 len4 cap4 z4 W w0 w1 w2 w3 w4 ).mono fun e W' ⟨he, bel⟩ => ?_
  subst he
  exact ⟨_, rfl, _, _, _, [], _, [], hW', trodAll_mk1 (shut_bool Try.underlying4 _), (trodAll_cons_mk (Below.trod laidOut (by kernel_rfl) (of_decide_eq_true (by kernel_rfl)) k0 bel lt0) (trodAll_cons_mk (Below.trod laidOut (by kernel_rfl) (of_decide_eq_true (by kernel_rfl)) k1 bel lt1) (trodAll_cons_mk (Below.trod laidOut (by kernel_rfl) (of_decide_eq_true (by kernel_rfl)) k2 bel lt2) (trodAll_cons_mk (Below.trod laidOut (by kernel_rfl) (of_decide_eq_true (by kernel_rfl)) k3 bel lt3) (trodAll_cons_mk (Below.trod laidOut (by kernel_rfl) (of_decide_eq_true (by kernel_rfl)) k4 bel lt4) trodAll_mk0))))), rfl, bel.frame _, fun h => by cases h⟩

theorem over : Rows.fnStableSymbolCountArraySwapScriptUndoRow.holds Try.pinned (OpenSpec.ofChange Rows.fnStableSymbolCountArraySwapScriptUndoSpec) :=
  OpenClaim.holds_of_wide 3 Try.f3 rfl rfl rfl rfl rfl rfl rfl ⟨rfl, rfl, rfl, rfl, rfl⟩ rfl rfl rfl rfl rfl (by kernel_rfl) Try.func3 (by kernel_rfl)
    (of_decide_eq_true (by kernel_rfl)) (by unfold Func.isWrapper; first | (rw [if_pos (by decide +kernel)]; kernel_rfl) | (rw [if_neg (by decide +kernel)]; exact ⟨rfl, rfl⟩))
    (fun os started H enc _ => lifted os started H enc)

theorem proved : Rows.FnStableSymbolCountArraySwapScriptUndoSaid := over
#print axioms proved
end Go.Proofs.Ytmgiffcdnhapmaa.fnStableSymbolCountArraySwapScriptUndo