/- zzBuild (n011_92), the state of its outer loop: v files are laid. -/
import Derived.Test.YtecncdcfmmceeaaGreatTns
namespace Go.Proofs.YtecncdcfmmceeaaGreat
open Go.RowKit
set_option linter.unusedVariables false
set_option linter.unusedSimpArgs false
def RowN (G : TG) (v : Nat) (jb : Nat → Nat) (cs : Array Value) (i : Nat) : Prop := (i < v → G.ok i = true → cs[i * 27 + 4]? = some (.iface 157 (.pointer (some ⟨jb i, 0, none⟩)))) ∧ cs[i * 27 + 22]? = some (.int .u32 0) ∧ cs[i * 27 + 23]? = some (.int .u32 0) ∧ cs[i * 27 + 24]? = some (.int .u32 0) ∧ cs[i * 27 + 25]? = some (.int .u32 0) ∧ cs[i * 27 + 26]? = some (.bool (decide (i < v) && G.ok i))
structure L3 (w : World) (G : TG) (rb sb v : Nat) (jb : Nat → Nat) (wr : World) : Prop where
  scan : ∃ css, Blk wr sb 153 css ∧ css[11]? = some (.slice (some ⟨rb, 0, none⟩) G.n G.n)
  res : ∃ cs, Blk wr rb 87 cs ∧ cs.size = G.n * 27 ∧ ∀ i, i < G.n → RowN G v jb cs i
  js : ∀ i, i < v → G.ok i = true → JsOK G wr (jb i) i
  bel : Below w.heap.size w wr
  rbw : w.heap.size ≤ rb
theorem mkPR_get (n i j : Nat) (hi : i < n) (hj : j < 27) : (mkPR n)[i * 27 + j]? = zPR.cells[j]? := by
  have h1 : i * 27 + j < n * 27 := by omega
  have h2 : (i * 27 + j) % 27 = j := by omega
  have hz : zPR.cells.size = 27 := rfl
  have h3 : zPR.cells[j]? = some (zPR.cells[j]'(by omega)) := Array.getElem?_eq_getElem _
  rw [h3]
  simp [mkPR, madeCells, h1, hz, h2]
  rw [show (zPR.cells)[j]! = zPR.cells[j]'(by omega) from getElem!_pos zPR.cells j (by omega)]
theorem L3.start {w wr : World} {G : TG} {rb sb : Nat} {css : Array Value} (hrb : w.heap.size ≤ rb) (hb : Blk wr rb 87 (mkPR G.n)) (hs : Blk wr sb 153 css) (h11 : css[11]? = some (.slice (some ⟨rb, 0, none⟩) G.n G.n)) (hg : w.grownBy wr none) : L3 w G rb sb 0 (fun _ => 0) wr := by
  refine ⟨⟨css, hs, h11⟩, ⟨_, hb, mkPR_size G.n, fun i hi => ⟨fun h => absurd h (Nat.not_lt_zero _), ?_, ?_, ?_, ?_, ?_⟩⟩, fun i hi => absurd hi (Nat.not_lt_zero _), below_grown (Below.refl _ _) hg, hrb⟩
  · rw [mkPR_get _ _ _ hi (by omega)]; rfl
  · rw [mkPR_get _ _ _ hi (by omega)]; rfl
  · rw [mkPR_get _ _ _ hi (by omega)]; rfl
  · rw [mkPR_get _ _ _ hi (by omega)]; rfl
  · rw [mkPR_get _ _ _ hi (by omega)]; simp; rfl
theorem L3.skip {w wr : World} {G : TG} {rb sb v : Nat} {jb : Nat → Nat} (h : L3 w G rb sb v jb wr) (hv : G.ok v = false) : L3 w G rb sb (v + 1) jb wr := by
  obtain ⟨h1, ⟨cs, h2, h3, h4⟩, h5, h6, h7⟩ := h
  refine ⟨h1, ⟨cs, h2, h3, fun i hi => ?_⟩, fun i hi ho => ?_, h6, h7⟩
  · obtain ⟨r1, r2, r3, r4, r5, r6⟩ := h4 i hi
    refine ⟨fun hl ho => ?_, r2, r3, r4, r5, ?_⟩
    · rcases Nat.lt_or_ge i v with h8 | h8
      · exact r1 h8 ho
      · obtain rfl : i = v := by omega
        rw [hv] at ho; cases ho
    · rw [r6]
      by_cases e : i = v
      · subst e; rw [hv]; simp
      · congr 3
        exact decide_eq_decide.2 (by omega)
  · rcases Nat.lt_or_ge i v with h8 | h8
    · exact h5 i h8 ho
    · obtain rfl : i = v := by omega
      rw [hv] at ho; cases ho
theorem L3.grown {w wr wa : World} {G : TG} {rb sb v : Nat} {jb : Nat → Nat} (h : L3 w G rb sb v jb wr) (hg : wr.grownBy wa none) : L3 w G rb sb v jb wa := by
  obtain ⟨⟨css, h0, h1⟩, ⟨cs, h2, h3, h4⟩, h5, h6, h7⟩ := h
  exact ⟨⟨css, h0.grown hg (by simp), h1⟩, ⟨cs, h2.grown hg (by simp), h3, h4⟩, fun i hi ho => (h5 i hi ho).kept hg, below_grown h6 hg, h7⟩
theorem L3.lay {w wr : World} {G : TG} {rb sb v x : Nat} {jb : Nat → Nat} (h : L3 w G rb sb v jb wr) (hv : v < G.n) (ho : G.ok v = true) (hj : JsOK G wr x v) : L3 w G rb sb (v + 1) (updF jb v x) (putRow wr rb (v * 27) v x) := by
  obtain ⟨⟨css, h0, h1⟩, ⟨cs, h2, h3, h4⟩, h5, h6, h7⟩ := h
  have hgr := putRow_grown wr rb (v * 27) v x
  have hfit : v * 27 + (prRow v x).length ≤ cs.size := by
    rw [h3]; show v * 27 + 27 ≤ _; omega
  refine ⟨⟨css, h0.grown hgr (fun e => h0.ne_ h2 (by decide) (Option.some.inj e)), h1⟩, ⟨_, putRow_blk h2, by rw [putL_size]; exact h3, fun i hi => ?_⟩, fun i hi hoi => ?_, below_row h6 hgr (fun g e => by injection e with e; omega), h7⟩
  · by_cases e : i = v
    · subst e
      have hp : ∀ j, j < 27 → (putL cs (i * 27) (prRow i x))[i * 27 + j]? = (prRow i x)[j]? := fun j hj => putL_in _ _ _ _ hj hfit
      unfold RowN
      rw [hp 4 (by omega), hp 22 (by omega), hp 23 (by omega), hp 24 (by omega), hp 25 (by omega), hp 26 (by omega), updF_self, ho]
      exact ⟨fun _ _ => rfl, rfl, rfl, rfl, rfl, by simp; rfl⟩
    · have hp : ∀ j, j < 27 → (putL cs (v * 27) (prRow v x))[i * 27 + j]? = cs[i * 27 + j]? := fun j hj => putL_out _ _ _ _ (by
        show _ ∨ v * 27 + 27 ≤ _
        omega)
      obtain ⟨r1, r2, r3, r4, r5, r6⟩ := h4 i hi
      unfold RowN
      rw [hp 4 (by omega), hp 22 (by omega), hp 23 (by omega), hp 24 (by omega), hp 25 (by omega), hp 26 (by omega), updF_ne _ _ e]
      exact ⟨fun hl hoi => r1 (by omega) hoi, r2, r3, r4, r5, by rw [r6]; congr 3; exact decide_eq_decide.2 (by omega)⟩
  · by_cases e : i = v
    · subst e; rw [updF_self]; exact hj.row_ hgr h2
    · rw [updF_ne _ _ e]; exact (h5 i (by omega) hoi).row_ hgr h2
theorem L3.fin {w wr : World} {G : TG} {rb sb : Nat} {jb : Nat → Nat} (h : L3 w G rb sb G.n jb wr) : TW1 G rb sb jb σ0 wr := by
  obtain ⟨⟨css, h0, h1⟩, ⟨cs, h2, h3, h4⟩, h5, h6, h7⟩ := h
  have e0 : ((INV - INV : Nat) : Int) = 0 := by rw [Nat.sub_self]; rfl
  refine ⟨⟨cs, h2, h3, fun i hi => ?_⟩, ⟨css, G.n, h0, h1, Nat.le_refl _⟩, fun i hi ho => h5 i hi ho⟩
  obtain ⟨r1, r2, r3, r4, r5, r6⟩ := h4 i hi
  refine ⟨r1 hi, ?_, ?_, r4, r5, by rw [r6]; simp [hi]⟩
  · show _ = some (Value.int .u32 ((INV - INV : Nat) : Int)); rw [e0]; exact r2
  · show _ = some (Value.int .u32 ((INV - INV : Nat) : Int)); rw [e0]; exact r3
end Go.Proofs.YtecncdcfmmceeaaGreat
