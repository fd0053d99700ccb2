/- n011_287: a fresh renamer, readers, same slots, the slot of a symbol. -/
import Derived.Test.YtdmllmipcfkaaaaAlc
import Derived.Test.YtdmllmipcfkaaaaBzz
namespace Go.Proofs.Ytdmllmipcfkaaaa
open Go.RowKit Go.Maps Go.WideMaps
set_option linter.unusedVariables false
set_option linter.unusedSimpArgs false
theorem slC_rep {cs : Array Value} {c : Nat} (hs : cs.size = c * 3) (h : ∀ m, m < c → cs[m * 3]? = some (.string ⟨#[]⟩) ∧ cs[m * 3 + 1]? = some (.int .u32 0) ∧ cs[m * 3 + 2]? = some (.int .u32 0)) : cs.toList = slC (List.replicate c (0, 0)) := by
  apply List.ext_getElem?
  intro i
  rw [Array.getElem?_toList]
  by_cases hi : i < c * 3
  · have hm : i / 3 < c := by omega
    obtain ⟨h0, h1, h2⟩ := h (i / 3) hm
    obtain ⟨k0, k1, k2⟩ := slC_at (List.replicate c (0, 0)) (i / 3) (0, 0) (by rw [List.getElem?_replicate, if_pos hm])
    rcases (by omega : i = i / 3 * 3 ∨ i = i / 3 * 3 + 1 ∨ i = i / 3 * 3 + 2) with e | e | e
    · rw [e, h0, k0]
    · rw [e, h1, k1]
    · rw [e, h2, k2]
  · rw [Array.getElem?_eq_none (by omega), List.getElem?_eq_none (by rw [slC_len]; simp; omega)]
theorem tmap_new {w : World} {b : Nat} (h : w.heap[b]? = some (.map #[] 0)) : TMap w b 0 (.map []) := by
  have hm := World.ownsMap_made (H := Unit) w Try.prog 44 (plainElem Try.prog 23)
  obtain ⟨es, cl, hb, r⟩ := hm
  have e := (heap_alloc_new w (.map #[] 0)).symm.trans hb
  injection e with e
  injection e with e1 e2
  subst e1 e2
  exact ⟨_, _, h, r⟩
/-- A fresh renamer. -/
theorem TRen.fresh {B o : Nat} {mo : Option Nat} {br gm : Nat} {gs cn : Nat → Nat} {g n : Nat} {S : Nat → SymR} {w : World} (h : RS o mo br gm gs cn (fun _ _ => 0) (fun _ _ => 0) w) (hm : w.heap[gm]? = some (.map #[] 0)) (hB : ∀ j, j < 4 → B ≤ gs j) (hc : ∀ j, j < 4 → cn j ≤ 65536) (ho : Out1 w o g n) (ht : Tbl w g n S) :
    TRen B o mo br gm (slV gs cn) g n S 0 ⟨fun j => List.replicate (cn j) (0, 0), fun _ => none⟩ w := by
  refine ⟨h.blk, fun j hj => ?_, fun i j hi hj hne b hb hb' => ?_, ⟨0, .map [], Nat.le_refl _, tmap_new hm, fun r hr => ⟨rfl, rfl⟩⟩, ho, ht⟩
  · obtain ⟨cs, h1, h2, h3⟩ := h.slt j hj
    have e := slC_rep h2 h3
    refine ⟨by rw [slC_len], .inr ⟨gs j, cn j, cs, by simp [slV], hB j hj, h1, by simp, by have := hc j hj; unfold maxLen; omega, h2, ?_⟩⟩
    rw [← e]
    exact List.take_of_length_le (by simp [h2])
  · have e1 : gs i = b := Option.some.inj (show some (gs i) = some b from hb)
    have e2 : gs j = b := Option.some.inj (show some (gs j) = some b from hb')
    exact hne (h.inj i j hi hj (e1.trans e2.symm))
theorem TRen.vals {B o : Nat} {mo : Option Nat} {br gm : Nat} {vs : Nat → Value} {g n : Nat} {S : Nat → SymR} {N : Nat} {t : TS} {w : World} (h : TRen B o mo br gm vs g n S N t w) {j : Nat} (hj : j < 4) : ∃ vA vc, vs j = .slice vA (t.sl j).length vc := by
  rcases (h.own j hj).2 with ⟨hv, h0⟩ | ⟨b, cap, cur, hv, _⟩
  · exact ⟨none, 0, by rw [hv, h0]⟩
  · exact ⟨_, _, hv⟩
theorem TRen.slotAt' {B o : Nat} {mo : Option Nat} {br gm : Nat} {vs : Nat → Value} {g n : Nat} {S : Nat → SymR} {N : Nat} {t : TS} {w : World} (h : TRen B o mo br gm vs g n S N t w) {j v : Nat} (hj : j < 4) {p : Int × Int} (hp : (t.sl j)[v]? = some p) :
    ∃ b cap, vs j = .slice (some ⟨b, 0, none⟩) (t.sl j).length cap ∧ b < w.heap.size ∧ w.cell? ⟨br, 1 + j, none⟩ = some (.slice (some ⟨b, 0, none⟩) (t.sl j).length cap) ∧ w.cell? ⟨b, v * 3 + 1, none⟩ = some (.int .u32 p.1) ∧ w.cell? ⟨b, v * 3 + 2, none⟩ = some (.int .u32 p.2) ∧ (∀ i, w.frozen? ⟨b, i, none⟩ = false) := by
  have hv : v < (t.sl j).length := (List.getElem?_eq_some_iff.1 hp).1
  have ho := h.own j hj
  rcases ho.2 with ⟨_, h0⟩ | ⟨b, cap, cur, hvj, _, hb, _⟩
  · omega
  · refine ⟨b, cap, hvj, Blk.lt hb, ?_, ?_⟩
    · have := h.slotCell hj; rwa [hvj] at this
    · rw [hvj] at ho
      obtain ⟨_, h1, h2⟩ := slC_at _ _ _ hp
      exact ⟨(ho.cellAt _ (by omega)).trans h1, (ho.cellAt _ (by omega)).trans h2, fun i => ho.frozenAt i⟩
set_option maxHeartbeats 1000000 in
set_option maxRecDepth 100000 in
theorem slotLen {B o : Nat} {mo : Option Nat} {br gm : Nat} {vs : Nat → Value} {g n : Nat} {S : Nat → SymR} {N : Nat} {t : TS} (j : Nat) (hj : j < 4) (w : World) (h : TRen B o mo br gm vs g n S N t w) :
    Calls Try.prog 22 #[.pointer (some ⟨br, 0, none⟩), .int .i64 j] w fun e w' => e = .returned (.int .i64 ((t.sl j).length : Nat)) ∧ w = w' := by
  obtain ⟨vA, vc, hv⟩ := h.vals hj
  have m0 := h.slotCell hj
  rw [hv] at m0
  generalize (t.sl j).length = ln at m0
  clear h hv
  go_enter Try.func22, Try.ntmps22
  go_wp2
  go_ret
  exact ⟨rfl, rfl⟩
set_option maxHeartbeats 1000000 in
set_option maxRecDepth 100000 in
theorem slotCount {B o : Nat} {mo : Option Nat} {br gm : Nat} {vs : Nat → Value} {g n : Nat} {S : Nat → SymR} {N : Nat} {t : TS} (j k : Nat) (hj : j < 4) (p : Int × Int) (hp : (t.sl j)[k]? = some p) (hlen : (t.sl j).length ≤ 16777216) (w : World) (h : TRen B o mo br gm vs g n S N t w) :
    Calls Try.prog 23 #[.pointer (some ⟨br, 0, none⟩), .int .i64 j, .int .i64 k] w fun e w' => e = .returned (.int .u32 p.1) ∧ w = w' := by
  have hk : k < (t.sl j).length := (List.getElem?_eq_some_iff.1 hp).1
  obtain ⟨b, cap, hvj, hbl, m0, m1, m2, mf⟩ := h.slotAt' hj hp
  obtain ⟨p1, p2⟩ := p
  simp only at m1 m2
  generalize (t.sl j).length = ln at m0 hk hlen
  clear h hvj hp mf
  go_enter Try.func23, Try.ntmps23
  go_wp2
  go_ret
  exact ⟨rfl, rfl⟩
set_option maxHeartbeats 1000000 in
set_option maxRecDepth 100000 in
theorem slotCap {B o : Nat} {mo : Option Nat} {br gm : Nat} {vs : Nat → Value} {g n : Nat} {S : Nat → SymR} {N : Nat} {t : TS} (j k : Nat) (hj : j < 4) (p : Int × Int) (hp : (t.sl j)[k]? = some p) (hlen : (t.sl j).length ≤ 16777216) (w : World) (h : TRen B o mo br gm vs g n S N t w) :
    Calls Try.prog 24 #[.pointer (some ⟨br, 0, none⟩), .int .i64 j, .int .i64 k] w fun e w' => e = .returned (.int .u32 p.2) ∧ w = w' := by
  have hk : k < (t.sl j).length := (List.getElem?_eq_some_iff.1 hp).1
  obtain ⟨b, cap, hvj, hbl, m0, m1, m2, mf⟩ := h.slotAt' hj hp
  obtain ⟨p1, p2⟩ := p
  simp only at m1 m2
  generalize (t.sl j).length = ln at m0 hk hlen
  clear h hvj hp mf
  go_enter Try.func24, Try.ntmps24
  go_wp2
  go_ret
  exact ⟨rfl, rfl⟩
end Go.Proofs.Ytdmllmipcfkaaaa
