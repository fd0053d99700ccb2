/- n011_102: a fresh renamer, readers, same slots, the slot of a symbol. -/
import Derived.Test.YtlpmkbdglpnjhaaAlc
import Derived.Test.YtlpmkbdglpnjhaaYpl
import Derived.Maps.OwnSet
namespace Go.Proofs.Ytlpmkbdglpnjhaa
open Go.RowKit Go.Maps Go.WideMaps
set_option linter.unusedVariables false
set_option linter.unusedSimpArgs false
theorem slC_rep {cs : Array Value} {c : Nat} (hs : cs.size = c * 3) (h : ∀ m, m < c → cs[m * 3]? = some (.string ⟨#[]⟩) ∧ cs[m * 3 + 1]? = some (.int .u32 0) ∧ cs[m * 3 + 2]? = some (.int .u32 0)) : cs.toList = slC (List.replicate c (0, 0)) := by
  apply List.ext_getElem?
  intro i
  rw [Array.getElem?_toList]
  by_cases hi : i < c * 3
  · have hm : i / 3 < c := by omega
    obtain ⟨h0, h1, h2⟩ := h (i / 3) hm
    obtain ⟨k0, k1, k2⟩ := slC_at (List.replicate c (0, 0)) (i / 3) (0, 0) (by rw [List.getElem?_replicate, if_pos hm])
    rcases (by omega : i = i / 3 * 3 ∨ i = i / 3 * 3 + 1 ∨ i = i / 3 * 3 + 2) with e | e | e
    · rw [e, h0, k0]
    · rw [e, h1, k1]
    · rw [e, h2, k2]
  · rw [Array.getElem?_eq_none (by omega), List.getElem?_eq_none (by rw [slC_len]; simp; omega)]
theorem tmap_new {w : World} {b : Nat} (h : w.heap[b]? = some (.map #[] 0)) : TMap w b 0 (.map []) := by
  have hm := World.ownsMap_made (H := Unit) w Try.prog 40 (plainElem Try.prog 24)
  obtain ⟨es, cl, hb, r⟩ := hm
  have e := (heap_alloc_new w (.map #[] 0)).symm.trans hb
  injection e with e
  injection e with e1 e2
  subst e1 e2
  exact ⟨_, _, h, r⟩
/-- A fresh renamer. -/
theorem TRen.fresh {B o : Nat} {mo : Option Nat} {br gm : Nat} {gs cn : Nat → Nat} {g n : Nat} {S : Nat → SymR} {w : World} (h : RS o mo br gm gs cn (fun _ _ => 0) (fun _ _ => 0) w) (hm : w.heap[gm]? = some (.map #[] 0)) (hB : ∀ j, j < 4 → B ≤ gs j) (hc : ∀ j, j < 4 → cn j ≤ 65536) (ho : Out1 w o g n) (ht : Tbl w g n S) :
    TRen B o mo br gm (slV gs cn) g n S 0 ⟨fun j => List.replicate (cn j) (0, 0), fun _ => none⟩ w := by
  refine ⟨h.blk, fun j hj => ?_, fun i j hi hj hne b hb hb' => ?_, ⟨0, .map [], Nat.le_refl _, tmap_new hm, fun r hr => ⟨rfl, rfl⟩, [], List.nodup_nil, fun r => ⟨fun h => (by cases h), fun h => (by cases h)⟩, rfl⟩, ho, ht⟩
  · obtain ⟨cs, h1, h2, h3⟩ := h.slt j hj
    have e := slC_rep h2 h3
    refine ⟨by rw [slC_len], .inr ⟨gs j, cn j, cs, by simp [slV], hB j hj, h1, by simp, by have := hc j hj; unfold maxLen; omega, h2, ?_⟩⟩
    rw [← e]
    exact List.take_of_length_le (by simp [h2])
  · have e1 : gs i = b := Option.some.inj (show some (gs i) = some b from hb)
    have e2 : gs j = b := Option.some.inj (show some (gs j) = some b from hb')
    exact hne (h.inj i j hi hj (e1.trans e2.symm))
theorem TRen.vals {B o : Nat} {mo : Option Nat} {br gm : Nat} {vs : Nat → Value} {g n : Nat} {S : Nat → SymR} {N : Nat} {t : TS} {w : World} (h : TRen B o mo br gm vs g n S N t w) {j : Nat} (hj : j < 4) : ∃ vA vc, vs j = .slice vA (t.sl j).length vc := by
  rcases (h.own j hj).2 with ⟨hv, h0⟩ | ⟨b, cap, cur, hv, _⟩
  · exact ⟨none, 0, by rw [hv, h0]⟩
  · exact ⟨_, _, hv⟩
theorem TRen.slotAt' {B o : Nat} {mo : Option Nat} {br gm : Nat} {vs : Nat → Value} {g n : Nat} {S : Nat → SymR} {N : Nat} {t : TS} {w : World} (h : TRen B o mo br gm vs g n S N t w) {j v : Nat} (hj : j < 4) {p : Int × Int} (hp : (t.sl j)[v]? = some p) :
    ∃ b cap, vs j = .slice (some ⟨b, 0, none⟩) (t.sl j).length cap ∧ b < w.heap.size ∧ w.cell? ⟨br, 1 + j, none⟩ = some (.slice (some ⟨b, 0, none⟩) (t.sl j).length cap) ∧ w.cell? ⟨b, v * 3 + 1, none⟩ = some (.int .u32 p.1) ∧ w.cell? ⟨b, v * 3 + 2, none⟩ = some (.int .u32 p.2) ∧ (∀ i, w.frozen? ⟨b, i, none⟩ = false) := by
  have hv : v < (t.sl j).length := (List.getElem?_eq_some_iff.1 hp).1
  have ho := h.own j hj
  rcases ho.2 with ⟨_, h0⟩ | ⟨b, cap, cur, hvj, _, hb, _⟩
  · omega
  · refine ⟨b, cap, hvj, Blk.lt hb, ?_, ?_⟩
    · have := h.slotCell hj; rwa [hvj] at this
    · rw [hvj] at ho
      obtain ⟨_, h1, h2⟩ := slC_at _ _ _ hp
      exact ⟨(ho.cellAt _ (by omega)).trans h1, (ho.cellAt _ (by omega)).trans h2, fun i => ho.frozenAt i⟩
set_option maxHeartbeats 1000000 in
set_option maxRecDepth 100000 in
theorem slotLen {B o : Nat} {mo : Option Nat} {br gm : Nat} {vs : Nat → Value} {g n : Nat} {S : Nat → SymR} {N : Nat} {t : TS} (j : Nat) (hj : j < 4) (w : World) (h : TRen B o mo br gm vs g n S N t w) :
    Calls Try.prog 16 #[.pointer (some ⟨br, 0, none⟩), .int .i64 j] w fun e w' => e = .returned (.int .i64 ((t.sl j).length : Nat)) ∧ w = w' := by
  obtain ⟨vA, vc, hv⟩ := h.vals hj
  have m0 := h.slotCell hj
  rw [hv] at m0
  generalize (t.sl j).length = ln at m0
  clear h hv
  go_enter Try.func16, Try.ntmps16
  go_wp2
  go_ret
  exact ⟨rfl, rfl⟩
set_option maxHeartbeats 1000000 in
set_option maxRecDepth 100000 in
theorem slotCount {B o : Nat} {mo : Option Nat} {br gm : Nat} {vs : Nat → Value} {g n : Nat} {S : Nat → SymR} {N : Nat} {t : TS} (j k : Nat) (hj : j < 4) (p : Int × Int) (hp : (t.sl j)[k]? = some p) (hlen : (t.sl j).length ≤ 16777216) (w : World) (h : TRen B o mo br gm vs g n S N t w) :
    Calls Try.prog 17 #[.pointer (some ⟨br, 0, none⟩), .int .i64 j, .int .i64 k] w fun e w' => e = .returned (.int .u32 p.1) ∧ w = w' := by
  have hk : k < (t.sl j).length := (List.getElem?_eq_some_iff.1 hp).1
  obtain ⟨b, cap, hvj, hbl, m0, m1, m2, mf⟩ := h.slotAt' hj hp
  obtain ⟨p1, p2⟩ := p
  simp only at m1 m2
  generalize (t.sl j).length = ln at m0 hk hlen
  clear h hvj hp mf
  go_enter Try.func17, Try.ntmps17
  go_wp2
  go_ret
  exact ⟨rfl, rfl⟩
set_option maxHeartbeats 4000000 in
set_option maxRecDepth 100000 in
theorem topSlot {B o : Nat} {mo : Option Nat} {br gm : Nat} {vs : Nat → Value} {g n : Nat} {S : Nat → SymR} {N : Nat} {t : TS} (i : Nat) (hi : i ≤ 65536) (w : World) (h : TRen B o mo br gm vs g n S N t w) :
    Calls Try.prog 18 #[.pointer (some ⟨br, 0, none⟩), .agg #[.int .u32 0, .int .u32 i]] w (KPost (.tuple #[.int .u32 (((t.tm i).getD 0 : Nat) : Int), .bool (t.tm i).isSome]) w) := by
  obtain ⟨W0, hW0⟩ : ∃ W0, W0 = w.alloc (.cells #[.int .u32 0, .int .u32 (i : Nat)] 40) := ⟨_, rfl⟩
  have hg0 : w.grownBy W0 none := by rw [hW0]; exact only_alloc (World.grownBy.refl _ _) _
  have hbx : Blk W0 w.heap.size 40 #[.int .u32 0, .int .u32 (i : Nat)] := by rw [hW0]; exact Blk.new _ _ _
  have h0 := h.grown hg0
  obtain ⟨mk, D, hmk, hm, hti⟩ := h0.map
  obtain ⟨hh, hat⟩ := hti.1 i (by omega)
  have hz : (zeroValue 24).run Try.prog W0.drew = .ok (.int .u32 0) W0.drew := by kernel_rfl
  have hmd : TMap W0.drew gm mk D := hm
  obtain ⟨lv, ps, hrun, hlv⟩ := World.ownsMap.look_ok hmd lawR Try.underlying74 hz (plainElem_int (H := Unit) Try.underlying24 (by decide)) (refK_key i (by omega))
  obtain ⟨lw, rfl, hlw, _⟩ := plainElem_int_inv Try.underlying24 hlv
  simp only [Prod.mk.injEq] at hlw
  rw [hh] at hrun
  have e2 : lw = (((t.tm i).getD 0 : Nat) : Int) := by
    have := hlw.1.symm.trans hat
    injection this with h1
    injection h1
  rw [← e2]
  have b5 : W0.cell? ⟨br, 5, none⟩ = some (.map (some gm)) := h0.blk.cell 5
  have r1 : W0.cell? ⟨w.heap.size, 0, none⟩ = some (.int .u32 0) := hbx.cell 0
  have r2 : W0.cell? ⟨w.heap.size, 1, none⟩ = some (.int .u32 (i : Nat)) := hbx.cell 1
  have HG := Lib.hid hg0; have HW0 := Lib.hid hW0
  generalize (t.tm i).isSome = bs at hrun
  clear hz hh hmd hm hti hmk hlv hlw hat e2 h0 h hg0 hbx hW0
  go_enter Try.func18, Try.ntmps18
  go_upto_region 1 with fail
  rw [← HW0.out]
  clear HW0
  go_region
  all_goals
    go_wp2_with fail
    go_ret2
    exact ⟨rfl, only_drew HG.out⟩
set_option maxHeartbeats 1000000 in
set_option maxRecDepth 100000 in
theorem topLen {B o : Nat} {mo : Option Nat} {br gm : Nat} {vs : Nat → Value} {g n : Nat} {S : Nat → SymR} {N : Nat} {t : TS} {cn : Nat → Nat} {rank sum fresh : Nat → Int} {d : Nat} (w : World) (h : TRen B o mo br gm vs g n S N t w) (hg : GInv S cn t rank sum fresh d) :
    Calls Try.prog 14 #[.pointer (some ⟨br, 0, none⟩)] w fun e w' => e = .returned (.int .i64 d) ∧ w = w' := by
  obtain ⟨mk, D, hmk, hm, hti⟩ := h.map
  have hz := hg.size hti.2
  have b5 : w.cell? ⟨br, 5, none⟩ = some (.map (some gm)) := h.blk.cell 5
  have hl := hm.len Try.underlying74
  rw [hz] at hl
  clear hz hm hti hmk h hg
  go_enter Try.func14, Try.ntmps14
  go_wp2
  go_ret
  exact ⟨rfl, rfl⟩
end Go.Proofs.Ytlpmkbdglpnjhaa
