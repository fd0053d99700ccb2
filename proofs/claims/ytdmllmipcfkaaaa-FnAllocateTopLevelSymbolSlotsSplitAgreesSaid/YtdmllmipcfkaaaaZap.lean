/- n011_287, SplitAgrees: the slot of a symbol; entries; two renamers far apart. -/
import Derived.Test.YtdmllmipcfkaaaaZan
namespace Go.Proofs.Ytdmllmipcfkaaaa
open Go.RowKit Go.Maps Go.WideMaps
set_option linter.unusedVariables false
set_option linter.unusedSimpArgs false
set_option maxHeartbeats 4000000 in
set_option maxRecDepth 100000 in
theorem topSlot {B o : Nat} {mo : Option Nat} {br gm : Nat} {vs : Nat → Value} {g n : Nat} {S : Nat → SymR} {N : Nat} {t : TS} (i : Nat) (hi : i ≤ 65536) (w : World) (h : TRen B o mo br gm vs g n S N t w) :
    Calls Try.prog 11 #[.pointer (some ⟨br, 0, none⟩), .agg #[.int .u32 0, .int .u32 i]] w (KPost (.tuple #[.int .u32 (((t.tm i).getD 0 : Nat) : Int), .bool (t.tm i).isSome]) w) := by
  obtain ⟨W0, hW0⟩ : ∃ W0, W0 = w.alloc (.cells #[.int .u32 0, .int .u32 (i : Nat)] 44) := ⟨_, rfl⟩
  have hg0 : w.grownBy W0 none := by rw [hW0]; exact only_alloc (World.grownBy.refl _ _) _
  have hbx : Blk W0 w.heap.size 44 #[.int .u32 0, .int .u32 (i : Nat)] := by rw [hW0]; exact Blk.new _ _ _
  have h0 := h.grown hg0
  obtain ⟨mk, D, hmk, hm, hti⟩ := h0.map
  obtain ⟨hh, hat⟩ := hti i (by omega)
  have hz : (zeroValue 23).run Try.prog W0.drew = .ok (.int .u32 0) W0.drew := by kernel_rfl
  have hmd : TMap W0.drew gm mk D := hm
  obtain ⟨lv, ps, hrun, hlv⟩ := World.ownsMap.look_ok hmd lawR Try.underlying48 hz (plainElem_int (H := Unit) Try.underlying23 (by decide)) (refK_key i (by omega))
  obtain ⟨lw, rfl, hlw, _⟩ := plainElem_int_inv Try.underlying23 hlv
  simp only [Prod.mk.injEq] at hlw
  rw [hh] at hrun
  have e2 : lw = (((t.tm i).getD 0 : Nat) : Int) := by
    have := hlw.1.symm.trans hat
    injection this with h1
    injection h1
  rw [← e2]
  have b5 : W0.cell? ⟨br, 5, none⟩ = some (.map (some gm)) := h0.blk.cell 5
  have r1 : W0.cell? ⟨w.heap.size, 0, none⟩ = some (.int .u32 0) := hbx.cell 0
  have r2 : W0.cell? ⟨w.heap.size, 1, none⟩ = some (.int .u32 (i : Nat)) := hbx.cell 1
  have HG := Lib.hid hg0; have HW0 := Lib.hid hW0
  generalize (t.tm i).isSome = bs at hrun
  clear hz hh hmd hm hti hmk hlv hlw hat e2 h0 h hg0 hbx hW0
  go_enter Try.func11, Try.ntmps11
  go_upto_region 1 with fail
  rw [← HW0.out]
  clear HW0
  go_region
  all_goals
    go_wp2_with fail
    go_ret2
    exact ⟨rfl, only_drew HG.out⟩
theorem EntT.ent {w : World} {g n nn : Nat} {rs cts : List Int} (h : EntT w g n n nn rs cts) (c : Nat) : EntR w (some ⟨g, c * 4, none⟩) (((List.range n).map (entF nn rs cts)).drop c) := by
  obtain ⟨cs, hb, hs, hc⟩ := h
  intro m e he
  rw [List.getElem?_drop, List.getElem?_map] at he
  cases hr : (List.range n)[c + m]? with
  | none => rw [hr] at he; cases he
  | some y =>
    rw [hr] at he
    have hlt : c + m < n := by have := (List.getElem?_eq_some_iff.1 hr).1; simpa using this
    have hy : c + m = y := by rw [List.getElem?_range hlt] at hr; exact Option.some.inj hr
    have he' : entF nn rs cts y = e := Option.some.inj he
    obtain ⟨h0, h1, h2, h3⟩ := hc (c + m) hlt
    rw [hy, he'] at h2 h3
    refine ⟨g, c * 4, cs, (c + m : Nat), rfl, hb, ?_, ?_, ?_, ?_⟩
    · rw [show c * 4 + m * 4 = (c + m) * 4 by omega]; exact h0
    · rw [show c * 4 + m * 4 + 1 = (c + m) * 4 + 1 by omega]; exact h1
    · rw [show c * 4 + m * 4 + 2 = (c + m) * 4 + 2 by omega, hy]; exact h2
    · rw [show c * 4 + m * 4 + 3 = (c + m) * 4 + 3 by omega, hy]; exact h3
theorem EntR.take {w : World} {SA : Option Addr} {es : List (Nat × Int)} (h : EntR w SA es) (c : Nat) : EntR w SA (es.take c) := fun m e he => h m e (by
  rw [List.getElem?_take] at he
  split at he
  · exact he
  · cases he)
theorem EntR.nil {w : World} {SA : Option Addr} : EntR w SA [] := fun m e he => by cases he
theorem EntT.turned {w w' : World} {T : Nat → Prop} {g n k nn : Nat} {rs cts : List Int} (h : EntT w g n k nn rs cts) (ht : Turned T w w') (hn : ¬ T g) : EntT w' g n k nn rs cts := by
  obtain ⟨cs, hb, h2⟩ := h
  exact ⟨cs, ht.blk hb hn, h2⟩
/-- A renamer's blocks. -/
theorem inT_typed {B o : Nat} {mo : Option Nat} {br gm : Nat} {vs : Nat → Value} {g n : Nat} {S : Nat → SymR} {N : Nat} {t : TS} {w : World} (h : TRen B o mo br gm vs g n S N t w) {b : Nat} {ty : TypeId} {cs : Array Value} (hb : Blk w b ty cs) (h1 : ty ≠ 50) (h2 : 77 ≠ ty) : ¬ InT vs br gm b := by
  rintro (e | e | ⟨j, hj, e⟩)
  · exact Blk.ne_ hb h.blk h1 e
  · obtain ⟨_, _, _, hm, _⟩ := h.map
    exact hm.ne hb e
  · exact own_blk_ne (h.own j hj) hb h2 e
end Go.Proofs.Ytdmllmipcfkaaaa
