/- The table base64 as it lies in memory, and bytes.IndexByte over it. -/
import Derived.Test.YthbmffocgccniaaDoorVlb
import Derived.Test.YthbmffocgccniaaDoorRows
import Derived.Test.YthbmffocgccniaaDoorWords
import Derived.Lib.BytesEntry
import Derived.Lib.LaidU8
import Derived.Deep.Slices
import Derived.Handy
import Derived.Lay
import Derived.SevenTiedAt
import Derived.WalkKit
import Derived.Laws.StandIn
namespace Go.Proofs.YthbmffocgccniaaDoor
open Go.RowKit
set_option linter.unusedVariables false
set_option linter.unusedSimpArgs false
def b64Z : List Int := (List.range 64).map fun i => (dig i : Int)
/-- The table in memory. -/
def B64 (w : World) : Prop := ∃ g o c, w.cell? ⟨0, 0, none⟩ = some (.slice (some ⟨g, o, none⟩) 64 c) ∧ ∀ i, i < 64 → w.cell? ⟨g, o + i, none⟩ = some (.int .u8 (dig i : Int))
theorem B64.keep {w w' : World} (h : B64 w) (hk : ∀ p : Addr, p.block < w.heap.size → w'.cell? p = w.cell? p) : B64 w' := by
  have key : ∀ p u, w.cell? p = some u → w'.cell? p = some u := fun p u hp => (hk p (World.block_lt_of_cell? _ _ hp)).trans hp
  obtain ⟨g, o, c, h1, h2⟩ := h
  exact ⟨g, o, c, key _ _ h1, fun i hi => key _ _ (h2 i hi)⟩
theorem B64.below {w w' : World} (h : B64 w) (hb : Below w.heap.size w w') : B64 w' := h.keep fun _ hp => hb.cell hp
theorem B64.grown {w w' : World} (h : B64 w) (hb : w.grownBy w' none) : B64 w' := h.keep fun p hp => World.cell?_of_block (hb.block p.block hp (by simp))
abbrev laidB : List (String × DataW Unit) := [("github.com/evanw/esbuild/internal/sourcemap.base64", Rows.laid_github_com_evanw_esbuild_internal_sourcemap_base64)]
set_option maxRecDepth 100000 in
theorem laid_eq : (Rows.laid_github_com_evanw_esbuild_internal_sourcemap_base64 : DataW Unit) = .slice ((List.range 64).map fun i => .lit (.int .u8 (dig i : Int))) [] := by kernel_rfl
theorem b64_of {w : World} (h : laidMetH Tryd.prog laidB w) : B64 w := by
  rw [MakeChecks.laidMetH_plain _ _ _ (by kernel_rfl)] at h
  have h1 := Lib.laidMet.reads h (n := "github.com/evanw/esbuild/internal/sourcemap.base64") (d := Rows.laid_github_com_evanw_esbuild_internal_sourcemap_base64) (by simp)
  rw [laid_eq] at h1
  obtain ⟨g, t, cs, fuel, p, hg, hty, hvar, hd⟩ := h1
  have e1 : Tryd.prog.globalNamed "github.com/evanw/esbuild/internal/sourcemap.base64" = some 0 := by kernel_rfl
  obtain rfl := Option.some.inj (e1.symm.trans hg)
  have e2 : (Tryd.prog.globals[0]?).map (·.type) = some 22 := by kernel_rfl
  obtain rfl := Option.some.inj (e2.symm.trans hty)
  rcases Go.Deep.open_slice1 Tryd.underlying22 (by kernel_rfl) hd with ⟨_, h0⟩ | ⟨a, l, c, m, n, V, D, Pl, hcs, hb, hl, hm, hmm, hx, hi⟩
  · cases h0
  · have hx1 := congrArg Prod.fst hx
    simp only [DataW.slice.injEq] at hx1
    obtain ⟨hE, hR⟩ := hx1
    have hlen : l = 64 := by
      have := congrArg List.length hE
      simp at this; omega
    subst hlen
    have hml : 64 ≤ m := by rw [hmm]; split <;> omega
    have hcell : ∀ i, i < 64 → w.cell? (a.add i) = some (.int .u8 (dig i : Int)) := fun i hi64 => by
      obtain ⟨q1, q2⟩ := hi i (by omega)
      have q3 := congrArg (·[i]?) hE
      simp only [List.getElem?_map, List.getElem?_range hi64, Option.map_some, Option.some.injEq] at q3
      rw [← q3] at q2
      rw [q1]
      obtain ⟨z, hz, hq⟩ := DataW.trod_int Tryd.underlying5 q2
      simp only [List.cons.injEq, and_true] at hz
      rw [hz]
      simp at hq
      rw [hq.1.1]
    obtain ⟨b, off, spot⟩ := a
    have hs : spot = none := World.cell?_spot (show w.cell? ⟨b, off, spot⟩ = some _ from hcell 0 (by omega))
    subst hs
    refine ⟨b, off, c, ?_, fun i hi64 => ?_⟩
    · rw [World.var?_cell hg hvar 0, ← Array.getElem?_toList, hcs]; rfl
    · have := hcell i hi64
      unfold Addr.add at this
      split at this
      · rename_i h0; subst h0; simpa using this
      · exact this
theorem bz_get (i : Nat) (hi : i < 64) : b64Z.getD i 0 = (dig i : Int) := by
  unfold b64Z
  rw [List.getD_eq_getElem?_getD, List.getElem?_map, List.getElem?_range hi]; rfl
set_option maxRecDepth 100000 in
theorem idx_dig : ∀ d : Fin 64, Lib.indexByte (Lib.bytesOf b64Z) ((dig d.val : Int).toNat.toUInt8) = ((d.val : Nat) : Int) := by decide
set_option maxRecDepth 100000 in
theorem idx_comma : Lib.indexByte (Lib.bytesOf b64Z) ((44 : Int).toNat.toUInt8) = -1 := by decide
set_option maxRecDepth 100000 in
theorem idx_semi : Lib.indexByte (Lib.bytesOf b64Z) ((59 : Int).toNat.toUInt8) = -1 := by decide
def IdxPost (r : Int) (w : World) (e : Ending) (w' : World) : Prop := e = .returned (.int .i64 r) ∧ w = w'
set_option maxHeartbeats 1000000 in
set_option maxRecDepth 100000 in
theorem idx_any (g o c : Nat) (cv r : Int) (w : World) (hc : ∀ i, i < 64 → w.cell? ⟨g, o + i, none⟩ = some (.int .u8 (dig i : Int))) (hr : Lib.indexByte (Lib.bytesOf b64Z) cv.toNat.toUInt8 = r) :
    Calls Tryd.prog 15 #[.slice (some ⟨g, o, none⟩) 64 c, .int .u8 cv] w (IdxPost r w) := by
  go_enter Tryd.func15, Tryd.ntmps15
  go_wp2
  rw [run_callFunc_extern Tryd.func16 (by kernel_rfl) (by kernel_rfl) (by kernel_rfl) (e := Extern.BytealgIndexByte.indexByte) (by kernel_rfl), Lib.run_indexByteSlice w g o 64 c b64Z rfl (fun i hi => by rw [bz_get i hi]; exact hc i hi) cv, hr]
  simp only [Result.andThen]
  rw [Oper.upon_value]
  go_wp2
  go_ret
  exact ⟨rfl, rfl⟩
end Go.Proofs.YthbmffocgccniaaDoor
