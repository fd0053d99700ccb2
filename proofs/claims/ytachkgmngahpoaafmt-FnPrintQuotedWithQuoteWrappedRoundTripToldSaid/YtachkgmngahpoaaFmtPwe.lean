/- The thin export of printQuotedWithQuote, where lines may be wrapped. -/
import Derived.Test.YtachkgmngahpoaaFmtPqe
import Derived.Test.YtachkgmngahpoaaFmtPqb
namespace Go.Proofs.YtachkgmngahpoaaFmt
open Go.RowKit
set_option linter.unusedVariables false
set_option linter.unusedSimpArgs false
set_option maxHeartbeats 2000000 in
set_option maxRecDepth 100000 in
theorem zzpw_any (B : Nat) (A : Option Addr) (n cap : Nat) (bs : List Value) (q : Nat) (lim fl : Int) (s : ByteArray) (w : World) (hown : w.ownsRow B 5 1 (.slice A n cap) n bs) (hl : bs.length = n) (hB : B ≤ w.heap.size)
    (hcall : ∀ (W : World), IsP B w.heap.size (freshP lim (.slice A n cap)) A cap bs W → B ≤ W.heap.size → Below B w W → Calls Tryf.prog 14 #[.pointer (some ⟨w.heap.size, 0, none⟩), .string s, .int .u8 q, .int .u8 fl] W (PrintedW B w.heap.size q s.data.toList A bs W)) :
    Calls Tryf.prog 9 #[.slice A n cap, .int .i64 lim, .string s, .int .u8 q, .int .u8 fl] w fun e w' => (∃ wr : Nat → Bool, RowPost B w (bs ++ (qCells q ++ cells (outW wr q s.data.toList s.data.toList.length) ++ qCells q)) e w') ∧ w.grownBy w' (rb A) := by
  have HN := Lib.hid (isP_new lim hown hl hB)
  have HC := Lib.hid hcall
  clear hown hcall
  go_enter Tryf.func9, Tryf.ntmps9
  have hbo : ∀ W : World, (Instr.build 42 #[(3, .int .i64 lim)]).run Tryf.prog W = .ok (.agg (optsP lim)) W := fun W => run_build W _ _ _ (by kernel_rfl)
  have hbd : ∀ W : World, (Instr.build 60 #[(0, .agg (optsP lim)), (3, .slice A n cap)]).run Tryf.prog W = .ok (.agg (freshP lim (.slice A n cap))) W := fun W => run_build W _ _ _ (by kernel_rfl)
  have HSZ := Lib.hid (show B ≤ (w.alloc (.cells (freshP lim (.slice A n cap)) 60)).heap.size by simp; omega)
  go_wp2_with (refine wpList_store_new w rfl 60 (.tmp 11) (.tmp 15) rfl (freshP lim (.slice A n cap)) _ rfl rfl infoP rfl (freshP_one _ _ _ _) ?_)
  go_wp2_with (go_at_call 14; refine (HC.out _ HN.out HSZ.out ((Below.refl B w).alloc hB _)).mono ?_)
  rintro e w1 ⟨rfl, ⟨wr, K', A', cap', hp, _⟩, hb, hk⟩
  obtain ⟨bs', hbs'⟩ : ∃ x, x = bs ++ (qCells q ++ cells (outW wr q s.data.toList s.data.toList.length) ++ qCells q) := ⟨_, rfl⟩
  rw [← hbs'] at hp
  have HBS := Lib.hid hbs'
  clear hbs'
  obtain ⟨L, hL⟩ : ∃ L, bs'.length = L := ⟨_, rfl⟩
  have c15 : w1.cell? ⟨w.heap.size, 15, none⟩ = some (.slice A' L cap') := hp.css hL
  have HP := Lib.hid hp; have HL := Lib.hid hL
  have HB := Lib.hid (((Below.refl B w).alloc hB _).trans hb)
  have HG : Hid (w.grownBy w1 (rb A)) := Lib.hid ⟨hb.os, hb.tape, hb.output, Nat.le_trans (by simp) hk.size, fun i hi hne => (hk.block i (by simp; omega) (by omega) hne).trans (Below.heap_alloc w _ i hi)⟩
  clear hp hb hL hk
  go_wp2
  go_ret
  exact ⟨⟨wr, by rw [← HBS.out]; exact ⟨A', L, cap', rfl, HL.out, HP.out.ownL HL.out, HB.out⟩⟩, HG.out⟩
end Go.Proofs.YtachkgmngahpoaaFmt
