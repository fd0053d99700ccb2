/- The wrapper of iterativelyValidateTLA. -/
import Derived.Test.YtecncdcfmmceeaaGreatTli
namespace Go.Proofs.YtecncdcfmmceeaaGreat
open Go.RowKit
set_option linter.unusedVariables false
set_option linter.unusedSimpArgs false
theorem ziter_any (G : TG) (rb sb : Nat) (jb : Nat → Nat) (σ : TS) (w : World) (hG : GOk G) (ht : TW1 G rb sb jb σ w) (hs : Sound G σ) (hp : ∀ j, σ.pas j = 0) :
    Calls Tryz.prog 11 #[.pointer (some ⟨sb, 0, none⟩)] w (IterPost G rb sb jb σ w) := by
  have HC := Lib.hid (iter_any G rb sb jb σ w hG ht hs hp)
  clear hG ht hs hp
  go_enter Tryz.func11, Tryz.ntmps11
  go_wp2_with (go_at_call 20; refine (HC.out).mono ?_)
  rintro e w' ⟨σ', b, rfl, h⟩
  have H := Lib.hid h
  clear h
  go_wp2
  go_ret
  exact ⟨σ', b, rfl, H.out⟩
end Go.Proofs.YtecncdcfmmceeaaGreat
