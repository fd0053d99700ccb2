/- utf8.EncodeRune over a row of four cells: the shelf's contract at this dump. -/
import Derived.Test.YtppcjkajjahclaaFmtRows
import Derived.Test.YtppcjkajjahclaaFmtWords
import Derived.Shelf.Spec.EncodeRune
import Derived.WalkKit
namespace Go.Proofs.YtppcjkajjahclaaFmt
open Go.RowKit Go.Shelf
set_option linter.unusedVariables false
set_option linter.unusedSimpArgs false
def ren30 : Go.Shelf.Ren := ⟨fun | 30 => 23 | 47 => 26 | n => n, fun | 25 => 64 | 27 => 35 | 30 => 27 | n => n, fun | n => n⟩
theorem lays30 : Go.Proofs.Lays7.n30 Tryf.prog ren30 := {
  mixed := by kernel_rfl
  f30 := Tryf.func23.trans (congrArg some (by kernel_rfl))
  f47 := Tryf.func26.trans (congrArg some (by kernel_rfl))
  t0 := Tryf.underlying0
  a0 := Tryf.isAgg0
  z0 := Tryf.sizeOf0
  v0 := Tryf.zeroValue0
  i0 := by kernel_rfl
  t3 := Tryf.underlying3
  a3 := Tryf.isAgg3
  z3 := Tryf.sizeOf3
  v3 := Tryf.zeroValue3
  i3 := by kernel_rfl
  t4 := Tryf.underlying4
  a4 := Tryf.isAgg4
  z4 := Tryf.sizeOf4
  v4 := Tryf.zeroValue4
  i4 := by kernel_rfl
  t5 := Tryf.underlying5
  a5 := Tryf.isAgg5
  z5 := Tryf.sizeOf5
  v5 := Tryf.zeroValue5
  i5 := by kernel_rfl
  t21 := Tryf.underlying21
  a21 := Tryf.isAgg21
  z21 := Tryf.sizeOf21
  v21 := Tryf.zeroValue21
  i21 := by kernel_rfl
  t25 := Tryf.underlying64
  a25 := Tryf.isAgg64
  z25 := Tryf.sizeOf64
  v25 := Tryf.zeroValue64
  i25 := by kernel_rfl
  t27 := Tryf.underlying35
  a27 := Tryf.isAgg35
  z27 := Tryf.sizeOf35
  v27 := Tryf.zeroValue35
  i27 := by kernel_rfl
  t30 := Tryf.underlying27
  a30 := Tryf.isAgg27
  z30 := Tryf.sizeOf27
  v30 := Tryf.zeroValue27
  i30 := by kernel_rfl }
theorem below_setCells {B b : Nat} (vs : List Value) : ∀ (o : Nat) (w0 w : World), Below B w0 w → B ≤ b → Below B w0 (w.setCells b o vs) := by
  induction vs with
  | nil => intro o w0 w h _; exact h
  | cons v vs ih => intro o w0 w h hb; exact ih (o + 1) w0 _ (h.setCell (p := ⟨b, o, none⟩) hb v) hb
theorem grown_setCells {b : Nat} (vs : List Value) : ∀ (o : Nat) (w0 w : World), w0.grownBy w (some b) → w0.grownBy (w.setCells b o vs) (some b) := by
  induction vs with
  | nil => intro o w0 w h; exact h
  | cons v vs ih => intro o w0 w h; exact ih (o + 1) w0 _ (only_setCell (p := ⟨b, o, none⟩) h (.inl rfl) v)
theorem blk_setCells {g : Nat} {t : TypeId} (vs : List Value) : ∀ (o : Nat) (w : World) (cs : Array Value), Blk w g t cs → ∃ cs', Blk (w.setCells g o vs) g t cs' ∧ cs'.size = cs.size := by
  induction vs with
  | nil => intro o w cs h; exact ⟨cs, h, rfl⟩
  | cons v vs ih =>
    intro o w cs h
    obtain ⟨cs', h1, h2⟩ := ih (o + 1) _ _ (h.set_ o v)
    exact ⟨cs', h1, by rw [h2]; simp⟩
theorem encode_any (g t : Nat) (cs : Array Value) (hsz : cs.size = 4) (r : Int) (hlo : -2147483648 ≤ r) (hhi : r ≤ 2147483647) (w : World) (h : Blk w g t cs) :
    Calls Tryf.prog 23 #[.slice (some ⟨g, 0, none⟩) 4 4, .int .i32 r] w fun e w' => e = .returned (.int .i64 (Lib.runeCells r).length) ∧
      Reads w' (g + 1) 1 (some ⟨g, 0, none⟩) (Lib.runeCells r).length (Lib.runeCells r) ∧ Below g w w' ∧ w.grownBy w' (some g) ∧ (∃ cs', Blk w' g t cs' ∧ cs'.size = 4) := by
  have hle := Lib.runeCells_le r
  have hcell : ∀ j, j < (Lib.runeCells r).length → (w.cell? ⟨g, 0 + j, none⟩).isSome = true := fun j hj => by
    rw [Nat.zero_add, h.cell j, Array.getElem?_eq_getElem (by omega)]; rfl
  refine (Any7.utf8_EncodeRune lays30 g 0 4 4 r hlo hhi w hle.2 hcell (fun j _ => h.frozen _)).mono ?_
  rintro e w' ⟨rfl, rfl⟩
  refine ⟨rfl, ⟨by simp, fun _ => ⟨_, rfl, by simp, fun j u hu => ?_⟩⟩, below_setCells _ 0 w w (Below.refl _ _) (Nat.le_refl _), grown_setCells _ 0 w w (World.grownBy.refl w _), ?_⟩
  · obtain ⟨hj, hu'⟩ := List.getElem?_eq_some_iff.1 hu
    have := World.cell?_setCells_in g (Lib.runeCells r) 0 w hcell j hj
    rw [hu'] at this
    rw [← this]
    unfold Addr.add
    split
    · rename_i h0; subst h0; rfl
    · rfl
  · obtain ⟨cs', h1, h2⟩ := blk_setCells (Lib.runeCells r) 0 w cs h
    exact ⟨cs', h1, h2.trans hsz⟩
end Go.Proofs.YtppcjkajjahclaaFmt
