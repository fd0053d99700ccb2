/- strconv's two sentinels as the walk sees them; preReleasePartToNumber. -/
import Derived.Test.YtanhijhhceakjaaDoorRows
import Derived.Test.YtanhijhhceakjaaDoorWords
import Derived.Test.YtanhijhhceakjaaDoorPre
import Derived.Test.YtanhijhhceakjaaDoorDec
import Derived.Test.YtanhijhhceakjaaDoorShelf
import Derived.WalkKit
import Derived.WalkSpells
import Derived.WalkLawsBesides
import Derived.LoopTactic
import Derived.MakeChecks
import Derived.Stop.LaidErr
import Derived.Stop.ErrReads
import Derived.Deep.Light
import Derived.Outline
import Derived.BigQuiet
import Derived.Deep.QuietTactic
import Derived.Lib.AtoiErrMem
namespace Go.Proofs.YtanhijhhceakjaaDoor
open Go.RowKit
set_option linter.unusedVariables false
set_option linter.unusedSimpArgs false
/-- Both variables hold an error. -/
def Errs (w : World) : Prop := ∃ t1 p1 t2 p2, w.cell? ⟨1, 0, none⟩ = some (.iface t1 p1) ∧ w.cell? ⟨2, 0, none⟩ = some (.iface t2 p2)
theorem Errs.below {w w' : World} (h : Errs w) (hb : Below w.heap.size w w') : Errs w' := by
  obtain ⟨t1, p1, t2, p2, h1, h2⟩ := h
  exact ⟨t1, p1, t2, p2, (hb.cell (p := ⟨1, 0, none⟩) (World.block_lt_of_cell? w _ h1)).trans h1, (hb.cell (p := ⟨2, 0, none⟩) (World.block_lt_of_cell? w _ h2)).trans h2⟩
theorem Errs.alloc {w : World} (h : Errs w) (o : Obj) : Errs (w.alloc o) := h.below ((Below.refl _ _).alloc (Nat.le_refl _) o)
theorem gS : Tryd.prog.globalNamed "strconv.ErrSyntax" = some 1 := by kernel_rfl
theorem gR : Tryd.prog.globalNamed "strconv.ErrRange" = some 2 := by kernel_rfl
theorem gST : (Tryd.prog.globals[1]?).map (·.type) = some 48 := by kernel_rfl
theorem gRT : (Tryd.prog.globals[2]?).map (·.type) = some 48 := by kernel_rfl
theorem cellsE : Tryd.prog.cellsOf 71 = 1 := by kernel_rfl
theorem cells9 : Tryd.prog.cellsOf 9 = 1 := by kernel_rfl
theorem starE : "*" ++ "errors.errorString" = "*errors.errorString" := by decide
theorem rowE (u : TypeId) (h : Tryd.prog.typeName? 3 u = some "*errors.errorString") : u = 69 :=
  typeName_ptr_named (nm := "errors.errorString") (by rw [starE]; kernel_rfl) (by kernel_rfl) (by decide) u (by rw [starE]; exact h)
theorem errs_of {w : World} (h : laidMetH Tryd.prog [("math/bits.deBruijn32tab", Rows.laid_math_bits_deBruijn32tab), ("math/bits.deBruijn64tab", Rows.laid_math_bits_deBruijn64tab), ("internal/strconv.uint64pow10", Rows.laid_internal_strconv_uint64pow10), ("strconv.ErrRange", Rows.laid_strconv_ErrRange), ("strconv.ErrSyntax", Rows.laid_strconv_ErrSyntax)] w) : Errs w := by
  rw [MakeChecks.laidMetH_plain _ _ _ (by kernel_rfl)] at h
  have h3 := ((h.tail).tail).tail
  obtain ⟨a1, s1, hv1, _⟩ := laid_sentinel h3 gR gRT Tryd.underlying48 rowE Tryd.underlying69 Tryd.underlying71 rfl rfl Tryd.underlying9 cellsE cells9
  obtain ⟨a2, s2, hv2, _⟩ := laid_sentinel h3.tail gS gST Tryd.underlying48 rowE Tryd.underlying69 Tryd.underlying71 rfl rfl Tryd.underlying9 cellsE cells9
  have c1 := World.var?_cell gR hv1 0
  have c2 := World.var?_cell gS hv2 0
  exact ⟨_, _, _, _, by simpa using c2, by simpa using c1⟩
theorem digL_get {l : List UInt8} (h : ∀ j (hj : j < l.length), isD l[j] = true) : digL l = true := by
  unfold digL
  rw [List.all_eq_true]
  intro x hx
  obtain ⟨j, hj, rfl⟩ := List.getElem_of_mem hx
  exact h j hj
theorem digL_not {l : List UInt8} {j : Nat} (hj : j < l.length) (h : isD l[j] = false) : digL l = false := by
  unfold digL
  rw [List.all_eq_false]
  exact ⟨l[j], List.getElem_mem hj, by simpa using h⟩
/-- What the decoder gives at a byte: an ASCII byte itself, else something beyond ASCII. -/
theorem rune_byte (s : ByteArray) (pos : Nat) (h : pos < s.size) (c wd : Nat) (hd : Utf8.decode s pos = (c, wd)) : (byteAt s pos < 128 ∧ c = byteAt s pos ∧ wd = 1) ∨ (128 ≤ byteAt s pos ∧ 128 ≤ c ∧ 1 ≤ wd) := by
  rw [byteAt_eq s pos h]
  by_cases ha : (s[pos]'h).toNat < 128
  · left
    rw [decode_ascii s pos h ha] at hd
    simp only [Prod.mk.injEq] at hd
    exact ⟨ha, hd.1.symm, hd.2.symm⟩
  · right
    have := decode_high s pos h (by omega)
    rw [hd] at this
    exact ⟨by omega, this.1, this.2⟩
def dgAt (s : ByteArray) (j : Nat) : Prop := 48 ≤ byteAt s j ∧ byteAt s j ≤ 57
theorem dg_isD (s : ByteArray) (j : Nat) (hj : j < s.size) : isD (s.data.toList[j]'(by simpa using hj)) = true ↔ dgAt s j := by
  have e : (s.data.toList[j]'(by simpa using hj)).toNat = byteAt s j := by rw [byteAt_eq s j hj]; rfl
  unfold isD dgAt
  rw [decide_eq_true_iff, e]
theorem size_list (s : ByteArray) : s.data.toList.length = s.size := by simp
theorem dig_of (s : ByteArray) (h : ∀ j, j < s.size → dgAt s j) : digL s.data.toList = true :=
  digL_get fun j hj => by
    have hj' : j < s.size := by simpa using hj
    exact (dg_isD s j hj').2 (h j hj')
theorem dig_not (s : ByteArray) (j : Nat) (hj : j < s.size) (h : ¬ dgAt s j) : digL s.data.toList = false :=
  digL_not (j := j) (by simpa using hj) (by rw [Bool.eq_false_iff]; exact fun e => h ((dg_isD s j hj).1 e))
def PrPost (s : ByteArray) (w : World) (e : Ending) (w' : World) : Prop :=
  e = .returned (.tuple #[.int .i64 (prN s.data.toList), .bool (prB s.data.toList)]) ∧ Below w.heap.size w w'
theorem pr_no {s : ByteArray} (h : digL s.data.toList = false) : prN s.data.toList = 0 ∧ prB s.data.toList = false := by
  unfold prN prB
  rw [if_neg (by rw [h]; simp)]
  exact ⟨rfl, by simp [h]⟩
set_option maxHeartbeats 1000000 in
set_option maxRecDepth 100000 in
theorem pre_any (s : ByteArray) (hs : s.size ≤ 2097152) (w : World) (hE : Errs w) :
    Calls Tryd.prog 23 #[.string s] w (PrPost s w) := by
  have HE := Lib.hid hE
  clear hE
  go_enter Tryd.func23, Tryd.ntmps23
  go_wp2
  go_loopw [5] (fun _ w' => ∃ pos : Nat, w' = w.iter s pos ∧ pos ≤ s.size ∧ ∀ j, j < pos → dgAt s j) (fun _ w' => s.size - w'.iterPos w.heap.size)
  case atStart => exact ⟨0, rfl, by omega, fun j hj => by omega⟩
  case round =>
    obtain ⟨pos, rfl, hle, hok⟩ := hrel
    have HO := Lib.hid hok
    clear hok
    by_cases hp : pos < s.size
    · obtain ⟨c, wd, hd⟩ : ∃ c wd, Utf8.decode s pos = (c, wd) := ⟨_, _, rfl⟩
      have hrb := rune_byte s pos hp c wd hd
      have hnx : ∀ ty, (Instr.next (.pointer (some ⟨w.heap.size, 0, none⟩)) true ty).run Tryd.prog (w.iter s pos) = .ok (.tuple #[.bool true, .int .i64 pos, .int .i32 c]) (w.iter s (pos + wd)) := fun ty => by
        rw [run_next_any w s pos ty hp, hd]
      clear hd
      by_cases hc : 48 ≤ c ∧ c ≤ 57
      · have h1 : (48 : Int) ≤ c := by omega
        have h2 : (c : Int) ≤ 57 := by omega
        have h3 : decide ((c : Int) < 48) = false := by simp; omega
        have h4 : decide ((57 : Int) < c) = false := by simp; omega
        go_wp2
        go_roundw
        case rel =>
          obtain rfl : wd = 1 := by omega
          refine ⟨pos + 1, rfl, by omega, fun j hj => ?_⟩
          by_cases e : j = pos
          · subst e; unfold dgAt; omega
          · exact HO.out j (by omega)
        case measure => simp; omega
      · have HF := Lib.hid (pr_no (dig_not s pos hp (by unfold dgAt; omega)))
        by_cases h5 : (c : Int) < 48
        · have h3 : decide ((c : Int) < 48) = true := by simp; omega
          go_wp2
          go_ret2
          exact ⟨by rw [HF.out.1, HF.out.2]; rfl, (Below.refl _ _).alloc (Nat.le_refl _) _⟩
        · have h3 : decide ((c : Int) < 48) = false := by simp; omega
          have h4 : decide ((57 : Int) < c) = true := by simp; omega
          go_wp2
          go_ret2
          exact ⟨by rw [HF.out.1, HF.out.2]; rfl, (Below.refl _ _).alloc (Nat.le_refl _) _⟩
    · have hnx : ∀ ty, (Instr.next (.pointer (some ⟨w.heap.size, 0, none⟩)) true ty).run Tryd.prog (w.iter s pos) = .ok (.tuple #[.bool false]) (w.iter s pos) := fun ty => run_next_end w s pos ty hp
      obtain rfl : pos = s.size := by omega
      have HD := Lib.hid (dig_of s HO.out)
      have HBI : Hid (Below w.heap.size w (w.iter s s.size)) := Lib.hid ((Below.refl _ _).alloc (Nat.le_refl _) _)
      obtain ⟨t1, p1, t2, p2, hc1, hc2⟩ := HE.out.below HBI.out
      have HC1 := Lib.hid hc1; have HC2 := Lib.hid hc2
      clear hc1 hc2
      by_cases h0 : s.size = 0
      · have HA := Lib.hid (show Lib.atoiAll s.data.toList = Lib.atoiAll [] by rw [show s.data.toList = [] from List.eq_nil_of_length_eq_zero (by rw [size_list]; exact h0)])
        have HP : Hid (prN s.data.toList = 0 ∧ prB s.data.toList = false) := Lib.hid (by
          have hn : s.data.toList = [] := List.eq_nil_of_length_eq_zero (by rw [size_list]; exact h0)
          unfold prN prB; rw [if_neg (by rw [hn]; simp)]; exact ⟨rfl, by simp [hn]⟩)
        clear h0
        go_wp2_with (go_at_call 28; refine (Tryd.strconv_Atoi_syntax s (by omega) HA.out _ _ HC1.out (.inr ⟨_, _, rfl⟩)).mono ?_)
        rintro e w1 ⟨N, rfl, _, _, hb1⟩
        have HB1 := Lib.hid (HBI.out.trans (hb1.mono (HBI.out.size)))
        clear hb1
        go_wp2
        go_quiet (fail)
        go_wp2
        go_ret2
        exact ⟨by rw [HP.out.1, HP.out.2]; rfl, below_drewN HB1.out _⟩
      · have hne : s.data.toList ≠ [] := fun e => h0 (by rw [← size_list, e]; rfl)
        by_cases hv : decL 0 s.data.toList < 9223372036854775808
        · have HA := Lib.hid (show Lib.atoiAll s.data.toList = .ok (decL 0 s.data.toList : Int) by rw [atoi_dig _ hne HD.out, if_pos hv])
          have HP : Hid (prN s.data.toList = (decL 0 s.data.toList : Int) ∧ prB s.data.toList = true) := Lib.hid (by
            unfold prN prB; rw [if_pos ⟨HD.out, hne⟩, if_pos hv]; exact ⟨rfl, by simp [HD.out, hv]; simpa using hne⟩)
          clear hv hne
          generalize (decL 0 s.data.toList : Int) = v at HA HP
          go_wp2_with (go_at_call 28; refine (Tryd.strconv_Atoi_ok s (by omega) v HA.out _).mono ?_)
          rintro e w1 ⟨rfl, hw1⟩
          have HB1 : Hid (Below w.heap.size w w1) := Lib.hid (by
            rcases hw1 with rfl | ⟨t, rfl⟩
            · exact HBI.out
            · exact HBI.out.trans ((Lib.bytesWorld_below _ 5 t).mono HBI.out.size))
          clear hw1
          go_wp2
          go_quiet (fail)
          go_wp2
          go_ret2
          exact ⟨by rw [HP.out.1, HP.out.2]; rfl, below_drewN HB1.out _⟩
        · have HA := Lib.hid (show Lib.atoiAll s.data.toList = .range by rw [atoi_dig _ hne HD.out, if_neg hv])
          have HP : Hid (prN s.data.toList = 9223372036854775807 ∧ prB s.data.toList = false) := Lib.hid (by
            unfold prN prB; rw [if_pos ⟨HD.out, hne⟩, if_neg hv]; exact ⟨rfl, by simp [hv]⟩)
          have HS := Lib.hid (sat_dig _ HD.out)
          clear hv hne
          go_wp2_with (go_at_call 28; refine (Tryd.strconv_Atoi_range s (by omega) HA.out _ _ HC2.out (.inr ⟨_, _, rfl⟩)).mono ?_)
          rintro e w1 ⟨N, rfl, _, _, hb1⟩
          have HB1 := Lib.hid (HBI.out.trans (hb1.mono (HBI.out.size)))
          clear hb1
          rw [HS.out]
          go_wp2
          go_quiet (fail)
          go_wp2
          go_ret2
          exact ⟨by rw [HP.out.1, HP.out.2]; rfl, below_drewN HB1.out _⟩
set_option maxRecDepth 100000 in
theorem zzpre_any (s : ByteArray) (hs : s.size ≤ 2097152) (w : World) (hE : Errs w) :
    Calls Tryd.prog 15 #[.string s] w (PrPost s w) := by
  have HE := Lib.hid hE
  clear hE
  go_enter Tryd.func15, Tryd.ntmps15
  go_wp2_with (go_at_call 23; refine (pre_any s hs w HE.out).mono ?_)
  rintro e w1 ⟨rfl, hb⟩
  have HB := Lib.hid hb
  clear hb
  go_wp2
  go_ret2
  exact ⟨rfl, HB.out⟩
end Go.Proofs.YtanhijhhceakjaaDoor
