/- n011_313: zzScriptFits. -/
import Derived.Test.YtgdcpladehcegaaDoorZdc
import Derived.Test.YtgdcpladehcegaaDoorRun
import Derived.WalkKit
import Derived.WalkSpells
import Derived.LoopTactic
import Derived.Laws.MakeOwn
import Derived.Deep.Cut
import Derived.Deep.CutRange
import Derived.Deep.DeepCutAuto
import Derived.Outline
import Derived.IntWalk
namespace Go.Proofs.YtgdcpladehcegaaDoor
open Go.RowKit
set_option linter.unusedVariables false
set_option linter.unusedSimpArgs false
theorem boolI : (Tryd.prog.info? 4).map (fun i => (i.zero, i.size, i.bytes)) = some (some (.bool false), 1, 1) := by kernel_rfl
/-- A row of marks: what is marked is a rune's start. -/
def BoolRow (w : World) (g : Nat) (t : ByteArray) : Prop := ∃ cs, Blk w g 4 cs ∧ cs.size = t.size + 1 ∧ ∀ p, p < t.size + 1 → ∃ b : Bool, cs[p]? = some (.bool b) ∧ (b = true → ∃ k, pos t k = p)
theorem BoolRow.mk0 (w : World) (t : ByteArray) (n : Nat) (hn : n = t.size + 1) : BoolRow (w.alloc (.cells (madeCells #[.bool false] n) 4)) w.heap.size t := by
  refine ⟨_, Blk.new w 4 _, by rw [size_madeCells, hn], fun p hp => ⟨false, ?_, fun h => by cases h⟩⟩
  have hz : madeCells #[Value.bool false] n = Array.replicate n (Value.bool false) := by
    unfold madeCells
    apply Array.ext
    · simp
    · intro i h1 h2
      simp [Nat.mod_one]
  rw [hz, Array.getElem?_replicate, if_pos (by omega)]
theorem BoolRow.cell {w : World} {g : Nat} {t : ByteArray} (h : BoolRow w g t) (p : Nat) (hp : p ≤ t.size) : ∃ b : Bool, w.cell? ⟨g, p, none⟩ = some (.bool b) ∧ (b = true → ∃ k, pos t k = p) := by
  obtain ⟨cs, h1, h2, h3⟩ := h
  obtain ⟨b, h4, h5⟩ := h3 p (by omega)
  exact ⟨b, (h1.cell p).trans h4, h5⟩
theorem BoolRow.frozen {w : World} {g : Nat} {t : ByteArray} (h : BoolRow w g t) (p : Nat) : w.frozen? ⟨g, p, none⟩ = false := by
  obtain ⟨cs, h1, _⟩ := h
  exact h1.frozen p
theorem BoolRow.lt {w : World} {g : Nat} {t : ByteArray} (h : BoolRow w g t) : g < w.heap.size := by
  obtain ⟨cs, h1, _⟩ := h
  exact h1.lt
theorem BoolRow.set {w : World} {g : Nat} {t : ByteArray} (h : BoolRow w g t) (k : Nat) : BoolRow (w.setCell ⟨g, pos t k, none⟩ (.bool true)) g t := by
  obtain ⟨cs, h1, h2, h3⟩ := h
  refine ⟨_, h1.set_ (pos t k) (.bool true), by simpa using h2, fun p hp => ?_⟩
  by_cases e : pos t k = p
  · subst e
    exact ⟨true, by rw [Array.getElem?_setIfInBounds_self_of_lt (by omega)], fun _ => ⟨k, rfl⟩⟩
  · obtain ⟨b, h4, h5⟩ := h3 p hp
    exact ⟨b, by rw [Array.getElem?_setIfInBounds_ne e]; exact h4, h5⟩
theorem BoolRow.drewN {w : World} {g : Nat} {t : ByteArray} (h : BoolRow w g t) (q : Nat) : BoolRow (w.drewN q) g t := h
theorem BoolRow.below {w w' : World} {g B : Nat} {t : ByteArray} (h : BoolRow w g t) (hb : Below B w w') (hg : g < B) : BoolRow w' g t := by
  obtain ⟨cs, h1, h2⟩ := h
  exact ⟨cs, h1.below hb hg, h2⟩
def FitsTo (a0 s : ByteArray) (Z : List Stp) (k : Nat) (prev : Int) : Prop :=
  (∀ i r, i < k → Z[i]? = some r → (∃ k0 : Nat, r.a = (pos a0 k0 : Nat)) ∧ ∃ m : Nat, r.b = (pos s m : Nat) ∧ Clean s (pos s m)) ∧ (∀ i r r', i + 1 < k → Z[i]? = some r → Z[i + 1]? = some r' → r.b ≤ r'.b) ∧ (∀ r, 0 < k → Z[k - 1]? = some r → r.b = prev)
theorem FitsTo.zero (a0 s : ByteArray) (Z : List Stp) (p : Int) : FitsTo a0 s Z 0 p := ⟨fun i r h => by omega, fun i r r' h => by omega, fun r h => by omega⟩
theorem FitsTo.succ {a0 s : ByteArray} {Z : List Stp} {k : Nat} {prev : Int} (h : FitsTo a0 s Z k prev) {r : Stp} (hr : Z[k]? = some r) (h1 : ∃ k0 : Nat, r.a = (pos a0 k0 : Nat)) (h2 : ∃ m : Nat, r.b = (pos s m : Nat) ∧ Clean s (pos s m)) (h3 : k = 0 ∨ prev ≤ r.b) : FitsTo a0 s Z (k + 1) r.b := by
  refine ⟨fun i r0 hi hr0 => ?_, fun i r0 r1 hi hr0 hr1 => ?_, fun r0 _ hr0 => ?_⟩
  · rcases Nat.lt_or_ge i k with hl | hg
    · exact h.1 i r0 hl hr0
    · obtain rfl : i = k := by omega
      rw [hr] at hr0
      injection hr0 with hr0
      subst hr0
      exact ⟨h1, h2⟩
  · rcases Nat.lt_or_ge (i + 1) k with hl | hg
    · exact h.2.1 i r0 r1 hl hr0 hr1
    · obtain rfl : k = i + 1 := by omega
      rw [hr] at hr1
      injection hr1 with hr1
      subst hr1
      have := h.2.2 r0 (by omega) (by simpa using hr0)
      rcases h3 with h3 | h3
      · omega
      · omega
  · rw [show k + 1 - 1 = k by omega, hr] at hr0
    injection hr0 with hr0
    rw [hr0]
theorem FitsTo.fits {a0 s : ByteArray} {Z : List Stp} {k : Nat} {prev : Int} (h : FitsTo a0 s Z k prev) (hk : k = Z.length) : FitsZ a0 s Z := by
  refine ⟨fun r hr => ?_, fun r hr => ?_, fun i r r' hr hr' => ?_⟩
  · obtain ⟨i, hi, rfl⟩ := List.mem_iff_getElem.1 hr
    exact (h.1 i _ (by omega) (List.getElem?_eq_getElem hi)).1
  · obtain ⟨i, hi, rfl⟩ := List.mem_iff_getElem.1 hr
    exact (h.1 i _ (by omega) (List.getElem?_eq_getElem hi)).2
  · have := (List.getElem?_eq_some_iff.1 hr').1
    exact h.2.1 i r r' (by omega) hr hr'
def FitP (a0 s : ByteArray) (Z : List Stp) (w : World) (e : Ending) (w' : World) : Prop := ∃ b, e = .returned (.bool b) ∧ Below w.heap.size w w' ∧ (b = true → FitsZ a0 s Z)
set_option maxHeartbeats 8000000 in
set_option maxRecDepth 100000 in
theorem scf_any (a0 s : ByteArray) (A : Option Addr) (n cap : Nat) (D : Option Addr) (m mc : Nat) (Z : List Stp) (w : World) (ha : a0.size ≤ 1048576) (hs : s.size ≤ 1048576) (hcv : ∀ W : World, Below w.heap.size w W → (convert 22 9 (.slice A n cap)).run Tryd.prog W = .ok (.string s) W)
    (hz : IsStps w D m Z) (hm : m ≤ 65536) (hmc : m ≤ mc) :
    Calls Tryd.prog 13 #[.string a0, .slice A n cap, .slice D m mc, .bool true] w (FitP a0 s Z w) := by
  obtain ⟨i0, hi0, hz0, hz1, hz2⟩ := info_parts boolI
  obtain ⟨N0, hN0⟩ : ∃ N, N = a0.size + 1 := ⟨_, rfl⟩
  obtain ⟨N1, hN1⟩ : ∃ N, N = s.size + 1 := ⟨_, rfl⟩
  have hw0 : IntKind.i64.wrap ((a0.size : Int) + 1) = (N0 : Int) := by rw [IntKind.wrap_i64]; omega
  have hw1 : IntKind.i64.wrap ((s.size : Int) + 1) = (N1 : Int) := by rw [IntKind.wrap_i64]; omega
  have hmk : ∀ (W : World) (N : Nat), N ≤ 1048577 → (Instr.makeSlice 66 (.int .i64 (N : Int)) (.int .i64 (N : Int))).run Tryd.prog W = .ok (.slice (some ⟨W.heap.size, 0, none⟩) N N) (W.alloc (.cells (madeCells #[.bool false] N) 4)) := fun W N hN => by
    have := run_make (P := Tryd.prog) W 66 4 i0 (.bool false) Tryd.underlying66 hi0 hz0 .i64 .i64 N N (by omega) (by omega) (by rw [hz2]; omega) (by omega)
    simpa [hz1, Value.cells] using this
  have hm0 := fun W => hmk W N0 (by omega)
  have hm1 := fun W => hmk W N1 (by omega)
  have HN0 := Lib.hid hN0; have HN1 := Lib.hid hN1; have HCV := Lib.hid hcv; have HZ := Lib.hid hz
  have hn0 : a0.size < N0 := by omega
  have hn1 : s.size < N1 := by omega
  clear hmk hN0 hN1 hcv hz
  have HR0 := Lib.hid (BoolRow.mk0 w a0 N0 HN0.out)
  have HB0 := Lib.hid ((Below.refl w.heap.size w).alloc (Nat.le_refl _) (.cells (madeCells #[.bool false] N0) 4))
  go_enter Tryd.func13, Tryd.ntmps13
  go_wp2
  go_loopw [11] (fun i wr => ∃ j : Nat, i = .int .i64 (pos a0 j : Nat) ∧ BoolRow wr w.heap.size a0 ∧ Below w.heap.size w wr) (fun i _ => a0.size - (intOf i).toNat)
  case atStart => exact ⟨0, rfl, HR0.out, HB0.out⟩
  case round =>
    obtain ⟨j, rfl, hbr, hbe⟩ := hrel
    have HBR := Lib.hid hbr; have HBE := Lib.hid hbe
    clear hbr hbe
    obtain ⟨p, hp⟩ : ∃ p, p = pos a0 j := ⟨_, rfl⟩
    rw [← hp]
    by_cases hlt : p < a0.size
    · obtain ⟨c, wd, hd⟩ : ∃ c wd, Utf8.decode a0 p = (c, wd) := ⟨_, _, rfl⟩
      have hf := dec_facts a0 p c wd hlt hd
      have hps : pos a0 (j + 1) = p + wd := by rw [hp]; exact pos_step a0 j c wd (by rw [← hp]; exact hlt) (by rw [← hp]; exact hd)
      have HD := Lib.hid (fun W => zdec_any a0 p c wd (by assumption) hlt hd W)
      have hwp : IntKind.i64.wrap ((p : Int) + (wd : Int)) = ((p + wd : Nat) : Int) := by rw [IntKind.wrap_i64]; omega
      have hlt' : (p : Int) < (a0.size : Int) := by omega
      have hltN : (p : Int) < (N0 : Int) := by omega
      have HPS := Lib.hid hps; have HP := Lib.hid hp
      have hms : a0.size - (p + wd) < a0.size - p := by omega
      have HM := Lib.hid hms
      clear hd hps hms hp
      go_wp2_with (go_at_call 18; (with_reducible refine (HD.out _).mono ?_))
      rintro e w7 ⟨rfl, q, hw7⟩
      have HBR7 : Hid (BoolRow w7 w.heap.size a0) := Lib.hid (by rw [hw7]; exact HBR.out.drewN q)
      have HBE7 : Hid (Below w.heap.size w w7) := Lib.hid (by rw [hw7]; exact below_drewN HBE.out q)
      obtain ⟨bo, hbo, _⟩ := HBR7.out.cell p (by omega)
      have hzo : w7.frozen? ⟨w.heap.size, p, none⟩ = false := HBR7.out.frozen _
      have HS7 := Lib.hid (show BoolRow (w7.setCell ⟨w.heap.size, p, none⟩ (.bool true)) w.heap.size a0 by have h := HBR7.out.set j; rw [← HP.out] at h; exact h)
      clear hw7
      go_wp2
      go_roundw
      case rel => exact ⟨j + 1, by rw [HPS.out]; rfl, HS7.out, HBE7.out.setCell (p := ⟨w.heap.size, p, none⟩) (Nat.le_refl _) _⟩
      case measure => simp only [intOf]; have := HM.out; omega
    · have hend : pos a0 j = a0.size := by have := pos_le a0 j; omega
      have hlt' : ¬ ((p : Int) < (a0.size : Int)) := by omega
      have HB2 := Lib.hid (show BoolRow (wr.setCell ⟨w.heap.size, a0.size, none⟩ (.bool true)) w.heap.size a0 by have h := HBR.out.set j; rw [hend] at h; exact h)
      have HBE2 := Lib.hid (HBE.out.setCell (p := ⟨w.heap.size, a0.size, none⟩) (Nat.le_refl _) (.bool true))
      obtain ⟨bo, hbo, _⟩ := HBR.out.cell a0.size (Nat.le_refl _)
      have hzo : wr.frozen? ⟨w.heap.size, a0.size, none⟩ = false := HBR.out.frozen _
      have hcv2 := HCV.out _ HBE2.out
      have hn0' : (a0.size : Int) < (N0 : Int) := by omega
      obtain ⟨W2, hW2⟩ : ∃ W, W = wr.setCell ⟨w.heap.size, a0.size, none⟩ (.bool true) := ⟨_, rfl⟩
      rw [← hW2] at HB2 HBE2
      have hg1 := HB2.out.lt
      have HR2 := Lib.hid (BoolRow.mk0 W2 s N1 HN1.out)
      have HB5 := Lib.hid ((Below.refl W2.heap.size W2).alloc (Nat.le_refl _) (.cells (madeCells #[.bool false] N1) 4))
      clear hend hlt hp HBR HBE HR0 HB0
      go_upto_region 9 with fail
      rw [← hW2] at hcv2
      rw [← hW2]
      clear hW2 hbo hzo hm0
      go_wp2
      go_loopw [17] (fun i wr => ∃ j : Nat, i = .int .i64 (pos s j : Nat) ∧ BoolRow wr W2.heap.size s ∧ Below W2.heap.size W2 wr) (fun i _ => s.size - (intOf i).toNat)
      case atStart => exact ⟨0, rfl, HR2.out, HB5.out⟩
      case round =>
        obtain ⟨j, rfl, hbr, hbe⟩ := hrel
        have HBR := Lib.hid hbr; have HBE := Lib.hid hbe
        clear hbr hbe
        obtain ⟨p, hp⟩ : ∃ p, p = pos s j := ⟨_, rfl⟩
        rw [← hp]
        by_cases hlt : p < s.size
        · obtain ⟨c, wd, hd⟩ : ∃ c wd, Utf8.decode s p = (c, wd) := ⟨_, _, rfl⟩
          have hf := dec_facts s p c wd hlt hd
          have hps : pos s (j + 1) = p + wd := by rw [hp]; exact pos_step s j c wd (by rw [← hp]; exact hlt) (by rw [← hp]; exact hd)
          have HD := Lib.hid (fun W => zdec_any s p c wd (by assumption) hlt hd W)
          have hwp : IntKind.i64.wrap ((p : Int) + (wd : Int)) = ((p + wd : Nat) : Int) := by rw [IntKind.wrap_i64]; omega
          have hlt' : (p : Int) < (s.size : Int) := by omega
          have hltN : (p : Int) < (N1 : Int) := by omega
          have HPS := Lib.hid hps; have HP := Lib.hid hp
          have hms : s.size - (p + wd) < s.size - p := by omega
          have HM := Lib.hid hms
          clear hd hps hms hp
          go_wp2_with (go_at_call 18; (with_reducible refine (HD.out _).mono ?_))
          rintro e w7 ⟨rfl, q, hw7⟩
          have HBR7 : Hid (BoolRow w7 W2.heap.size s) := Lib.hid (by rw [hw7]; exact HBR.out.drewN q)
          have HBE7 : Hid (Below W2.heap.size W2 w7) := Lib.hid (by rw [hw7]; exact below_drewN HBE.out q)
          obtain ⟨bo, hbo, _⟩ := HBR7.out.cell p (by omega)
          have hzo : w7.frozen? ⟨W2.heap.size, p, none⟩ = false := HBR7.out.frozen _
          have HS7 := Lib.hid (show BoolRow (w7.setCell ⟨W2.heap.size, p, none⟩ (.bool true)) W2.heap.size s by have h := HBR7.out.set j; rw [← HP.out] at h; exact h)
          clear hw7
          go_wp2
          go_roundw
          case rel => exact ⟨j + 1, by rw [HPS.out]; rfl, HS7.out, HBE7.out.setCell (p := ⟨W2.heap.size, p, none⟩) (Nat.le_refl _) _⟩
          case measure => simp only [intOf]; have := HM.out; omega
        · have hend : pos s j = s.size := by have := pos_le s j; omega
          have hlt' : ¬ ((p : Int) < (s.size : Int)) := by omega
          have HS3 := Lib.hid (show BoolRow (wr.setCell ⟨W2.heap.size, s.size, none⟩ (.bool true)) W2.heap.size s by have h := HBR.out.set j; rw [hend] at h; exact h)
          have hB3 := HBE.out.setCell (p := ⟨W2.heap.size, s.size, none⟩) (Nat.le_refl _) (.bool true)
          obtain ⟨bo, hbo, _⟩ := HBR.out.cell s.size (Nat.le_refl _)
          have hzo : wr.frozen? ⟨W2.heap.size, s.size, none⟩ = false := HBR.out.frozen _
          obtain ⟨W3, hW3⟩ : ∃ W, W = wr.setCell ⟨W2.heap.size, s.size, none⟩ (.bool true) := ⟨_, rfl⟩
          rw [← hW3] at HS3 hB3
          have HA3 := Lib.hid (HB2.out.below hB3 hg1)
          have HBE3 := Lib.hid (HBE2.out.trans (hB3.mono (Nat.le_of_lt (Nat.lt_of_le_of_lt HBE2.out.size (by exact Nat.lt_succ_self _)) |> fun _ => HBE2.out.size)))
          have hg3 := HS3.out.lt
          have hg13 := HA3.out.lt
          have hw3 : w.heap.size ≤ W3.heap.size := HBE3.out.size
          have HZ3 := Lib.hid (HZ.out.1.below HBE3.out)
          clear hend hlt hp HBR HBE HR2 HB5 hB3 HB2 HBE2
          go_upto_region 18 with fail
          rw [← hW3]
          clear hW3 hbo hzo hm1 hcv2
          go_wp2
          go_loopw [20, 21] (fun pv iv wr => ∃ (k : Nat) (prev : Nat), pv = .int .i64 (prev : Int) ∧ iv = .int .i64 (k : Int) ∧ k ≤ m ∧ FitsTo a0 s Z k (prev : Int) ∧ (k = 0 → prev = 0) ∧ prev ≤ 1048576 ∧ Below W3.heap.size W3 wr) (fun _ i _ => m - (intOf i).toNat)
          case atStart => exact ⟨0, 0, rfl, rfl, Nat.zero_le _, FitsTo.zero _ _ _ _, fun _ => rfl, Nat.zero_le _, Below.refl _ _⟩
          case round =>
            obtain ⟨k, prev, rfl, rfl, hk, hft, hp0, hp20, hbe⟩ := hrel
            have HFT := Lib.hid hft; have HBE := Lib.hid hbe; have HP0 := Lib.hid hp0
            have hszw := hbe.size
            clear hft hbe hp0
            by_cases hlt : k < m
            · obtain ⟨b, off, rfl, hbk, hx⟩ := reads3 (HZ3.out.below (HBE.out.mono hw3)) (by omega)
              obtain ⟨r, hr⟩ : ∃ r, Z[k]? = some r := ⟨_, List.getElem?_eq_getElem (by have := HZ.out.2.2.2.1; omega)⟩
              obtain ⟨q0, q1, q2⟩ := hx k r hr
              have hok := HZ.out.2.2.2.2 r (List.mem_of_getElem? hr)
              obtain ⟨⟨ha1, ha2⟩, ⟨hb1, hb2⟩, hnm⟩ := hok
              have HR := Lib.hid hr
              have hlt' : (k : Int) < (m : Int) := by omega
              clear hx hr hnm
              go_upto_region 23 with fail
              obtain ⟨W4, hW4⟩ : ∃ W, W = wr.alloc (.cells #[.int .i32 r.a, .int .i32 r.b, .string r.nm] 65) := ⟨_, rfl⟩
              rw [← hW4]
              have hB4 : Blk W4 wr.heap.size 65 #[.int .i32 r.a, .int .i32 r.b, .string r.nm] := by rw [hW4]; exact Blk.new _ _ _
              have hE4 : Below W3.heap.size W3 W4 := by rw [hW4]; exact HBE.out.alloc hszw _
              have HE4 := Lib.hid hE4
              have HRET : Hid (Below w.heap.size w W4) := Lib.hid (HBE3.out.trans (hE4.mono hw3))
              have HA4 := Lib.hid (HA3.out.below hE4 hg13)
              have HS4 := Lib.hid (HS3.out.below hE4 hg3)
              have d0 : W4.cell? ⟨wr.heap.size, 0, none⟩ = some (.int .i32 r.a) := hB4.cell 0
              have d1 : W4.cell? ⟨wr.heap.size, 1, none⟩ = some (.int .i32 r.b) := hB4.cell 1
              clear hW4 hB4 hE4 q0 q1 q2
              by_cases hneg : r.a < 0
              · clear ha1 ha2 hb1 hb2
                go_wp2
                go_ret
                exact ⟨false, rfl, HRET.out, fun h => by cases h⟩
              have hwa : IntKind.i64.wrap r.a = r.a := by rw [IntKind.wrap_i64]; omega
              by_cases hbig : (a0.size : Int) < r.a
              · go_wp2
                go_ret
                exact ⟨false, rfl, HRET.out, fun h => by cases h⟩
              obtain ⟨x, hx⟩ : ∃ x : Nat, r.a = (x : Int) := ⟨r.a.toNat, by omega⟩
              have HX := Lib.hid hx
              rw [hx] at d0 hneg hbig hwa
              clear hx
              obtain ⟨bx, hbx, hbx'⟩ := HA4.out.cell x (by omega)
              have HBX := Lib.hid hbx'
              have hxN : (x : Int) < (N0 : Int) := by omega
              clear hbx'
              cases bx with
              | false =>
                go_wp2
                go_ret
                exact ⟨false, rfl, HRET.out, fun h => by cases h⟩
              | true =>
              have hwb : IntKind.i64.wrap r.b = r.b := by rw [IntKind.wrap_i64]; omega
              by_cases hnegb : r.b < 0
              · go_wp2
                go_ret
                exact ⟨false, rfl, HRET.out, fun h => by cases h⟩
              by_cases hbigb : (s.size : Int) < r.b
              · go_wp2
                go_ret
                exact ⟨false, rfl, HRET.out, fun h => by cases h⟩
              by_cases hprev : r.b < (prev : Int)
              · go_wp2
                go_ret
                exact ⟨false, rfl, HRET.out, fun h => by cases h⟩
              obtain ⟨y, hy⟩ : ∃ y : Nat, r.b = (y : Int) := ⟨r.b.toNat, by omega⟩
              have HY := Lib.hid hy
              rw [hy] at d1 hnegb hbigb hprev hwb
              clear hy
              obtain ⟨by0, hby, hby'⟩ := HS4.out.cell y (by omega)
              have HBY := Lib.hid hby'
              have hyN : (y : Int) < (N1 : Int) := by omega
              have HY20 : Hid (y ≤ 1048576) := Lib.hid (by omega)
              clear hby'
              cases by0 with
              | false =>
                go_wp2
                go_ret
                exact ⟨false, rfl, HRET.out, fun h => by cases h⟩
              | true =>
              have hwk : IntKind.i64.wrap ((k : Int) + 1) = ((k + 1 : Nat) : Int) := by rw [IntKind.wrap_i64]; omega
              have HNEXT : Hid (Clean s y → FitsTo a0 s Z (k + 1) (y : Int)) := Lib.hid (fun hcl => by
                obtain ⟨k0, hk0⟩ := HBX.out rfl
                obtain ⟨m0, hm0⟩ := HBY.out rfl
                have h := HFT.out.succ HR.out ⟨k0, by rw [HX.out, hk0]⟩ ⟨m0, by rw [HY.out, hm0], by rw [hm0]; exact hcl⟩ (by
                  rcases Nat.eq_zero_or_pos k with h0 | h0
                  · exact .inl h0
                  · right; rw [HY.out]; omega)
                rw [HY.out] at h
                exact h)
              by_cases hy0 : y = 0
              · subst hy0
                have HCL := Lib.hid (HNEXT.out (by rintro ⟨h, _⟩; omega))
                have t0 : ¬ ((0 : Int) < ((0 : Nat) : Int)) := by omega
                go_wp2
                go_roundw
                case rel => exact ⟨k + 1, _, rfl, rfl, by omega, HCL.out, fun h => by omega, HY20.out, HE4.out⟩
                case measure => simp [intOf]; omega
              have ty : (0 : Int) < (y : Int) := by omega
              by_cases hyn : y < s.size
              case neg =>
                have HCL := Lib.hid (HNEXT.out (by rintro ⟨_, h, _⟩; omega))
                have t1 : ¬ ((y : Int) < (s.size : Int)) := by omega
                go_wp2
                go_roundw
                case rel => exact ⟨k + 1, _, rfl, rfl, by omega, HCL.out, fun h => by omega, HY20.out, HE4.out⟩
                case measure => simp [intOf]; omega
              have t1 : (y : Int) < (s.size : Int) := by omega
              obtain ⟨ym, hym⟩ : ∃ z, z = y - 1 := ⟨_, rfl⟩
              have hwm : IntKind.i64.wrap ((y : Int) - 1) = (ym : Int) := by rw [IntKind.wrap_i64]; omega
              have hyms : ym < s.size := by omega
              have hyms' : (ym : Int) < (s.size : Int) := by omega
              obtain ⟨b1, hb1e⟩ : ∃ b, b = byteAt s ym := ⟨_, rfl⟩
              obtain ⟨b2, hb2e⟩ : ∃ b, b = byteAt s y := ⟨_, rfl⟩
              have hg1 := get_nat s ym hyms
              have hg2 := get_nat s y hyn
              rw [← hb1e] at hg1
              rw [← hb2e] at hg2
              have HCLN : Hid (¬ (b1 = 13 ∧ b2 = 10) → Clean s y) := Lib.hid (fun h => by
                rintro ⟨_, _, h1, h2⟩
                exact h ⟨by rw [hb1e, hym]; exact h1, by rw [hb2e]; exact h2⟩)
              clear hb1e hb2e hym
              by_cases h13 : b1 = 13
              · have t13 : ((b1 : Int) == 13) = true := by simp [h13]
                by_cases h10 : b2 = 10
                · have t10 : ((b2 : Int) == 10) = true := by simp [h10]
                  clear h13 h10
                  go_wp2
                  go_ret
                  exact ⟨false, rfl, HRET.out, fun h => by cases h⟩
                · have t10 : ((b2 : Int) == 10) = false := beq_eq_false_iff_ne.2 (by omega)
                  have HCL := Lib.hid (HNEXT.out (HCLN.out (fun h => h10 h.2)))
                  clear h13 h10
                  go_wp2
                  go_roundw
                  case rel => exact ⟨k + 1, _, rfl, rfl, by omega, HCL.out, fun h => by omega, HY20.out, HE4.out⟩
                  case measure => simp [intOf]; omega
              · have t13 : ((b1 : Int) == 13) = false := beq_eq_false_iff_ne.2 (by omega)
                have HCL := Lib.hid (HNEXT.out (HCLN.out (fun h => h13 h.1)))
                clear h13
                go_wp2
                go_roundw
                case rel => exact ⟨k + 1, _, rfl, rfl, by omega, HCL.out, fun h => by omega, HY20.out, HE4.out⟩
                case measure => simp [intOf]; omega
            · obtain rfl : k = m := by omega
              have hlt' : ¬ ((k : Int) < (k : Int)) := by omega
              go_wp2
              go_ret
              exact ⟨true, rfl, HBE3.out.trans (HBE.out.mono hw3), fun _ => HFT.out.fits HZ.out.2.2.2.1.symm⟩
end Go.Proofs.YtgdcpladehcegaaDoor
