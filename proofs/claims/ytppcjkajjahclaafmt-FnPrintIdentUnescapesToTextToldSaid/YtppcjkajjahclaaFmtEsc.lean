/- printWithEscape: no escape, a backslash escape, any kind beyond; the hexadecimal escape is not walked. -/
import Derived.Test.YtppcjkajjahclaaFmtIsP
import Derived.Test.YtppcjkajjahclaaFmtEnc
namespace Go.Proofs.YtppcjkajjahclaaFmt
open Go.RowKit
set_option linter.unusedVariables false
set_option linter.unusedSimpArgs false
def isHex (c : Int) : Bool := decide ((48 ≤ c ∧ c ≤ 57) ∨ (97 ≤ c ∧ c ≤ 102) ∨ (65 ≤ c ∧ c ≤ 70))
theorem runeCells_one (r : Int) : ∀ u ∈ Lib.runeCells r, u.oneCell' = true := by
  intro u hu
  unfold Lib.runeCells at hu
  obtain ⟨x, _, rfl⟩ := List.mem_map.1 hu
  rfl
theorem slice4 (g m : Nat) (hm : m ≤ 4) (w : World) : (Instr.sliceAt 71 (.pointer (some ⟨g, 0, none⟩)) none (some (.int .i64 (m : Int))) none).run Tryf.prog w = .ok (.slice (some ⟨g, 0, none⟩) m 4) w := by
  have hl : Tryf.prog.arrayLen 71 = 4 := by kernel_rfl
  have he : Tryf.prog.elem 71 = 5 := by kernel_rfl
  have hu : Tryf.prog.underlying 71 = some (.array (Tryf.prog.arrayLen 71) (Tryf.prog.elem 71)) := by kernel_rfl
  rw [run_sliceAt_array_h w 71 ⟨g, 0, none⟩ hu .i64 (m : Int) (by omega) (by rw [hl]; omega), he, hl, Tryf.sizeOf5]
  simp [slicedAt, Addr.add]
/-- What printing bytes to the printer leaves. -/
def Printed (B b : Nat) (K : Array Value) (A : Option Addr) (bs : List Value) (w : World) (e : Ending) (w' : World) : Prop :=
  e = .returned (.tuple #[]) ∧ (∃ A' cap', IsP B b K A' cap' bs w' ∧ RowAt (rb A) (rb A') w.heap.size) ∧ Below B w w' ∧ Kept b (rb A) w w'
set_option maxHeartbeats 2000000 in
set_option maxRecDepth 100000 in
theorem esc_none {B b : Nat} {K : Array Value} {A : Option Addr} {cap : Nat} {bs : List Value} (c : Int) (hlo : -2147483648 ≤ c) (hhi : c ≤ 2147483647) (rem : ByteArray) (ws : Bool) (w : World) (h : IsP B b K A cap bs w) (hB : B ≤ w.heap.size) (L : Nat) (hL : bs.length = L) (hlen : L ≤ 16777216) :
    Calls Tryf.prog 20 #[.pointer (some ⟨b, 0, none⟩), .int .i32 c, .int .u8 0, .string rem, .bool ws] w (Printed B b K A (bs ++ Lib.runeCells c) w) := by
  obtain ⟨i0, hi, hz0, hz1, hz2⟩ := info_parts u8I
  have hm := Lib.runeCells_le c
  have H := Lib.hid h; have HL := Lib.hid hL
  clear h hL
  go_enter Tryf.func20, Tryf.ntmps20
  go_wp2_with (go_at_call 23; refine (encode_any w.heap.size _ _ rfl c hlo hhi _ (Blk.new w _ _)).mono ?_)
  rintro e w1 ⟨rfl, hr, hb1, _, hcs⟩
  have hbw1 : Below w.heap.size w w1 := ((Below.refl _ w).alloc (Nat.le_refl _) _).trans hb1
  have hp1 : IsP B b K A cap bs w1 := H.out.below hbw1 (Nat.le_refl _)
  obtain ⟨X, hX⟩ : ∃ X, X = Lib.runeCells c := ⟨_, rfl⟩
  have HX := Lib.hid hX
  have hsrc : Src Tryf.prog 1 27 (.slice (some ⟨w.heap.size, 0, none⟩) X.length 4) X.length X w1.drew := Reads.src w1.drew Tryf.underlying27 (by rw [hX]; exact hr.drew) (by rw [hX]; exact runeCells_one c) (fun h => by cases h)
  rw [← hX] at hm ⊢
  obtain ⟨m, hm'⟩ : ∃ m, m = X.length := ⟨_, rfl⟩
  rw [← hm'] at hm hsrc ⊢
  have HM := Lib.hid hm'
  have hs1 : B ≤ w1.heap.size := Nat.le_trans hB hbw1.size
  have HP1 := Lib.hid hp1; have HB1 := Lib.hid (hbw1.mono hB); have HK1 : Hid (Kept b (rb A) w w1) := Lib.hid (Kept.of_below hbw1); have HSRC := Lib.hid hsrc
  have c15 : w1.cell? ⟨b, 15, none⟩ = some (.slice A L cap) := hp1.css HL.out
  clear hX hm' hp1 hbw1 hb1 hr hcs hsrc
  obtain ⟨hm1, hm4⟩ := hm
  have hsl := fun W => slice4 w.heap.size m hm4 W
  go_wp2
  go_region_law (refine step_append_own_src _ rfl (.tmp 51) (.tmp 53) 27 27 rfl B 5 i0 (.int .u8 0) 1 1 Tryf.underlying27 hi hz0 hz1 hz2 rfl (.slice A L cap) L bs (by simp [Act.eval, Act.put]) (HP1.out.drew.ownL HL.out) (.slice (some ⟨w.heap.size, 0, none⟩) m 4) m X (by simp [Act.eval, Act.put]) HSRC.out (by unfold maxLen; omega) (by omega) hs1 ?_; intro v' w2 hown' hgrow hat; obtain ⟨g, cap2, hv, d15, z15, hp2, hb2, hl2, hs2, hk2, hr2⟩ := HP1.out.drew.app HL.out hs1 HB1.out.drew (by omega) hown' hgrow hat; have HP2 := Lib.hid hp2; have HB2 := Lib.hid hb2; have HK2 : Hid (Kept b (rb A) w1 (w2.setCell ⟨b, 15, none⟩ (.slice (some ⟨g, 0, none⟩) (L + m) cap2))) := Lib.hid ⟨hk2.size, hk2.block⟩; have HR2 : Hid (RowAt (rb A) (rb (some ⟨g, 0, none⟩)) w1.heap.size) := Lib.hid hr2; subst hv; clear hp2 hb2 hown' hgrow hl2 hk2 hr2 hat)
  go_wp2
  go_end0
  exact ⟨rfl, ⟨_, _, by rw [← HX.out]; exact HP2.out, RowAt.trans (n1 := w1.heap.size) (.inl rfl) HR2.out HK1.out.size⟩, HB2.out, HK1.out.trans HK2.out (.inl rfl)⟩
theorem srcOne (W : World) (x : Value) (hx : x.oneCell' = true) : Src Tryf.prog 1 27 (.slice (some ⟨W.heap.size, 0, none⟩) 1 1) 1 [x] (W.alloc (.cells #[x] 5)) :=
  Src.ofSlice _ Tryf.underlying27 _ 1 1 [x] rfl (fun j u hu => by
    have hj : j < 1 := (List.getElem?_eq_some_iff.1 hu).1
    obtain rfl : j = 0 := by omega
    rw [← hu]
    exact (Blk.new W 5 #[x]).cell 0) (fun u hu => by
    obtain rfl : u = x := by simpa using hu
    exact hx)
set_option maxHeartbeats 4000000 in
set_option maxRecDepth 100000 in
theorem esc_bs {B b : Nat} {K : Array Value} {A : Option Addr} {cap : Nat} {bs : List Value} (c : Int) (hlo : -2147483648 ≤ c) (hhi : c ≤ 2147483647) (hx : isHex c = false) (rem : ByteArray) (ws : Bool) (w : World) (h : IsP B b K A cap bs w) (hB : B ≤ w.heap.size) (L : Nat) (hL : bs.length = L) (hlen : L ≤ 16777216) :
    Calls Tryf.prog 20 #[.pointer (some ⟨b, 0, none⟩), .int .i32 c, .int .u8 1, .string rem, .bool ws] w (Printed B b K A (bs ++ [.int .u8 92] ++ Lib.runeCells c) w) := by
  obtain ⟨i0, hi, hz0, hz1, hz2⟩ := info_parts u8I
  have hm := Lib.runeCells_le c
  have H := Lib.hid h; have HL := Lib.hid hL
  have hcas : c < 48 ∨ (57 < c ∧ c < 65) ∨ (70 < c ∧ c < 97) ∨ 102 < c := by
    have : ¬ ((48 ≤ c ∧ c ≤ 57) ∨ (97 ≤ c ∧ c ≤ 102) ∨ (65 ≤ c ∧ c ≤ 70)) := by unfold isHex at hx; simpa using hx
    omega
  have HSRC0 := Lib.hid (srcOne (w.alloc (.cells #[.int .u8 0, .int .u8 0, .int .u8 0, .int .u8 0] 71)) (.int .u8 92) rfl)
  have HP0 := Lib.hid ((h.alloc (.cells #[.int .u8 0, .int .u8 0, .int .u8 0, .int .u8 0] 71)).alloc (.cells #[.int .u8 92] 5))
  have HSRC1 : Hid (Src Tryf.prog 1 27 (.slice (some ⟨w.heap.size + 1, 0, none⟩) 1 1) 1 [.int .u8 92] ((w.alloc (.cells #[.int .u8 0, .int .u8 0, .int .u8 0, .int .u8 0] 71)).alloc (.cells #[.int .u8 92] 5))) := Lib.hid (by simpa using HSRC0.out)
  have HB0 : Hid (B ≤ ((w.alloc (.cells #[.int .u8 0, .int .u8 0, .int .u8 0, .int .u8 0] 71)).alloc (.cells #[.int .u8 92] 5)).heap.size) := Lib.hid (by simp; omega)
  have HBW0 : Hid (Below B w ((w.alloc (.cells #[.int .u8 0, .int .u8 0, .int .u8 0, .int .u8 0] 71)).alloc (.cells #[.int .u8 92] 5))) := Lib.hid (((Below.refl B w).alloc hB _).alloc (by simp; omega) _)
  have c15 : w.cell? ⟨b, 15, none⟩ = some (.slice A L cap) := h.css hL
  have hlt := h.lt
  clear h hL hx
  rcases hcas with h1 | ⟨h1, h2⟩ | ⟨h1, h2⟩ | h1
  all_goals
    go_enter Tryf.func20, Tryf.ntmps20
    go_wp2_with (at_builtin; refine wpList_append_own_src _ rfl (.tmp 63) (.tmp 64) 27 27 rfl B 5 i0 (.int .u8 0) 1 1 Tryf.underlying27 hi hz0 hz1 hz2 rfl _ L bs rfl (HP0.out.ownL HL.out) _ 1 [.int .u8 92] rfl HSRC1.out (by unfold maxLen; omega) (by omega) HB0.out ?_)
    intro v' w2 hown' hgrow hat
    obtain ⟨g, cap2, rfl, d15, z15, hp2, hb2, hl2, hs2, hk2, hr2⟩ := HP0.out.app HL.out HB0.out HBW0.out (by omega) hown' hgrow (by simpa using hat)
    have HK2 : Hid (Kept b (rb A) w (w2.setCell ⟨b, 15, none⟩ (.slice (some ⟨g, 0, none⟩) (L + 1) cap2))) := Lib.hid ((((Kept.refl b (rb A) w).alloc _).alloc _).trans hk2 (.inl rfl))
    have HR2 : Hid (RowAt (rb A) (rb (some ⟨g, 0, none⟩)) w.heap.size) := Lib.hid (RowAt.trans (.inl rfl) hr2 (by simp; omega))
    have HP2 := Lib.hid hp2; have HB2 := Lib.hid hb2; have HL2 := Lib.hid hl2
    have HBK : Hid (Blk (w2.setCell ⟨b, 15, none⟩ (.slice (some ⟨g, 0, none⟩) (L + 1) cap2)) w.heap.size 71 #[.int .u8 0, .int .u8 0, .int .u8 0, .int .u8 0]) := Lib.hid (by
      refine (((Blk.new w 71 #[.int .u8 0, .int .u8 0, .int .u8 0, .int .u8 0]).alloc (.cells #[.int .u8 92] 5)).grown hgrow ?_).far (p := ⟨b, 15, none⟩) (by simp; omega) _
      intro e
      exact absurd ((H.out.ownL HL.out).lt _ e.symm).2 (by omega))
    clear hp2 hb2 hown' hgrow hl2 hk2 hr2 hat
    go_wp2_with (go_at_call 23; refine (encode_any w.heap.size _ _ rfl c hlo hhi _ HBK.out).mono ?_)
    rintro e w3 ⟨rfl, hr, hb3, hg3, hcs⟩
    have hbw3 : Below B w w3 := HB2.out.trans (hb3.mono hB)
    have HK3 : Hid (Kept b (rb A) w w3) := Lib.hid ⟨Nat.le_trans HK2.out.size hg3.size, fun i hi hb hne => (hg3.block i (Nat.lt_of_lt_of_le hi HK2.out.size) (fun e => by injection e with e; omega)).trans (HK2.out.block i hi hb hne)⟩
    have hp3 : IsP B b K (some ⟨g, 0, none⟩) cap2 (bs ++ [.int .u8 92]) w3 := HP2.out.grown hg3 (by omega) (by
      intro e
      have hgne : g = w.heap.size := by simpa [Value.ownBlock] using e
      exact own_blk_ne HP2.out.own HBK.out (by decide) (by rw [hgne]; rfl))
    obtain ⟨X, hX⟩ : ∃ X, X = Lib.runeCells c := ⟨_, rfl⟩
    have HX := Lib.hid hX
    have hsrc : Src Tryf.prog 1 27 (.slice (some ⟨w.heap.size, 0, none⟩) X.length 4) X.length X w3.drew := Reads.src w3.drew Tryf.underlying27 (by rw [hX]; exact hr.drew) (by rw [hX]; exact runeCells_one c) (fun h => by cases h)
    rw [← hX] at hm ⊢
    obtain ⟨m, hm'⟩ : ∃ m, m = X.length := ⟨_, rfl⟩
    rw [← hm'] at hm hsrc ⊢
    have HM := Lib.hid hm'
    have hs1 : B ≤ w3.heap.size := Nat.le_trans hB hbw3.size
    have HP3 := Lib.hid hp3; have HB3 := Lib.hid hbw3; have HSRC := Lib.hid hsrc
    have c15 : w3.cell? ⟨b, 15, none⟩ = some (.slice (some ⟨g, 0, none⟩) (L + 1) cap2) := hp3.css HL2.out
    clear hX hm' hp3 hbw3 hb3 hr hcs hsrc hg3
    obtain ⟨hm1, hm4⟩ := hm
    have hsl := fun W => slice4 w.heap.size m hm4 W
    go_wp2
    go_region_law (refine step_append_own_src _ rfl (.tmp 75) (.tmp 77) 27 27 rfl B 5 i0 (.int .u8 0) 1 1 Tryf.underlying27 hi hz0 hz1 hz2 rfl (.slice (some ⟨g, 0, none⟩) (L + 1) cap2) (L + 1) (bs ++ [.int .u8 92]) (by simp [Act.eval, Act.put]) (HP3.out.drew.ownL HL2.out) (.slice (some ⟨w.heap.size, 0, none⟩) m 4) m X (by simp [Act.eval, Act.put]) HSRC.out (by unfold maxLen; omega) (by omega) hs1 ?_; intro v' w4 hown' hgrow hat; obtain ⟨g', cap3, hv, d15', z15', hp4, hb4, hl4, hs4, hk4, hr4⟩ := HP3.out.drew.app HL2.out hs1 HB3.out.drew (by omega) hown' hgrow hat; have HP4 := Lib.hid hp4; have HB4 := Lib.hid hb4; have HK4 : Hid (Kept b (rb (some ⟨g, 0, none⟩)) w3 (w4.setCell ⟨b, 15, none⟩ (.slice (some ⟨g', 0, none⟩) (L + 1 + m) cap3))) := Lib.hid ⟨hk4.size, hk4.block⟩; have HR4 : Hid (RowAt (rb (some ⟨g, 0, none⟩)) (rb (some ⟨g', 0, none⟩)) w3.heap.size) := Lib.hid hr4; subst hv; clear hp4 hb4 hown' hgrow hl4 hk4 hr4 hat)
    go_wp2
    go_end0
    exact ⟨rfl, ⟨_, _, by rw [← HX.out]; exact HP4.out, RowAt.trans HR2.out HR4.out HK3.out.size⟩, HB4.out, HK3.out.trans HK4.out HR2.out⟩
set_option maxHeartbeats 1000000 in
set_option maxRecDepth 100000 in
theorem esc_other {B b : Nat} {K : Array Value} {A : Option Addr} {cap : Nat} {bs : List Value} (c k : Int) (hk : 3 ≤ k) (rem : ByteArray) (ws : Bool) (w : World) (h : IsP B b K A cap bs w) (hB : B ≤ w.heap.size) :
    Calls Tryf.prog 20 #[.pointer (some ⟨b, 0, none⟩), .int .i32 c, .int .u8 k, .string rem, .bool ws] w (Printed B b K A bs w) := by
  have e0 : (k == 0) = false := by simp; omega
  have e1 : (k == 1) = false := by simp; omega
  have e2 : (k == 2) = false := by simp; omega
  have H := Lib.hid h
  clear h
  go_enter Tryf.func20, Tryf.ntmps20
  go_wp2
  go_end0
  exact ⟨rfl, ⟨_, _, H.out.alloc _, .inl rfl⟩, (Below.refl _ _).alloc hB _, (Kept.refl _ _ _).alloc _⟩
end Go.Proofs.YtppcjkajjahclaaFmt
