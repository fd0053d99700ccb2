/- DecodeVLQ: a number is read off a row of bytes, at a place. -/
import Derived.Test.YthbmffocgccniaaDoorVtk
import Derived.Test.YthbmffocgccniaaDoorVix
namespace Go.Proofs.YthbmffocgccniaaDoor
open Go.RowKit
set_option linter.unusedVariables false
set_option linter.unusedSimpArgs false
def u8V (c : UInt8) : Value := .int .u8 (c.toNat : Int)
/-- A row of bytes in memory. -/
def Txt (w : World) (A : Option Addr) (n : Nat) (T : Bt) : Prop := Reads w w.heap.size 1 A n (T.map u8V)
theorem Txt.len {w : World} {A : Option Addr} {n : Nat} {T : Bt} (h : Txt w A n T) : T.length = n := by have := h.1; simpa using this
theorem Txt.grown {w w' : World} {A : Option Addr} {n : Nat} {T : Bt} (h : Txt w A n T) (hg : w.grownBy w' none) : Txt w' A n T := (Reads.grown h hg (Nat.le_refl _) (fun g e => by cases e)).more hg.size
theorem Txt.below {w w' : World} {A : Option Addr} {n : Nat} {T : Bt} (h : Txt w A n T) (hb : Below w.heap.size w w') : Txt w' A n T := (Reads.below h hb).more hb.size
theorem Txt.byte {w : World} {A : Option Addr} {n : Nat} {T : Bt} {pre : Bt} {c : UInt8} {post : Bt} {p : Nat} (h : Txt w A n T) (hT : T = pre ++ c :: post) (hp : pre.length = p) : p < n ∧ ∃ ad, A = some ad ∧ w.cell? (ad.add p) = some (.int .u8 (c.toNat : Int)) := by
  have hl := h.len
  have hpn : p < n := by rw [hT, List.length_append, List.length_cons] at hl; omega
  obtain ⟨ad, u, h1, _, h2, h3⟩ := Reads.at_ h hpn
  refine ⟨hpn, ad, h1, ?_⟩
  rw [h3, ← h2, List.getElem?_map, hT, List.getElem?_append_right (by omega), hp, Nat.sub_self]; rfl
/-- The reader's state: i digits read, u still to be read, at p. -/
structure DkI (n : Int) (T rest : Bt) (p0 i u v p : Nat) : Prop where
  txt : ∃ pre, T = pre ++ (putN u ++ rest) ∧ pre.length = p
  at_ : p + (putN u).length = p0 + (put n).length
  rd : Rd (sgn n) i u v
  pos : 1 ≤ u ∨ i = 0
theorem DkI.start {n : Int} {T pre rest : Bt} {p : Nat} (h : T = pre ++ (put n ++ rest)) (hp : pre.length = p) : DkI n T rest p 0 (sgn n) 0 p := ⟨⟨pre, h, hp⟩, rfl, Rd.start _, .inr rfl⟩
theorem DkI.step {n : Int} {T rest : Bt} {p0 i u v p : Nat} (h : DkI n T rest p0 i u v p) (hu : ¬ u < 32) : DkI n T rest p0 (i + 1) (u / 32) (v + (u % 32) * 2 ^ (5 * i)) (p + 1) := by
  obtain ⟨⟨pre, h1, h2⟩, h3, h4, h5⟩ := h
  refine ⟨⟨pre ++ [digU (u % 32 + 32)], ?_, by simp [h2]⟩, ?_, h4.step, .inl (by omega)⟩
  · rw [h1, putN_big hu]; simp
  · rw [putN_big hu, List.length_cons] at h3; omega
theorem DkI.i7 {n : Int} {T rest : Bt} {p0 i u v p : Nat} (h : DkI n T rest p0 i u v p) (hn : sgn n < 2 ^ 35) : i < 7 := by
  rcases h.pos with h1 | h1
  · exact h.rd.short h1 hn
  · omega
def DecPost (v : Int) (p : Nat) (w : World) (e : Ending) (w' : World) : Prop := e = .returned (.tuple #[.int .i64 v, .int .i64 (p : Int)]) ∧ w.grownBy w' none
set_option maxHeartbeats 2000000 in
set_option maxRecDepth 100000 in
theorem dvlq_sep (A : Option Addr) (n cap : Nat) (T pre post : Bt) (c : UInt8) (p : Nat) (w : World) (hb : B64 w) (hT : Txt w A n T) (hc : c = 44 ∨ c = 59) (he : T = pre ++ c :: post) (hp : pre.length = p) (hn : n ≤ 16777216) :
    Calls Tryd.prog 10 #[.slice A n cap, .int .i64 (p : Int)] w (DecPost 0 p w) := by
  obtain ⟨hpn, ad, rfl, hcell⟩ := hT.byte he hp
  obtain ⟨g, o, cp, hg, hcs⟩ := hb
  have hix : ∀ W : World, (∀ i, i < 64 → W.cell? ⟨g, o + i, none⟩ = some (.int .u8 (dig i : Int))) → Calls Tryd.prog 15 #[.slice (some ⟨g, o, none⟩) 64 cp, .int .u8 (c.toNat : Int)] W (IdxPost (-1) W) := fun W h => by
    rcases hc with rfl | rfl
    · exact idx_any g o cp 44 (-1) W h idx_comma
    · exact idx_any g o cp 59 (-1) W h idx_semi
  have HIX := Lib.hid hix; have HCS := Lib.hid hcs
  have hp' : (p : Int) < (n : Int) := by omega
  clear hix hcs hc he hp hT
  go_enter Tryd.func10, Tryd.ntmps10
  go_wp2
  go_loopw [1, 6, 7] (fun sv sh vv wr => sv = .int .i64 (p : Int) ∧ vv = .int .i64 0 ∧ w = wr) (fun _ _ _ _ => 0)
  case atStart => exact ⟨rfl, rfl, rfl⟩
  case round =>
    obtain ⟨rfl, rfl, rfl⟩ := hrel
    go_wp2
    go_quiet ((go_at_call 15; exact Calls.mono (HIX.out _ (by exact HCS.out)) (fun e w' h => ⟨h.1, _, h.2.symm⟩)))
    go_wp2
    go_returns
    exact ⟨rfl, rfl, rfl, rfl, Nat.le_refl _, fun _ _ _ => rfl⟩
set_option maxHeartbeats 2000000 in
set_option maxRecDepth 100000 in
theorem dvlq_num (v : Int) (A : Option Addr) (n cap : Nat) (T pre rest : Bt) (p : Nat) (w : World) (hb : B64 w) (hT : Txt w A n T) (he : T = pre ++ (put v ++ rest)) (hp : pre.length = p) (hv : sgn v < 2 ^ 35) (hn : n ≤ 16777216) :
    Calls Tryd.prog 10 #[.slice A n cap, .int .i64 (p : Int)] w (DecPost v (p + (put v).length) w) := by
  have HS := Lib.hid (DkI.start he hp)
  obtain ⟨g, o, cp, hg, hcs⟩ := hb
  have HIX : Hid (∀ (W : World) (x : Nat), x < 64 → (∀ i, i < 64 → W.cell? ⟨g, o + i, none⟩ = some (.int .u8 (dig i : Int))) → Calls Tryd.prog 15 #[.slice (some ⟨g, o, none⟩) 64 cp, .int .u8 (dig x : Int)] W (IdxPost (x : Int) W)) := Lib.hid (fun W x hx h => idx_any g o cp _ _ W h (idx_dig ⟨x, hx⟩))
  have HCS := Lib.hid hcs; have HT := Lib.hid hT; have HV := Lib.hid hv; have HGC := Lib.hid hg
  clear hcs he hp hT hv hg
  go_enter Tryd.func10, Tryd.ntmps10
  go_wp2
  go_loopw [1, 6, 7] (fun sv sh vv wr => ∃ (i u v' s q : Nat), sv = .int .i64 (q : Int) ∧ sh = .int .i64 (s : Int) ∧ vv = .int .i64 (v' : Int) ∧ s = 5 * i ∧ DkI v T rest p i u v' q ∧ w.grownBy wr none) (fun _ sh _ _ => 40 - (intOf sh).toNat)
  case atStart => exact ⟨0, sgn v, 0, 0, p, rfl, rfl, rfl, rfl, HS.out, World.grownBy.refl _ _⟩
  case round =>
    obtain ⟨i, u, vv, s, q, rfl, rfl, rfl, hs, hdk, hgr⟩ := hrel
    have HDK := Lib.hid hdk; have HSV := Lib.hid hs; have HGR := Lib.hid hgr
    have hi7 := hdk.i7 HV.out
    have hs35 : s < 35 := by omega
    have hd64 := dOf_lt u
    obtain ⟨x, hx⟩ : ∃ x, x = dOf u := ⟨_, rfl⟩
    have hbyte : q < n ∧ ∃ ad, A = some ad ∧ wr.cell? (ad.add q) = some (.int .u8 (dig x : Int)) := by
      obtain ⟨pre', h1, h2⟩ := hdk.txt
      rw [putN_dOf] at h1
      have := (Txt.grown HT.out hgr).byte h1 h2
      rw [digU_nat _ (dOf_lt u), ← hx] at this
      exact this
    rw [← hx] at hd64
    obtain ⟨hqn, ad, rfl, hcell⟩ := hbyte
    have hcg : wr.cell? ⟨0, 0, none⟩ = some (.slice (some ⟨g, o, none⟩) 64 cp) := (World.cell?_of_block (hgr.block 0 (World.block_lt_of_cell? _ _ HGC.out) (by simp))).trans HGC.out
    have HCW : Hid (∀ i, i < 64 → wr.cell? ⟨g, o + i, none⟩ = some (.int .u8 (dig i : Int))) := Lib.hid (fun i hi => (World.cell?_of_block (hgr.block g (World.block_lt_of_cell? _ _ (HCS.out i hi)) (by simp))).trans (HCS.out i hi))
    have hqn' : (q : Int) < (n : Int) := by omega
    have HX := Lib.hid hx
    have HIXX := Lib.hid (fun W => HIX.out W x hd64)
    have ha31 := and31_i64 x (by omega)
    obtain ⟨y, hy⟩ : ∃ y, y = u % 32 := ⟨_, rfl⟩
    have hxy : x % 32 = y := by rw [hx, dOf_mod, hy]
    rw [hxy] at ha31
    have ha32 := and32_i64 x hd64
    have hrd := hdk.rd
    have hval := hrd.val_lt
    rw [← hy] at hval
    obtain ⟨t, ht⟩ : ∃ t, t = y * 2 ^ s := ⟨_, rfl⟩
    rw [← hs, ← ht] at hval
    have hV : sgn v < 2 ^ 35 := HV.out
    have ht35 : (t : Int) < 34359738368 := by
      have h1 : t ≤ sgn v := by omega
      have h2 : t < 34359738368 := Nat.lt_of_le_of_lt h1 hV
      omega
    have hwt : wrap64 ((y : Int) * 2 ^ s) = (t : Int) := by
      have e : ((y : Int) * 2 ^ s) = ((y * 2 ^ s : Nat) : Int) := by simp
      rw [e, ← ht]
      unfold wrap64; omega
    have hv1 : vv < 2 ^ s := by rw [hs]; exact hrd.lt
    have hv2 : vv + t < 2 ^ 62 := Nat.lt_of_le_of_lt hval (Nat.lt_trans hV (by decide))
    have hv3 : vv + y * 2 ^ s < 2 ^ 62 := ht ▸ hv2
    have hor := or_i64 vv y s hv1 hv3
    rw [← ht] at hor
    obtain ⟨v', hv'⟩ : ∃ v', v' = vv + t := ⟨_, rfl⟩
    rw [← hv'] at hor
    have ha1 := and1_i64 v' (by rw [hv']; exact hv2)
    have hwi : IntKind.i64.wrap ((q : Int) + 1) = (q : Int) + 1 := by rw [IntKind.wrap_i64]; omega
    have hws : IntKind.i64.wrap ((s : Int) + 5) = (s : Int) + 5 := by rw [IntKind.wrap_i64]; omega
    have HV' : Hid (v' = vv + (u % 32) * 2 ^ (5 * i)) := Lib.hid (by rw [hv', ht, hy, hs])
    have hv35 : v' < 34359738368 := by rw [hv']; exact Nat.lt_of_le_of_lt hval hV
    have hx0 : ¬ (x : Int) < 0 := by omega
    clear hs hdk hgr hx hy hxy hrd hval ht hv' hV hv1 hv2 hv3 ht35
    by_cases hu : u < 32
    · have hx32 : x < 32 := by have := HX.out; have := (dOf_bit u).2 hu; omega
      have HVN : Hid (v' = sgn v) := Lib.hid (by rw [HV'.out]; exact HDK.out.rd.last hu)
      rw [if_pos hx32] at ha32
      obtain ⟨r, hr⟩ : ∃ r, r = v' % 2 := ⟨_, rfl⟩
      rw [← hr] at ha1
      obtain ⟨h, hh⟩ : ∃ h, h = v' / 2 := ⟨_, rfl⟩
      have hsh1 : (v' : Int) / 2 = (h : Int) := by omega
      have HUN := unsgn_sgn v
      rw [← HVN.out] at HUN
      unfold unsgn at HUN
      rw [← hr, ← hh] at HUN
      have HU := Lib.hid HUN
      have HR := Lib.hid hr; have HH := Lib.hid hh
      have hhb : h < 34359738368 := by omega
      have hend : q + 1 = p + (put v).length := by have := HDK.out.at_; rw [putN_small hu] at this; simpa using this
      by_cases hr1 : r = 1
      · subst hr1
        have HNE : Hid (-(h : Int) = v) := Lib.hid (by have := HU.out; rw [if_pos rfl] at this; exact this)
        have HFIN : Hid (∀ W, w.grownBy W none → DecPost v (p + (put v).length) w (.returned (.tuple #[.int .i64 (-(h : Int)), .int .i64 ((q : Int) + 1)])) W) := Lib.hid (fun W hg => ⟨by rw [HNE.out, ← hend]; rfl, hg⟩)
        clear HU HUN hr hh HR hend
        go_wp2
        go_quiet ((go_at_call 15; exact Calls.mono (HIXX.out _ (by exact HCW.out)) (fun e w' h => ⟨h.1, _, h.2.symm⟩)))
        go_wp2
        go_returns
        exact HFIN.out _ (only_drewN HGR.out _)
      · have hr0 : r = 0 := by have := HR.out; omega
        subst hr0
        have HNE : Hid ((h : Int) = v) := Lib.hid (by have := HU.out; rw [if_neg (by omega)] at this; exact this)
        have HFIN : Hid (∀ W, w.grownBy W none → DecPost v (p + (put v).length) w (.returned (.tuple #[.int .i64 (h : Int), .int .i64 ((q : Int) + 1)])) W) := Lib.hid (fun W hg => ⟨by rw [HNE.out, ← hend]; rfl, hg⟩)
        clear HU HUN hr hh HR hr1 hend
        go_wp2
        go_quiet ((go_at_call 15; exact Calls.mono (HIXX.out _ (by exact HCW.out)) (fun e w' h => ⟨h.1, _, h.2.symm⟩)))
        go_wp2
        go_returns
        exact HFIN.out _ (only_drewN HGR.out _)
    · have hx32 : ¬ x < 32 := by have := HX.out; have := (dOf_bit u); omega
      have HNXT := Lib.hid (HDK.out.step hu)
      rw [← HV'.out] at HNXT
      rw [if_neg hx32] at ha32
      go_wp2
      go_quiet ((go_at_call 15; exact Calls.mono (HIXX.out _ (by exact HCW.out)) (fun e w' h => ⟨h.1, _, h.2.symm⟩)))
      go_wp2
      go_roundw
      case rel => exact ⟨i + 1, u / 32, v', s + 5, q + 1, by simp, by simp, rfl, by have := HSV.out; omega, HNXT.out, only_drewN HGR.out _⟩
      case measure => simp [intOf]; omega
end Go.Proofs.YthbmffocgccniaaDoor
