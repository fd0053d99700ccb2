/- Tokens of seven cells: one token that is made (zzChildToken), rows of tokens, the commas among them. -/
import Derived.Test.YtailhcimbpejpaaDoorRows
import Derived.Test.YtailhcimbpejpaaDoorWords
import Derived.Test.YtailhcimbpejpaaDoorApp
import Derived.WalkKit
import Derived.WalkSpells
import Derived.LoopTactic
import Derived.Laws.MakeOwn
import Derived.Outline
import Derived.Deep.DeepCutAuto
import Derived.Deep.Cut
import Derived.IntWalk
namespace Go.Proofs.YtailhcimbpejpaaDoor
open Go.RowKit
set_option linter.unusedVariables false
set_option linter.unusedSimpArgs false

def tkK (m : Nat) : Int := if m = 0 then 10 else if m = 1 then 29 else if m = 2 then 38 else 27
def tkS (m : Nat) : ByteArray := if m = 0 then ⟨#[44]⟩ else if m = 1 then ⟨#[97]⟩ else if m = 2 then ⟨#[32]⟩ else ⟨#[102]⟩
def tok7 (m : Nat) : List Value := [.pointer none, .string (tkS m), .int .i32 0, .int .u32 0, .int .u16 0, .int .u8 (tkK m), .int .u8 0]
def row7 (l : List Nat) : List Value := l.flatMap tok7
theorem row7_len : ∀ l : List Nat, (row7 l).length = l.length * 7
  | [] => rfl
  | r :: l => by
    have := row7_len l
    unfold row7 at this ⊢
    rw [List.flatMap_cons, List.length_append, this, List.length_cons]
    show 7 + _ = _
    omega
theorem row7_at : ∀ (l : List Nat) (i : Nat) (x : Nat), l[i]? = some x → ∀ j, j < 7 → (row7 l)[i * 7 + j]? = (tok7 x)[j]?
  | [], i, x, h, j, hj => by simp at h
  | r :: l, 0, x, h, j, hj => by
    obtain rfl : r = x := by simpa using h
    unfold row7
    rw [List.flatMap_cons, List.getElem?_append_left (by show _ < 7; omega)]
    congr 1; omega
  | r :: l, i + 1, x, h, j, hj => by
    have h' : l[i]? = some x := by simpa using h
    have := row7_at l i x h' j hj
    unfold row7 at this ⊢
    rw [List.flatMap_cons, List.getElem?_append_right (by show 7 ≤ _; omega), ← this]
    congr 1
    show _ - 7 = _
    omega
theorem row7_one (l : List Nat) : ∀ u ∈ row7 l, u.oneCell' = true := by
  intro u hu
  unfold row7 at hu
  rw [List.mem_flatMap] at hu
  obtain ⟨r, _, hu⟩ := hu
  unfold tok7 at hu
  simp only [List.mem_cons, List.not_mem_nil, or_false] at hu
  rcases hu with rfl | rfl | rfl | rfl | rfl | rfl | rfl <;> rfl
theorem row7_snoc (l : List Nat) (r : Nat) : row7 (l ++ [r]) = row7 l ++ tok7 r := by unfold row7; rw [List.flatMap_append]; simp
/-- The seven cells of a token at an address. -/
def At7 (w : World) (b k : Nat) (m : Nat) : Prop := ∀ j u, (tok7 m)[j]? = some u → w.cell? ⟨b, k + j, none⟩ = some u
theorem reads7 {w : World} {B : Nat} {A : Option Addr} {n : Nat} {Z : List Nat} (h : Reads w B 7 A n (row7 Z)) (hn : 0 < n) :
    ∃ b off, A = some ⟨b, off, none⟩ ∧ b < B ∧ ∀ i r, Z[i]? = some r → At7 w b (off + i * 7) r := by
  obtain ⟨ad, rfl, hb, hc⟩ := h.2 hn
  obtain ⟨b, off, spot⟩ := ad
  have hl := h.1
  rw [row7_len] at hl
  have hs : spot = none := by
    have h0 : (0 : Nat) < (row7 Z).length := by rw [row7_len]; omega
    have := hc 0 _ (List.getElem?_eq_getElem h0)
    exact World.cell?_spot (show w.cell? ⟨b, off, spot⟩ = some _ from this)
  subst hs
  refine ⟨b, off, rfl, hb, fun i r hr j u hu => ?_⟩
  have hj : j < 7 := (List.getElem?_eq_some_iff.1 hu).1
  have := hc (i * 7 + j) u (by rw [row7_at Z i r hr j hj]; exact hu)
  rw [← this]
  unfold Addr.add
  split
  · rename_i h0
    show _ = w.cell? ⟨b, off, none⟩
    congr 2; omega
  · show _ = w.cell? ⟨b, off + (i * 7 + j), none⟩
    congr 2; omega
theorem tok_size : (Tryd.prog.info? 35).map (·.size) = some 7 := by kernel_rfl
theorem tmod4 (b : Nat) : Int.tmod (b : Int) 4 = ((b % 4 : Nat) : Int) := rfl
def ChildPost (m : Nat) (w : World) (e : Ending) (w' : World) : Prop := e = .returned (.agg #[.pointer none, .string (tkS m), .int .i32 0, .int .u32 0, .int .u16 0, .int .u8 (tkK m), .int .u8 0]) ∧ w.grownBy w' none
set_option maxHeartbeats 1000000 in
set_option maxRecDepth 100000 in
theorem child_any (b : Nat) (hb : b < 256) (w : World) : Calls Tryd.prog 7 #[.int .u8 (b : Int)] w (ChildPost (b % 4) w) := by
  rcases (by omega : b % 4 = 0 ∨ b % 4 = 1 ∨ b % 4 = 2 ∨ b % 4 = 3) with h | h | h | h
  all_goals
    have hi : (b : Int) % 4 = ((b % 4 : Nat) : Int) := by omega
    rw [h] at hi
    have t0 : ((b : Int) % 4 == 0) = decide (b % 4 = 0) := by rw [hi, h]; rfl
    have t1 : ((b : Int) % 4 == 1) = decide (b % 4 = 1) := by rw [hi, h]; rfl
    have t2 : ((b : Int) % 4 == 2) = decide (b % 4 = 2) := by rw [hi, h]; rfl
    rw [h] at t0 t1 t2
    simp only [Nat.reduceEqDiff, decide_true, decide_false] at t0 t1 t2
    have HH := Lib.hid h
    clear hi h
    go_enter Tryd.func7, Tryd.ntmps7
    go_wp2
    refine bodyPost_ret (results_cell_row rfl _ _ w.heap.size _ (tok7 (b % 4)).toArray (0, 0) _ rfl (by rw [HH.out]; exact heap_alloc_new w _) Tryd.underlying35 rfl tok_size) rfl ?_
    exact ⟨rfl, only_alloc (World.grownBy.refl _ _) _⟩
def msOf (xs : List Int) : List Nat := xs.map (fun x => x.toNat % 4)
def cms (l : List Nat) : Nat := l.countP (fun m => m == 0)
theorem cms_snoc (l : List Nat) (m : Nat) : cms (l ++ [m]) = cms l + (if m = 0 then 1 else 0) := by
  unfold cms
  rw [List.countP_append]
  by_cases h : m = 0
  · simp [h]
  · simp [h]
theorem cms_le (l : List Nat) : cms l ≤ l.length := by unfold cms; exact List.countP_le_length
theorem cms_rev (l : List Nat) : cms l.reverse = cms l := by unfold cms; exact List.countP_reverse
theorem tok_info : (Tryd.prog.info? 35).map (fun i => (i.zero, i.size, i.bytes)) = some (some (.agg #[.pointer none, .string ⟨#[]⟩, .int .i32 0, .int .u32 0, .int .u16 0, .int .u8 0, .int .u8 0]), 7, 40) := by kernel_rfl
def zTok : Value := .agg #[.pointer none, .string ⟨#[]⟩, .int .i32 0, .int .u32 0, .int .u16 0, .int .u8 0, .int .u8 0]
def mkT (n : Nat) : Array Value := madeCells zTok.cells (n * 7)
theorem mkT_size (n : Nat) : (mkT n).size = n * 7 := by simp [mkT, madeCells, zTok, Value.cells]
theorem tok7_len (m : Nat) : (tok7 m).length = 7 := rfl
theorem reads_any {α : Type} {f : α → Value} {w : World} {B : Nat} {A : Option Addr} {n : Nat} {L : List α} (h : Reads w B 1 A n (L.map f)) (hn : 0 < n) :
    ∃ b off, A = some ⟨b, off, none⟩ ∧ b < B ∧ ∀ i l, L[i]? = some l → w.cell? ⟨b, off + i, none⟩ = some (f l) := by
  have hlen : L.length = n := by have := h.1; simpa using this
  obtain ⟨ad, u, rfl, hb, _, hc⟩ := h.at_ hn
  obtain ⟨b, off, spot⟩ := ad
  have hs : spot = none := World.cell?_spot (show w.cell? ⟨b, off, spot⟩ = some u from hc)
  subst hs
  refine ⟨b, off, rfl, hb, fun i l hl => ?_⟩
  obtain ⟨ad', e1, _, hc'⟩ := h.2 hn
  obtain rfl := Option.some.inj e1
  have := hc' i (f l) (by rw [List.getElem?_map, hl]; rfl)
  rw [← this]
  unfold Addr.add
  split
  · rename_i h0; subst h0; rfl
  · rfl
theorem own_or (v : Value) : v.ownBlock = none ∨ v.ownBlock ≠ none := by cases h : v.ownBlock <;> simp
/-- What zzBuildKids hands back. -/
def KidsPost (w : World) (n : Nat) (ms : List Nat) (e : Ending) (w' : World) : Prop :=
  ∃ v, e = .returned (.tuple #[v, .int .i64 (cms ms : Nat)]) ∧ w'.ownsRow w.heap.size 35 7 v n (row7 ms) ∧ Below w.heap.size w w'
theorem ms_snoc {xs : List Int} {k : Nat} {x : Int} (h : xs[k]? = some x) : msOf (xs.take (k + 1)) = msOf (xs.take k) ++ [x.toNat % 4] := by
  unfold msOf
  rw [List.take_add_one, h]
  simp
theorem ms_len (xs : List Int) : (msOf xs).length = xs.length := by unfold msOf; simp
set_option maxHeartbeats 4000000 in
set_option maxRecDepth 100000 in
theorem kids_any (A : Option Addr) (n cap : Nat) (xs : List Int) (w : World) (hr : Reads w w.heap.size 1 A n (xs.map (Value.int .u8))) (hx : ∀ x ∈ xs, 0 ≤ x ∧ x ≤ 255) (hn : n ≤ 65536) :
    Calls Tryd.prog 5 #[.slice A n cap] w (KidsPost w n (msOf xs)) := by
  obtain ⟨i0, hi, hz0, hz1, hz2⟩ := info_parts tok_info
  have hlen : xs.length = n := by have := hr.1; simpa using this
  have hmk : ∀ W : World, (Instr.makeSlice 24 (.int .i64 0) (.int .i64 (n : Int))).run Tryd.prog W = .ok (.slice (some ⟨W.heap.size, 0, none⟩) 0 n) (W.alloc (.cells (mkT n) 35)) := fun W => by
    have := run_make (P := Tryd.prog) W 24 35 i0 zTok Tryd.underlying24 hi hz0 .i64 .i64 (0 : Nat) n (by omega) (by omega) (by rw [hz2]; omega) (by omega)
    simpa [hz1, mkT] using this
  obtain ⟨W0, hW0⟩ : ∃ W0, W0 = w.alloc (.cells (mkT n) 35) := ⟨_, rfl⟩
  have HO0 : Hid (W0.ownsRow w.heap.size 35 7 (.slice (some ⟨w.heap.size, 0, none⟩) 0 n) 0 []) := Lib.hid (by
    rw [hW0]
    exact World.ownsRow_made (base := w.heap.size) (e := 35) (size := 7) w (mkT n) n (Nat.le_refl _) (by unfold maxLen; omega) (mkT_size n))
  have HB0 : Hid (Below w.heap.size w W0) := Lib.hid (by rw [hW0]; exact (Below.refl _ _).alloc (Nat.le_refl _) _)
  have HW0 := Lib.hid hW0
  have HR := Lib.hid hr; have HX := Lib.hid hx; have HL := Lib.hid hlen
  clear hr hx hlen hW0
  have HI0 := Lib.hid (And.intro hi (And.intro hz0 (And.intro hz1 hz2)))
  clear hi hz0 hz1 hz2
  go_enter Tryd.func5, Tryd.ntmps5
  go_wp2
  rw [← HW0.out]
  clear HW0 hmk
  go_loopw [4, 5, 6] (fun v c i wr => ∃ (k : Nat), i = .int .i64 k ∧ k ≤ n ∧ c = .int .i64 (cms (msOf (xs.take k)) : Nat) ∧ wr.ownsRow w.heap.size 35 7 v k (row7 (msOf (xs.take k))) ∧ Below w.heap.size w wr) (fun v c i _ => n - (intOf i).toNat)
  case atStart => exact ⟨0, rfl, by omega, rfl, HO0.out, HB0.out⟩
  case round =>
    obtain ⟨k, rfl, hk, rfl, ho, hb⟩ := hrel
    have HO := Lib.hid ho; have HB := Lib.hid hb
    clear ho hb HO0 HB0
    by_cases hlt : k < n
    · obtain ⟨b, off, rfl, hbb, hc⟩ := reads_any (HR.out.below HB.out) (show 0 < n by omega)
      obtain ⟨x, hxk⟩ : ∃ x, xs[k]? = some x := ⟨_, List.getElem?_eq_getElem (by have := HL.out; omega)⟩
      have ck := hc k _ hxk
      have xg := HX.out x (List.mem_of_getElem? hxk)
      obtain ⟨xn, rfl⟩ := Int.eq_ofNat_of_zero_le xg.1
      have hs := HB.out.size
      have HSN : Hid (msOf (xs.take (k + 1)) = msOf (xs.take k) ++ [xn % 4]) := Lib.hid (by have := ms_snoc hxk; rwa [Int.toNat_natCast] at this)
      have hcl : cms (msOf (xs.take k)) ≤ k := by have := cms_le (msOf (xs.take k)); rw [ms_len, List.length_take] at this; omega
      have hi4 : (xn : Int) % 4 = ((xn % 4 : Nat) : Int) := by omega
      have HCH : Hid (∀ W : World, wr.grownBy W none → Calls Tryd.prog 7 #[.int .u8 (xn : Int)] W (ChildPost (xn % 4) W)) := Lib.hid (fun W _ => child_any xn (by omega) W)
      clear hc hxk
      have hcw : IntKind.i64.wrap (((cms (msOf (xs.take k)) : Nat) : Int) + 1) = ((cms (msOf (xs.take k)) : Nat) : Int) + 1 := IntWalk.i64_in _ (by omega)
      have HI4 := Lib.hid hi4
      clear hi4
      go_upto_if 21 with fail
      go_cut [5] (fun c wx => wx = wr ∧ c = .int .i64 (cms (msOf (xs.take (k + 1))) : Nat))
      case first =>
        by_cases h0 : xn % 4 = 0
        · have t0 : ((xn : Int) % 4 == 0) = true := by rw [HI4.out, h0]; rfl
          have HC : Hid (cms (msOf (xs.take (k + 1))) = cms (msOf (xs.take k)) + 1) := Lib.hid (by rw [HSN.out, cms_snoc, if_pos h0])
          clear h0
          go_wp2_with fail
          go_meet
          exact ⟨rfl, by rw [HC.out]; simp⟩
        · have t0 : ((xn : Int) % 4 == 0) = false := by rw [HI4.out, beq_eq_false_iff_ne]; omega
          have HC : Hid (cms (msOf (xs.take (k + 1))) = cms (msOf (xs.take k))) := Lib.hid (by rw [HSN.out, cms_snoc, if_neg h0]; rfl)
          clear h0
          go_wp2_with fail
          go_meet
          exact ⟨rfl, by rw [HC.out]⟩
      case rest =>
      obtain ⟨rfl, rfl⟩ := hcut
      obtain ⟨i0, hi, hz0, hz1, hz2⟩ := info_parts tok_info
      have HSRC : Hid (∀ W : World, Src Tryd.prog 7 24 (.slice (some ⟨W.heap.size, 0, none⟩) 1 1) 1 (tok7 (xn % 4)) (W.alloc (.cells (tok7 (xn % 4)).toArray 35))) := Lib.hid (fun W => Src.ofSlice _ Tryd.underlying24 _ 1 1 (tok7 (xn % 4)) rfl (fun j u hu => by
        rw [← hu]
        have := (Blk.new W 35 (tok7 (xn % 4)).toArray).cell j
        rw [List.getElem?_toArray] at this
        rw [← this]
        unfold Addr.add
        split
        · rename_i h0; subst h0; rfl
        · show World.cell? _ ⟨W.heap.size, 0 + j, none⟩ = _
          rw [Nat.zero_add]) (fun u hu => row7_one [xn % 4] u (by simpa [row7] using hu)))
      clear hcw
      go_wp2_with (first | (go_at_call 7; refine (child_any xn (by omega) _).mono ?_; rintro e w5 ⟨rfl, hg5⟩; have HG5 := Lib.hid hg5; clear hg5) | (at_builtin; refine wpList_append_own_src _ rfl (.tmp 24) (.tmp 30) 24 24 rfl w.heap.size 35 i0 zTok 7 40 Tryd.underlying24 hi hz0 hz1 hz2 rfl _ k (row7 (msOf (xs.take k))) rfl ((HO.out.kept HG5.out (own_or _)).alloc _) _ 1 (tok7 (xn % 4)) rfl (HSRC.out _) (by unfold maxLen; omega) (by omega) (by simp; have := HG5.out.size; omega) ?_; intro v' w' hown hg hv; have HV := Lib.hid hv; have HOW := Lib.hid hown; have HG := Lib.hid hg; clear hown hg hv))
      go_roundw
      case rel =>
        refine ⟨k + 1, by go_num, by omega, rfl, ?_, ?_⟩
        · rw [HSN.out, row7_snoc]; exact HOW.out
        · exact ((HB.out.grown HG5.out HB.out.size (fun k hk => by cases hk)).alloc (by have := HG5.out.size; have := HB.out.size; omega) _).grown HG.out (by simp; have := HG5.out.size; have := HB.out.size; omega) (fun q hq => (HO.out.lt q hq).1)
      case measure => simp [intOf]; omega
    · obtain rfl : k = n := by omega
      have HE : Hid (xs.take k = xs) := Lib.hid (List.take_of_length_le (by have := HL.out; omega))
      rw [HE.out] at HO ⊢
      go_wp2
      go_ret2
      refine ⟨_, by first | rfl | simp, ?_, HB.out⟩
      exact HO.out
end Go.Proofs.YtailhcimbpejpaaDoor
