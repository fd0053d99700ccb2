/- functionMultiLineCommaPeriod (n011_165): what it answers for a function token and for an identifier. -/
import Derived.Test.YtailhcimbpejpaaDoorTok
import Derived.Test.YtailhcimbpejpaaDoorShelf
namespace Go.Proofs.YtailhcimbpejpaaDoor
open Go.RowKit Go.Lib
set_option linter.unusedVariables false
set_option linter.unusedSimpArgs false

def isGrad (S : ByteArray) : Bool := S.toList == [108, 105, 110, 101, 97, 114, 45, 103, 114, 97, 100, 105, 101, 110, 116] || S.toList == [114, 97, 100, 105, 97, 108, 45, 103, 114, 97, 100, 105, 101, 110, 116] || S.toList == [99, 111, 110, 105, 99, 45, 103, 114, 97, 100, 105, 101, 110, 116] || S.toList == [114, 101, 112, 101, 97, 116, 105, 110, 103, 45, 108, 105, 110, 101, 97, 114, 45, 103, 114, 97, 100, 105, 101, 110, 116] || S.toList == [114, 101, 112, 101, 97, 116, 105, 110, 103, 45, 114, 97, 100, 105, 97, 108, 45, 103, 114, 97, 100, 105, 101, 110, 116] || S.toList == [114, 101, 112, 101, 97, 116, 105, 110, 103, 45, 99, 111, 110, 105, 99, 45, 103, 114, 97, 100, 105, 101, 110, 116]
def per (c : Nat) (S : ByteArray) : Int :=
  if isGrad S = true then (if 2 ≤ (c : Int) then 1 else 0) else if (S.toList == [109, 97, 116, 114, 105, 120]) = true then (if ((c : Int) == 5) = true then 2 else 0) else if (S.toList == [109, 97, 116, 114, 105, 120, 51, 100]) = true then (if ((c : Int) == 15) = true then 4 else 0) else 0
theorem per_cases (c : Nat) (S : ByteArray) : per c S = 0 ∨ per c S = 1 ∨ per c S = 2 ∨ per c S = 4 := by
  unfold per
  split
  · split
    · exact .inr (.inl rfl)
    · exact .inl rfl
  · split
    · split
      · exact .inr (.inr (.inl rfl))
      · exact .inl rfl
    · split
      · split
        · exact .inr (.inr (.inr rfl))
        · exact .inl rfl
      · exact .inl rfl
def lowB (s : ByteArray) : ByteArray := ⟨(Lib.toLowerD s.data.toList).toArray⟩
section
variable {w w' : World}
theorem caseVar_keep {g : Nat} {T : Array CaseRow} (h : CaseVar g T w) (hk : ∀ p : Addr, p.block < w.heap.size → w'.cell? p = w.cell? p) : CaseVar g T w' := by
  have key : ∀ p u, w.cell? p = some u → w'.cell? p = some u := fun p u hp => (hk p (World.block_lt_of_cell? _ _ hp)).trans hp
  obtain ⟨R, oR, cap, h1, h2⟩ := h
  exact ⟨R, oR, cap, key _ _ h1, fun i hi => ⟨key _ _ (h2 i hi).1, key _ _ (h2 i hi).2.1, key _ _ (h2 i hi).2.2.1, key _ _ (h2 i hi).2.2.2.1, key _ _ (h2 i hi).2.2.2.2⟩⟩
theorem utf8Tabs_keep {a b : Nat} (h : Lib.Utf8Tabs a b w) (hk : ∀ p : Addr, p.block < w.heap.size → w'.cell? p = w.cell? p) : Lib.Utf8Tabs a b w' := by
  have key : ∀ p u, w.cell? p = some u → w'.cell? p = some u := fun p u hp => (hk p (World.block_lt_of_cell? _ _ hp)).trans hp
  exact ⟨fun c hc => key _ _ (h.1 c hc), fun i hi => ⟨key _ _ (h.2 i hi).1, key _ _ (h.2 i hi).2⟩⟩
end
theorem tkK_10 (m : Nat) : (tkK m == 10) = decide (m = 0) := by
  unfold tkK
  split
  · rename_i h; simp [h]
  · rename_i h
    split
    · simp [h]
    · split <;> simp [h]
theorem grown_tr {w w' w2 : World} (h : w.grownBy w' none) (h2 : w'.grownBy w2 none) : w.grownBy w2 none :=
  ⟨h2.os.trans h.os, h2.tape.trans h.tape, h2.output.trans h.output, Nat.le_trans h.size h2.size, fun i hi hne => (h2.block i (Nat.lt_of_lt_of_le hi h.size) hne).trans (h.block i hi hne)⟩
def PerPost (v : Int) (w : World) (e : Ending) (w' : World) : Prop := e = .returned (.int .u8 v) ∧ Below w.heap.size w w'
set_option maxHeartbeats 8000000 in
set_option maxRecDepth 100000 in
theorem per_id (P : Value) (s : ByteArray) (w : World) : Calls Tryd.prog 8 #[.agg #[P, .string s, .int .i32 0, .int .u32 0, .int .u16 0, .int .u8 29, .int .u8 0]] w (PerPost 0 w) := by
  go_enter Tryd.func8, Tryd.ntmps8
  go_wp2
  go_ret
  exact ⟨rfl, (Below.refl _ _).alloc (Nat.le_refl _) _⟩
set_option maxHeartbeats 8000000 in
set_option maxRecDepth 100000 in
theorem per_fn (p : Nat) (s : ByteArray) (A : Option Addr) (n cap : Nat) (Z : List Nat) (w : World) (hp : w.cell? ⟨p, 0, none⟩ = some (.slice A n cap)) (hr : Reads w w.heap.size 7 A n (row7 Z)) (hn : n ≤ 65536)
    (hs : s.size ≤ 16777216) (hV : CaseVar 0 caseA w) (hT : Lib.Utf8Tabs 2 3 w) :
    Calls Tryd.prog 8 #[.agg #[.pointer (some ⟨p, 0, none⟩), .string s, .int .i32 0, .int .u32 0, .int .u16 0, .int .u8 27, .int .u8 0]] w (PerPost (per (cms Z) (lowB s)) w) := by
  have hzl : Z.length = n := by have := hr.1; rw [row7_len] at this; omega
  have hpl := World.block_lt_of_cell? _ _ hp
  obtain ⟨X, hX⟩ : ∃ X, X = w.alloc (.cells #[.pointer (some ⟨p, 0, none⟩), .string s, .int .i32 0, .int .u32 0, .int .u16 0, .int .u8 27, .int .u8 0] 35) := ⟨_, rfl⟩
  have HBX : Hid (Blk X w.heap.size 35 #[.pointer (some ⟨p, 0, none⟩), .string s, .int .i32 0, .int .u32 0, .int .u16 0, .int .u8 27, .int .u8 0]) := Lib.hid (by rw [hX]; exact Blk.new _ _ _)
  have HGX : Hid (w.grownBy X none) := Lib.hid (by rw [hX]; exact only_alloc (World.grownBy.refl _ _) _)
  have hp5 : X.cell? ⟨w.heap.size, 5, none⟩ = some (.int .u8 27) := HBX.out.cell 5
  have hp0 : X.cell? ⟨w.heap.size, 0, none⟩ = some (.pointer (some ⟨p, 0, none⟩)) := HBX.out.cell 0
  have hpc : X.cell? ⟨p, 0, none⟩ = some (.slice A n cap) := (World.cell?_of_block (HGX.out.block p hpl (by simp))).trans hp
  have HR := Lib.hid hr; have HZ := Lib.hid hzl; have HX := Lib.hid hX; have HV := Lib.hid hV; have HT := Lib.hid hT
  clear hr hzl hX hp hV hT
  obtain ⟨S, hS⟩ : ∃ S, S = lowB s := ⟨_, rfl⟩
  rw [← hS]
  have HS := Lib.hid hS
  clear hS
  go_enter Tryd.func8, Tryd.ntmps8
  go_upto_region 1 with fail
  rw [← HX.out]
  clear HX
  go_wp2_with fail
  clear hp5 hp0 hpc
  go_loopw [3, 5, 14] (fun c t i wr => ∃ k : Nat, i = .int .i64 k ∧ k ≤ n ∧ c = .int .i64 (cms (Z.take k) : Nat) ∧ X.grownBy wr none) (fun c t i _ => n - (intOf i).toNat)
  case atStart => exact ⟨0, rfl, by omega, rfl, World.grownBy.refl _ _⟩
  case round =>
    obtain ⟨k, rfl, hk, rfl, hg⟩ := hrel
    have HG := Lib.hid hg
    clear hg
    have HGW := Lib.hid (grown_tr HGX.out HG.out)
    by_cases hlt : k < n
    · obtain ⟨b, off, rfl, hb, hc⟩ := reads7 HR.out (show 0 < n by omega)
      obtain ⟨m, hm⟩ : ∃ m, Z[k]? = some m := ⟨_, List.getElem?_eq_getElem (by have := HZ.out; omega)⟩
      have key : ∀ j u, (tok7 m)[j]? = some u → wr.cell? ⟨b, off + k * 7 + j, none⟩ = some u := fun j u hu => (World.cell?_of_block (HGW.out.block b hb (by simp))).trans (hc k m hm j u hu)
      have q0 : wr.cell? ⟨b, off + k * 7, none⟩ = some (.pointer none) := key 0 _ rfl
      have q1 : wr.cell? ⟨b, off + k * 7 + 1, none⟩ = some (.string (tkS m)) := key 1 _ rfl
      have q2 : wr.cell? ⟨b, off + k * 7 + 2, none⟩ = some (.int .i32 0) := key 2 _ rfl
      have q3 : wr.cell? ⟨b, off + k * 7 + 3, none⟩ = some (.int .u32 0) := key 3 _ rfl
      have q4 : wr.cell? ⟨b, off + k * 7 + 4, none⟩ = some (.int .u16 0) := key 4 _ rfl
      have q5 : wr.cell? ⟨b, off + k * 7 + 5, none⟩ = some (.int .u8 (tkK m)) := key 5 _ rfl
      have q6 : wr.cell? ⟨b, off + k * 7 + 6, none⟩ = some (.int .u8 0) := key 6 _ rfl
      have t10 := tkK_10 m
      have hcl : cms (Z.take k) ≤ k := by have := cms_le (Z.take k); rw [List.length_take] at this; omega
      have hcw : IntKind.i64.wrap (((cms (Z.take k) : Nat) : Int) + 1) = ((cms (Z.take k) : Nat) : Int) + 1 := IntWalk.i64_in _ (by omega)
      have HSN : Hid (cms (Z.take (k + 1)) = cms (Z.take k) + (if m = 0 then 1 else 0)) := Lib.hid (by rw [List.take_add_one, hm]; exact cms_snoc _ _)
      clear key hc hm
      by_cases h0 : m = 0
      · rw [decide_eq_true h0] at t10
        have HC : Hid (cms (Z.take (k + 1)) = cms (Z.take k) + 1) := Lib.hid (by rw [HSN.out, if_pos h0])
        clear h0
        go_wp2_with fail
        go_roundw
        case rel => exact ⟨k + 1, by go_num, by omega, by rw [HC.out]; simp, only_alloc HG.out _⟩
        case measure => simp [intOf]; omega
      · rw [decide_eq_false h0] at t10
        have HC : Hid (cms (Z.take (k + 1)) = cms (Z.take k)) := Lib.hid (by rw [HSN.out, if_neg h0]; rfl)
        clear h0
        go_wp2_with fail
        go_roundw
        case rel => exact ⟨k + 1, by go_num, by omega, by rw [HC.out], only_alloc HG.out _⟩
        case measure => simp [intOf]; omega
    · obtain rfl : k = n := by omega
      have HE : Hid (Z.take k = Z) := Lib.hid (List.take_of_length_le (by have := HZ.out; omega))
      rw [HE.out]
      obtain ⟨c, hc⟩ : ∃ c, c = cms Z := ⟨_, rfl⟩
      rw [← hc]
      have hcb : c ≤ 65536 := by have := cms_le Z; have := HZ.out; omega
      have HKEEP : Hid (∀ q : Addr, q.block < w.heap.size → wr.cell? q = w.cell? q) := Lib.hid (fun q hq => World.cell?_of_block (HGW.out.block q.block hq (by simp)))
      have kx1 : wr.cell? ⟨w.heap.size, 1, none⟩ = some (.string s) := (World.cell?_of_block (HG.out.block w.heap.size HBX.out.lt (by simp))).trans (HBX.out.cell 1)
      have HTL := Lib.hid (Tryd.strings_ToLower_any s wr (by omega) (caseVar_keep HV.out HKEEP.out) (utf8Tabs_keep HT.out HKEEP.out))
      have HB : Hid (Below w.heap.size w wr) := Lib.hid ((Below.refl _ w).grown HGW.out (Nat.le_refl _) (fun k hk => by cases hk))
      have HSE : Hid ((⟨(Lib.toLowerD s.data.toList).toArray⟩ : ByteArray) = S) := Lib.hid HS.out.symm
      have HC := Lib.hid hc
      clear HS hc
      go_upto_region 10 with (go_at_call 9; refine HTL.out.mono ?_; rw [HSE.out]; rintro e w2 ⟨rfl, hb2⟩; have HB2 := Lib.hid (HB.out.trans (hb2.mono HB.out.size)); clear hb2)
      clear HTL kx1
      clear HSE HKEEP HR HZ HE HB HGW HG HGX HBX HV HT hpl hk hlt
      by_cases e0 : (S.toList == [108, 105, 110, 101, 97, 114, 45, 103, 114, 97, 100, 105, 101, 110, 116]) = true
      · skip
        by_cases hc2 : 2 ≤ (c : Int)
        · skip
          have HP : Hid (per (cms Z) S = 1) := Lib.hid (by rw [← HC.out]; unfold per; rw [if_pos (by unfold isGrad; simp only [e0]; simp), if_pos hc2])
          go_wp2
          go_ret
          exact ⟨by rw [HP.out]; rfl, HB2.out⟩
        · skip
          have HP : Hid (per (cms Z) S = 0) := Lib.hid (by rw [← HC.out]; unfold per; rw [if_pos (by unfold isGrad; simp only [e0]; simp), if_neg hc2])
          go_wp2
          go_ret
          exact ⟨by rw [HP.out]; rfl, HB2.out⟩
      · rw [Bool.not_eq_true] at e0
        by_cases e1 : (S.toList == [114, 97, 100, 105, 97, 108, 45, 103, 114, 97, 100, 105, 101, 110, 116]) = true
        · skip
          by_cases hc2 : 2 ≤ (c : Int)
          · skip
            have HP : Hid (per (cms Z) S = 1) := Lib.hid (by rw [← HC.out]; unfold per; rw [if_pos (by unfold isGrad; simp only [e0, e1]; simp), if_pos hc2])
            go_wp2
            go_ret
            exact ⟨by rw [HP.out]; rfl, HB2.out⟩
          · skip
            have HP : Hid (per (cms Z) S = 0) := Lib.hid (by rw [← HC.out]; unfold per; rw [if_pos (by unfold isGrad; simp only [e0, e1]; simp), if_neg hc2])
            go_wp2
            go_ret
            exact ⟨by rw [HP.out]; rfl, HB2.out⟩
        · rw [Bool.not_eq_true] at e1
          by_cases e2 : (S.toList == [99, 111, 110, 105, 99, 45, 103, 114, 97, 100, 105, 101, 110, 116]) = true
          · skip
            by_cases hc2 : 2 ≤ (c : Int)
            · skip
              have HP : Hid (per (cms Z) S = 1) := Lib.hid (by rw [← HC.out]; unfold per; rw [if_pos (by unfold isGrad; simp only [e0, e1, e2]; simp), if_pos hc2])
              go_wp2
              go_ret
              exact ⟨by rw [HP.out]; rfl, HB2.out⟩
            · skip
              have HP : Hid (per (cms Z) S = 0) := Lib.hid (by rw [← HC.out]; unfold per; rw [if_pos (by unfold isGrad; simp only [e0, e1, e2]; simp), if_neg hc2])
              go_wp2
              go_ret
              exact ⟨by rw [HP.out]; rfl, HB2.out⟩
          · rw [Bool.not_eq_true] at e2
            by_cases e3 : (S.toList == [114, 101, 112, 101, 97, 116, 105, 110, 103, 45, 108, 105, 110, 101, 97, 114, 45, 103, 114, 97, 100, 105, 101, 110, 116]) = true
            · skip
              by_cases hc2 : 2 ≤ (c : Int)
              · skip
                have HP : Hid (per (cms Z) S = 1) := Lib.hid (by rw [← HC.out]; unfold per; rw [if_pos (by unfold isGrad; simp only [e0, e1, e2, e3]; simp), if_pos hc2])
                go_wp2
                go_ret
                exact ⟨by rw [HP.out]; rfl, HB2.out⟩
              · skip
                have HP : Hid (per (cms Z) S = 0) := Lib.hid (by rw [← HC.out]; unfold per; rw [if_pos (by unfold isGrad; simp only [e0, e1, e2, e3]; simp), if_neg hc2])
                go_wp2
                go_ret
                exact ⟨by rw [HP.out]; rfl, HB2.out⟩
            · rw [Bool.not_eq_true] at e3
              by_cases e4 : (S.toList == [114, 101, 112, 101, 97, 116, 105, 110, 103, 45, 114, 97, 100, 105, 97, 108, 45, 103, 114, 97, 100, 105, 101, 110, 116]) = true
              · skip
                by_cases hc2 : 2 ≤ (c : Int)
                · skip
                  have HP : Hid (per (cms Z) S = 1) := Lib.hid (by rw [← HC.out]; unfold per; rw [if_pos (by unfold isGrad; simp only [e0, e1, e2, e3, e4]; simp), if_pos hc2])
                  go_wp2
                  go_ret
                  exact ⟨by rw [HP.out]; rfl, HB2.out⟩
                · skip
                  have HP : Hid (per (cms Z) S = 0) := Lib.hid (by rw [← HC.out]; unfold per; rw [if_pos (by unfold isGrad; simp only [e0, e1, e2, e3, e4]; simp), if_neg hc2])
                  go_wp2
                  go_ret
                  exact ⟨by rw [HP.out]; rfl, HB2.out⟩
              · rw [Bool.not_eq_true] at e4
                by_cases e5 : (S.toList == [114, 101, 112, 101, 97, 116, 105, 110, 103, 45, 99, 111, 110, 105, 99, 45, 103, 114, 97, 100, 105, 101, 110, 116]) = true
                · skip
                  by_cases hc2 : 2 ≤ (c : Int)
                  · skip
                    have HP : Hid (per (cms Z) S = 1) := Lib.hid (by rw [← HC.out]; unfold per; rw [if_pos (by unfold isGrad; simp only [e0, e1, e2, e3, e4, e5]; simp), if_pos hc2])
                    go_wp2
                    go_ret
                    exact ⟨by rw [HP.out]; rfl, HB2.out⟩
                  · skip
                    have HP : Hid (per (cms Z) S = 0) := Lib.hid (by rw [← HC.out]; unfold per; rw [if_pos (by unfold isGrad; simp only [e0, e1, e2, e3, e4, e5]; simp), if_neg hc2])
                    go_wp2
                    go_ret
                    exact ⟨by rw [HP.out]; rfl, HB2.out⟩
                · rw [Bool.not_eq_true] at e5
                  by_cases e6 : (S.toList == [109, 97, 116, 114, 105, 120]) = true
                  · skip
                    by_cases hc2 : ((c : Int) == 5) = true
                    · skip
                      have HP : Hid (per (cms Z) S = 2) := Lib.hid (by rw [← HC.out]; unfold per; rw [if_neg (by unfold isGrad; simp only [e0, e1, e2, e3, e4, e5]; simp), if_pos e6, if_pos hc2])
                      go_wp2
                      go_ret
                      exact ⟨by rw [HP.out]; rfl, HB2.out⟩
                    · rw [Bool.not_eq_true] at hc2
                      have HP : Hid (per (cms Z) S = 0) := Lib.hid (by rw [← HC.out]; unfold per; rw [if_neg (by unfold isGrad; simp only [e0, e1, e2, e3, e4, e5]; simp), if_pos e6, if_neg (by rw [hc2]; simp)])
                      go_wp2
                      go_ret
                      exact ⟨by rw [HP.out]; rfl, HB2.out⟩
                  · rw [Bool.not_eq_true] at e6
                    by_cases e7 : (S.toList == [109, 97, 116, 114, 105, 120, 51, 100]) = true
                    · skip
                      by_cases hc2 : ((c : Int) == 15) = true
                      · skip
                        have HP : Hid (per (cms Z) S = 4) := Lib.hid (by rw [← HC.out]; unfold per; rw [if_neg (by unfold isGrad; simp only [e0, e1, e2, e3, e4, e5]; simp), if_neg (by rw [e6]; simp), if_pos e7, if_pos hc2])
                        go_wp2
                        go_ret
                        exact ⟨by rw [HP.out]; rfl, HB2.out⟩
                      · rw [Bool.not_eq_true] at hc2
                        have HP : Hid (per (cms Z) S = 0) := Lib.hid (by rw [← HC.out]; unfold per; rw [if_neg (by unfold isGrad; simp only [e0, e1, e2, e3, e4, e5]; simp), if_neg (by rw [e6]; simp), if_pos e7, if_neg (by rw [hc2]; simp)])
                        go_wp2
                        go_ret
                        exact ⟨by rw [HP.out]; rfl, HB2.out⟩
                    · rw [Bool.not_eq_true] at e7
                      have HP : Hid (per (cms Z) S = 0) := Lib.hid (by rw [← HC.out]; unfold per; rw [if_neg (by unfold isGrad; simp only [e0, e1, e2, e3, e4, e5]; simp), if_neg (by rw [e6]; simp), if_neg (by rw [e7]; simp)])
                      go_wp2
                      go_ret
                      exact ⟨by rw [HP.out]; rfl, HB2.out⟩
set_option maxHeartbeats 1000000 in
set_option maxRecDepth 100000 in
theorem zz_id (p : Nat) (s : ByteArray) (w : World) : Calls Tryd.prog 6 #[.agg #[.pointer (some ⟨p, 0, none⟩), .string s, .int .i32 0, .int .u32 0, .int .u16 0, .int .u8 29, .int .u8 0]] w (PerPost 0 w) := by
  obtain ⟨X, hX⟩ : ∃ X, X = w.alloc (.cells #[.pointer (some ⟨p, 0, none⟩), .string s, .int .i32 0, .int .u32 0, .int .u16 0, .int .u8 29, .int .u8 0] 35) := ⟨_, rfl⟩
  have HB : Hid (Below w.heap.size w X) := Lib.hid (by rw [hX]; exact (Below.refl _ _).alloc (Nat.le_refl _) _)
  have HX := Lib.hid hX
  clear hX
  go_enter Tryd.func6, Tryd.ntmps6
  go_wp2_with (go_at_call 8; rw [← HX.out]; refine (per_id _ s X).mono ?_; rintro e w2 ⟨rfl, hb2⟩; have HB2 := Lib.hid (HB.out.trans (hb2.mono HB.out.size)); clear hb2)
  go_ret
  exact ⟨rfl, HB2.out⟩
set_option maxHeartbeats 1000000 in
set_option maxRecDepth 100000 in
theorem zz_fn (p : Nat) (s : ByteArray) (A : Option Addr) (n cap : Nat) (Z : List Nat) (w : World) (hp : w.cell? ⟨p, 0, none⟩ = some (.slice A n cap)) (hr : Reads w w.heap.size 7 A n (row7 Z)) (hn : n ≤ 65536)
    (hs : s.size ≤ 16777216) (hV : CaseVar 0 caseA w) (hT : Lib.Utf8Tabs 2 3 w) :
    Calls Tryd.prog 6 #[.agg #[.pointer (some ⟨p, 0, none⟩), .string s, .int .i32 0, .int .u32 0, .int .u16 0, .int .u8 27, .int .u8 0]] w (PerPost (per (cms Z) (lowB s)) w) := by
  have hpl := World.block_lt_of_cell? _ _ hp
  obtain ⟨X, hX⟩ : ∃ X, X = w.alloc (.cells #[.pointer (some ⟨p, 0, none⟩), .string s, .int .i32 0, .int .u32 0, .int .u16 0, .int .u8 27, .int .u8 0] 35) := ⟨_, rfl⟩
  have HK : Hid (∀ q : Addr, q.block < w.heap.size → X.cell? q = w.cell? q) := Lib.hid (fun q hq => by rw [hX]; exact World.cell?_alloc_lt w _ q hq)
  have HB : Hid (Below w.heap.size w X) := Lib.hid (by rw [hX]; exact (Below.refl _ _).alloc (Nat.le_refl _) _)
  have HC := Lib.hid (per_fn p s A n cap Z X ((HK.out _ hpl).trans hp) ((hr.keep HK.out).more HB.out.size) hn hs (caseVar_keep hV HK.out) (utf8Tabs_keep hT HK.out))
  have HX := Lib.hid hX
  clear hX hp hr hV hT
  go_enter Tryd.func6, Tryd.ntmps6
  go_wp2_with (go_at_call 8; rw [← HX.out]; refine HC.out.mono ?_; rintro e w2 ⟨rfl, hb2⟩; have HB2 := Lib.hid (HB.out.trans (hb2.mono HB.out.size)); clear hb2)
  go_ret
  exact ⟨rfl, HB2.out⟩
end Go.Proofs.YtailhcimbpejpaaDoor
