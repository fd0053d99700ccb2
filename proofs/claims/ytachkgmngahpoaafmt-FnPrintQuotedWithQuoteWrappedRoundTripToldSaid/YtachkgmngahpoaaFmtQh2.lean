/- The laws' helpers on printQuotedWithQuote: copy, equality (lines of XEs4). -/
import Derived.Test.YtachkgmngahpoaaFmtEsc
import Derived.Test.YtachkgmngahpoaaFmtCpb
import Derived.Laws.BitsLemmas
namespace Go.Proofs.YtachkgmngahpoaaFmt
open Go.RowKit
set_option linter.unusedVariables false
set_option linter.unusedSimpArgs false
/-- A row of bytes of the call's own is handed back. -/
def RowPost (B : Nat) (w : World) (bs : List Value) (e : Ending) (w' : World) : Prop :=
  ∃ A n c, e = .returned (.slice A n c) ∧ bs.length = n ∧ w'.ownsRow B 5 1 (.slice A n c) n bs ∧ Below B w w'
theorem own_of_blk {w : World} {B g : Nat} {xs : List Value} {n : Nat} (h : Blk w g 5 xs.toArray) (hB : B ≤ g) (hl : xs.length = n) (hn : n ≤ maxLen) : w.ownsRow B 5 1 (.slice (some ⟨g, 0, none⟩) n n) n xs :=
  ⟨by simpa using hl, .inr ⟨g, n, _, rfl, hB, h, Nat.le_refl _, hn, by simpa using hl, by simp [← hl]⟩⟩
theorem copyRow (A : Option Addr) (n cap : Nat) (zs : List Int) (w : World) (hr : Reads w w.heap.size 1 A n (zs.map (Value.int .u8))) (hn : n ≤ 16777216) (hA : A = none → n = 0) :
    Calls Tryf.prog 7 #[.slice A n cap] w (RowPost w.heap.size w (zs.map (Value.int .u8))) := by
  have hl : (zs.map (Value.int .u8)).length = n := by have := hr.1; simpa using this
  refine (copyB A n cap zs w hr hn).mono fun e w' hp => ?_
  rcases hp with ⟨h0, rfl, rfl⟩ | ⟨g, _, rfl, hge, hbk, hb⟩
  · have hn0 := hA h0
    have hz : zs.map (Value.int .u8) = [] := List.eq_nil_of_length_eq_zero (by omega)
    rw [hz]
    exact ⟨none, 0, 0, rfl, rfl, World.ownsRow_nil _ _ _ _, Below.refl _ _⟩
  · exact ⟨_, n, n, rfl, hl, own_of_blk hbk hge hl (by unfold maxLen; omega), hb⟩
theorem reads_cell {k : IntKind} {w : World} {B : Nat} {A : Option Addr} {n : Nat} {zs : List Int} (h : Reads w B 1 A n (zs.map (Value.int k))) (hn : 0 < n) :
    ∃ b off, A = some ⟨b, off, none⟩ ∧ b < B ∧ ∀ i, i < n → w.cell? ⟨b, off + i, none⟩ = some (.int k (zs.getD i 0)) := by
  have hlen : zs.length = n := by have := h.1; simpa using this
  obtain ⟨ad, u, rfl, hb, _, hc⟩ := h.at_ hn
  obtain ⟨b, off, spot⟩ := ad
  have hs : spot = none := World.cell?_spot (show w.cell? ⟨b, off, spot⟩ = some u from hc)
  subst hs
  refine ⟨b, off, rfl, hb, fun i hi => ?_⟩
  obtain ⟨ad', u', e1, _, hx, hc'⟩ := h.at_ hi
  obtain rfl := Option.some.inj e1
  rw [List.getElem?_map, List.getElem?_eq_getElem (by omega)] at hx
  rw [List.getD_eq_getElem?_getD, List.getElem?_eq_getElem (by omega)]
  have hu := Option.some.inj hx
  rw [Option.getD_some, show (Value.int k zs[i]) = u' from hu, ← hc']
  unfold Addr.add
  split
  · rename_i h0; subst h0; rfl
  · rfl
theorem eq_of_getD (xs ys : List Int) (hl : xs.length = ys.length) (h : ∀ j, j < xs.length → xs.getD j 0 = ys.getD j 0) : xs = ys := by
  apply List.ext_getElem hl
  intro i h1 h2
  have := h i h1
  rwa [List.getD_eq_getElem?_getD, List.getD_eq_getElem?_getD, List.getElem?_eq_getElem h1, List.getElem?_eq_getElem h2] at this

set_option maxHeartbeats 1000000 in
set_option maxRecDepth 100000 in
theorem eq_any (A : Option Addr) (n c : Nat) (xs : List Int) (A' : Option Addr) (n' c' : Nat) (ys : List Int) (w : World) (hx : Reads w w.heap.size 1 A n (xs.map (Value.int .u8))) (hy : Reads w w.heap.size 1 A' n' (ys.map (Value.int .u8))) (hn : n ≤ 16777216) (hn' : n' ≤ 16777216) :
    Calls Tryf.prog 10 #[.slice A n c, .slice A' n' c'] w fun e w' => e = .returned (.bool (decide (xs = ys))) ∧ Below w.heap.size w w' := by
  have lx : xs.length = n := by have := hx.1; simpa using this
  have ly : ys.length = n' := by have := hy.1; simpa using this
  have HLX := Lib.hid lx; have HLY := Lib.hid ly; have HX := Lib.hid hx; have HY := Lib.hid hy
  clear lx ly hx hy
  by_cases e : n = n'
  · subst e
    go_enter Tryf.func10, Tryf.ntmps10
    go_wp2
    go_loopw [5] (fun i wr => ∃ k : Nat, i = .int .i64 k ∧ k ≤ n ∧ (∀ j, j < k → xs.getD j 0 = ys.getD j 0) ∧ Below w.heap.size w wr) (fun i _ => n - (intOf i).toNat)
    case atStart => exact ⟨0, rfl, by omega, fun j hj => by omega, Below.refl _ _⟩
    case round =>
      obtain ⟨k, rfl, hk, hall, hbw⟩ := hrel
      have HALL := Lib.hid hall
      clear hall
      by_cases hlt : k < n
      · obtain ⟨b, off, rfl, hb, hc⟩ := reads_cell (HX.out.below hbw) (by omega)
        obtain ⟨b', off', rfl, hb', hc'⟩ := reads_cell (HY.out.below hbw) (by omega)
        have ck := hc k hlt
        have ck' := hc' k hlt
        generalize ex : xs.getD k 0 = x at ck
        generalize ey : ys.getD k 0 = y at ck'
        have EX := Lib.hid ex; have EY := Lib.hid ey
        clear hc hc' ex ey
        by_cases hxy : x = y
        · subst hxy
          go_wp2
          go_region
          all_goals
            go_wp2
            go_roundw
            case rel =>
              refine ⟨k + 1, by go_num, by omega, fun j hj => ?_, by repeat (first | exact hbw | apply Below.drew | apply below_drewN)⟩
              by_cases e : j = k
              · rw [e, EX.out, EY.out]
              · exact HALL.out j (by omega)
            case measure => simp [intOf]; omega
        · have hd : (x != y) = true := by simpa using hxy
          have HF : Hid (decide (xs = ys) = false) := Lib.hid (by
            rw [decide_eq_false_iff_not]; rintro rfl; exact hxy (EX.out.symm.trans EY.out))
          go_wp2
          go_region
          all_goals
            go_wp2
            go_ret
            exact ⟨ret_bool HF.out.symm, by repeat (first | exact hbw | apply Below.drew | apply below_drewN)⟩
      · obtain rfl : k = n := by omega
        have HF : Hid (decide (xs = ys) = true) := Lib.hid (by
          rw [decide_eq_true_iff]; exact eq_of_getD xs ys (by rw [HLX.out, HLY.out]) (fun j hj => HALL.out j (by have := HLX.out; omega)))
        have d1 : decide ((k : Int) < k) = false := by simp
        go_wp2
        go_ret
        exact ⟨ret_bool HF.out.symm, by first | exact hbw | exact Below.refl _ _⟩
  · have hd : ((n : Int) != n') = true := by simpa using (by omega : ¬ (n : Int) = n')
    have HF : Hid (decide (xs = ys) = false) := Lib.hid (by
      rw [decide_eq_false_iff_not]; rintro rfl; exact e (HLX.out.symm.trans HLY.out))
    go_enter Tryf.func10, Tryf.ntmps10
    go_wp2
    go_ret
    exact ⟨ret_bool HF.out.symm, by first | exact hbw | exact Below.refl _ _⟩


theorem own_slice {w : World} {B n : Nat} {v : Value} {xs : List Value} (h : w.ownsRow B 5 1 v n xs) : ∃ A c, v = .slice A n c := by
  rcases h.2 with ⟨rfl, rfl⟩ | ⟨g, cap, cur, rfl, _⟩
  · exact ⟨none, 0, rfl⟩
  · exact ⟨_, _, rfl⟩
theorem own_drewN {w : World} {B e size n : Nat} {v : Value} {xs : List Value} (h : w.ownsRow B e size v n xs) (q : Nat) : (w.drewN q).ownsRow B e size v n xs := h
end Go.Proofs.YtachkgmngahpoaaFmt
