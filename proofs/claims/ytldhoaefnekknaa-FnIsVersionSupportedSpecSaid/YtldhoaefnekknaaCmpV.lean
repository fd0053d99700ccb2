/- The walk of compareVersions: the sign comes of three differences and the pre-release. -/
import Derived.Test.YtldhoaefnekknaaRows
import Derived.Test.YtldhoaefnekknaaWords
import Derived.WalkKit
import Derived.ProofKit
import Derived.Outline
import Derived.Deep.Light
namespace Go.Proofs.Ytldhoaefnekknaa
open Go.RowKit
set_option linter.unusedVariables false
set_option linter.unusedSimpArgs false

def cmp3 (d0 d1 d2 : Int) (k : Nat) : Int := if d0 ≠ 0 then d0 else if d1 ≠ 0 then d1 else if d2 = 0 ∧ k ≠ 0 then 1 else d2
theorem reads_cell {w : World} {B : Nat} {A : Option Addr} {n : Nat} {zs : List Int} (h : Reads w B 1 A n (zs.map (Value.int .i64))) (hn : 0 < n) :
    ∃ b off, A = some ⟨b, off, none⟩ ∧ b < B ∧ ∀ i, i < n → w.cell? ⟨b, off + i, none⟩ = some (.int .i64 (zs.getD i 0)) := by
  have hlen : zs.length = n := by have := h.1; simpa using this
  obtain ⟨ad, u, rfl, hb, _, hc⟩ := h.at_ hn
  obtain ⟨b, off, spot⟩ := ad
  have hs : spot = none := World.cell?_spot (show w.cell? ⟨b, off, spot⟩ = some u from hc)
  subst hs
  refine ⟨b, off, rfl, hb, fun i hi => ?_⟩
  obtain ⟨ad', u', e1, _, hx, hc'⟩ := h.at_ hi
  obtain rfl := Option.some.inj e1
  rw [List.getElem?_map, List.getElem?_eq_getElem (by omega)] at hx
  rw [List.getD_eq_getElem?_getD, List.getElem?_eq_getElem (by omega)]
  have hu := Option.some.inj hx
  rw [Option.getD_some, show (Value.int .i64 zs[i]) = u' from hu, ← hc']
  unfold Addr.add
  split
  · rename_i h0; subst h0; rfl
  · rfl
theorem getD_past (zs : List Int) (i : Nat) (h : zs.length ≤ i) : zs.getD i 0 = 0 := by
  rw [List.getD_eq_getElem?_getD, List.getElem?_eq_none h]; rfl
set_option maxHeartbeats 2000000 in
set_option maxRecDepth 100000 in
theorem cmp_any (M m p : Int) (hM : 0 ≤ M) (hM' : M ≤ 65535) (hm : 0 ≤ m) (hm' : m ≤ 255) (hp : 0 ≤ p) (hp' : p ≤ 255) (A : Option Addr) (n cap : Nat) (zs : List Int) (pre : ByteArray) (w : World)
    (hr : Reads w w.heap.size 1 A n (zs.map (Value.int .i64))) (hn : n ≤ 16777216) :
    Calls Try.prog 14 #[.agg #[.int .u16 M, .int .u8 m, .int .u8 p], .agg #[.slice A n cap, .string pre]] w fun e w' =>
      e = .returned (.int .i64 (cmp3 (wrap64 (M - zs.getD 0 0)) (wrap64 (m - zs.getD 1 0)) (wrap64 (p - zs.getD 2 0)) pre.size)) ∧ w.grownBy w' none := by
  have hlen : zs.length = n := by have := hr.1; simpa using this
  have e0 : wrap64 (M - 0) = M := by unfold wrap64; omega
  have e1 : wrap64 (m - 0) = m := by unfold wrap64; omega
  have e2 : wrap64 (p - 0) = p := by unfold wrap64; omega
  have E0 := Lib.hid e0; have E1 := Lib.hid e1; have E2 := Lib.hid e2; have HLEN := Lib.hid hlen
  clear e0 e1 e2 hlen
  by_cases n0 : n = 0
  · subst n0
    have HL := HLEN.out
    rw [getD_past zs 0 (by omega), getD_past zs 1 (by omega), getD_past zs 2 (by omega), E0.out, E1.out, E2.out]
    clear HL hr
    go_enter Try.func14, Try.ntmps14
    go_wp2
    all_goals
      go_ret
      refine ⟨ret_int ?_, only_alloc (only_alloc (World.grownBy.refl w _) _) _⟩
      go_light
      try simp only [beq_iff_eq, beq_eq_false_iff_ne, bne_iff_ne, bne_eq_false_iff_eq, ne_eq] at *
      symm
      unfold cmp3
      repeat' split
      all_goals first | rfl | omega
  · obtain ⟨b, off, rfl, hb, hc⟩ := reads_cell hr (by omega)
    have c0 : w.cell? ⟨b, off, none⟩ = some (.int .i64 (zs.getD 0 0)) := hc 0 (by omega)
    by_cases n1 : n = 1
    · subst n1
      have HL := HLEN.out
      rw [getD_past zs 1 (by omega), getD_past zs 2 (by omega), E1.out, E2.out]
      generalize zs.getD 0 0 = x0 at c0 ⊢
      clear HL hr hc
      go_enter Try.func14, Try.ntmps14
      go_wp2
      all_goals
        go_ret
        refine ⟨ret_int ?_, only_alloc (only_alloc (World.grownBy.refl w _) _) _⟩
        go_light
        try simp only [beq_iff_eq, beq_eq_false_iff_ne, bne_iff_ne, bne_eq_false_iff_eq, ne_eq] at *
        symm
        unfold cmp3
        repeat' split
        all_goals first | rfl | omega
    · have c1 : w.cell? ⟨b, off + 1, none⟩ = some (.int .i64 (zs.getD 1 0)) := hc 1 (by omega)
      by_cases n2 : n = 2
      · subst n2
        have HL := HLEN.out
        rw [getD_past zs 2 (by omega), E2.out]
        generalize zs.getD 0 0 = x0 at c0 ⊢
        generalize zs.getD 1 0 = x1 at c1 ⊢
        clear HL hr hc
        go_enter Try.func14, Try.ntmps14
        go_wp2
        all_goals
          go_ret
          refine ⟨ret_int ?_, only_alloc (only_alloc (World.grownBy.refl w _) _) _⟩
          go_light
          try simp only [beq_iff_eq, beq_eq_false_iff_ne, bne_iff_ne, bne_eq_false_iff_eq, ne_eq] at *
          symm
          unfold cmp3
          repeat' split
          all_goals first | rfl | omega
      · have c2 : w.cell? ⟨b, off + 2, none⟩ = some (.int .i64 (zs.getD 2 0)) := hc 2 (by omega)
        have h3 : 3 ≤ n := by omega
        generalize zs.getD 0 0 = x0 at c0 ⊢
        generalize zs.getD 1 0 = x1 at c1 ⊢
        generalize zs.getD 2 0 = x2 at c2 ⊢
        clear hr hc n0 n1 n2
        go_enter Try.func14, Try.ntmps14
        go_wp2
        all_goals
          go_ret
          refine ⟨ret_int ?_, only_alloc (only_alloc (World.grownBy.refl w _) _) _⟩
          go_light
          try simp only [beq_iff_eq, beq_eq_false_iff_ne, bne_iff_ne, bne_eq_false_iff_eq, ne_eq] at *
          symm
          unfold cmp3
          repeat' split
          all_goals first | rfl | omega
end Go.Proofs.Ytldhoaefnekknaa
