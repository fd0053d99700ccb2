/- n011_287, SplitAgrees: two renamers far apart; the cut of the entries. -/
import Derived.Test.YtdmllmipcfkaaaaZap
namespace Go.Proofs.Ytdmllmipcfkaaaa
open Go.RowKit Go.Maps Go.WideMaps
set_option linter.unusedVariables false
set_option linter.unusedSimpArgs false
/-- All blocks of a renamer, its table among them. -/
def FB (vs : Nat → Value) (br gm o g b : Nat) : Prop := InT vs br gm b ∨ b = o ∨ b = g
def Fresh4 (w : World) (vs vs' : Nat → Value) : Prop := ∀ j, j < 4 → ∀ q, (vs' j).ownBlock = some q → (vs j).ownBlock = some q ∨ w.heap.size ≤ q
def Apt (va : Nat → Value) (ra ma oa ga : Nat) (vb : Nat → Value) (rb mb ob gb : Nat) : Prop :=
  (∀ b, FB va ra ma oa ga b → ¬ InT vb rb mb b) ∧ (∀ b, FB vb rb mb ob gb b → ¬ InT va ra ma b)
section
variable {va va' vb vb' : Nat → Value} {ra ma oa ga rb mb ob gb : Nat}
theorem Apt.symm (h : Apt va ra ma oa ga vb rb mb ob gb) : Apt vb rb mb ob gb va ra ma oa ga := ⟨h.2, h.1⟩
theorem TRen.fbLt {B o : Nat} {mo : Option Nat} {br gm : Nat} {vs : Nat → Value} {g n : Nat} {S : Nat → SymR} {N : Nat} {t : TS} {w : World} (h : TRen B o mo br gm vs g n S N t w) {b : Nat} (hb : FB vs br gm o g b) : b < w.heap.size := by
  rcases hb with (e | e | ⟨j, hj, e⟩) | e | e
  · rw [e]; exact h.blk.lt
  · obtain ⟨_, _, _, hm, _⟩ := h.map
    rw [e]; exact hm.lt
  · exact ((h.own j hj).lt b e).2
  · rw [e]; exact h.out.lt
  · rw [e]; exact h.tab.lt
theorem inT_fresh {w : World} {vs vs' : Nat → Value} {br gm b : Nat} (hf : Fresh4 w vs vs') (hb : InT vs' br gm b) : InT vs br gm b ∨ w.heap.size ≤ b := by
  rcases hb with e | e | ⟨j, hj, e⟩
  · exact .inl (.inl e)
  · exact .inl (.inr (.inl e))
  · rcases hf j hj b e with e | e
    · exact .inl (.inr (.inr ⟨j, hj, e⟩))
    · exact .inr e
/-- The first of the two takes a step. -/
theorem Apt.step (h : Apt va ra ma oa ga vb rb mb ob gb) {w : World} (hf : Fresh4 w va va') (hl : ∀ b, FB vb rb mb ob gb b → b < w.heap.size) : Apt va' ra ma oa ga vb rb mb ob gb := by
  constructor
  · intro b hb hb'
    have hlt := hl b (.inl hb')
    rcases hb with hb | hb
    · rcases inT_fresh hf hb with e | e
      · exact h.1 b (.inl e) hb'
      · omega
    · exact h.1 b (.inr hb) hb'
  · intro b hb hb'
    have hlt := hl b hb
    rcases inT_fresh hf hb' with e | e
    · exact h.2 b hb e
    · omega
/-- The second of the two stays while the first takes a step. -/
theorem TRen.apart {B : Nat} {mo : Option Nat} {n : Nat} {S : Nat → SymR} {N : Nat} {t : TS} {w w' : World} (h : TRen B ob mo rb mb vb gb n S N t w) (hp : Apt va ra ma oa ga vb rb mb ob gb) (ht : Turned (InT va ra ma) w w') : TRen B ob mo rb mb vb gb n S N t w' :=
  h.turned ht (hp.2 _ (.inl (.inl rfl))) (hp.2 _ (.inl (.inr (.inl rfl)))) (fun j hj b hb => hp.2 _ (.inl (.inr (.inr ⟨j, hj, hb⟩)))) (hp.2 _ (.inr (.inl rfl))) (hp.2 _ (.inr (.inr rfl)))
theorem low_step {w : World} {K : Nat} (hf : Fresh4 w va va') (hK : K ≤ w.heap.size) (h : ∀ b, InT va ra ma b → K ≤ b) : ∀ b, InT va' ra ma b → K ≤ b := fun b hb => by
  rcases inT_fresh hf hb with e | e
  · exact h b e
  · omega
end
theorem TRen.still {B o : Nat} {mo : Option Nat} {br gm : Nat} {vs : Nat → Value} {g n : Nat} {S : Nat → SymR} {N : Nat} {t : TS} {w w' : World} (h : TRen B o mo br gm vs g n S N t w) (hb : Below w.heap.size w w') : TRen B o mo br gm vs g n S N t w' :=
  h.turned (T := fun _ => False) (Turned.of_below hb) (fun e => e) (fun e => e) (fun _ _ _ _ e => e) (fun e => e) (fun e => e)
/-- A fresh renamer out of what zzBuild and NewMinifyRenamer left. -/
theorem fresh_fb {K o br gm g : Nat} {gs cn : Nat → Nat} (h1 : K ≤ br) (h2 : K ≤ gm) (h3 : ∀ j, j < 4 → K ≤ gs j) (h4 : K ≤ o) (h5 : K ≤ g) : ∀ b, FB (slV gs cn) br gm o g b → K ≤ b := by
  rintro b ((e | e | ⟨j, hj, e⟩) | e | e)
  · omega
  · omega
  · have e2 : gs j = b := Option.some.inj (show some (gs j) = some b from e)
    have := h3 j hj
    omega
  · omega
  · omega
theorem tok_fresh (S : Nat → SymR) {cn : Nat → Nat} {M : Nat} (hM : ∀ j, cn j ≤ M) : TOk S M ⟨fun j => List.replicate (cn j) (0, 0), fun _ => none⟩ := ⟨(fun i k h => by cases h), (fun j => by simpa using hM j)⟩
theorem ssa_und : Try.prog.underlying 37 = some (.slice (Try.prog.elem 37)) := by kernel_rfl
theorem ssa_elem : Try.prog.elem 37 = 71 := by kernel_rfl
theorem cut_from (q L c : Nat) (hc : c ≤ L) : ∃ SA, (∀ W : World, (Instr.slice 37 (.slice (some ⟨q, 0, none⟩) L L) (some (.int .i64 (c : Int))) none none).run Try.prog W = .ok (.slice SA (L - c) (L - c)) W) ∧ (c < L → SA = some ⟨q, c * 4, none⟩) := by
  refine ⟨if L = c then some ⟨q, 0, none⟩ else (some (⟨q, 0, none⟩ : Addr)).map (·.add (c * 4)), fun W => ?_, fun h => ?_⟩
  · rw [run_slice_l W 37 (some ⟨q, 0, none⟩) L L ssa_und .i64 (c : Int) (by omega) (by omega), ssa_elem, Try.sizeOf71]
    simp [sliced]
  · rw [if_neg (by omega)]
    simp [Addr.add]
    try omega
theorem bits_f0 : bits .and .u16 0 1 = 0 := by kernel_rfl
theorem bits_f2 : bits .and .u16 2 1 = 0 := by kernel_rfl
theorem ent_ok (n4 : Nat) (ks fs ds : List Int) (sc : Int) (ls : List Int) (n L : Nat) (hn : 0 < n) (rs cts : List Int) (hr : ∀ x ∈ rs, 0 ≤ x ∧ x ≤ 4294967295) (hc : ∀ x ∈ cts, 0 ≤ x ∧ x ≤ 4294967295) :
    ∀ e ∈ (List.range L).map (entF n rs cts), EntOk (symB false n4 ks fs ds sc ls) n e := by
  intro e he
  obtain ⟨m, _, rfl⟩ := List.mem_map.1 he
  have h1 : 0 ≤ rs.getD m 0 % (n : Int) := Int.emod_nonneg _ (by omega)
  have h2 : rs.getD m 0 % (n : Int) < n := Int.emod_lt_of_pos _ (by omega)
  refine ⟨?_, ?_, ?_, ?_⟩
  · show (rs.getD m 0 % (n : Int)).toNat < n
    omega
  · show kdA false _ = 27 ∨ kdA false _ = 18
    unfold kdA
    rw [if_neg (by simp)]
    split
    · exact .inr rfl
    · exact .inl rfl
  · show bits .and .u16 (flA false _) 1 = 0
    unfold flA
    rw [if_neg (by simp)]
    split
    · exact bits_f2
    · exact bits_f0
  · exact getD_rg hc (by omega) m
end Go.Proofs.Ytdmllmipcfkaaaa
