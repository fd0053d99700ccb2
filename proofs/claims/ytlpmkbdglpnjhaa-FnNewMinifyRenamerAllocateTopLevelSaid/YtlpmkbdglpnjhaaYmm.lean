/- n011_102, AllocateTopLevel: blocks of integers, the entries, what stands while the law counts. -/
import Derived.Test.YtlpmkbdglpnjhaaYal
import Derived.Test.YtlpmkbdglpnjhaaYms
namespace Go.Proofs.Ytlpmkbdglpnjhaa
open Go.RowKit Go.Maps Go.WideMaps
set_option linter.unusedVariables false
set_option linter.unusedSimpArgs false
def IntBlk (w : World) (b : Nat) (ty : TypeId) (k : IntKind) (n : Nat) (f : Nat → Int) : Prop := ∃ cs : Array Value, Blk w b ty cs ∧ cs.size = n ∧ ∀ m, m < n → cs[m]? = some (.int k (f m))
section
variable {w w' : World} {b n : Nat} {ty : TypeId} {k : IntKind} {f : Nat → Int}
theorem IntBlk.grown (h : IntBlk w b ty k n f) (hg : w.grownBy w' none) : IntBlk w' b ty k n f := by
  obtain ⟨cs, hb, h2⟩ := h
  exact ⟨cs, hb.grown hg (by simp), h2⟩
theorem IntBlk.lt (h : IntBlk w b ty k n f) : b < w.heap.size := by obtain ⟨cs, hb, _⟩ := h; exact hb.lt
theorem IntBlk.cell (h : IntBlk w b ty k n f) {m : Nat} (hm : m < n) : w.cell? ⟨b, m, none⟩ = some (.int k (f m)) := by
  obtain ⟨cs, hb, _, h2⟩ := h
  rw [hb.cell]; exact h2 m hm
theorem IntBlk.frozen (h : IntBlk w b ty k n f) (m : Nat) : w.frozen? ⟨b, m, none⟩ = false := by obtain ⟨cs, hb, _⟩ := h; exact hb.frozen m
theorem IntBlk.set (h : IntBlk w b ty k n f) {m : Nat} (hm : m < n) (v : Int) : IntBlk (w.setCell ⟨b, m, none⟩ (.int k v)) b ty k n (updF f m v) := by
  obtain ⟨cs, hb, hs, h2⟩ := h
  refine ⟨_, hb.set_ _ _, by simpa using hs, fun j hj => ?_⟩
  rw [Array.getElem?_setIfInBounds, hs]
  by_cases e : m = j
  · subst e; rw [if_pos rfl, if_pos hm, updF_at]
  · rw [if_neg e, updF_ne (fun e2 => e e2.symm)]; exact h2 j hj
theorem IntBlk.far (h : IntBlk w b ty k n f) {p : Addr} (hp : b ≠ p.block) (u : Value) : IntBlk (w.setCell p u) b ty k n f := by
  obtain ⟨cs, hb, h2⟩ := h
  exact ⟨cs, hb.far hp u, h2⟩
theorem IntBlk.ext {f' : Nat → Int} (h : IntBlk w b ty k n f) (he : ∀ m, m < n → f m = f' m) : IntBlk w b ty k n f' := by
  obtain ⟨cs, hb, hs, h2⟩ := h
  exact ⟨cs, hb, hs, fun m hm => by rw [← he m hm]; exact h2 m hm⟩
theorem IntBlk.ne_ {b' n' : Nat} {ty' : TypeId} {k' : IntKind} {f' : Nat → Int} (h : IntBlk w b ty k n f) (h' : IntBlk w b' ty' k' n' f') (hne : ty ≠ ty') : b ≠ b' := by
  obtain ⟨cs, hb, _⟩ := h
  obtain ⟨cs', hb', _⟩ := h'
  exact Blk.ne_ hb hb' hne
theorem IntBlk.turned {T : Nat → Prop} (h : IntBlk w b ty k n f) (ht : Turned T w w') (hn : ¬ T b) : IntBlk w' b ty k n f := by
  obtain ⟨cs, hb, h2⟩ := h
  exact ⟨cs, ht.blk hb hn, h2⟩
theorem IntBlk.alloc (h : IntBlk w b ty k n f) (o : Obj) : IntBlk (w.alloc o) b ty k n f := by
  obtain ⟨cs, hb, h2⟩ := h
  exact ⟨cs, hb.alloc o, h2⟩
end
theorem IntBlk.made (w : World) (ty : TypeId) (k : IntKind) (n : Nat) : IntBlk (w.alloc (.cells (madeCells #[Value.int k 0] n) ty)) w.heap.size ty k n (fun _ => 0) :=
  ⟨_, Blk.new _ _ _, by simp [madeCells], fun m hm => by
    simp only [madeCells]
    rw [Array.getElem?_map, Array.getElem?_range, if_pos hm]
    simp [Nat.mod_one]⟩
/-- Entry m: a symbol and a count. -/
def entY (ts cts : List Int) (m : Nat) : Nat × Int := ((ts.getD m 0).toNat, cts.getD m 0)
/-- Block g holds n entries; the first k of them are laid. -/
def EntY (w : World) (g n k : Nat) (ts cts : List Int) : Prop :=
  ∃ cs : Array Value, Blk w g 43 cs ∧ cs.size = n * 4 ∧ ∀ m, m < k → cs[m * 4]? = some (.int .u32 0) ∧ cs[m * 4 + 1]? = some (.int .u32 0) ∧ cs[m * 4 + 2]? = some (.int .u32 (entY ts cts m).1) ∧ cs[m * 4 + 3]? = some (.int .u32 (entY ts cts m).2)
theorem EntY.step {w : World} {g n k : Nat} {ts cts : List Int} (h : EntY w g n k ts cts) (hk : k < n) (i : Nat) (x : Int) (hx : entY ts cts k = (i, x)) :
    EntY ((((w.setCell ⟨g, k * 4, none⟩ (.int .u32 0)).setCell ⟨g, k * 4 + 1, none⟩ (.int .u32 0)).setCell ⟨g, k * 4 + 2, none⟩ (.int .u32 i)).setCell ⟨g, k * 4 + 3, none⟩ (.int .u32 x)) g n (k + 1) ts cts := by
  obtain ⟨cs, hb, hs, hc⟩ := h
  refine ⟨_, (((hb.set_ _ _).set_ _ _).set_ _ _).set_ _ _, by simpa using hs, fun m hm => ?_⟩
  simp only [Array.getElem?_setIfInBounds, Array.size_setIfInBounds, hs]
  by_cases e : m = k
  · subst e
    rw [hx]
    refine ⟨?_, ?_, ?_, ?_⟩
    · rw [if_neg (by omega), if_neg (by omega), if_neg (by omega), if_pos rfl, if_pos (by omega)]
    · rw [if_neg (by omega), if_neg (by omega), if_pos rfl, if_pos (by omega)]
    · rw [if_neg (by omega), if_pos rfl, if_pos (by omega)]
    · rw [if_pos rfl, if_pos (by omega)]
  · obtain ⟨h0, h1, h2, h3⟩ := hc m (by omega)
    refine ⟨?_, ?_, ?_, ?_⟩
    · rw [if_neg (by omega), if_neg (by omega), if_neg (by omega), if_neg (by omega)]; exact h0
    · rw [if_neg (by omega), if_neg (by omega), if_neg (by omega), if_neg (by omega)]; exact h1
    · rw [if_neg (by omega), if_neg (by omega), if_neg (by omega), if_neg (by omega)]; exact h2
    · rw [if_neg (by omega), if_neg (by omega), if_neg (by omega), if_neg (by omega)]; exact h3
theorem EntY.grown {w w' : World} {g n k : Nat} {ts cts : List Int} (h : EntY w g n k ts cts) (hg : w.grownBy w' none) : EntY w' g n k ts cts := by
  obtain ⟨cs, hb, h2⟩ := h
  exact ⟨cs, hb.grown hg (by simp), h2⟩
theorem EntY.cells {w : World} {g n k j : Nat} {ts cts : List Int} (h : EntY w g n j ts cts) (hk : k < n) : ∃ u0 u1 u2 u3, w.cell? ⟨g, k * 4, none⟩ = some u0 ∧ w.cell? ⟨g, k * 4 + 1, none⟩ = some u1 ∧ w.cell? ⟨g, k * 4 + 2, none⟩ = some u2 ∧ w.cell? ⟨g, k * 4 + 3, none⟩ = some u3 := by
  obtain ⟨cs, hb, hs, _⟩ := h
  exact ⟨_, _, _, _, (hb.cell _).trans (Array.getElem?_eq_getElem (by omega)), (hb.cell _).trans (Array.getElem?_eq_getElem (by omega)), (hb.cell _).trans (Array.getElem?_eq_getElem (by omega)), (hb.cell _).trans (Array.getElem?_eq_getElem (by omega))⟩
theorem EntY.frozen {w : World} {g n k : Nat} {ts cts : List Int} (h : EntY w g n k ts cts) (i : Nat) : w.frozen? ⟨g, i, none⟩ = false := by obtain ⟨cs, hb, _⟩ := h; exact hb.frozen i
theorem EntY.ent {w : World} {g n : Nat} {ts cts : List Int} (h : EntY w g n n ts cts) : EntR w (some ⟨g, 0, none⟩) ((List.range n).map (entY ts cts)) := by
  obtain ⟨cs, hb, hs, hc⟩ := h
  intro m e he
  rw [List.getElem?_map] at he
  cases hr : (List.range n)[m]? with
  | none => rw [hr] at he; cases he
  | some y =>
    rw [hr] at he
    have hlt : m < n := by have := (List.getElem?_eq_some_iff.1 hr).1; simpa using this
    have hy : m = y := by rw [List.getElem?_range hlt] at hr; exact Option.some.inj hr
    have he' : entY ts cts y = e := Option.some.inj he
    obtain ⟨h0, h1, h2, h3⟩ := hc m hlt
    rw [hy, he'] at h2 h3
    rw [hy] at h0 h1
    exact ⟨g, 0, cs, 0, rfl, hb, by rw [hy, Nat.zero_add]; exact h0, by rw [hy, Nat.zero_add]; exact h1, by rw [hy, Nat.zero_add]; exact h2, by rw [hy, Nat.zero_add]; exact h3⟩
theorem sscI : (Try.prog.info? 43).map (fun i => (i.zero, i.size, i.bytes)) = some (some (.agg #[.int .u32 0, .int .u32 0, .int .u32 0, .int .u32 0]), 4, 16) := by kernel_rfl
theorem intI : (Try.prog.info? 3).map (fun i => (i.zero, i.size, i.bytes)) = some (some (.int .i64 0), 1, 8) := by kernel_rfl
theorem u32I : (Try.prog.info? 24).map (fun i => (i.zero, i.size, i.bytes)) = some (some (.int .u32 0), 1, 4) := by kernel_rfl
def mkEn (n : Nat) : Array Value := madeCells (Value.cells (.agg #[.int .u32 0, .int .u32 0, .int .u32 0, .int .u32 0])) (n * 4)
theorem EntY.made (w : World) (n : Nat) (ts cts : List Int) : EntY (w.alloc (.cells (mkEn n) 43)) w.heap.size n 0 ts cts := ⟨_, Blk.new _ _ _, by simp [mkEn, madeCells, Value.cells], fun m hm => by omega⟩
/-- What stands while the law counts: rank, sum, new slots a namespace. -/
structure LSt (W1 W : World) (rb sb fb n : Nat) (rank sum fresh : Nat → Int) : Prop where
  rk : IntBlk W rb 3 .i64 n rank
  sm : IntBlk W sb 24 .u32 n sum
  fr : IntBlk W fb 46 .i64 4 fresh
  bel : Below W1.heap.size W1 W
  lr : W1.heap.size ≤ rb
  ls : W1.heap.size ≤ sb
  lf : W1.heap.size ≤ fb
section
variable {W1 W W' : World} {rb sb fb n : Nat} {rank sum fresh : Nat → Int}
theorem LSt.grown (h : LSt W1 W rb sb fb n rank sum fresh) (hg : W.grownBy W' none) : LSt W1 W' rb sb fb n rank sum fresh :=
  ⟨h.rk.grown hg, h.sm.grown hg, h.fr.grown hg, h.bel.grown hg h.bel.size (fun k hk => by cases hk), h.lr, h.ls, h.lf⟩
theorem LSt.setRk (h : LSt W1 W rb sb fb n rank sum fresh) {t : Nat} (ht : t < n) (v : Int) : LSt W1 (W.setCell ⟨rb, t, none⟩ (.int .i64 v)) rb sb fb n (updF rank t v) sum fresh :=
  ⟨h.rk.set ht v, h.sm.far (p := ⟨rb, t, none⟩) (h.sm.ne_ h.rk (by decide)) _, h.fr.far (p := ⟨rb, t, none⟩) (h.fr.ne_ h.rk (by decide)) _, h.bel.setCell (p := ⟨rb, t, none⟩) h.lr _, h.lr, h.ls, h.lf⟩
theorem LSt.setSm (h : LSt W1 W rb sb fb n rank sum fresh) {t : Nat} (ht : t < n) (v : Int) : LSt W1 (W.setCell ⟨sb, t, none⟩ (.int .u32 v)) rb sb fb n rank (updF sum t v) fresh :=
  ⟨h.rk.far (p := ⟨sb, t, none⟩) (h.rk.ne_ h.sm (by decide)) _, h.sm.set ht v, h.fr.far (p := ⟨sb, t, none⟩) (h.fr.ne_ h.sm (by decide)) _, h.bel.setCell (p := ⟨sb, t, none⟩) h.ls _, h.lr, h.ls, h.lf⟩
theorem LSt.setFr (h : LSt W1 W rb sb fb n rank sum fresh) {t : Nat} (ht : t < 4) (v : Int) : LSt W1 (W.setCell ⟨fb, t, none⟩ (.int .i64 v)) rb sb fb n rank sum (updF fresh t v) :=
  ⟨h.rk.far (p := ⟨fb, t, none⟩) (h.rk.ne_ h.fr (by decide)) _, h.sm.far (p := ⟨fb, t, none⟩) (h.sm.ne_ h.fr (by decide)) _, h.fr.set ht v, h.bel.setCell (p := ⟨fb, t, none⟩) h.lf _, h.lr, h.ls, h.lf⟩
end
theorem TRen.still {B o : Nat} {mo : Option Nat} {br gm : Nat} {vs : Nat → Value} {g n : Nat} {S : Nat → SymR} {N : Nat} {t : TS} {w w' : World} (h : TRen B o mo br gm vs g n S N t w) (hb : Below w.heap.size w w') : TRen B o mo br gm vs g n S N t w' :=
  h.turned (T := fun _ => False) (Turned.of_below hb) (fun e => e) (fun e => e) (fun _ _ _ _ e => e) (fun e => e) (fun e => e)
theorem inT_low {K br gm : Nat} {gs cn : Nat → Nat} (h1 : K ≤ br) (h2 : K ≤ gm) (h3 : ∀ j, j < 4 → K ≤ gs j) : ∀ b, InT (slV gs cn) br gm b → K ≤ b := by
  rintro b (e | e | ⟨j, hj, e⟩)
  · omega
  · omega
  · have e2 : gs j = b := Option.some.inj (show some (gs j) = some b from e)
    have := h3 j hj
    omega
theorem tok_fresh (S : Nat → SymR) {cn : Nat → Nat} {M : Nat} (hM : ∀ j, cn j ≤ M) : TOk S M ⟨fun j => List.replicate (cn j) (0, 0), fun _ => none⟩ := ⟨(fun i k h => by cases h), (fun j => by simpa using hM j)⟩
theorem pinv_fold {S : Nat → SymR} {cn : Nat → Nat} : ∀ (es : List (Nat × Int)) {T : TS}, PInv S cn T → PInv S cn (es.foldl (tStep S) T)
  | [], _, h => h
  | e :: es, _, h => pinv_fold es (h.step e)
theorem tok_fold {S : Nat → SymR} : ∀ (es : List (Nat × Int)) {M : Nat} {T : TS}, TOk S M T → TOk S (M + es.length) (es.foldl (tStep S) T)
  | [], _, _, h => h
  | e :: es, M, _, h => by
    have := tok_fold es (h.step e)
    rwa [List.length_cons, show M + (es.length + 1) = M + 1 + es.length by omega]
theorem kd_of_no (k : Int) (h : ¬ k % 3 = 0) : kdOf k = 27 ∨ kdOf k = 18 := by
  unfold kdOf
  rw [if_neg h]
  split
  · exact .inl rfl
  · exact .inr rfl
theorem bits_00 : bits .and .u16 0 1 = 0 := by kernel_rfl
theorem ent_ok {n nt : Nat} {ks ts cts : List Int} (ht : ∀ m, m < nt → ts.getD m 0 < n ∧ ¬ ks.getD (ts.getD m 0).toNat 0 % 3 = 0) (hr : ∀ x ∈ ts, 0 ≤ x ∧ x ≤ 4294967295) (hc : ∀ x ∈ cts, 0 ≤ x ∧ x ≤ 4294967295) :
    ∀ e ∈ (List.range nt).map (entY ts cts), EntOk (symF n [] ks [] []) n e := by
  intro e he
  obtain ⟨m, hm, rfl⟩ := List.mem_map.1 he
  have hm' : m < nt := List.mem_range.1 hm
  obtain ⟨h1, h2⟩ := ht m hm'
  have rg : ∀ (l : List Int) (i : Nat), (∀ x ∈ l, 0 ≤ x ∧ x ≤ 4294967295) → 0 ≤ l.getD i 0 ∧ l.getD i 0 ≤ 4294967295 := fun l i h => by
    rw [List.getD_eq_getElem?_getD]
    cases he : l[i]? with
    | none => exact ⟨Int.le_refl _, by decide⟩
    | some y => exact h y (List.mem_of_getElem? he)
  refine ⟨?_, ?_, ?_, ?_⟩
  · show (ts.getD m 0).toNat < n
    have := (rg ts m hr).1
    omega
  · show kdOf _ = 27 ∨ kdOf _ = 18
    exact kd_of_no _ h2
  · exact bits_00
  · exact rg cts m hc
theorem range_take_snoc {α : Type} (f : Nat → α) (n k : Nat) (h : k < n) : ((List.range n).map f).take (k + 1) = ((List.range n).map f).take k ++ [f k] := by
  rw [← List.map_take, ← List.map_take, List.take_range, List.take_range, Nat.min_eq_left (by omega), Nat.min_eq_left (by omega), List.range_succ, List.map_append]; rfl
end Go.Proofs.Ytlpmkbdglpnjhaa
