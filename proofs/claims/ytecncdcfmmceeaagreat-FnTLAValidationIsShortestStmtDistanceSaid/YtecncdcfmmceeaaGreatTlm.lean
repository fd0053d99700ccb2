/- Top-level await, in memory: the results, the files' syntax trees, their records. -/
import Derived.Test.YtecncdcfmmceeaaGreatRows
import Derived.Test.YtecncdcfmmceeaaGreatWords
import Derived.Test.YtecncdcfmmceeaaGreatTla
import Derived.WalkKit
namespace Go.Proofs.YtecncdcfmmceeaaGreat
open Go.RowKit
set_option linter.unusedVariables false
set_option linter.unusedSimpArgs false
def recC (k t : Nat) : List Value := [.pointer none, .pointer none, .string ⟨#[]⟩, .string ⟨#[]⟩, .string ⟨#[]⟩, .string ⟨#[]⟩, .int .u8 0, .int .i32 0, .int .i32 0, .int .i32 0, .int .u32 ((INV - t : Nat) : Int), .int .u32 0, .int .u16 0, .int .u8 0, .int .u8 ((k + 1 : Nat) : Int)]
theorem recI : (Tryz.prog.info? 62).map (fun i => (i.zero, i.size)) = some (some (.agg #[.pointer none, .pointer none, .string ⟨#[]⟩, .string ⟨#[]⟩, .string ⟨#[]⟩, .string ⟨#[]⟩, .int .u8 0, .int .i32 0, .int .i32 0, .int .i32 0, .int .u32 0, .int .u32 0, .int .u16 0, .int .u8 0, .int .u8 0]), 15) := by kernel_rfl
theorem resI : (Tryz.prog.info? 87).map (fun i => i.size) = some 27 := by kernel_rfl
theorem jsI : (Tryz.prog.info? 191).map (fun i => i.size) = some 64 := by kernel_rfl
def recsC (l : List (Nat × Nat)) : List Value := l.flatMap fun p => recC p.1 p.2
theorem recsC_length : ∀ l : List (Nat × Nat), (recsC l).length = l.length * 15
  | [] => rfl
  | p :: l => by
    have := recsC_length l
    unfold recsC at this ⊢
    rw [List.flatMap_cons, List.length_append, this, List.length_cons]
    show 15 + _ = _
    omega
theorem recsC_snoc (l : List (Nat × Nat)) (p : Nat × Nat) : recsC (l ++ [p]) = recsC l ++ recC p.1 p.2 := by unfold recsC; simp
theorem recsC_at : ∀ (l : List (Nat × Nat)) (r : Nat) (p : Nat × Nat), l[r]? = some p → ∀ j, j < 15 → (recsC l)[r * 15 + j]? = (recC p.1 p.2)[j]?
  | [], r, p, h, j, hj => by simp at h
  | q :: l, 0, p, h, j, hj => by
    obtain rfl : q = p := by simpa using h
    unfold recsC
    rw [List.flatMap_cons, List.getElem?_append_left (by show _ < 15; omega)]
    congr 1; omega
  | q :: l, r + 1, p, h, j, hj => by
    have h' : l[r]? = some p := by simpa using h
    have := recsC_at l r p h' j hj
    unfold recsC at this ⊢
    rw [List.flatMap_cons, List.getElem?_append_right (by show 15 ≤ _; omega), ← this]
    congr 1
    show _ - 15 = _
    omega
/-- The rows of results. -/
structure ResOK (G : TG) (σ : TS) (jb : Nat → Nat) (cs : Array Value) : Prop where
  sz : cs.size = G.n * 27
  row : ∀ i, i < G.n → (G.ok i = true → cs[i * 27 + 4]? = some (.iface 157 (.pointer (some ⟨jb i, 0, none⟩)))) ∧ cs[i * 27 + 22]? = some (.int .u32 ((INV - σ.par i : Nat) : Int)) ∧ cs[i * 27 + 23]? = some (.int .u32 ((INV - σ.dep i : Nat) : Int)) ∧ cs[i * 27 + 24]? = some (.int .u32 (σ.pas i : Nat)) ∧ cs[i * 27 + 25]? = some (.int .u32 (σ.ri i : Nat)) ∧ cs[i * 27 + 26]? = some (.bool (G.ok i))
theorem set_other (cs : Array Value) {i j a b : Nat} (ha : a < 27) (hb : b < 27) (h : ¬ (i = j ∧ a = b)) (v : Value) : (cs.setIfInBounds (i * 27 + a) v)[j * 27 + b]? = cs[j * 27 + b]? := by
  rw [Array.getElem?_setIfInBounds_ne]
  intro e
  have : i = j := by omega
  subst this
  exact h ⟨rfl, by omega⟩
theorem set_self (cs : Array Value) {n i a : Nat} (ha : a < 27) (hs : cs.size = n * 27) (hi : i < n) (v : Value) : (cs.setIfInBounds (i * 27 + a) v)[i * 27 + a]? = some v := by
  rw [Array.getElem?_setIfInBounds_self_of_lt]
  have : (i + 1) * 27 ≤ n * 27 := Nat.mul_le_mul_right _ hi
  omega
section
variable {G : TG} {σ : TS} {jb : Nat → Nat} {cs : Array Value}
theorem ResOK.pas_ (h : ResOK G σ jb cs) {i : Nat} (hi : i < G.n) (p : Nat) : ResOK G { σ with pas := updF σ.pas i p } jb (cs.setIfInBounds (i * 27 + 24) (.int .u32 (p : Int))) := by
  refine ⟨by simpa using h.sz, fun j hj => ?_⟩
  obtain ⟨h1, h2, h3, h4, h5, h6⟩ := h.row j hj
  refine ⟨fun hk => by rw [set_other _ (by omega) (by omega) (by omega)]; exact h1 hk, by rw [set_other _ (by omega) (by omega) (by omega)]; exact h2, by rw [set_other _ (by omega) (by omega) (by omega)]; exact h3, ?_, by rw [set_other _ (by omega) (by omega) (by omega)]; exact h5, by rw [set_other _ (by omega) (by omega) (by omega)]; exact h6⟩
  by_cases e : j = i
  · subst e; rw [set_self cs (by omega) h.sz hi]; show _ = some (Value.int .u32 ((updF σ.pas j p j : Nat) : Int)); rw [updF_self]
  · rw [set_other _ (by omega) (by omega) (fun h => e h.1.symm)]; show _ = some (Value.int .u32 ((updF σ.pas i p j : Nat) : Int)); rw [updF_ne _ _ e]; exact h4
theorem ResOK.par_ (h : ResOK G σ jb cs) {i : Nat} (hi : i < G.n) (x : Nat) : ResOK G { σ with par := updF σ.par i x } jb (cs.setIfInBounds (i * 27 + 22) (.int .u32 ((INV - x : Nat) : Int))) := by
  refine ⟨by simpa using h.sz, fun j hj => ?_⟩
  obtain ⟨h1, h2, h3, h4, h5, h6⟩ := h.row j hj
  refine ⟨fun hk => by rw [set_other _ (by omega) (by omega) (by omega)]; exact h1 hk, ?_, by rw [set_other _ (by omega) (by omega) (by omega)]; exact h3, by rw [set_other _ (by omega) (by omega) (by omega)]; exact h4, by rw [set_other _ (by omega) (by omega) (by omega)]; exact h5, by rw [set_other _ (by omega) (by omega) (by omega)]; exact h6⟩
  by_cases e : j = i
  · subst e; rw [set_self cs (by omega) h.sz hi]; show _ = some (Value.int .u32 ((INV - updF σ.par j x j : Nat) : Int)); rw [updF_self]
  · rw [set_other _ (by omega) (by omega) (fun h => e h.1.symm)]; show _ = some (Value.int .u32 ((INV - updF σ.par i x j : Nat) : Int)); rw [updF_ne _ _ e]; exact h2
theorem ResOK.dep_ (h : ResOK G σ jb cs) {i : Nat} (hi : i < G.n) (x : Nat) : ResOK G { σ with dep := updF σ.dep i x } jb (cs.setIfInBounds (i * 27 + 23) (.int .u32 ((INV - x : Nat) : Int))) := by
  refine ⟨by simpa using h.sz, fun j hj => ?_⟩
  obtain ⟨h1, h2, h3, h4, h5, h6⟩ := h.row j hj
  refine ⟨fun hk => by rw [set_other _ (by omega) (by omega) (by omega)]; exact h1 hk, by rw [set_other _ (by omega) (by omega) (by omega)]; exact h2, ?_, by rw [set_other _ (by omega) (by omega) (by omega)]; exact h4, by rw [set_other _ (by omega) (by omega) (by omega)]; exact h5, by rw [set_other _ (by omega) (by omega) (by omega)]; exact h6⟩
  by_cases e : j = i
  · subst e; rw [set_self cs (by omega) h.sz hi]; show _ = some (Value.int .u32 ((INV - updF σ.dep j x j : Nat) : Int)); rw [updF_self]
  · rw [set_other _ (by omega) (by omega) (fun h => e h.1.symm)]; show _ = some (Value.int .u32 ((INV - updF σ.dep i x j : Nat) : Int)); rw [updF_ne _ _ e]; exact h3
theorem ResOK.ri_ (h : ResOK G σ jb cs) {i : Nat} (hi : i < G.n) (x : Nat) : ResOK G { σ with ri := updF σ.ri i x } jb (cs.setIfInBounds (i * 27 + 25) (.int .u32 (x : Int))) := by
  refine ⟨by simpa using h.sz, fun j hj => ?_⟩
  obtain ⟨h1, h2, h3, h4, h5, h6⟩ := h.row j hj
  refine ⟨fun hk => by rw [set_other _ (by omega) (by omega) (by omega)]; exact h1 hk, by rw [set_other _ (by omega) (by omega) (by omega)]; exact h2, by rw [set_other _ (by omega) (by omega) (by omega)]; exact h3, by rw [set_other _ (by omega) (by omega) (by omega)]; exact h4, ?_, by rw [set_other _ (by omega) (by omega) (by omega)]; exact h6⟩
  by_cases e : j = i
  · subst e; rw [set_self cs (by omega) h.sz hi]; show _ = some (Value.int .u32 ((updF σ.ri j x j : Nat) : Int)); rw [updF_self]
  · rw [set_other _ (by omega) (by omega) (fun h => e h.1.symm)]; show _ = some (Value.int .u32 ((updF σ.ri i x j : Nat) : Int)); rw [updF_ne _ _ e]; exact h5
end
/-- One file's tree: its await's length, its records. -/
def JsOK (G : TG) (w : World) (b i : Nat) : Prop :=
  ∃ csj, Blk w b 191 csj ∧ csj[47]? = some (.int .i32 (if G.aw i then 5 else 0)) ∧ ∃ A cap, csj[35]? = some (.slice A (G.recs i).length cap) ∧ (0 < (G.recs i).length → ∃ g cur, A = some ⟨g, 0, none⟩ ∧ Blk w g 62 cur ∧ ∀ r p, (G.recs i)[r]? = some p → ∀ j, j < 15 → cur[r * 15 + j]? = (recC p.1 p.2)[j]?)
/-- Only blocks rb and db have turned, of those that were there. -/
structure Fr (rb db : Nat) (w w' : World) : Prop where
  os : w'.os = w.os
  tape : w'.tape = w.tape
  output : w'.output = w.output
  size : w.heap.size ≤ w'.heap.size
  block : ∀ i, i < w.heap.size → i ≠ rb → i ≠ db → w'.heap[i]? = w.heap[i]?
section
variable {rb db : Nat} {w w' w'' : World}
theorem Fr.refl (rb db : Nat) (w : World) : Fr rb db w w := ⟨rfl, rfl, rfl, Nat.le_refl _, fun _ _ _ _ => rfl⟩
theorem Fr.trans (h : Fr rb db w w') (k : Fr rb db w' w'') : Fr rb db w w'' :=
  ⟨k.os.trans h.os, k.tape.trans h.tape, k.output.trans h.output, Nat.le_trans h.size k.size, fun i hi h1 h2 => (k.block i (Nat.lt_of_lt_of_le hi h.size) h1 h2).trans (h.block i hi h1 h2)⟩
theorem Fr.blk (h : Fr rb db w w') {g : Nat} {t : TypeId} {cs : Array Value} (hb : Blk w g t cs) (h1 : g ≠ rb) (h2 : g ≠ db) : Blk w' g t cs := (h.block g hb.lt h1 h2).trans hb
theorem Fr.alloc (h : Fr rb db w w') (o : Obj) : Fr rb db w (w'.alloc o) :=
  ⟨h.os, h.tape, h.output, Nat.le_trans h.size (by simp), fun i hi h1 h2 => (Below.heap_alloc w' o i (Nat.lt_of_lt_of_le hi h.size)).trans (h.block i hi h1 h2)⟩
theorem Fr.setCell (h : Fr rb db w w') {p : Addr} (hp : p.block = rb ∨ p.block = db ∨ w.heap.size ≤ p.block) (u : Value) : Fr rb db w (w'.setCell p u) :=
  ⟨h.os, h.tape, h.output, by simp [World.setCell]; exact h.size, fun i hi h1 h2 => (Below.heap_setCell w' p u i (by rintro rfl; omega)).trans (h.block i hi h1 h2)⟩
theorem Fr.grown (h : Fr rb db w w') (hg : w'.grownBy w'' none) : Fr rb db w w'' :=
  ⟨hg.os.trans h.os, hg.tape.trans h.tape, hg.output.trans h.output, Nat.le_trans h.size hg.size, fun i hi h1 h2 => (hg.block i (Nat.lt_of_lt_of_le hi h.size) (by simp)).trans (h.block i hi h1 h2)⟩
theorem Fr.drew (h : Fr rb db w w') : Fr rb db w w'.drew := ⟨h.os, h.tape, h.output, h.size, h.block⟩
theorem Fr.drewN (h : Fr rb db w w') (n : Nat) : Fr rb db w (w'.drewN n) := ⟨h.os, h.tape, h.output, h.size, h.block⟩
theorem JsOK.fr {G : TG} {b i : Nat} {cr cd : Array Value} (h : JsOK G w b i) (hf : Fr rb db w w') (hr : Blk w rb 87 cr) (hd : Blk w db 4 cd) : JsOK G w' b i := by
  obtain ⟨csj, h1, h2, A, cap, h3, h4⟩ := h
  refine ⟨csj, hf.blk h1 (h1.ne_ hr (by decide)) (h1.ne_ hd (by decide)), h2, A, cap, h3, fun hn => ?_⟩
  obtain ⟨g, cur, e, h5, h6⟩ := h4 hn
  exact ⟨g, cur, e, hf.blk h5 (h5.ne_ hr (by decide)) (h5.ne_ hd (by decide)), h6⟩
end
/-- The whole state. -/
structure TW (G : TG) (rb db sb : Nat) (jb : Nat → Nat) (σ : TS) (dc : Bool) (w : World) : Prop where
  res : ∃ cs, Blk w rb 87 cs ∧ ResOK G σ jb cs
  flag : Blk w db 4 #[.bool dc]
  scan : ∃ css cap, Blk w sb 153 css ∧ css[11]? = some (.slice (some ⟨rb, 0, none⟩) G.n cap) ∧ G.n ≤ cap
  js : ∀ i, i < G.n → G.ok i = true → JsOK G w (jb i) i
section
variable {G : TG} {rb db sb : Nat} {jb : Nat → Nat} {σ : TS} {dc : Bool} {w w' : World}
/-- Blocks rb and db stay too. -/
theorem TW.keep (h : TW G rb db sb jb σ dc w) (hk : ∀ i, i < w.heap.size → w'.heap[i]? = w.heap[i]?) : TW G rb db sb jb σ dc w' := by
  obtain ⟨⟨cs, h1, h2⟩, h3, ⟨css, cap, h4, h5⟩, h6⟩ := h
  have kb : ∀ {g : Nat} {t : TypeId} {c : Array Value}, Blk w g t c → Blk w' g t c := fun hb => (hk _ hb.lt).trans hb
  refine ⟨⟨cs, kb h1, h2⟩, kb h3, ⟨css, cap, kb h4, h5⟩, fun i hi ho => ?_⟩
  obtain ⟨csj, q1, q2, A, cp, q3, q4⟩ := h6 i hi ho
  refine ⟨csj, kb q1, q2, A, cp, q3, fun hn => ?_⟩
  obtain ⟨g, cur, e, q5, q6⟩ := q4 hn
  exact ⟨g, cur, e, kb q5, q6⟩
theorem TW.alloc (h : TW G rb db sb jb σ dc w) (o : Obj) : TW G rb db sb jb σ dc (w.alloc o) := h.keep fun i hi => Below.heap_alloc w o i hi
theorem TW.grown (h : TW G rb db sb jb σ dc w) (hg : w.grownBy w' none) : TW G rb db sb jb σ dc w' := h.keep fun i hi => hg.block i hi (by simp)
theorem TW.far (h : TW G rb db sb jb σ dc w) {g : Nat} {t : TypeId} {cs : Array Value} (hb : Blk w g t cs) (ht : t ≠ 87 ∧ t ≠ 4 ∧ t ≠ 153 ∧ t ≠ 191 ∧ t ≠ 62) (k : Nat) (u : Value) : TW G rb db sb jb σ dc (w.setCell ⟨g, k, none⟩ u) := by
  obtain ⟨⟨cs, h1, h2⟩, h3, ⟨css, cap, h4, h5⟩, h6⟩ := h
  refine ⟨⟨cs, h1.far (p := ⟨g, k, none⟩) (h1.ne_ hb (Ne.symm ht.1)) u, h2⟩, h3.far (p := ⟨g, k, none⟩) (h3.ne_ hb (Ne.symm ht.2.1)) u, ⟨css, cap, h4.far (p := ⟨g, k, none⟩) (h4.ne_ hb (Ne.symm ht.2.2.1)) u, h5⟩, fun i hi ho => ?_⟩
  obtain ⟨csj, q1, q2, A, cp, q3, q4⟩ := h6 i hi ho
  refine ⟨csj, q1.far (p := ⟨g, k, none⟩) (q1.ne_ hb (Ne.symm ht.2.2.2.1)) u, q2, A, cp, q3, fun hn => ?_⟩
  obtain ⟨g', cur, e, q5, q6⟩ := q4 hn
  exact ⟨g', cur, e, q5.far (p := ⟨g, k, none⟩) (q5.ne_ hb (Ne.symm ht.2.2.2.2)) u, q6⟩
/-- A cell of the results turns. -/
theorem TW.setRes (h : TW G rb db sb jb σ dc w) {σ' : TS} {k : Nat} {u : Value} (hs : ∀ cs, ResOK G σ jb cs → ResOK G σ' jb (cs.setIfInBounds k u)) : TW G rb db sb jb σ' dc (w.setCell ⟨rb, k, none⟩ u) := by
  obtain ⟨⟨cs, h1, h2⟩, h3, ⟨css, cap, h4, h5⟩, h6⟩ := h
  refine ⟨⟨_, h1.set_ k u, hs cs h2⟩, h3.far (p := ⟨rb, k, none⟩) (h3.ne_ h1 (by decide)) u, ⟨css, cap, h4.far (p := ⟨rb, k, none⟩) (h4.ne_ h1 (by decide)) u, h5⟩, fun i hi ho => ?_⟩
  obtain ⟨csj, q1, q2, A, cp, q3, q4⟩ := h6 i hi ho
  refine ⟨csj, q1.far (p := ⟨rb, k, none⟩) (q1.ne_ h1 (by decide)) u, q2, A, cp, q3, fun hn => ?_⟩
  obtain ⟨g', cur, e, q5, q6⟩ := q4 hn
  exact ⟨g', cur, e, q5.far (p := ⟨rb, k, none⟩) (q5.ne_ h1 (by decide)) u, q6⟩
theorem TW.setFlag (h : TW G rb db sb jb σ dc w) (b : Bool) : TW G rb db sb jb σ b (w.setCell ⟨db, 0, none⟩ (.bool b)) := by
  obtain ⟨⟨cs, h1, h2⟩, h3, ⟨css, cap, h4, h5⟩, h6⟩ := h
  refine ⟨⟨cs, h1.far (p := ⟨db, 0, none⟩) (h1.ne_ h3 (by decide)) _, h2⟩, by have := h3.set_ 0 (.bool b); exact this, ⟨css, cap, h4.far (p := ⟨db, 0, none⟩) (h4.ne_ h3 (by decide)) _, h5⟩, fun i hi ho => ?_⟩
  obtain ⟨csj, q1, q2, A, cp, q3, q4⟩ := h6 i hi ho
  refine ⟨csj, q1.far (p := ⟨db, 0, none⟩) (q1.ne_ h3 (by decide)) _, q2, A, cp, q3, fun hn => ?_⟩
  obtain ⟨g', cur, e, q5, q6⟩ := q4 hn
  exact ⟨g', cur, e, q5.far (p := ⟨db, 0, none⟩) (q5.ne_ h3 (by decide)) _, q6⟩
theorem TW.cells (h : TW G rb db sb jb σ dc w) {i : Nat} (hi : i < G.n) : (G.ok i = true → w.cell? ⟨rb, i * 27 + 4, none⟩ = some (.iface 157 (.pointer (some ⟨jb i, 0, none⟩)))) ∧ w.cell? ⟨rb, i * 27 + 22, none⟩ = some (.int .u32 ((INV - σ.par i : Nat) : Int)) ∧ w.cell? ⟨rb, i * 27 + 23, none⟩ = some (.int .u32 ((INV - σ.dep i : Nat) : Int)) ∧ w.cell? ⟨rb, i * 27 + 24, none⟩ = some (.int .u32 (σ.pas i : Nat)) ∧ w.cell? ⟨rb, i * 27 + 25, none⟩ = some (.int .u32 (σ.ri i : Nat)) ∧ w.cell? ⟨rb, i * 27 + 26, none⟩ = some (.bool (G.ok i)) := by
  obtain ⟨⟨cs, h1, h2⟩, _⟩ := h
  obtain ⟨q1, q2, q3, q4, q5, q6⟩ := h2.row i hi
  exact ⟨fun ho => (h1.cell _).trans (q1 ho), (h1.cell _).trans q2, (h1.cell _).trans q3, (h1.cell _).trans q4, (h1.cell _).trans q5, (h1.cell _).trans q6⟩
theorem TW.z (h : TW G rb db sb jb σ dc w) (k : Nat) : w.frozen? ⟨rb, k, none⟩ = false := by
  obtain ⟨⟨cs, h1, _⟩, _⟩ := h
  exact h1.frozen k
end
end Go.Proofs.YtecncdcfmmceeaaGreat
