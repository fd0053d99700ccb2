/- CompareSemver: its pieces and the whole. -/
import Derived.Test.YtanhijhhceakjaaDoorSmP
import Derived.Test.YtanhijhhceakjaaDoorErr
namespace Go.Proofs.YtanhijhhceakjaaDoor
open Go.RowKit
set_option linter.unusedVariables false
set_option linter.unusedSimpArgs false
theorem toListE (s : ByteArray) (l : Bs) (h : s.data.toList = l) : s.toList = l := by rw [ByteArray.toList_eq, h]
def SplPost (s : ByteArray) (w : World) (e : Ending) (w' : World) : Prop :=
  ∃ h t : ByteArray, e = .returned (.tuple #[.string h, .string t]) ∧ h.data.toList = hdP s.data.toList ∧ t.data.toList = tlP s.data.toList ∧ h.size ≤ s.size ∧ t.size ≤ s.size ∧ ∃ n, w' = w.drewN n
theorem ix_split (l : Bs) (o : Nat) (h : Lib.indexByte l 46 = o) : o < l.length ∧ hdP l = l.take o ∧ tlP l = l.drop (o + 1) := by
  obtain ⟨h1, h2⟩ := Lib.indexByte_some h
  obtain ⟨hl, hv⟩ := List.getElem?_eq_some_iff.1 h1
  have e : l = l.take o ++ 46 :: l.drop (o + 1) := by
    rw [← hv, ← List.drop_eq_getElem_cons hl, List.take_append_drop]
  have hno : ∀ c ∈ l.take o, c ≠ 46 := by
    intro c hc q
    obtain ⟨j, hj, rfl⟩ := List.getElem_of_mem hc
    have hj' : j < o := by simp at hj; omega
    apply h2 j hj'
    rw [List.getElem_take] at q
    rw [List.getElem?_eq_getElem (by omega), q]
  have := hd_some (l.take o) (l.drop (o + 1)) hno
  rw [← e] at this
  exact ⟨hl, this.1, this.2⟩
theorem ix_nosplit (l : Bs) (h : Lib.indexByte l 46 = -1) : hdP l = l ∧ tlP l = [] := by
  apply hd_none
  intro c hc q
  obtain ⟨j, hj, rfl⟩ := List.getElem_of_mem hc
  apply Lib.indexByte_none h j
  rw [List.getElem?_eq_getElem hj, q]
set_option maxRecDepth 100000 in
theorem split_any (s : ByteArray) (hs : s.size ≤ 2097152) (w : World) :
    Calls Tryd.prog 22 #[.string s] w (SplPost s w) := by
  by_cases hix : Lib.indexByte s.data.toList 46 = -1
  · have HP := Lib.hid (ix_nosplit _ hix)
    have H := Lib.hid hix
    clear hix
    go_enter Tryd.func22, Tryd.ntmps22
    go_wp2_with (go_at_call 27; refine (Tryd.strings_IndexByte s 46 _).mono ?_; rintro e w' ⟨rfl, rfl⟩; rw [show ((46 : Int).toNat.toUInt8) = 46 from rfl, H.out])
    go_ret2
    exact ⟨s, ⟨#[]⟩, rfl, HP.out.1.symm, HP.out.2.symm, Nat.le_refl _, by show 0 ≤ s.size; omega, 0, rfl⟩
  · have hge := Lib.indexByte_ge s.data.toList 46
    obtain ⟨o, ho⟩ : ∃ o : Nat, Lib.indexByte s.data.toList 46 = o := ⟨(Lib.indexByte s.data.toList 46).toNat, by omega⟩
    obtain ⟨hlo, h1, h2⟩ := ix_split _ o ho
    rw [size_list] at hlo
    have HP := Lib.hid (And.intro h1 h2)
    have H := Lib.hid ho
    clear ho hix hge h1 h2
    have t1 : ((o : Int) != -1) = true := by rw [bne_iff_ne]; omega
    go_enter Tryd.func22, Tryd.ntmps22
    go_wp2_with (go_at_call 27; refine (Tryd.strings_IndexByte s 46 _).mono ?_; rintro e w' ⟨rfl, rfl⟩; rw [show ((46 : Int).toNat.toUInt8) = 46 from rfl, H.out])
    have e1 : IntKind.i64.wrap ((o : Int) + 1) = (o : Int) + 1 := IntWalk.i64_in _ (by omega)
    have e2 : 0 ≤ (o : Int) + 1 := by omega
    have e3 : ((o : Int) + 1).toNat = o + 1 := by omega
    go_quiet (fail)
    go_wp2
    go_ret2
    refine ⟨s.extract 0 o, s.extract (o + 1) s.size, rfl, ?_, ?_, by simp; omega, by simp, _, rfl⟩
    · rw [HP.out.1, Lib.extract_data]; simp
    · rw [HP.out.2, Lib.extract_data]; simp [List.take_of_length_le]
def TrimPost (s : ByteArray) (w : World) (e : Ending) (w' : World) : Prop :=
  ∃ t : ByteArray, e = .returned (.string t) ∧ t.data.toList = stripP s.data.toList ∧ t.size ≤ s.size ∧ w = w'
theorem strip_take (l : Bs) : stripP l = if l.take 1 = [45] then l.drop 1 else l := by
  cases l with
  | nil => rfl
  | cons c r => unfold stripP; simp
theorem ext1 (s : ByteArray) : (s.extract 0 1).toList = s.data.toList.take 1 := by rw [ByteArray.toList_eq, Lib.extract_data]; simp
set_option maxRecDepth 100000 in
theorem trim_any (s : ByteArray) (hs : s.size ≤ 2097152) (w : World) :
    Calls Tryd.prog 21 #[.string s, .string ⟨#[45]⟩] w (TrimPost s w) := by
  cases hc : ((s.extract 0 1).toList == [45]) with
  | false =>
    have HS : Hid (stripP s.data.toList = s.data.toList) := Lib.hid (by rw [ext1] at hc; rw [strip_take, if_neg (by simpa using hc)])
    by_cases h0 : 1 ≤ s.size
    · go_enter Tryd.func21, Tryd.ntmps21
      go_wp2
      go_ret
      exact ⟨s, rfl, HS.out.symm, Nat.le_refl _, rfl⟩
    · go_enter Tryd.func21, Tryd.ntmps21
      go_wp2
      go_ret
      exact ⟨s, rfl, HS.out.symm, Nat.le_refl _, rfl⟩
  | true =>
    have h1 : s.data.toList.take 1 = [45] := by rw [ext1] at hc; simpa using hc
    have h0 : 1 ≤ s.size := by
      have := congrArg List.length h1
      rw [List.length_take, size_list] at this
      simp at this; omega
    have HS : Hid (stripP s.data.toList = s.data.toList.drop 1) := Lib.hid (by rw [strip_take, if_pos h1])
    clear h1
    go_enter Tryd.func21, Tryd.ntmps21
    go_wp2
    go_ret
    exact ⟨s.extract 1 s.size, rfl, by rw [HS.out, Lib.extract_data]; simp [List.take_of_length_le], by simp, rfl⟩
/-- What CompareSemver leaves. -/
def SemPost (zs ys : List Int) (a b : ByteArray) (w : World) (e : Ending) (w' : World) : Prop :=
  e = .returned (.int .i64 (semC zs ys a.data.toList b.data.toList)) ∧ Below w.heap.size w w'
def okPart (zs : List Int) : Prop := ∀ i, -4611686018427387903 ≤ zs.getD i 0 ∧ zs.getD i 0 ≤ 4611686018427387903
def DF (zs ys : List Int) (i : Nat) : Int := zs.getD i 0 - ys.getD i 0
theorem semC_parts (zs ys : List Int) (a b : Bs) (k : Nat) (hk : k < max zs.length ys.length) (h : ∀ j, j < k → zs.getD j 0 = ys.getD j 0) (hne : zs.getD k 0 ≠ ys.getD k 0) : semC zs ys a b = zs.getD k 0 - ys.getD k 0 := by
  unfold semC
  have := parD_first (fun i => zs.getD i 0 - ys.getD i 0) (max zs.length ys.length) 0 k (by omega) (by omega) (fun j _ hj => by have := h j hj; omega) (by omega)
  rw [this]
  dsimp only
  rw [if_pos (by omega)]
theorem semC_rest (zs ys : List Int) (a b : Bs) (h : ∀ j, j < max zs.length ys.length → zs.getD j 0 = ys.getD j 0) :
    semC zs ys a b = if (a.isEmpty != b.isEmpty) = true then (b.length : Int) - a.length else tlC (stripP a) (stripP b) := by
  unfold semC
  have := parD_zero (fun i => zs.getD i 0 - ys.getD i 0) (max zs.length ys.length) 0 (fun j _ hj => by have := h j (by omega); omega)
  rw [this]
  dsimp only
  rw [if_neg (by simp)]
def TailRel (w : World) (T : Int) (M : Nat) (u v : Value) (wr : World) : Prop :=
  ∃ ta tb : ByteArray, u = .string ta ∧ v = .string tb ∧ ta.size ≤ M ∧ tb.size ≤ M ∧ tlC ta.data.toList tb.data.toList = T ∧ Below w.heap.size w wr ∧ Errs wr
theorem reads_cell {k : IntKind} {w : World} {B : Nat} {A : Option Addr} {n : Nat} {zs : List Int} (h : Reads w B 1 A n (zs.map (Value.int k))) (hn : 0 < n) :
    ∃ b off, A = some ⟨b, off, none⟩ ∧ b < B ∧ ∀ i, i < n → w.cell? ⟨b, off + i, none⟩ = some (.int k (zs.getD i 0)) := by
  have hlen : zs.length = n := by have := h.1; simpa using this
  obtain ⟨ad, u, rfl, hb, _, hc⟩ := h.at_ hn
  obtain ⟨b, off, spot⟩ := ad
  have hs : spot = none := World.cell?_spot (show w.cell? ⟨b, off, spot⟩ = some u from hc)
  subst hs
  refine ⟨b, off, rfl, hb, fun i hi => ?_⟩
  obtain ⟨ad', u', e1, _, hx, hc'⟩ := h.at_ hi
  obtain rfl := Option.some.inj e1
  rw [List.getElem?_map, List.getElem?_eq_getElem (by omega)] at hx
  rw [List.getD_eq_getElem?_getD, List.getElem?_eq_getElem (by omega)]
  have hu := Option.some.inj hx
  rw [Option.getD_some, show (Value.int k zs[i]) = u' from hu, ← hc']
  unfold Addr.add
  split
  · rename_i h0; subst h0; rfl
  · rfl
theorem getD_past (xs : List Int) (i : Nat) (h : xs.length ≤ i) : xs.getD i 0 = 0 := by
  rw [List.getD_eq_getElem?_getD, List.getElem?_eq_none h]; rfl
end Go.Proofs.YtanhijhhceakjaaDoor
