/- The model of the order of versions, walked (written by gen_sms.py). -/
import Derived.Test.YtanhijhhceakjaaDoorSmR
namespace Go.Proofs.YtanhijhhceakjaaDoor
open Go.RowKit
set_option linter.unusedVariables false
set_option linter.unusedSimpArgs false
theorem idl_len (n : Nat) : ∀ l : Bs, l.length ≤ n → (idl l).length ≤ l.length := by
  induction n with
  | zero =>
    intro l h
    have : l = [] := List.eq_nil_of_length_eq_zero (by omega)
    subst this; rw [idl_nil]; exact Nat.le_refl _
  | succ n ih =>
    intro l h
    by_cases e : l = []
    · subst e; rw [idl_nil]; exact Nat.le_refl _
    · have := tlP_lt l e
      have := ih (tlP l) (by omega)
      rw [idl_cons l e, List.length_cons]; omega
theorem hdP_le (l : Bs) : (hdP l).length ≤ l.length := (List.takeWhile_sublist _).length_le
theorem idl_mem (n : Nat) : ∀ l : Bs, l.length ≤ n → ∀ x ∈ idl l, x.length ≤ l.length := by
  induction n with
  | zero =>
    intro l h
    have : l = [] := List.eq_nil_of_length_eq_zero (by omega)
    subst this; rw [idl_nil]; intro x hx; cases hx
  | succ n ih =>
    intro l h
    by_cases e : l = []
    · subst e; rw [idl_nil]; intro x hx; cases hx
    · have h1 := tlP_lt l e
      rw [idl_cons l e]
      intro x hx
      rcases List.mem_cons.1 hx with rfl | hx
      · exact hdP_le l
      · have := ih (tlP l) (by omega) x hx; omega
theorem getD_mem (xs : List Bs) (i : Nat) (h : i < xs.length) : xs.getD i [] ∈ xs := by
  rw [List.getD_eq_getElem?_getD, List.getElem?_eq_getElem h]; exact List.getElem_mem h
theorem reads_str {w : World} {B : Nat} {A : Option Addr} {n : Nat} {xs : List Bs} (h : Reads w B 1 A n (xs.map strV)) (hn : 0 < n) :
    ∃ b off, A = some ⟨b, off, none⟩ ∧ b < B ∧ ∀ i, i < n → ∃ s : ByteArray, s.data.toList = xs.getD i [] ∧ w.cell? ⟨b, off + i, none⟩ = some (.string s) := by
  have hlen : xs.length = n := by have := h.1; simpa using this
  obtain ⟨ad, u, rfl, hb, _, hc⟩ := h.at_ hn
  obtain ⟨b, off, spot⟩ := ad
  have hs : spot = none := World.cell?_spot (show w.cell? ⟨b, off, spot⟩ = some u from hc)
  subst hs
  refine ⟨b, off, rfl, hb, fun i hi => ⟨⟨(xs.getD i []).toArray⟩, rfl, ?_⟩⟩
  obtain ⟨ad', u', e1, _, hx, hc'⟩ := h.at_ hi
  obtain rfl := Option.some.inj e1
  rw [List.getElem?_map, List.getElem?_eq_getElem (by omega)] at hx
  rw [List.getD_eq_getElem?_getD, List.getElem?_eq_getElem (by omega)]
  have hu := Option.some.inj hx
  rw [Option.getD_some, show Value.string ⟨(xs[i]).toArray⟩ = u' from hu, ← hc']
  unfold Addr.add
  split
  · rename_i h0; subst h0; rfl
  · rfl
def IntB (v : Int) (w : World) (e : Ending) (w' : World) : Prop := e = .returned (.int .i64 v) ∧ Below w.heap.size w w'
def BoolB (v : Bool) (w : World) (e : Ending) (w' : World) : Prop := e = .returned (.bool v) ∧ Below w.heap.size w w'
def lng (x : Bs) : Bool := decide (9 < x.length) && dgB x
def hasL (l : Bs) : Bool := (idl (stripP l)).any lng
theorem hasL_false (l : Bs) (h : ∀ j, j < (idl (stripP l)).length → lng ((idl (stripP l)).getD j []) = false) : hasL l = false := by
  unfold hasL
  rw [List.any_eq_false]
  intro x hx
  obtain ⟨j, hj, rfl⟩ := List.getElem_of_mem hx
  have := h j hj
  rw [List.getD_eq_getElem?_getD, List.getElem?_eq_getElem hj] at this
  simpa using this
theorem hasL_true (l : Bs) (j : Nat) (hj : j < (idl (stripP l)).length) (h : lng ((idl (stripP l)).getD j []) = true) : hasL l = true := by
  unfold hasL
  rw [List.any_eq_true]
  exact ⟨_, getD_mem _ j hj, h⟩
theorem hasL_short (l : Bs) (h : hasL l = false) : ∀ x ∈ idl (stripP l), short x := by
  intro x hx
  unfold hasL at h
  rw [List.any_eq_false] at h
  have := h x hx
  unfold lng at this
  unfold short
  simpa using this
theorem ids_bound (t : ByteArray) (h : t.size ≤ 1048576) : (idl t.data.toList).length ≤ 1048576 := by
  have := idl_len _ t.data.toList (Nat.le_refl _); rw [size_list] at this; omega
theorem id_bound (t s : ByteArray) (h : t.size ≤ 1048576) (i : Nat) (hi : i < (idl t.data.toList).length) (e : s.data.toList = (idl t.data.toList).getD i []) : s.size ≤ 1048576 := by
  have h1 := idl_mem _ t.data.toList (Nat.le_refl _) _ (getD_mem _ i hi)
  rw [← e, size_list, size_list] at h1; omega
set_option maxHeartbeats 2000000 in
set_option maxRecDepth 100000 in
theorem long_any (s : ByteArray) (hs : s.size ≤ 1048576) (w : World) : Calls Tryd.prog 9 #[.string s] w (BoolB (hasL s.data.toList) w) := by
  go_enter Tryd.func9, Tryd.ntmps9
  go_wp2_with (go_at_call 19; refine (strip_any s hs _).mono ?_)
  rintro e w1 ⟨t, rfl, ht, hts, rfl⟩
  have HT := Lib.hid ht
  clear ht
  go_wp2_with (go_at_call 18; refine (ids_any t (by omega) _).mono ?_)
  rintro e w1 ⟨A, c, rfl, hr, hb⟩
  have hL := ids_bound t (by omega)
  have HBD : Hid (∀ (i : Nat) (x : ByteArray), i < (idl t.data.toList).length → x.data.toList = (idl t.data.toList).getD i [] → x.size ≤ 1048576) := Lib.hid (fun i x hi e => id_bound t x (by omega) i hi e)
  obtain ⟨xs, hxs⟩ : ∃ xs, xs = idl t.data.toList := ⟨_, rfl⟩
  have HXS : Hid (idl (stripP s.data.toList) = xs) := Lib.hid (by rw [hxs, HT.out])
  rw [← hxs] at hr hL HBD
  rw [← hxs]
  have HR := Lib.hid hr; have HB := Lib.hid hb
  clear hr hb hxs
  obtain ⟨L, hLL⟩ : ∃ L, L = xs.length := ⟨_, rfl⟩
  rw [← hLL] at hL HR HBD
  rw [← hLL]
  have HLL := Lib.hid hLL
  clear hLL
  go_wp2
  go_loop [4] (fun i => ∃ k : Nat, i = .int .i64 k ∧ k ≤ L ∧ ∀ j, j < k → lng (xs.getD j []) = false) (fun i => L - (intOf i).toNat)
  case atStart => exact ⟨0, rfl, by omega, fun j hj => by omega⟩
  case round =>
    obtain ⟨k, rfl, hk, hall⟩ := hrel
    have HALL := Lib.hid hall
    clear hall
    by_cases hlt : k < L
    · obtain ⟨b, off, rfl, hbo, hc⟩ := reads_str HR.out (by omega)
      obtain ⟨x, hx, hck⟩ := hc k hlt
      clear hc
      have hxs := HBD.out k x hlt hx
      have HX := Lib.hid hx
      clear hx
      by_cases h9 : 9 < x.size
      · cases hd : dgB x.data.toList with
        | true =>
          have HD := Lib.hid hd
          clear hd
          have HF := Lib.hid (hasL_true s.data.toList k (by rw [HXS.out, ← HLL.out]; exact hlt) (by rw [HXS.out, ← HX.out]; unfold lng; rw [HD.out, size_list]; simpa using h9))
          go_wp2_with (go_at_call 20; refine (adig_any x (by omega) _).mono ?_; rw [HD.out]; rintro e wz ⟨rfl, rfl⟩)
          go_wp2
          go_ret
          exact ⟨ret_bool HF.out.symm, HB.out⟩
        | false =>
          have HD := Lib.hid hd
          clear hd
          go_wp2_with (go_at_call 20; refine (adig_any x (by omega) _).mono ?_; rw [HD.out]; rintro e wz ⟨rfl, rfl⟩)
          go_wp2
          go_round
          case rel =>
            refine ⟨k + 1, by go_num, by omega, fun j hj => ?_⟩
            by_cases e : j = k
            · rw [e, ← HX.out]; unfold lng; rw [HD.out]; simp
            · exact HALL.out j (by omega)
          case measure => simp [intOf]; omega
      · go_wp2
        go_round
        case rel =>
          refine ⟨k + 1, by go_num, by omega, fun j hj => ?_⟩
          by_cases e : j = k
          · rw [e, ← HX.out]; unfold lng; rw [size_list, decide_eq_false h9]; rfl
          · exact HALL.out j (by omega)
        case measure => simp [intOf]; omega
    · have HF := Lib.hid (hasL_false s.data.toList (fun j hj => by rw [HXS.out]; exact HALL.out j (by rw [HXS.out, ← HLL.out] at hj; omega)))
      go_wp2
      go_ret
      exact ⟨ret_bool HF.out.symm, HB.out⟩
theorem mdl_parts (zs ys : List Int) (a b : Bs) (k : Nat) (hk : k < max zs.length ys.length) (h : ∀ j, j < k → zs.getD j 0 = ys.getD j 0) (hne : zs.getD k 0 ≠ ys.getD k 0) : mdl zs ys a b = sgn (zs.getD k 0 - ys.getD k 0) := by
  unfold mdl
  have := parD_first (fun i => zs.getD i 0 - ys.getD i 0) (max zs.length ys.length) 0 k (by omega) (by omega) (fun j _ hj => by have := h j hj; omega) (by omega)
  rw [this]
  dsimp only
  rw [if_pos (by omega)]
theorem mdl_rest (zs ys : List Int) (a b : Bs) (h : ∀ j, j < max zs.length ys.length → zs.getD j 0 = ys.getD j 0) :
    mdl zs ys a b = if (a.isEmpty != b.isEmpty) = true then (if a.isEmpty = true then 1 else -1) else mIds (idl (stripP a)) (idl (stripP b)) := by
  unfold mdl
  have := parD_zero (fun i => zs.getD i 0 - ys.getD i 0) (max zs.length ys.length) 0 (fun j _ hj => by have := h j (by omega); omega)
  rw [this]
  dsimp only
  rw [if_neg (by simp)]
theorem mIds_at (k : Nat) : ∀ xs ys : List Bs, k < xs.length → k < ys.length → (∀ j, j < k → xs.getD j [] = ys.getD j []) → xs.getD k [] ≠ ys.getD k [] → mIds xs ys = mHead (xs.getD k []) (ys.getD k []) := by
  induction k with
  | zero =>
    intro xs ys hx hy _ hne
    cases xs with
    | nil => simp at hx
    | cons x xs =>
      cases ys with
      | nil => simp at hy
      | cons y ys => rw [mIds, if_neg (by simpa using hne)]; simp
  | succ k ih =>
    intro xs ys hx hy h hne
    cases xs with
    | nil => simp at hx
    | cons x xs =>
      cases ys with
      | nil => simp at hy
      | cons y ys =>
        rw [mIds, if_pos (by simpa using h 0 (by omega)), ih xs ys (by simpa using hx) (by simpa using hy) (fun j hj => by simpa using h (j + 1) (by omega)) (by simpa using hne)]
        simp
theorem mIds_end : ∀ xs ys : List Bs, (∀ j, j < xs.length → j < ys.length → xs.getD j [] = ys.getD j []) → mIds xs ys = if xs.length < ys.length then -1 else if ys.length < xs.length then 1 else 0 := by
  intro xs
  induction xs with
  | nil =>
    intro ys _
    cases ys with
    | nil => rfl
    | cons y ys => rw [mIds]; simp
  | cons x xs ih =>
    intro ys h
    cases ys with
    | nil => rw [mIds]; simp
    | cons y ys =>
      rw [mIds, if_pos (by simpa using h 0 (by simp) (by simp)), ih ys (fun j h1 h2 => by simpa using h (j + 1) (by simpa using h1) (by simpa using h2))]
      simp

set_option maxHeartbeats 8000000 in
set_option maxRecDepth 100000 in
theorem mdl_any (A : Option Addr) (n ca : Nat) (zs : List Int) (a : ByteArray) (B : Option Addr) (m cb : Nat) (ys : List Int) (b : ByteArray) (w : World)
    (hra : Reads w w.heap.size 1 A n (zs.map (Value.int .i64))) (hrb : Reads w w.heap.size 1 B m (ys.map (Value.int .i64))) (hn : n ≤ 1048576) (hm : m ≤ 1048576) (ha : a.size ≤ 1048576) (hb : b.size ≤ 1048576)
    (sa : ∀ x ∈ idl (stripP a.data.toList), short x) (sb : ∀ x ∈ idl (stripP b.data.toList), short x) :
    Calls Tryd.prog 13 #[.slice A n ca, .string a, .slice B m cb, .string b] w (IntB (mdl zs ys a.data.toList b.data.toList) w) := by
  have LA := Lib.hid (show zs.length = n by have := hra.1; simpa using this)
  have LB := Lib.hid (show ys.length = m by have := hrb.1; simpa using this)
  have RA := Lib.hid hra; have RB := Lib.hid hrb; have SA := Lib.hid sa; have SB := Lib.hid sb
  clear hra hrb sa sb
  by_cases hmn : n < m
  · go_enter Tryd.func13, Tryd.ntmps13
    go_wp2
    go_loop [10] (fun i => ∃ k : Nat, i = .int .i64 k ∧ k ≤ m ∧ ∀ j, j < k → zs.getD j 0 = ys.getD j 0) (fun i => m - (intOf i).toNat)
    case atStart => exact ⟨0, rfl, by omega, fun j hj => by omega⟩
    case round =>
      obtain ⟨k, rfl, hk, hall⟩ := hrel
      have HALL := Lib.hid hall
      clear hall
      by_cases hlt : k < m
      · obtain ⟨x, hx⟩ : ∃ x, zs.getD k 0 = x := ⟨_, rfl⟩
        obtain ⟨y, hy⟩ : ∃ y, ys.getD k 0 = y := ⟨_, rfl⟩
        have EX := Lib.hid hx; have EY := Lib.hid hy
        clear hx hy
        go_wp2_with (go_at_call 24; refine (part_any A n ca zs k _ RA.out (by omega) (by omega)).mono ?_; rw [EX.out])
        rintro e wz ⟨rfl, rfl⟩
        go_wp2_with (go_at_call 24; refine (part_any B m cb ys k _ RB.out (by omega) (by omega)).mono ?_; rw [EY.out])
        rintro e wz ⟨rfl, rfl⟩
        by_cases h1 : x < y
        · have HF := Lib.hid (mdl_parts zs ys a.data.toList b.data.toList k (by have := LA.out; have := LB.out; omega) HALL.out (by rw [EX.out, EY.out]; omega))
          go_wp2
          go_ret
          exact ⟨ret_int (by rw [HF.out, EX.out, EY.out]; unfold sgn; rw [if_pos (by omega)]), Below.refl _ _⟩
        · by_cases h2 : y < x
          · have HF := Lib.hid (mdl_parts zs ys a.data.toList b.data.toList k (by have := LA.out; have := LB.out; omega) HALL.out (by rw [EX.out, EY.out]; omega))
            go_wp2
            go_ret
            exact ⟨ret_int (by rw [HF.out, EX.out, EY.out]; unfold sgn; rw [if_neg (by omega), if_pos (by omega)]), Below.refl _ _⟩
          · go_wp2
            go_round
            case rel =>
              refine ⟨k + 1, by go_num, by omega, fun j hj => ?_⟩
              by_cases e : j = k
              · rw [e, EX.out, EY.out]; omega
              · exact HALL.out j (by omega)
            case measure => simp [intOf]; omega
      · have HRS := Lib.hid (mdl_rest zs ys a.data.toList b.data.toList (fun j hj => HALL.out j (by have := LA.out; have := LB.out; omega)))
        cases hea : a.toList.isEmpty with
        | true =>
          cases heb : b.toList.isEmpty with
          | true =>
            have HFN0 := Lib.hid (show mdl zs ys a.data.toList b.data.toList = mIds (idl (stripP a.data.toList)) (idl (stripP b.data.toList)) by rw [HRS.out, ← ByteArray.toList_eq a, ← ByteArray.toList_eq b, hea, heb, if_neg (by decide)])
            go_wp2_with (go_at_call 19; refine (strip_any a (by omega) _).mono ?_)
            rintro e w1 ⟨ta, rfl, hta, hts, rfl⟩
            have HTA := Lib.hid hta
            clear hta
            go_wp2_with (go_at_call 18; refine (ids_any ta (by omega) _).mono ?_)
            rintro e w1 ⟨P, cp, rfl, hrp, hb1⟩
            have B1 := Lib.hid hb1; have R1 := Lib.hid hrp
            clear hb1 hrp
            go_wp2_with (go_at_call 19; refine (strip_any b (by omega) _).mono ?_)
            rintro e wz ⟨tb, rfl, htb, htbs, rfl⟩
            have HTB := Lib.hid htb
            clear htb
            go_wp2_with (go_at_call 18; refine (ids_any tb (by omega) _).mono ?_)
            rintro e w2 ⟨Q, cq, rfl, hrq, hb2⟩
            have BW := Lib.hid (B1.out.trans (hb2.mono B1.out.size))
            have R2 := Lib.hid hrq
            have R1' := Lib.hid ((R1.out.below hb2).more hb2.size)
            have hLp := ids_bound ta (by omega)
            have hLq := ids_bound tb (by omega)
            have BP : Hid (∀ (i : Nat) (x : ByteArray), i < (idl ta.data.toList).length → x.data.toList = (idl ta.data.toList).getD i [] → x.size ≤ 1048576) := Lib.hid (fun i x hi e => id_bound ta x (by omega) i hi e)
            have BQ : Hid (∀ (i : Nat) (x : ByteArray), i < (idl tb.data.toList).length → x.data.toList = (idl tb.data.toList).getD i [] → x.size ≤ 1048576) := Lib.hid (fun i x hi e => id_bound tb x (by omega) i hi e)
            have SP : Hid (∀ (i : Nat) (x : ByteArray), i < (idl ta.data.toList).length → x.data.toList = (idl ta.data.toList).getD i [] → short x.data.toList) := Lib.hid (fun i x hi e => by rw [e]; apply SA.out; rw [← HTA.out]; exact getD_mem _ i hi)
            have SQ : Hid (∀ (i : Nat) (x : ByteArray), i < (idl tb.data.toList).length → x.data.toList = (idl tb.data.toList).getD i [] → short x.data.toList) := Lib.hid (fun i x hi e => by rw [e]; apply SB.out; rw [← HTB.out]; exact getD_mem _ i hi)
            clear hb2 hrq hea heb
            obtain ⟨ps, hps⟩ : ∃ ps, ps = idl ta.data.toList := ⟨_, rfl⟩
            obtain ⟨qs, hqs⟩ : ∃ qs, qs = idl tb.data.toList := ⟨_, rfl⟩
            have HFN : Hid (mdl zs ys a.data.toList b.data.toList = mIds ps qs) := Lib.hid (by rw [HFN0.out, hps, hqs, HTA.out, HTB.out])
            obtain ⟨lp, hlp⟩ : ∃ lp, lp = (idl ta.data.toList).length := ⟨_, rfl⟩
            obtain ⟨lq, hlq⟩ : ∃ lq, lq = (idl tb.data.toList).length := ⟨_, rfl⟩
            have LP : Hid (ps.length = lp) := Lib.hid (by rw [hlp, hps])
            have LQ : Hid (qs.length = lq) := Lib.hid (by rw [hlq, hqs])
            have RP : Hid (Reads w2 w2.heap.size 1 P lp (ps.map strV)) := Lib.hid (by rw [hlp, hps]; exact R1'.out)
            have RQ : Hid (Reads w2 w2.heap.size 1 Q lq (qs.map strV)) := Lib.hid (by rw [hlq, hqs]; exact R2.out)
            rw [← hlp, ← hlq]
            rw [← hlp] at hLp BP SP
            rw [← hlq] at hLq BQ SQ
            rw [← hps] at BP SP
            rw [← hqs] at BQ SQ
            clear hps hqs hlp hlq R1 R1' R2
            by_cases hmin : lq < lp
            · go_wp2
              go_loop [16] (fun i => ∃ k : Nat, i = .int .i64 k ∧ k ≤ lq ∧ ∀ j, j < k → ps.getD j [] = qs.getD j []) (fun i => lq - (intOf i).toNat)
              case atStart => exact ⟨0, rfl, by omega, fun j hj => by omega⟩
              case round =>
                obtain ⟨k, rfl, hk, hall⟩ := hrel
                have HALL := Lib.hid hall
                clear hall
                by_cases hlt : k < lq
                · obtain ⟨bp, op, rfl, _, hcp⟩ := reads_str RP.out (by omega)
                  obtain ⟨x, hx, hcx⟩ := hcp k (by omega)
                  obtain ⟨bq, oq, rfl, _, hcq⟩ := reads_str RQ.out (by omega)
                  obtain ⟨y, hy, hcy⟩ := hcq k (by omega)
                  clear hcp hcq
                  have hxz := BP.out k x (by omega) hx
                  have hyz := BQ.out k y (by omega) hy
                  have HX := Lib.hid hx; have HY := Lib.hid hy
                  clear hx hy
                  cases heq : (x.toList == y.toList) with
                  | true =>
                    have HE : Hid (x.data.toList = y.data.toList) := Lib.hid (by rw [ByteArray.toList_eq, ByteArray.toList_eq] at heq; simpa using heq)
                    go_wp2
                    go_round
                    case rel =>
                      refine ⟨k + 1, by go_num, by omega, fun j hj => ?_⟩
                      by_cases e : j = k
                      · rw [e, ← HX.out, ← HY.out]; exact HE.out
                      · exact HALL.out j (by omega)
                    case measure => simp [intOf]; omega
                  | false =>
                    have HE : Hid (x.data.toList ≠ y.data.toList) := Lib.hid (by rw [ByteArray.toList_eq, ByteArray.toList_eq] at heq; simpa using heq)
                    have HM : Hid (mdl zs ys a.data.toList b.data.toList = mHead x.data.toList y.data.toList) := Lib.hid (by
                      rw [HFN.out, mIds_at k ps qs (by have := LP.out; omega) (by have := LQ.out; omega) HALL.out (by rw [← HX.out, ← HY.out]; exact HE.out), HX.out, HY.out])
                    have SX := Lib.hid (SP.out k x (by omega) HX.out)
                    have SY := Lib.hid (SQ.out k y (by omega) HY.out)
                    cases hdx : dgB x.data.toList with
                    | true =>
                      have DX := Lib.hid hdx
                      clear hdx
                      cases hdy : dgB y.data.toList with
                      | true =>
                        have DY := Lib.hid hdy
                        clear hdy
                        have hx9 : x.size ≤ 9 := by
                          rcases Nat.lt_or_ge 9 x.size with q | q
                          · exact absurd ⟨by rw [size_list]; exact q, DX.out⟩ SX.out
                          · exact q
                        have hy9 : y.size ≤ 9 := by
                          rcases Nat.lt_or_ge 9 y.size with q | q
                          · exact absurd ⟨by rw [size_list]; exact q, DY.out⟩ SY.out
                          · exact q
                        obtain ⟨vx, hvx⟩ : ∃ vx : Nat, decL 0 x.data.toList = vx := ⟨_, rfl⟩
                        obtain ⟨vy, hvy⟩ : ∃ vy : Nat, decL 0 y.data.toList = vy := ⟨_, rfl⟩
                        have HM2 : Hid (mdl zs ys a.data.toList b.data.toList = if vx < vy then -1 else if vy < vx then 1 else if x.size < y.size then -1 else 1) := Lib.hid (by
                          rw [HM.out]; unfold mHead; rw [if_pos ⟨DX.out, DY.out⟩, hvx, hvy, size_list, size_list])
                        have VX := Lib.hid hvx; have VY := Lib.hid hvy
                        clear hvx hvy
                        go_wp2_with (go_at_call 20; refine (adig_any x (by omega) _).mono ?_; rw [DX.out])
                        rintro e wz ⟨rfl, rfl⟩
                        go_wp2_with (go_at_call 20; refine (adig_any y (by omega) _).mono ?_; rw [DY.out])
                        rintro e wz ⟨rfl, rfl⟩
                        go_wp2_with (go_at_call 25; refine (num_any x (by omega) ((dgB_iff _).1 DX.out).1 _).mono ?_; rw [VX.out])
                        rintro e wz ⟨rfl, rfl⟩
                        go_wp2_with (go_at_call 25; refine (num_any y (by omega) ((dgB_iff _).1 DY.out).1 _).mono ?_; rw [VY.out])
                        rintro e wz ⟨rfl, rfl⟩
                        by_cases h1 : vx < vy
                        · go_wp2
                          go_ret
                          exact ⟨ret_int (by rw [HM2.out, if_pos h1]), BW.out⟩
                        · by_cases h2 : vy < vx
                          · go_wp2
                            go_ret
                            exact ⟨ret_int (by rw [HM2.out, if_neg h1, if_pos h2]), BW.out⟩
                          · by_cases h3 : x.size < y.size
                            · go_wp2
                              go_ret
                              exact ⟨ret_int (by rw [HM2.out, if_neg h1, if_neg h2, if_pos h3]), BW.out⟩
                            · go_wp2
                              go_ret
                              exact ⟨ret_int (by rw [HM2.out, if_neg h1, if_neg h2, if_neg h3]), BW.out⟩
                      | false =>
                        have DY := Lib.hid hdy
                        clear hdy
                        have HM2 : Hid (mdl zs ys a.data.toList b.data.toList = -1) := Lib.hid (by
                          rw [HM.out]; unfold mHead; rw [DX.out, DY.out]; simp)
                        go_wp2_with (go_at_call 20; refine (adig_any x (by omega) _).mono ?_; rw [DX.out])
                        rintro e wz ⟨rfl, rfl⟩
                        go_wp2_with (go_at_call 20; refine (adig_any y (by omega) _).mono ?_; rw [DY.out])
                        rintro e wz ⟨rfl, rfl⟩
                        go_wp2
                        go_ret
                        exact ⟨ret_int HM2.out.symm, BW.out⟩
                    | false =>
                      have DX := Lib.hid hdx
                      clear hdx
                      cases hdy : dgB y.data.toList with
                      | true =>
                        have DY := Lib.hid hdy
                        clear hdy
                        have HM2 : Hid (mdl zs ys a.data.toList b.data.toList = 1) := Lib.hid (by
                          rw [HM.out]; unfold mHead; rw [DX.out, DY.out]; simp)
                        go_wp2_with (go_at_call 20; refine (adig_any x (by omega) _).mono ?_; rw [DX.out])
                        rintro e wz ⟨rfl, rfl⟩
                        go_wp2_with (go_at_call 20; refine (adig_any y (by omega) _).mono ?_; rw [DY.out])
                        rintro e wz ⟨rfl, rfl⟩
                        go_wp2
                        go_ret
                        exact ⟨ret_int HM2.out.symm, BW.out⟩
                      | false =>
                        have DY := Lib.hid hdy
                        clear hdy
                        cases hls : Op.bytesLess x.toList y.toList with
                        | true =>
                          have HM2 : Hid (mdl zs ys a.data.toList b.data.toList = -1) := Lib.hid (by
                            rw [HM.out]; unfold mHead; rw [DX.out, DY.out, ← ByteArray.toList_eq x, ← ByteArray.toList_eq y, hls]; simp)
                          go_wp2_with (go_at_call 20; refine (adig_any x (by omega) _).mono ?_; rw [DX.out])
                          rintro e wz ⟨rfl, rfl⟩
                          go_wp2_with (go_at_call 20; refine (adig_any y (by omega) _).mono ?_; rw [DY.out])
                          rintro e wz ⟨rfl, rfl⟩
                          go_wp2
                          go_ret
                          exact ⟨ret_int HM2.out.symm, BW.out⟩
                        | false =>
                          have HM2 : Hid (mdl zs ys a.data.toList b.data.toList = 1) := Lib.hid (by
                            rw [HM.out]; unfold mHead; rw [DX.out, DY.out, ← ByteArray.toList_eq x, ← ByteArray.toList_eq y, hls]; simp)
                          go_wp2_with (go_at_call 20; refine (adig_any x (by omega) _).mono ?_; rw [DX.out])
                          rintro e wz ⟨rfl, rfl⟩
                          go_wp2_with (go_at_call 20; refine (adig_any y (by omega) _).mono ?_; rw [DY.out])
                          rintro e wz ⟨rfl, rfl⟩
                          go_wp2
                          go_ret
                          exact ⟨ret_int HM2.out.symm, BW.out⟩
                · have HM : Hid (mdl zs ys a.data.toList b.data.toList = if lp < lq then -1 else if lq < lp then 1 else 0) := Lib.hid (by
                    rw [HFN.out, mIds_end ps qs (fun j h1 h2 => HALL.out j (by have := LP.out; have := LQ.out; omega)), LP.out, LQ.out])
                  by_cases h1 : lp < lq
                  · go_wp2
                    go_ret
                    exact ⟨ret_int (by rw [HM.out, if_pos h1]), BW.out⟩
                  · by_cases h2 : lq < lp
                    · go_wp2
                      go_ret
                      exact ⟨ret_int (by rw [HM.out, if_neg h1, if_pos h2]), BW.out⟩
                    · exact absurd hmin h2
            · go_wp2
              go_loop [16] (fun i => ∃ k : Nat, i = .int .i64 k ∧ k ≤ lp ∧ ∀ j, j < k → ps.getD j [] = qs.getD j []) (fun i => lp - (intOf i).toNat)
              case atStart => exact ⟨0, rfl, by omega, fun j hj => by omega⟩
              case round =>
                obtain ⟨k, rfl, hk, hall⟩ := hrel
                have HALL := Lib.hid hall
                clear hall
                by_cases hlt : k < lp
                · obtain ⟨bp, op, rfl, _, hcp⟩ := reads_str RP.out (by omega)
                  obtain ⟨x, hx, hcx⟩ := hcp k (by omega)
                  obtain ⟨bq, oq, rfl, _, hcq⟩ := reads_str RQ.out (by omega)
                  obtain ⟨y, hy, hcy⟩ := hcq k (by omega)
                  clear hcp hcq
                  have hxz := BP.out k x (by omega) hx
                  have hyz := BQ.out k y (by omega) hy
                  have HX := Lib.hid hx; have HY := Lib.hid hy
                  clear hx hy
                  cases heq : (x.toList == y.toList) with
                  | true =>
                    have HE : Hid (x.data.toList = y.data.toList) := Lib.hid (by rw [ByteArray.toList_eq, ByteArray.toList_eq] at heq; simpa using heq)
                    go_wp2
                    go_round
                    case rel =>
                      refine ⟨k + 1, by go_num, by omega, fun j hj => ?_⟩
                      by_cases e : j = k
                      · rw [e, ← HX.out, ← HY.out]; exact HE.out
                      · exact HALL.out j (by omega)
                    case measure => simp [intOf]; omega
                  | false =>
                    have HE : Hid (x.data.toList ≠ y.data.toList) := Lib.hid (by rw [ByteArray.toList_eq, ByteArray.toList_eq] at heq; simpa using heq)
                    have HM : Hid (mdl zs ys a.data.toList b.data.toList = mHead x.data.toList y.data.toList) := Lib.hid (by
                      rw [HFN.out, mIds_at k ps qs (by have := LP.out; omega) (by have := LQ.out; omega) HALL.out (by rw [← HX.out, ← HY.out]; exact HE.out), HX.out, HY.out])
                    have SX := Lib.hid (SP.out k x (by omega) HX.out)
                    have SY := Lib.hid (SQ.out k y (by omega) HY.out)
                    cases hdx : dgB x.data.toList with
                    | true =>
                      have DX := Lib.hid hdx
                      clear hdx
                      cases hdy : dgB y.data.toList with
                      | true =>
                        have DY := Lib.hid hdy
                        clear hdy
                        have hx9 : x.size ≤ 9 := by
                          rcases Nat.lt_or_ge 9 x.size with q | q
                          · exact absurd ⟨by rw [size_list]; exact q, DX.out⟩ SX.out
                          · exact q
                        have hy9 : y.size ≤ 9 := by
                          rcases Nat.lt_or_ge 9 y.size with q | q
                          · exact absurd ⟨by rw [size_list]; exact q, DY.out⟩ SY.out
                          · exact q
                        obtain ⟨vx, hvx⟩ : ∃ vx : Nat, decL 0 x.data.toList = vx := ⟨_, rfl⟩
                        obtain ⟨vy, hvy⟩ : ∃ vy : Nat, decL 0 y.data.toList = vy := ⟨_, rfl⟩
                        have HM2 : Hid (mdl zs ys a.data.toList b.data.toList = if vx < vy then -1 else if vy < vx then 1 else if x.size < y.size then -1 else 1) := Lib.hid (by
                          rw [HM.out]; unfold mHead; rw [if_pos ⟨DX.out, DY.out⟩, hvx, hvy, size_list, size_list])
                        have VX := Lib.hid hvx; have VY := Lib.hid hvy
                        clear hvx hvy
                        go_wp2_with (go_at_call 20; refine (adig_any x (by omega) _).mono ?_; rw [DX.out])
                        rintro e wz ⟨rfl, rfl⟩
                        go_wp2_with (go_at_call 20; refine (adig_any y (by omega) _).mono ?_; rw [DY.out])
                        rintro e wz ⟨rfl, rfl⟩
                        go_wp2_with (go_at_call 25; refine (num_any x (by omega) ((dgB_iff _).1 DX.out).1 _).mono ?_; rw [VX.out])
                        rintro e wz ⟨rfl, rfl⟩
                        go_wp2_with (go_at_call 25; refine (num_any y (by omega) ((dgB_iff _).1 DY.out).1 _).mono ?_; rw [VY.out])
                        rintro e wz ⟨rfl, rfl⟩
                        by_cases h1 : vx < vy
                        · go_wp2
                          go_ret
                          exact ⟨ret_int (by rw [HM2.out, if_pos h1]), BW.out⟩
                        · by_cases h2 : vy < vx
                          · go_wp2
                            go_ret
                            exact ⟨ret_int (by rw [HM2.out, if_neg h1, if_pos h2]), BW.out⟩
                          · by_cases h3 : x.size < y.size
                            · go_wp2
                              go_ret
                              exact ⟨ret_int (by rw [HM2.out, if_neg h1, if_neg h2, if_pos h3]), BW.out⟩
                            · go_wp2
                              go_ret
                              exact ⟨ret_int (by rw [HM2.out, if_neg h1, if_neg h2, if_neg h3]), BW.out⟩
                      | false =>
                        have DY := Lib.hid hdy
                        clear hdy
                        have HM2 : Hid (mdl zs ys a.data.toList b.data.toList = -1) := Lib.hid (by
                          rw [HM.out]; unfold mHead; rw [DX.out, DY.out]; simp)
                        go_wp2_with (go_at_call 20; refine (adig_any x (by omega) _).mono ?_; rw [DX.out])
                        rintro e wz ⟨rfl, rfl⟩
                        go_wp2_with (go_at_call 20; refine (adig_any y (by omega) _).mono ?_; rw [DY.out])
                        rintro e wz ⟨rfl, rfl⟩
                        go_wp2
                        go_ret
                        exact ⟨ret_int HM2.out.symm, BW.out⟩
                    | false =>
                      have DX := Lib.hid hdx
                      clear hdx
                      cases hdy : dgB y.data.toList with
                      | true =>
                        have DY := Lib.hid hdy
                        clear hdy
                        have HM2 : Hid (mdl zs ys a.data.toList b.data.toList = 1) := Lib.hid (by
                          rw [HM.out]; unfold mHead; rw [DX.out, DY.out]; simp)
                        go_wp2_with (go_at_call 20; refine (adig_any x (by omega) _).mono ?_; rw [DX.out])
                        rintro e wz ⟨rfl, rfl⟩
                        go_wp2_with (go_at_call 20; refine (adig_any y (by omega) _).mono ?_; rw [DY.out])
                        rintro e wz ⟨rfl, rfl⟩
                        go_wp2
                        go_ret
                        exact ⟨ret_int HM2.out.symm, BW.out⟩
                      | false =>
                        have DY := Lib.hid hdy
                        clear hdy
                        cases hls : Op.bytesLess x.toList y.toList with
                        | true =>
                          have HM2 : Hid (mdl zs ys a.data.toList b.data.toList = -1) := Lib.hid (by
                            rw [HM.out]; unfold mHead; rw [DX.out, DY.out, ← ByteArray.toList_eq x, ← ByteArray.toList_eq y, hls]; simp)
                          go_wp2_with (go_at_call 20; refine (adig_any x (by omega) _).mono ?_; rw [DX.out])
                          rintro e wz ⟨rfl, rfl⟩
                          go_wp2_with (go_at_call 20; refine (adig_any y (by omega) _).mono ?_; rw [DY.out])
                          rintro e wz ⟨rfl, rfl⟩
                          go_wp2
                          go_ret
                          exact ⟨ret_int HM2.out.symm, BW.out⟩
                        | false =>
                          have HM2 : Hid (mdl zs ys a.data.toList b.data.toList = 1) := Lib.hid (by
                            rw [HM.out]; unfold mHead; rw [DX.out, DY.out, ← ByteArray.toList_eq x, ← ByteArray.toList_eq y, hls]; simp)
                          go_wp2_with (go_at_call 20; refine (adig_any x (by omega) _).mono ?_; rw [DX.out])
                          rintro e wz ⟨rfl, rfl⟩
                          go_wp2_with (go_at_call 20; refine (adig_any y (by omega) _).mono ?_; rw [DY.out])
                          rintro e wz ⟨rfl, rfl⟩
                          go_wp2
                          go_ret
                          exact ⟨ret_int HM2.out.symm, BW.out⟩
                · have HM : Hid (mdl zs ys a.data.toList b.data.toList = if lp < lq then -1 else if lq < lp then 1 else 0) := Lib.hid (by
                    rw [HFN.out, mIds_end ps qs (fun j h1 h2 => HALL.out j (by have := LP.out; have := LQ.out; omega)), LP.out, LQ.out])
                  by_cases h1 : lp < lq
                  · go_wp2
                    go_ret
                    exact ⟨ret_int (by rw [HM.out, if_pos h1]), BW.out⟩
                  · by_cases h2 : lq < lp
                    · exact absurd h2 hmin
                    · go_wp2
                      go_ret
                      exact ⟨ret_int (HM.out.trans (by rw [if_neg h1, if_neg h2])).symm, BW.out⟩
          | false =>
            have HFN := Lib.hid (show mdl zs ys a.data.toList b.data.toList = 1 by rw [HRS.out, ← ByteArray.toList_eq a, ← ByteArray.toList_eq b, hea, heb, if_pos (by decide)]; rfl)
            go_wp2
            go_ret
            exact ⟨ret_int HFN.out.symm, Below.refl _ _⟩
        | false =>
          cases heb : b.toList.isEmpty with
          | true =>
            have HFN := Lib.hid (show mdl zs ys a.data.toList b.data.toList = -1 by rw [HRS.out, ← ByteArray.toList_eq a, ← ByteArray.toList_eq b, hea, heb, if_pos (by decide)]; rfl)
            go_wp2
            go_ret
            exact ⟨ret_int HFN.out.symm, Below.refl _ _⟩
          | false =>
            have HFN0 := Lib.hid (show mdl zs ys a.data.toList b.data.toList = mIds (idl (stripP a.data.toList)) (idl (stripP b.data.toList)) by rw [HRS.out, ← ByteArray.toList_eq a, ← ByteArray.toList_eq b, hea, heb, if_neg (by decide)])
            go_wp2_with (go_at_call 19; refine (strip_any a (by omega) _).mono ?_)
            rintro e w1 ⟨ta, rfl, hta, hts, rfl⟩
            have HTA := Lib.hid hta
            clear hta
            go_wp2_with (go_at_call 18; refine (ids_any ta (by omega) _).mono ?_)
            rintro e w1 ⟨P, cp, rfl, hrp, hb1⟩
            have B1 := Lib.hid hb1; have R1 := Lib.hid hrp
            clear hb1 hrp
            go_wp2_with (go_at_call 19; refine (strip_any b (by omega) _).mono ?_)
            rintro e wz ⟨tb, rfl, htb, htbs, rfl⟩
            have HTB := Lib.hid htb
            clear htb
            go_wp2_with (go_at_call 18; refine (ids_any tb (by omega) _).mono ?_)
            rintro e w2 ⟨Q, cq, rfl, hrq, hb2⟩
            have BW := Lib.hid (B1.out.trans (hb2.mono B1.out.size))
            have R2 := Lib.hid hrq
            have R1' := Lib.hid ((R1.out.below hb2).more hb2.size)
            have hLp := ids_bound ta (by omega)
            have hLq := ids_bound tb (by omega)
            have BP : Hid (∀ (i : Nat) (x : ByteArray), i < (idl ta.data.toList).length → x.data.toList = (idl ta.data.toList).getD i [] → x.size ≤ 1048576) := Lib.hid (fun i x hi e => id_bound ta x (by omega) i hi e)
            have BQ : Hid (∀ (i : Nat) (x : ByteArray), i < (idl tb.data.toList).length → x.data.toList = (idl tb.data.toList).getD i [] → x.size ≤ 1048576) := Lib.hid (fun i x hi e => id_bound tb x (by omega) i hi e)
            have SP : Hid (∀ (i : Nat) (x : ByteArray), i < (idl ta.data.toList).length → x.data.toList = (idl ta.data.toList).getD i [] → short x.data.toList) := Lib.hid (fun i x hi e => by rw [e]; apply SA.out; rw [← HTA.out]; exact getD_mem _ i hi)
            have SQ : Hid (∀ (i : Nat) (x : ByteArray), i < (idl tb.data.toList).length → x.data.toList = (idl tb.data.toList).getD i [] → short x.data.toList) := Lib.hid (fun i x hi e => by rw [e]; apply SB.out; rw [← HTB.out]; exact getD_mem _ i hi)
            clear hb2 hrq hea heb
            obtain ⟨ps, hps⟩ : ∃ ps, ps = idl ta.data.toList := ⟨_, rfl⟩
            obtain ⟨qs, hqs⟩ : ∃ qs, qs = idl tb.data.toList := ⟨_, rfl⟩
            have HFN : Hid (mdl zs ys a.data.toList b.data.toList = mIds ps qs) := Lib.hid (by rw [HFN0.out, hps, hqs, HTA.out, HTB.out])
            obtain ⟨lp, hlp⟩ : ∃ lp, lp = (idl ta.data.toList).length := ⟨_, rfl⟩
            obtain ⟨lq, hlq⟩ : ∃ lq, lq = (idl tb.data.toList).length := ⟨_, rfl⟩
            have LP : Hid (ps.length = lp) := Lib.hid (by rw [hlp, hps])
            have LQ : Hid (qs.length = lq) := Lib.hid (by rw [hlq, hqs])
            have RP : Hid (Reads w2 w2.heap.size 1 P lp (ps.map strV)) := Lib.hid (by rw [hlp, hps]; exact R1'.out)
            have RQ : Hid (Reads w2 w2.heap.size 1 Q lq (qs.map strV)) := Lib.hid (by rw [hlq, hqs]; exact R2.out)
            rw [← hlp, ← hlq]
            rw [← hlp] at hLp BP SP
            rw [← hlq] at hLq BQ SQ
            rw [← hps] at BP SP
            rw [← hqs] at BQ SQ
            clear hps hqs hlp hlq R1 R1' R2
            by_cases hmin : lq < lp
            · go_wp2
              go_loop [16] (fun i => ∃ k : Nat, i = .int .i64 k ∧ k ≤ lq ∧ ∀ j, j < k → ps.getD j [] = qs.getD j []) (fun i => lq - (intOf i).toNat)
              case atStart => exact ⟨0, rfl, by omega, fun j hj => by omega⟩
              case round =>
                obtain ⟨k, rfl, hk, hall⟩ := hrel
                have HALL := Lib.hid hall
                clear hall
                by_cases hlt : k < lq
                · obtain ⟨bp, op, rfl, _, hcp⟩ := reads_str RP.out (by omega)
                  obtain ⟨x, hx, hcx⟩ := hcp k (by omega)
                  obtain ⟨bq, oq, rfl, _, hcq⟩ := reads_str RQ.out (by omega)
                  obtain ⟨y, hy, hcy⟩ := hcq k (by omega)
                  clear hcp hcq
                  have hxz := BP.out k x (by omega) hx
                  have hyz := BQ.out k y (by omega) hy
                  have HX := Lib.hid hx; have HY := Lib.hid hy
                  clear hx hy
                  cases heq : (x.toList == y.toList) with
                  | true =>
                    have HE : Hid (x.data.toList = y.data.toList) := Lib.hid (by rw [ByteArray.toList_eq, ByteArray.toList_eq] at heq; simpa using heq)
                    go_wp2
                    go_round
                    case rel =>
                      refine ⟨k + 1, by go_num, by omega, fun j hj => ?_⟩
                      by_cases e : j = k
                      · rw [e, ← HX.out, ← HY.out]; exact HE.out
                      · exact HALL.out j (by omega)
                    case measure => simp [intOf]; omega
                  | false =>
                    have HE : Hid (x.data.toList ≠ y.data.toList) := Lib.hid (by rw [ByteArray.toList_eq, ByteArray.toList_eq] at heq; simpa using heq)
                    have HM : Hid (mdl zs ys a.data.toList b.data.toList = mHead x.data.toList y.data.toList) := Lib.hid (by
                      rw [HFN.out, mIds_at k ps qs (by have := LP.out; omega) (by have := LQ.out; omega) HALL.out (by rw [← HX.out, ← HY.out]; exact HE.out), HX.out, HY.out])
                    have SX := Lib.hid (SP.out k x (by omega) HX.out)
                    have SY := Lib.hid (SQ.out k y (by omega) HY.out)
                    cases hdx : dgB x.data.toList with
                    | true =>
                      have DX := Lib.hid hdx
                      clear hdx
                      cases hdy : dgB y.data.toList with
                      | true =>
                        have DY := Lib.hid hdy
                        clear hdy
                        have hx9 : x.size ≤ 9 := by
                          rcases Nat.lt_or_ge 9 x.size with q | q
                          · exact absurd ⟨by rw [size_list]; exact q, DX.out⟩ SX.out
                          · exact q
                        have hy9 : y.size ≤ 9 := by
                          rcases Nat.lt_or_ge 9 y.size with q | q
                          · exact absurd ⟨by rw [size_list]; exact q, DY.out⟩ SY.out
                          · exact q
                        obtain ⟨vx, hvx⟩ : ∃ vx : Nat, decL 0 x.data.toList = vx := ⟨_, rfl⟩
                        obtain ⟨vy, hvy⟩ : ∃ vy : Nat, decL 0 y.data.toList = vy := ⟨_, rfl⟩
                        have HM2 : Hid (mdl zs ys a.data.toList b.data.toList = if vx < vy then -1 else if vy < vx then 1 else if x.size < y.size then -1 else 1) := Lib.hid (by
                          rw [HM.out]; unfold mHead; rw [if_pos ⟨DX.out, DY.out⟩, hvx, hvy, size_list, size_list])
                        have VX := Lib.hid hvx; have VY := Lib.hid hvy
                        clear hvx hvy
                        go_wp2_with (go_at_call 20; refine (adig_any x (by omega) _).mono ?_; rw [DX.out])
                        rintro e wz ⟨rfl, rfl⟩
                        go_wp2_with (go_at_call 20; refine (adig_any y (by omega) _).mono ?_; rw [DY.out])
                        rintro e wz ⟨rfl, rfl⟩
                        go_wp2_with (go_at_call 25; refine (num_any x (by omega) ((dgB_iff _).1 DX.out).1 _).mono ?_; rw [VX.out])
                        rintro e wz ⟨rfl, rfl⟩
                        go_wp2_with (go_at_call 25; refine (num_any y (by omega) ((dgB_iff _).1 DY.out).1 _).mono ?_; rw [VY.out])
                        rintro e wz ⟨rfl, rfl⟩
                        by_cases h1 : vx < vy
                        · go_wp2
                          go_ret
                          exact ⟨ret_int (by rw [HM2.out, if_pos h1]), BW.out⟩
                        · by_cases h2 : vy < vx
                          · go_wp2
                            go_ret
                            exact ⟨ret_int (by rw [HM2.out, if_neg h1, if_pos h2]), BW.out⟩
                          · by_cases h3 : x.size < y.size
                            · go_wp2
                              go_ret
                              exact ⟨ret_int (by rw [HM2.out, if_neg h1, if_neg h2, if_pos h3]), BW.out⟩
                            · go_wp2
                              go_ret
                              exact ⟨ret_int (by rw [HM2.out, if_neg h1, if_neg h2, if_neg h3]), BW.out⟩
                      | false =>
                        have DY := Lib.hid hdy
                        clear hdy
                        have HM2 : Hid (mdl zs ys a.data.toList b.data.toList = -1) := Lib.hid (by
                          rw [HM.out]; unfold mHead; rw [DX.out, DY.out]; simp)
                        go_wp2_with (go_at_call 20; refine (adig_any x (by omega) _).mono ?_; rw [DX.out])
                        rintro e wz ⟨rfl, rfl⟩
                        go_wp2_with (go_at_call 20; refine (adig_any y (by omega) _).mono ?_; rw [DY.out])
                        rintro e wz ⟨rfl, rfl⟩
                        go_wp2
                        go_ret
                        exact ⟨ret_int HM2.out.symm, BW.out⟩
                    | false =>
                      have DX := Lib.hid hdx
                      clear hdx
                      cases hdy : dgB y.data.toList with
                      | true =>
                        have DY := Lib.hid hdy
                        clear hdy
                        have HM2 : Hid (mdl zs ys a.data.toList b.data.toList = 1) := Lib.hid (by
                          rw [HM.out]; unfold mHead; rw [DX.out, DY.out]; simp)
                        go_wp2_with (go_at_call 20; refine (adig_any x (by omega) _).mono ?_; rw [DX.out])
                        rintro e wz ⟨rfl, rfl⟩
                        go_wp2_with (go_at_call 20; refine (adig_any y (by omega) _).mono ?_; rw [DY.out])
                        rintro e wz ⟨rfl, rfl⟩
                        go_wp2
                        go_ret
                        exact ⟨ret_int HM2.out.symm, BW.out⟩
                      | false =>
                        have DY := Lib.hid hdy
                        clear hdy
                        cases hls : Op.bytesLess x.toList y.toList with
                        | true =>
                          have HM2 : Hid (mdl zs ys a.data.toList b.data.toList = -1) := Lib.hid (by
                            rw [HM.out]; unfold mHead; rw [DX.out, DY.out, ← ByteArray.toList_eq x, ← ByteArray.toList_eq y, hls]; simp)
                          go_wp2_with (go_at_call 20; refine (adig_any x (by omega) _).mono ?_; rw [DX.out])
                          rintro e wz ⟨rfl, rfl⟩
                          go_wp2_with (go_at_call 20; refine (adig_any y (by omega) _).mono ?_; rw [DY.out])
                          rintro e wz ⟨rfl, rfl⟩
                          go_wp2
                          go_ret
                          exact ⟨ret_int HM2.out.symm, BW.out⟩
                        | false =>
                          have HM2 : Hid (mdl zs ys a.data.toList b.data.toList = 1) := Lib.hid (by
                            rw [HM.out]; unfold mHead; rw [DX.out, DY.out, ← ByteArray.toList_eq x, ← ByteArray.toList_eq y, hls]; simp)
                          go_wp2_with (go_at_call 20; refine (adig_any x (by omega) _).mono ?_; rw [DX.out])
                          rintro e wz ⟨rfl, rfl⟩
                          go_wp2_with (go_at_call 20; refine (adig_any y (by omega) _).mono ?_; rw [DY.out])
                          rintro e wz ⟨rfl, rfl⟩
                          go_wp2
                          go_ret
                          exact ⟨ret_int HM2.out.symm, BW.out⟩
                · have HM : Hid (mdl zs ys a.data.toList b.data.toList = if lp < lq then -1 else if lq < lp then 1 else 0) := Lib.hid (by
                    rw [HFN.out, mIds_end ps qs (fun j h1 h2 => HALL.out j (by have := LP.out; have := LQ.out; omega)), LP.out, LQ.out])
                  by_cases h1 : lp < lq
                  · go_wp2
                    go_ret
                    exact ⟨ret_int (by rw [HM.out, if_pos h1]), BW.out⟩
                  · by_cases h2 : lq < lp
                    · go_wp2
                      go_ret
                      exact ⟨ret_int (by rw [HM.out, if_neg h1, if_pos h2]), BW.out⟩
                    · exact absurd hmin h2
            · go_wp2
              go_loop [16] (fun i => ∃ k : Nat, i = .int .i64 k ∧ k ≤ lp ∧ ∀ j, j < k → ps.getD j [] = qs.getD j []) (fun i => lp - (intOf i).toNat)
              case atStart => exact ⟨0, rfl, by omega, fun j hj => by omega⟩
              case round =>
                obtain ⟨k, rfl, hk, hall⟩ := hrel
                have HALL := Lib.hid hall
                clear hall
                by_cases hlt : k < lp
                · obtain ⟨bp, op, rfl, _, hcp⟩ := reads_str RP.out (by omega)
                  obtain ⟨x, hx, hcx⟩ := hcp k (by omega)
                  obtain ⟨bq, oq, rfl, _, hcq⟩ := reads_str RQ.out (by omega)
                  obtain ⟨y, hy, hcy⟩ := hcq k (by omega)
                  clear hcp hcq
                  have hxz := BP.out k x (by omega) hx
                  have hyz := BQ.out k y (by omega) hy
                  have HX := Lib.hid hx; have HY := Lib.hid hy
                  clear hx hy
                  cases heq : (x.toList == y.toList) with
                  | true =>
                    have HE : Hid (x.data.toList = y.data.toList) := Lib.hid (by rw [ByteArray.toList_eq, ByteArray.toList_eq] at heq; simpa using heq)
                    go_wp2
                    go_round
                    case rel =>
                      refine ⟨k + 1, by go_num, by omega, fun j hj => ?_⟩
                      by_cases e : j = k
                      · rw [e, ← HX.out, ← HY.out]; exact HE.out
                      · exact HALL.out j (by omega)
                    case measure => simp [intOf]; omega
                  | false =>
                    have HE : Hid (x.data.toList ≠ y.data.toList) := Lib.hid (by rw [ByteArray.toList_eq, ByteArray.toList_eq] at heq; simpa using heq)
                    have HM : Hid (mdl zs ys a.data.toList b.data.toList = mHead x.data.toList y.data.toList) := Lib.hid (by
                      rw [HFN.out, mIds_at k ps qs (by have := LP.out; omega) (by have := LQ.out; omega) HALL.out (by rw [← HX.out, ← HY.out]; exact HE.out), HX.out, HY.out])
                    have SX := Lib.hid (SP.out k x (by omega) HX.out)
                    have SY := Lib.hid (SQ.out k y (by omega) HY.out)
                    cases hdx : dgB x.data.toList with
                    | true =>
                      have DX := Lib.hid hdx
                      clear hdx
                      cases hdy : dgB y.data.toList with
                      | true =>
                        have DY := Lib.hid hdy
                        clear hdy
                        have hx9 : x.size ≤ 9 := by
                          rcases Nat.lt_or_ge 9 x.size with q | q
                          · exact absurd ⟨by rw [size_list]; exact q, DX.out⟩ SX.out
                          · exact q
                        have hy9 : y.size ≤ 9 := by
                          rcases Nat.lt_or_ge 9 y.size with q | q
                          · exact absurd ⟨by rw [size_list]; exact q, DY.out⟩ SY.out
                          · exact q
                        obtain ⟨vx, hvx⟩ : ∃ vx : Nat, decL 0 x.data.toList = vx := ⟨_, rfl⟩
                        obtain ⟨vy, hvy⟩ : ∃ vy : Nat, decL 0 y.data.toList = vy := ⟨_, rfl⟩
                        have HM2 : Hid (mdl zs ys a.data.toList b.data.toList = if vx < vy then -1 else if vy < vx then 1 else if x.size < y.size then -1 else 1) := Lib.hid (by
                          rw [HM.out]; unfold mHead; rw [if_pos ⟨DX.out, DY.out⟩, hvx, hvy, size_list, size_list])
                        have VX := Lib.hid hvx; have VY := Lib.hid hvy
                        clear hvx hvy
                        go_wp2_with (go_at_call 20; refine (adig_any x (by omega) _).mono ?_; rw [DX.out])
                        rintro e wz ⟨rfl, rfl⟩
                        go_wp2_with (go_at_call 20; refine (adig_any y (by omega) _).mono ?_; rw [DY.out])
                        rintro e wz ⟨rfl, rfl⟩
                        go_wp2_with (go_at_call 25; refine (num_any x (by omega) ((dgB_iff _).1 DX.out).1 _).mono ?_; rw [VX.out])
                        rintro e wz ⟨rfl, rfl⟩
                        go_wp2_with (go_at_call 25; refine (num_any y (by omega) ((dgB_iff _).1 DY.out).1 _).mono ?_; rw [VY.out])
                        rintro e wz ⟨rfl, rfl⟩
                        by_cases h1 : vx < vy
                        · go_wp2
                          go_ret
                          exact ⟨ret_int (by rw [HM2.out, if_pos h1]), BW.out⟩
                        · by_cases h2 : vy < vx
                          · go_wp2
                            go_ret
                            exact ⟨ret_int (by rw [HM2.out, if_neg h1, if_pos h2]), BW.out⟩
                          · by_cases h3 : x.size < y.size
                            · go_wp2
                              go_ret
                              exact ⟨ret_int (by rw [HM2.out, if_neg h1, if_neg h2, if_pos h3]), BW.out⟩
                            · go_wp2
                              go_ret
                              exact ⟨ret_int (by rw [HM2.out, if_neg h1, if_neg h2, if_neg h3]), BW.out⟩
                      | false =>
                        have DY := Lib.hid hdy
                        clear hdy
                        have HM2 : Hid (mdl zs ys a.data.toList b.data.toList = -1) := Lib.hid (by
                          rw [HM.out]; unfold mHead; rw [DX.out, DY.out]; simp)
                        go_wp2_with (go_at_call 20; refine (adig_any x (by omega) _).mono ?_; rw [DX.out])
                        rintro e wz ⟨rfl, rfl⟩
                        go_wp2_with (go_at_call 20; refine (adig_any y (by omega) _).mono ?_; rw [DY.out])
                        rintro e wz ⟨rfl, rfl⟩
                        go_wp2
                        go_ret
                        exact ⟨ret_int HM2.out.symm, BW.out⟩
                    | false =>
                      have DX := Lib.hid hdx
                      clear hdx
                      cases hdy : dgB y.data.toList with
                      | true =>
                        have DY := Lib.hid hdy
                        clear hdy
                        have HM2 : Hid (mdl zs ys a.data.toList b.data.toList = 1) := Lib.hid (by
                          rw [HM.out]; unfold mHead; rw [DX.out, DY.out]; simp)
                        go_wp2_with (go_at_call 20; refine (adig_any x (by omega) _).mono ?_; rw [DX.out])
                        rintro e wz ⟨rfl, rfl⟩
                        go_wp2_with (go_at_call 20; refine (adig_any y (by omega) _).mono ?_; rw [DY.out])
                        rintro e wz ⟨rfl, rfl⟩
                        go_wp2
                        go_ret
                        exact ⟨ret_int HM2.out.symm, BW.out⟩
                      | false =>
                        have DY := Lib.hid hdy
                        clear hdy
                        cases hls : Op.bytesLess x.toList y.toList with
                        | true =>
                          have HM2 : Hid (mdl zs ys a.data.toList b.data.toList = -1) := Lib.hid (by
                            rw [HM.out]; unfold mHead; rw [DX.out, DY.out, ← ByteArray.toList_eq x, ← ByteArray.toList_eq y, hls]; simp)
                          go_wp2_with (go_at_call 20; refine (adig_any x (by omega) _).mono ?_; rw [DX.out])
                          rintro e wz ⟨rfl, rfl⟩
                          go_wp2_with (go_at_call 20; refine (adig_any y (by omega) _).mono ?_; rw [DY.out])
                          rintro e wz ⟨rfl, rfl⟩
                          go_wp2
                          go_ret
                          exact ⟨ret_int HM2.out.symm, BW.out⟩
                        | false =>
                          have HM2 : Hid (mdl zs ys a.data.toList b.data.toList = 1) := Lib.hid (by
                            rw [HM.out]; unfold mHead; rw [DX.out, DY.out, ← ByteArray.toList_eq x, ← ByteArray.toList_eq y, hls]; simp)
                          go_wp2_with (go_at_call 20; refine (adig_any x (by omega) _).mono ?_; rw [DX.out])
                          rintro e wz ⟨rfl, rfl⟩
                          go_wp2_with (go_at_call 20; refine (adig_any y (by omega) _).mono ?_; rw [DY.out])
                          rintro e wz ⟨rfl, rfl⟩
                          go_wp2
                          go_ret
                          exact ⟨ret_int HM2.out.symm, BW.out⟩
                · have HM : Hid (mdl zs ys a.data.toList b.data.toList = if lp < lq then -1 else if lq < lp then 1 else 0) := Lib.hid (by
                    rw [HFN.out, mIds_end ps qs (fun j h1 h2 => HALL.out j (by have := LP.out; have := LQ.out; omega)), LP.out, LQ.out])
                  by_cases h1 : lp < lq
                  · go_wp2
                    go_ret
                    exact ⟨ret_int (by rw [HM.out, if_pos h1]), BW.out⟩
                  · by_cases h2 : lq < lp
                    · exact absurd h2 hmin
                    · go_wp2
                      go_ret
                      exact ⟨ret_int (HM.out.trans (by rw [if_neg h1, if_neg h2])).symm, BW.out⟩
  · go_enter Tryd.func13, Tryd.ntmps13
    go_wp2
    go_loop [10] (fun i => ∃ k : Nat, i = .int .i64 k ∧ k ≤ n ∧ ∀ j, j < k → zs.getD j 0 = ys.getD j 0) (fun i => n - (intOf i).toNat)
    case atStart => exact ⟨0, rfl, by omega, fun j hj => by omega⟩
    case round =>
      obtain ⟨k, rfl, hk, hall⟩ := hrel
      have HALL := Lib.hid hall
      clear hall
      by_cases hlt : k < n
      · obtain ⟨x, hx⟩ : ∃ x, zs.getD k 0 = x := ⟨_, rfl⟩
        obtain ⟨y, hy⟩ : ∃ y, ys.getD k 0 = y := ⟨_, rfl⟩
        have EX := Lib.hid hx; have EY := Lib.hid hy
        clear hx hy
        go_wp2_with (go_at_call 24; refine (part_any A n ca zs k _ RA.out (by omega) (by omega)).mono ?_; rw [EX.out])
        rintro e wz ⟨rfl, rfl⟩
        go_wp2_with (go_at_call 24; refine (part_any B m cb ys k _ RB.out (by omega) (by omega)).mono ?_; rw [EY.out])
        rintro e wz ⟨rfl, rfl⟩
        by_cases h1 : x < y
        · have HF := Lib.hid (mdl_parts zs ys a.data.toList b.data.toList k (by have := LA.out; have := LB.out; omega) HALL.out (by rw [EX.out, EY.out]; omega))
          go_wp2
          go_ret
          exact ⟨ret_int (by rw [HF.out, EX.out, EY.out]; unfold sgn; rw [if_pos (by omega)]), Below.refl _ _⟩
        · by_cases h2 : y < x
          · have HF := Lib.hid (mdl_parts zs ys a.data.toList b.data.toList k (by have := LA.out; have := LB.out; omega) HALL.out (by rw [EX.out, EY.out]; omega))
            go_wp2
            go_ret
            exact ⟨ret_int (by rw [HF.out, EX.out, EY.out]; unfold sgn; rw [if_neg (by omega), if_pos (by omega)]), Below.refl _ _⟩
          · go_wp2
            go_round
            case rel =>
              refine ⟨k + 1, by go_num, by omega, fun j hj => ?_⟩
              by_cases e : j = k
              · rw [e, EX.out, EY.out]; omega
              · exact HALL.out j (by omega)
            case measure => simp [intOf]; omega
      · have HRS := Lib.hid (mdl_rest zs ys a.data.toList b.data.toList (fun j hj => HALL.out j (by have := LA.out; have := LB.out; omega)))
        cases hea : a.toList.isEmpty with
        | true =>
          cases heb : b.toList.isEmpty with
          | true =>
            have HFN0 := Lib.hid (show mdl zs ys a.data.toList b.data.toList = mIds (idl (stripP a.data.toList)) (idl (stripP b.data.toList)) by rw [HRS.out, ← ByteArray.toList_eq a, ← ByteArray.toList_eq b, hea, heb, if_neg (by decide)])
            go_wp2_with (go_at_call 19; refine (strip_any a (by omega) _).mono ?_)
            rintro e w1 ⟨ta, rfl, hta, hts, rfl⟩
            have HTA := Lib.hid hta
            clear hta
            go_wp2_with (go_at_call 18; refine (ids_any ta (by omega) _).mono ?_)
            rintro e w1 ⟨P, cp, rfl, hrp, hb1⟩
            have B1 := Lib.hid hb1; have R1 := Lib.hid hrp
            clear hb1 hrp
            go_wp2_with (go_at_call 19; refine (strip_any b (by omega) _).mono ?_)
            rintro e wz ⟨tb, rfl, htb, htbs, rfl⟩
            have HTB := Lib.hid htb
            clear htb
            go_wp2_with (go_at_call 18; refine (ids_any tb (by omega) _).mono ?_)
            rintro e w2 ⟨Q, cq, rfl, hrq, hb2⟩
            have BW := Lib.hid (B1.out.trans (hb2.mono B1.out.size))
            have R2 := Lib.hid hrq
            have R1' := Lib.hid ((R1.out.below hb2).more hb2.size)
            have hLp := ids_bound ta (by omega)
            have hLq := ids_bound tb (by omega)
            have BP : Hid (∀ (i : Nat) (x : ByteArray), i < (idl ta.data.toList).length → x.data.toList = (idl ta.data.toList).getD i [] → x.size ≤ 1048576) := Lib.hid (fun i x hi e => id_bound ta x (by omega) i hi e)
            have BQ : Hid (∀ (i : Nat) (x : ByteArray), i < (idl tb.data.toList).length → x.data.toList = (idl tb.data.toList).getD i [] → x.size ≤ 1048576) := Lib.hid (fun i x hi e => id_bound tb x (by omega) i hi e)
            have SP : Hid (∀ (i : Nat) (x : ByteArray), i < (idl ta.data.toList).length → x.data.toList = (idl ta.data.toList).getD i [] → short x.data.toList) := Lib.hid (fun i x hi e => by rw [e]; apply SA.out; rw [← HTA.out]; exact getD_mem _ i hi)
            have SQ : Hid (∀ (i : Nat) (x : ByteArray), i < (idl tb.data.toList).length → x.data.toList = (idl tb.data.toList).getD i [] → short x.data.toList) := Lib.hid (fun i x hi e => by rw [e]; apply SB.out; rw [← HTB.out]; exact getD_mem _ i hi)
            clear hb2 hrq hea heb
            obtain ⟨ps, hps⟩ : ∃ ps, ps = idl ta.data.toList := ⟨_, rfl⟩
            obtain ⟨qs, hqs⟩ : ∃ qs, qs = idl tb.data.toList := ⟨_, rfl⟩
            have HFN : Hid (mdl zs ys a.data.toList b.data.toList = mIds ps qs) := Lib.hid (by rw [HFN0.out, hps, hqs, HTA.out, HTB.out])
            obtain ⟨lp, hlp⟩ : ∃ lp, lp = (idl ta.data.toList).length := ⟨_, rfl⟩
            obtain ⟨lq, hlq⟩ : ∃ lq, lq = (idl tb.data.toList).length := ⟨_, rfl⟩
            have LP : Hid (ps.length = lp) := Lib.hid (by rw [hlp, hps])
            have LQ : Hid (qs.length = lq) := Lib.hid (by rw [hlq, hqs])
            have RP : Hid (Reads w2 w2.heap.size 1 P lp (ps.map strV)) := Lib.hid (by rw [hlp, hps]; exact R1'.out)
            have RQ : Hid (Reads w2 w2.heap.size 1 Q lq (qs.map strV)) := Lib.hid (by rw [hlq, hqs]; exact R2.out)
            rw [← hlp, ← hlq]
            rw [← hlp] at hLp BP SP
            rw [← hlq] at hLq BQ SQ
            rw [← hps] at BP SP
            rw [← hqs] at BQ SQ
            clear hps hqs hlp hlq R1 R1' R2
            by_cases hmin : lq < lp
            · go_wp2
              go_loop [16] (fun i => ∃ k : Nat, i = .int .i64 k ∧ k ≤ lq ∧ ∀ j, j < k → ps.getD j [] = qs.getD j []) (fun i => lq - (intOf i).toNat)
              case atStart => exact ⟨0, rfl, by omega, fun j hj => by omega⟩
              case round =>
                obtain ⟨k, rfl, hk, hall⟩ := hrel
                have HALL := Lib.hid hall
                clear hall
                by_cases hlt : k < lq
                · obtain ⟨bp, op, rfl, _, hcp⟩ := reads_str RP.out (by omega)
                  obtain ⟨x, hx, hcx⟩ := hcp k (by omega)
                  obtain ⟨bq, oq, rfl, _, hcq⟩ := reads_str RQ.out (by omega)
                  obtain ⟨y, hy, hcy⟩ := hcq k (by omega)
                  clear hcp hcq
                  have hxz := BP.out k x (by omega) hx
                  have hyz := BQ.out k y (by omega) hy
                  have HX := Lib.hid hx; have HY := Lib.hid hy
                  clear hx hy
                  cases heq : (x.toList == y.toList) with
                  | true =>
                    have HE : Hid (x.data.toList = y.data.toList) := Lib.hid (by rw [ByteArray.toList_eq, ByteArray.toList_eq] at heq; simpa using heq)
                    go_wp2
                    go_round
                    case rel =>
                      refine ⟨k + 1, by go_num, by omega, fun j hj => ?_⟩
                      by_cases e : j = k
                      · rw [e, ← HX.out, ← HY.out]; exact HE.out
                      · exact HALL.out j (by omega)
                    case measure => simp [intOf]; omega
                  | false =>
                    have HE : Hid (x.data.toList ≠ y.data.toList) := Lib.hid (by rw [ByteArray.toList_eq, ByteArray.toList_eq] at heq; simpa using heq)
                    have HM : Hid (mdl zs ys a.data.toList b.data.toList = mHead x.data.toList y.data.toList) := Lib.hid (by
                      rw [HFN.out, mIds_at k ps qs (by have := LP.out; omega) (by have := LQ.out; omega) HALL.out (by rw [← HX.out, ← HY.out]; exact HE.out), HX.out, HY.out])
                    have SX := Lib.hid (SP.out k x (by omega) HX.out)
                    have SY := Lib.hid (SQ.out k y (by omega) HY.out)
                    cases hdx : dgB x.data.toList with
                    | true =>
                      have DX := Lib.hid hdx
                      clear hdx
                      cases hdy : dgB y.data.toList with
                      | true =>
                        have DY := Lib.hid hdy
                        clear hdy
                        have hx9 : x.size ≤ 9 := by
                          rcases Nat.lt_or_ge 9 x.size with q | q
                          · exact absurd ⟨by rw [size_list]; exact q, DX.out⟩ SX.out
                          · exact q
                        have hy9 : y.size ≤ 9 := by
                          rcases Nat.lt_or_ge 9 y.size with q | q
                          · exact absurd ⟨by rw [size_list]; exact q, DY.out⟩ SY.out
                          · exact q
                        obtain ⟨vx, hvx⟩ : ∃ vx : Nat, decL 0 x.data.toList = vx := ⟨_, rfl⟩
                        obtain ⟨vy, hvy⟩ : ∃ vy : Nat, decL 0 y.data.toList = vy := ⟨_, rfl⟩
                        have HM2 : Hid (mdl zs ys a.data.toList b.data.toList = if vx < vy then -1 else if vy < vx then 1 else if x.size < y.size then -1 else 1) := Lib.hid (by
                          rw [HM.out]; unfold mHead; rw [if_pos ⟨DX.out, DY.out⟩, hvx, hvy, size_list, size_list])
                        have VX := Lib.hid hvx; have VY := Lib.hid hvy
                        clear hvx hvy
                        go_wp2_with (go_at_call 20; refine (adig_any x (by omega) _).mono ?_; rw [DX.out])
                        rintro e wz ⟨rfl, rfl⟩
                        go_wp2_with (go_at_call 20; refine (adig_any y (by omega) _).mono ?_; rw [DY.out])
                        rintro e wz ⟨rfl, rfl⟩
                        go_wp2_with (go_at_call 25; refine (num_any x (by omega) ((dgB_iff _).1 DX.out).1 _).mono ?_; rw [VX.out])
                        rintro e wz ⟨rfl, rfl⟩
                        go_wp2_with (go_at_call 25; refine (num_any y (by omega) ((dgB_iff _).1 DY.out).1 _).mono ?_; rw [VY.out])
                        rintro e wz ⟨rfl, rfl⟩
                        by_cases h1 : vx < vy
                        · go_wp2
                          go_ret
                          exact ⟨ret_int (by rw [HM2.out, if_pos h1]), BW.out⟩
                        · by_cases h2 : vy < vx
                          · go_wp2
                            go_ret
                            exact ⟨ret_int (by rw [HM2.out, if_neg h1, if_pos h2]), BW.out⟩
                          · by_cases h3 : x.size < y.size
                            · go_wp2
                              go_ret
                              exact ⟨ret_int (by rw [HM2.out, if_neg h1, if_neg h2, if_pos h3]), BW.out⟩
                            · go_wp2
                              go_ret
                              exact ⟨ret_int (by rw [HM2.out, if_neg h1, if_neg h2, if_neg h3]), BW.out⟩
                      | false =>
                        have DY := Lib.hid hdy
                        clear hdy
                        have HM2 : Hid (mdl zs ys a.data.toList b.data.toList = -1) := Lib.hid (by
                          rw [HM.out]; unfold mHead; rw [DX.out, DY.out]; simp)
                        go_wp2_with (go_at_call 20; refine (adig_any x (by omega) _).mono ?_; rw [DX.out])
                        rintro e wz ⟨rfl, rfl⟩
                        go_wp2_with (go_at_call 20; refine (adig_any y (by omega) _).mono ?_; rw [DY.out])
                        rintro e wz ⟨rfl, rfl⟩
                        go_wp2
                        go_ret
                        exact ⟨ret_int HM2.out.symm, BW.out⟩
                    | false =>
                      have DX := Lib.hid hdx
                      clear hdx
                      cases hdy : dgB y.data.toList with
                      | true =>
                        have DY := Lib.hid hdy
                        clear hdy
                        have HM2 : Hid (mdl zs ys a.data.toList b.data.toList = 1) := Lib.hid (by
                          rw [HM.out]; unfold mHead; rw [DX.out, DY.out]; simp)
                        go_wp2_with (go_at_call 20; refine (adig_any x (by omega) _).mono ?_; rw [DX.out])
                        rintro e wz ⟨rfl, rfl⟩
                        go_wp2_with (go_at_call 20; refine (adig_any y (by omega) _).mono ?_; rw [DY.out])
                        rintro e wz ⟨rfl, rfl⟩
                        go_wp2
                        go_ret
                        exact ⟨ret_int HM2.out.symm, BW.out⟩
                      | false =>
                        have DY := Lib.hid hdy
                        clear hdy
                        cases hls : Op.bytesLess x.toList y.toList with
                        | true =>
                          have HM2 : Hid (mdl zs ys a.data.toList b.data.toList = -1) := Lib.hid (by
                            rw [HM.out]; unfold mHead; rw [DX.out, DY.out, ← ByteArray.toList_eq x, ← ByteArray.toList_eq y, hls]; simp)
                          go_wp2_with (go_at_call 20; refine (adig_any x (by omega) _).mono ?_; rw [DX.out])
                          rintro e wz ⟨rfl, rfl⟩
                          go_wp2_with (go_at_call 20; refine (adig_any y (by omega) _).mono ?_; rw [DY.out])
                          rintro e wz ⟨rfl, rfl⟩
                          go_wp2
                          go_ret
                          exact ⟨ret_int HM2.out.symm, BW.out⟩
                        | false =>
                          have HM2 : Hid (mdl zs ys a.data.toList b.data.toList = 1) := Lib.hid (by
                            rw [HM.out]; unfold mHead; rw [DX.out, DY.out, ← ByteArray.toList_eq x, ← ByteArray.toList_eq y, hls]; simp)
                          go_wp2_with (go_at_call 20; refine (adig_any x (by omega) _).mono ?_; rw [DX.out])
                          rintro e wz ⟨rfl, rfl⟩
                          go_wp2_with (go_at_call 20; refine (adig_any y (by omega) _).mono ?_; rw [DY.out])
                          rintro e wz ⟨rfl, rfl⟩
                          go_wp2
                          go_ret
                          exact ⟨ret_int HM2.out.symm, BW.out⟩
                · have HM : Hid (mdl zs ys a.data.toList b.data.toList = if lp < lq then -1 else if lq < lp then 1 else 0) := Lib.hid (by
                    rw [HFN.out, mIds_end ps qs (fun j h1 h2 => HALL.out j (by have := LP.out; have := LQ.out; omega)), LP.out, LQ.out])
                  by_cases h1 : lp < lq
                  · go_wp2
                    go_ret
                    exact ⟨ret_int (by rw [HM.out, if_pos h1]), BW.out⟩
                  · by_cases h2 : lq < lp
                    · go_wp2
                      go_ret
                      exact ⟨ret_int (by rw [HM.out, if_neg h1, if_pos h2]), BW.out⟩
                    · exact absurd hmin h2
            · go_wp2
              go_loop [16] (fun i => ∃ k : Nat, i = .int .i64 k ∧ k ≤ lp ∧ ∀ j, j < k → ps.getD j [] = qs.getD j []) (fun i => lp - (intOf i).toNat)
              case atStart => exact ⟨0, rfl, by omega, fun j hj => by omega⟩
              case round =>
                obtain ⟨k, rfl, hk, hall⟩ := hrel
                have HALL := Lib.hid hall
                clear hall
                by_cases hlt : k < lp
                · obtain ⟨bp, op, rfl, _, hcp⟩ := reads_str RP.out (by omega)
                  obtain ⟨x, hx, hcx⟩ := hcp k (by omega)
                  obtain ⟨bq, oq, rfl, _, hcq⟩ := reads_str RQ.out (by omega)
                  obtain ⟨y, hy, hcy⟩ := hcq k (by omega)
                  clear hcp hcq
                  have hxz := BP.out k x (by omega) hx
                  have hyz := BQ.out k y (by omega) hy
                  have HX := Lib.hid hx; have HY := Lib.hid hy
                  clear hx hy
                  cases heq : (x.toList == y.toList) with
                  | true =>
                    have HE : Hid (x.data.toList = y.data.toList) := Lib.hid (by rw [ByteArray.toList_eq, ByteArray.toList_eq] at heq; simpa using heq)
                    go_wp2
                    go_round
                    case rel =>
                      refine ⟨k + 1, by go_num, by omega, fun j hj => ?_⟩
                      by_cases e : j = k
                      · rw [e, ← HX.out, ← HY.out]; exact HE.out
                      · exact HALL.out j (by omega)
                    case measure => simp [intOf]; omega
                  | false =>
                    have HE : Hid (x.data.toList ≠ y.data.toList) := Lib.hid (by rw [ByteArray.toList_eq, ByteArray.toList_eq] at heq; simpa using heq)
                    have HM : Hid (mdl zs ys a.data.toList b.data.toList = mHead x.data.toList y.data.toList) := Lib.hid (by
                      rw [HFN.out, mIds_at k ps qs (by have := LP.out; omega) (by have := LQ.out; omega) HALL.out (by rw [← HX.out, ← HY.out]; exact HE.out), HX.out, HY.out])
                    have SX := Lib.hid (SP.out k x (by omega) HX.out)
                    have SY := Lib.hid (SQ.out k y (by omega) HY.out)
                    cases hdx : dgB x.data.toList with
                    | true =>
                      have DX := Lib.hid hdx
                      clear hdx
                      cases hdy : dgB y.data.toList with
                      | true =>
                        have DY := Lib.hid hdy
                        clear hdy
                        have hx9 : x.size ≤ 9 := by
                          rcases Nat.lt_or_ge 9 x.size with q | q
                          · exact absurd ⟨by rw [size_list]; exact q, DX.out⟩ SX.out
                          · exact q
                        have hy9 : y.size ≤ 9 := by
                          rcases Nat.lt_or_ge 9 y.size with q | q
                          · exact absurd ⟨by rw [size_list]; exact q, DY.out⟩ SY.out
                          · exact q
                        obtain ⟨vx, hvx⟩ : ∃ vx : Nat, decL 0 x.data.toList = vx := ⟨_, rfl⟩
                        obtain ⟨vy, hvy⟩ : ∃ vy : Nat, decL 0 y.data.toList = vy := ⟨_, rfl⟩
                        have HM2 : Hid (mdl zs ys a.data.toList b.data.toList = if vx < vy then -1 else if vy < vx then 1 else if x.size < y.size then -1 else 1) := Lib.hid (by
                          rw [HM.out]; unfold mHead; rw [if_pos ⟨DX.out, DY.out⟩, hvx, hvy, size_list, size_list])
                        have VX := Lib.hid hvx; have VY := Lib.hid hvy
                        clear hvx hvy
                        go_wp2_with (go_at_call 20; refine (adig_any x (by omega) _).mono ?_; rw [DX.out])
                        rintro e wz ⟨rfl, rfl⟩
                        go_wp2_with (go_at_call 20; refine (adig_any y (by omega) _).mono ?_; rw [DY.out])
                        rintro e wz ⟨rfl, rfl⟩
                        go_wp2_with (go_at_call 25; refine (num_any x (by omega) ((dgB_iff _).1 DX.out).1 _).mono ?_; rw [VX.out])
                        rintro e wz ⟨rfl, rfl⟩
                        go_wp2_with (go_at_call 25; refine (num_any y (by omega) ((dgB_iff _).1 DY.out).1 _).mono ?_; rw [VY.out])
                        rintro e wz ⟨rfl, rfl⟩
                        by_cases h1 : vx < vy
                        · go_wp2
                          go_ret
                          exact ⟨ret_int (by rw [HM2.out, if_pos h1]), BW.out⟩
                        · by_cases h2 : vy < vx
                          · go_wp2
                            go_ret
                            exact ⟨ret_int (by rw [HM2.out, if_neg h1, if_pos h2]), BW.out⟩
                          · by_cases h3 : x.size < y.size
                            · go_wp2
                              go_ret
                              exact ⟨ret_int (by rw [HM2.out, if_neg h1, if_neg h2, if_pos h3]), BW.out⟩
                            · go_wp2
                              go_ret
                              exact ⟨ret_int (by rw [HM2.out, if_neg h1, if_neg h2, if_neg h3]), BW.out⟩
                      | false =>
                        have DY := Lib.hid hdy
                        clear hdy
                        have HM2 : Hid (mdl zs ys a.data.toList b.data.toList = -1) := Lib.hid (by
                          rw [HM.out]; unfold mHead; rw [DX.out, DY.out]; simp)
                        go_wp2_with (go_at_call 20; refine (adig_any x (by omega) _).mono ?_; rw [DX.out])
                        rintro e wz ⟨rfl, rfl⟩
                        go_wp2_with (go_at_call 20; refine (adig_any y (by omega) _).mono ?_; rw [DY.out])
                        rintro e wz ⟨rfl, rfl⟩
                        go_wp2
                        go_ret
                        exact ⟨ret_int HM2.out.symm, BW.out⟩
                    | false =>
                      have DX := Lib.hid hdx
                      clear hdx
                      cases hdy : dgB y.data.toList with
                      | true =>
                        have DY := Lib.hid hdy
                        clear hdy
                        have HM2 : Hid (mdl zs ys a.data.toList b.data.toList = 1) := Lib.hid (by
                          rw [HM.out]; unfold mHead; rw [DX.out, DY.out]; simp)
                        go_wp2_with (go_at_call 20; refine (adig_any x (by omega) _).mono ?_; rw [DX.out])
                        rintro e wz ⟨rfl, rfl⟩
                        go_wp2_with (go_at_call 20; refine (adig_any y (by omega) _).mono ?_; rw [DY.out])
                        rintro e wz ⟨rfl, rfl⟩
                        go_wp2
                        go_ret
                        exact ⟨ret_int HM2.out.symm, BW.out⟩
                      | false =>
                        have DY := Lib.hid hdy
                        clear hdy
                        cases hls : Op.bytesLess x.toList y.toList with
                        | true =>
                          have HM2 : Hid (mdl zs ys a.data.toList b.data.toList = -1) := Lib.hid (by
                            rw [HM.out]; unfold mHead; rw [DX.out, DY.out, ← ByteArray.toList_eq x, ← ByteArray.toList_eq y, hls]; simp)
                          go_wp2_with (go_at_call 20; refine (adig_any x (by omega) _).mono ?_; rw [DX.out])
                          rintro e wz ⟨rfl, rfl⟩
                          go_wp2_with (go_at_call 20; refine (adig_any y (by omega) _).mono ?_; rw [DY.out])
                          rintro e wz ⟨rfl, rfl⟩
                          go_wp2
                          go_ret
                          exact ⟨ret_int HM2.out.symm, BW.out⟩
                        | false =>
                          have HM2 : Hid (mdl zs ys a.data.toList b.data.toList = 1) := Lib.hid (by
                            rw [HM.out]; unfold mHead; rw [DX.out, DY.out, ← ByteArray.toList_eq x, ← ByteArray.toList_eq y, hls]; simp)
                          go_wp2_with (go_at_call 20; refine (adig_any x (by omega) _).mono ?_; rw [DX.out])
                          rintro e wz ⟨rfl, rfl⟩
                          go_wp2_with (go_at_call 20; refine (adig_any y (by omega) _).mono ?_; rw [DY.out])
                          rintro e wz ⟨rfl, rfl⟩
                          go_wp2
                          go_ret
                          exact ⟨ret_int HM2.out.symm, BW.out⟩
                · have HM : Hid (mdl zs ys a.data.toList b.data.toList = if lp < lq then -1 else if lq < lp then 1 else 0) := Lib.hid (by
                    rw [HFN.out, mIds_end ps qs (fun j h1 h2 => HALL.out j (by have := LP.out; have := LQ.out; omega)), LP.out, LQ.out])
                  by_cases h1 : lp < lq
                  · go_wp2
                    go_ret
                    exact ⟨ret_int (by rw [HM.out, if_pos h1]), BW.out⟩
                  · by_cases h2 : lq < lp
                    · exact absurd h2 hmin
                    · go_wp2
                      go_ret
                      exact ⟨ret_int (HM.out.trans (by rw [if_neg h1, if_neg h2])).symm, BW.out⟩
          | false =>
            have HFN := Lib.hid (show mdl zs ys a.data.toList b.data.toList = 1 by rw [HRS.out, ← ByteArray.toList_eq a, ← ByteArray.toList_eq b, hea, heb, if_pos (by decide)]; rfl)
            go_wp2
            go_ret
            exact ⟨ret_int HFN.out.symm, Below.refl _ _⟩
        | false =>
          cases heb : b.toList.isEmpty with
          | true =>
            have HFN := Lib.hid (show mdl zs ys a.data.toList b.data.toList = -1 by rw [HRS.out, ← ByteArray.toList_eq a, ← ByteArray.toList_eq b, hea, heb, if_pos (by decide)]; rfl)
            go_wp2
            go_ret
            exact ⟨ret_int HFN.out.symm, Below.refl _ _⟩
          | false =>
            have HFN0 := Lib.hid (show mdl zs ys a.data.toList b.data.toList = mIds (idl (stripP a.data.toList)) (idl (stripP b.data.toList)) by rw [HRS.out, ← ByteArray.toList_eq a, ← ByteArray.toList_eq b, hea, heb, if_neg (by decide)])
            go_wp2_with (go_at_call 19; refine (strip_any a (by omega) _).mono ?_)
            rintro e w1 ⟨ta, rfl, hta, hts, rfl⟩
            have HTA := Lib.hid hta
            clear hta
            go_wp2_with (go_at_call 18; refine (ids_any ta (by omega) _).mono ?_)
            rintro e w1 ⟨P, cp, rfl, hrp, hb1⟩
            have B1 := Lib.hid hb1; have R1 := Lib.hid hrp
            clear hb1 hrp
            go_wp2_with (go_at_call 19; refine (strip_any b (by omega) _).mono ?_)
            rintro e wz ⟨tb, rfl, htb, htbs, rfl⟩
            have HTB := Lib.hid htb
            clear htb
            go_wp2_with (go_at_call 18; refine (ids_any tb (by omega) _).mono ?_)
            rintro e w2 ⟨Q, cq, rfl, hrq, hb2⟩
            have BW := Lib.hid (B1.out.trans (hb2.mono B1.out.size))
            have R2 := Lib.hid hrq
            have R1' := Lib.hid ((R1.out.below hb2).more hb2.size)
            have hLp := ids_bound ta (by omega)
            have hLq := ids_bound tb (by omega)
            have BP : Hid (∀ (i : Nat) (x : ByteArray), i < (idl ta.data.toList).length → x.data.toList = (idl ta.data.toList).getD i [] → x.size ≤ 1048576) := Lib.hid (fun i x hi e => id_bound ta x (by omega) i hi e)
            have BQ : Hid (∀ (i : Nat) (x : ByteArray), i < (idl tb.data.toList).length → x.data.toList = (idl tb.data.toList).getD i [] → x.size ≤ 1048576) := Lib.hid (fun i x hi e => id_bound tb x (by omega) i hi e)
            have SP : Hid (∀ (i : Nat) (x : ByteArray), i < (idl ta.data.toList).length → x.data.toList = (idl ta.data.toList).getD i [] → short x.data.toList) := Lib.hid (fun i x hi e => by rw [e]; apply SA.out; rw [← HTA.out]; exact getD_mem _ i hi)
            have SQ : Hid (∀ (i : Nat) (x : ByteArray), i < (idl tb.data.toList).length → x.data.toList = (idl tb.data.toList).getD i [] → short x.data.toList) := Lib.hid (fun i x hi e => by rw [e]; apply SB.out; rw [← HTB.out]; exact getD_mem _ i hi)
            clear hb2 hrq hea heb
            obtain ⟨ps, hps⟩ : ∃ ps, ps = idl ta.data.toList := ⟨_, rfl⟩
            obtain ⟨qs, hqs⟩ : ∃ qs, qs = idl tb.data.toList := ⟨_, rfl⟩
            have HFN : Hid (mdl zs ys a.data.toList b.data.toList = mIds ps qs) := Lib.hid (by rw [HFN0.out, hps, hqs, HTA.out, HTB.out])
            obtain ⟨lp, hlp⟩ : ∃ lp, lp = (idl ta.data.toList).length := ⟨_, rfl⟩
            obtain ⟨lq, hlq⟩ : ∃ lq, lq = (idl tb.data.toList).length := ⟨_, rfl⟩
            have LP : Hid (ps.length = lp) := Lib.hid (by rw [hlp, hps])
            have LQ : Hid (qs.length = lq) := Lib.hid (by rw [hlq, hqs])
            have RP : Hid (Reads w2 w2.heap.size 1 P lp (ps.map strV)) := Lib.hid (by rw [hlp, hps]; exact R1'.out)
            have RQ : Hid (Reads w2 w2.heap.size 1 Q lq (qs.map strV)) := Lib.hid (by rw [hlq, hqs]; exact R2.out)
            rw [← hlp, ← hlq]
            rw [← hlp] at hLp BP SP
            rw [← hlq] at hLq BQ SQ
            rw [← hps] at BP SP
            rw [← hqs] at BQ SQ
            clear hps hqs hlp hlq R1 R1' R2
            by_cases hmin : lq < lp
            · go_wp2
              go_loop [16] (fun i => ∃ k : Nat, i = .int .i64 k ∧ k ≤ lq ∧ ∀ j, j < k → ps.getD j [] = qs.getD j []) (fun i => lq - (intOf i).toNat)
              case atStart => exact ⟨0, rfl, by omega, fun j hj => by omega⟩
              case round =>
                obtain ⟨k, rfl, hk, hall⟩ := hrel
                have HALL := Lib.hid hall
                clear hall
                by_cases hlt : k < lq
                · obtain ⟨bp, op, rfl, _, hcp⟩ := reads_str RP.out (by omega)
                  obtain ⟨x, hx, hcx⟩ := hcp k (by omega)
                  obtain ⟨bq, oq, rfl, _, hcq⟩ := reads_str RQ.out (by omega)
                  obtain ⟨y, hy, hcy⟩ := hcq k (by omega)
                  clear hcp hcq
                  have hxz := BP.out k x (by omega) hx
                  have hyz := BQ.out k y (by omega) hy
                  have HX := Lib.hid hx; have HY := Lib.hid hy
                  clear hx hy
                  cases heq : (x.toList == y.toList) with
                  | true =>
                    have HE : Hid (x.data.toList = y.data.toList) := Lib.hid (by rw [ByteArray.toList_eq, ByteArray.toList_eq] at heq; simpa using heq)
                    go_wp2
                    go_round
                    case rel =>
                      refine ⟨k + 1, by go_num, by omega, fun j hj => ?_⟩
                      by_cases e : j = k
                      · rw [e, ← HX.out, ← HY.out]; exact HE.out
                      · exact HALL.out j (by omega)
                    case measure => simp [intOf]; omega
                  | false =>
                    have HE : Hid (x.data.toList ≠ y.data.toList) := Lib.hid (by rw [ByteArray.toList_eq, ByteArray.toList_eq] at heq; simpa using heq)
                    have HM : Hid (mdl zs ys a.data.toList b.data.toList = mHead x.data.toList y.data.toList) := Lib.hid (by
                      rw [HFN.out, mIds_at k ps qs (by have := LP.out; omega) (by have := LQ.out; omega) HALL.out (by rw [← HX.out, ← HY.out]; exact HE.out), HX.out, HY.out])
                    have SX := Lib.hid (SP.out k x (by omega) HX.out)
                    have SY := Lib.hid (SQ.out k y (by omega) HY.out)
                    cases hdx : dgB x.data.toList with
                    | true =>
                      have DX := Lib.hid hdx
                      clear hdx
                      cases hdy : dgB y.data.toList with
                      | true =>
                        have DY := Lib.hid hdy
                        clear hdy
                        have hx9 : x.size ≤ 9 := by
                          rcases Nat.lt_or_ge 9 x.size with q | q
                          · exact absurd ⟨by rw [size_list]; exact q, DX.out⟩ SX.out
                          · exact q
                        have hy9 : y.size ≤ 9 := by
                          rcases Nat.lt_or_ge 9 y.size with q | q
                          · exact absurd ⟨by rw [size_list]; exact q, DY.out⟩ SY.out
                          · exact q
                        obtain ⟨vx, hvx⟩ : ∃ vx : Nat, decL 0 x.data.toList = vx := ⟨_, rfl⟩
                        obtain ⟨vy, hvy⟩ : ∃ vy : Nat, decL 0 y.data.toList = vy := ⟨_, rfl⟩
                        have HM2 : Hid (mdl zs ys a.data.toList b.data.toList = if vx < vy then -1 else if vy < vx then 1 else if x.size < y.size then -1 else 1) := Lib.hid (by
                          rw [HM.out]; unfold mHead; rw [if_pos ⟨DX.out, DY.out⟩, hvx, hvy, size_list, size_list])
                        have VX := Lib.hid hvx; have VY := Lib.hid hvy
                        clear hvx hvy
                        go_wp2_with (go_at_call 20; refine (adig_any x (by omega) _).mono ?_; rw [DX.out])
                        rintro e wz ⟨rfl, rfl⟩
                        go_wp2_with (go_at_call 20; refine (adig_any y (by omega) _).mono ?_; rw [DY.out])
                        rintro e wz ⟨rfl, rfl⟩
                        go_wp2_with (go_at_call 25; refine (num_any x (by omega) ((dgB_iff _).1 DX.out).1 _).mono ?_; rw [VX.out])
                        rintro e wz ⟨rfl, rfl⟩
                        go_wp2_with (go_at_call 25; refine (num_any y (by omega) ((dgB_iff _).1 DY.out).1 _).mono ?_; rw [VY.out])
                        rintro e wz ⟨rfl, rfl⟩
                        by_cases h1 : vx < vy
                        · go_wp2
                          go_ret
                          exact ⟨ret_int (by rw [HM2.out, if_pos h1]), BW.out⟩
                        · by_cases h2 : vy < vx
                          · go_wp2
                            go_ret
                            exact ⟨ret_int (by rw [HM2.out, if_neg h1, if_pos h2]), BW.out⟩
                          · by_cases h3 : x.size < y.size
                            · go_wp2
                              go_ret
                              exact ⟨ret_int (by rw [HM2.out, if_neg h1, if_neg h2, if_pos h3]), BW.out⟩
                            · go_wp2
                              go_ret
                              exact ⟨ret_int (by rw [HM2.out, if_neg h1, if_neg h2, if_neg h3]), BW.out⟩
                      | false =>
                        have DY := Lib.hid hdy
                        clear hdy
                        have HM2 : Hid (mdl zs ys a.data.toList b.data.toList = -1) := Lib.hid (by
                          rw [HM.out]; unfold mHead; rw [DX.out, DY.out]; simp)
                        go_wp2_with (go_at_call 20; refine (adig_any x (by omega) _).mono ?_; rw [DX.out])
                        rintro e wz ⟨rfl, rfl⟩
                        go_wp2_with (go_at_call 20; refine (adig_any y (by omega) _).mono ?_; rw [DY.out])
                        rintro e wz ⟨rfl, rfl⟩
                        go_wp2
                        go_ret
                        exact ⟨ret_int HM2.out.symm, BW.out⟩
                    | false =>
                      have DX := Lib.hid hdx
                      clear hdx
                      cases hdy : dgB y.data.toList with
                      | true =>
                        have DY := Lib.hid hdy
                        clear hdy
                        have HM2 : Hid (mdl zs ys a.data.toList b.data.toList = 1) := Lib.hid (by
                          rw [HM.out]; unfold mHead; rw [DX.out, DY.out]; simp)
                        go_wp2_with (go_at_call 20; refine (adig_any x (by omega) _).mono ?_; rw [DX.out])
                        rintro e wz ⟨rfl, rfl⟩
                        go_wp2_with (go_at_call 20; refine (adig_any y (by omega) _).mono ?_; rw [DY.out])
                        rintro e wz ⟨rfl, rfl⟩
                        go_wp2
                        go_ret
                        exact ⟨ret_int HM2.out.symm, BW.out⟩
                      | false =>
                        have DY := Lib.hid hdy
                        clear hdy
                        cases hls : Op.bytesLess x.toList y.toList with
                        | true =>
                          have HM2 : Hid (mdl zs ys a.data.toList b.data.toList = -1) := Lib.hid (by
                            rw [HM.out]; unfold mHead; rw [DX.out, DY.out, ← ByteArray.toList_eq x, ← ByteArray.toList_eq y, hls]; simp)
                          go_wp2_with (go_at_call 20; refine (adig_any x (by omega) _).mono ?_; rw [DX.out])
                          rintro e wz ⟨rfl, rfl⟩
                          go_wp2_with (go_at_call 20; refine (adig_any y (by omega) _).mono ?_; rw [DY.out])
                          rintro e wz ⟨rfl, rfl⟩
                          go_wp2
                          go_ret
                          exact ⟨ret_int HM2.out.symm, BW.out⟩
                        | false =>
                          have HM2 : Hid (mdl zs ys a.data.toList b.data.toList = 1) := Lib.hid (by
                            rw [HM.out]; unfold mHead; rw [DX.out, DY.out, ← ByteArray.toList_eq x, ← ByteArray.toList_eq y, hls]; simp)
                          go_wp2_with (go_at_call 20; refine (adig_any x (by omega) _).mono ?_; rw [DX.out])
                          rintro e wz ⟨rfl, rfl⟩
                          go_wp2_with (go_at_call 20; refine (adig_any y (by omega) _).mono ?_; rw [DY.out])
                          rintro e wz ⟨rfl, rfl⟩
                          go_wp2
                          go_ret
                          exact ⟨ret_int HM2.out.symm, BW.out⟩
                · have HM : Hid (mdl zs ys a.data.toList b.data.toList = if lp < lq then -1 else if lq < lp then 1 else 0) := Lib.hid (by
                    rw [HFN.out, mIds_end ps qs (fun j h1 h2 => HALL.out j (by have := LP.out; have := LQ.out; omega)), LP.out, LQ.out])
                  by_cases h1 : lp < lq
                  · go_wp2
                    go_ret
                    exact ⟨ret_int (by rw [HM.out, if_pos h1]), BW.out⟩
                  · by_cases h2 : lq < lp
                    · go_wp2
                      go_ret
                      exact ⟨ret_int (by rw [HM.out, if_neg h1, if_pos h2]), BW.out⟩
                    · exact absurd hmin h2
            · go_wp2
              go_loop [16] (fun i => ∃ k : Nat, i = .int .i64 k ∧ k ≤ lp ∧ ∀ j, j < k → ps.getD j [] = qs.getD j []) (fun i => lp - (intOf i).toNat)
              case atStart => exact ⟨0, rfl, by omega, fun j hj => by omega⟩
              case round =>
                obtain ⟨k, rfl, hk, hall⟩ := hrel
                have HALL := Lib.hid hall
                clear hall
                by_cases hlt : k < lp
                · obtain ⟨bp, op, rfl, _, hcp⟩ := reads_str RP.out (by omega)
                  obtain ⟨x, hx, hcx⟩ := hcp k (by omega)
                  obtain ⟨bq, oq, rfl, _, hcq⟩ := reads_str RQ.out (by omega)
                  obtain ⟨y, hy, hcy⟩ := hcq k (by omega)
                  clear hcp hcq
                  have hxz := BP.out k x (by omega) hx
                  have hyz := BQ.out k y (by omega) hy
                  have HX := Lib.hid hx; have HY := Lib.hid hy
                  clear hx hy
                  cases heq : (x.toList == y.toList) with
                  | true =>
                    have HE : Hid (x.data.toList = y.data.toList) := Lib.hid (by rw [ByteArray.toList_eq, ByteArray.toList_eq] at heq; simpa using heq)
                    go_wp2
                    go_round
                    case rel =>
                      refine ⟨k + 1, by go_num, by omega, fun j hj => ?_⟩
                      by_cases e : j = k
                      · rw [e, ← HX.out, ← HY.out]; exact HE.out
                      · exact HALL.out j (by omega)
                    case measure => simp [intOf]; omega
                  | false =>
                    have HE : Hid (x.data.toList ≠ y.data.toList) := Lib.hid (by rw [ByteArray.toList_eq, ByteArray.toList_eq] at heq; simpa using heq)
                    have HM : Hid (mdl zs ys a.data.toList b.data.toList = mHead x.data.toList y.data.toList) := Lib.hid (by
                      rw [HFN.out, mIds_at k ps qs (by have := LP.out; omega) (by have := LQ.out; omega) HALL.out (by rw [← HX.out, ← HY.out]; exact HE.out), HX.out, HY.out])
                    have SX := Lib.hid (SP.out k x (by omega) HX.out)
                    have SY := Lib.hid (SQ.out k y (by omega) HY.out)
                    cases hdx : dgB x.data.toList with
                    | true =>
                      have DX := Lib.hid hdx
                      clear hdx
                      cases hdy : dgB y.data.toList with
                      | true =>
                        have DY := Lib.hid hdy
                        clear hdy
                        have hx9 : x.size ≤ 9 := by
                          rcases Nat.lt_or_ge 9 x.size with q | q
                          · exact absurd ⟨by rw [size_list]; exact q, DX.out⟩ SX.out
                          · exact q
                        have hy9 : y.size ≤ 9 := by
                          rcases Nat.lt_or_ge 9 y.size with q | q
                          · exact absurd ⟨by rw [size_list]; exact q, DY.out⟩ SY.out
                          · exact q
                        obtain ⟨vx, hvx⟩ : ∃ vx : Nat, decL 0 x.data.toList = vx := ⟨_, rfl⟩
                        obtain ⟨vy, hvy⟩ : ∃ vy : Nat, decL 0 y.data.toList = vy := ⟨_, rfl⟩
                        have HM2 : Hid (mdl zs ys a.data.toList b.data.toList = if vx < vy then -1 else if vy < vx then 1 else if x.size < y.size then -1 else 1) := Lib.hid (by
                          rw [HM.out]; unfold mHead; rw [if_pos ⟨DX.out, DY.out⟩, hvx, hvy, size_list, size_list])
                        have VX := Lib.hid hvx; have VY := Lib.hid hvy
                        clear hvx hvy
                        go_wp2_with (go_at_call 20; refine (adig_any x (by omega) _).mono ?_; rw [DX.out])
                        rintro e wz ⟨rfl, rfl⟩
                        go_wp2_with (go_at_call 20; refine (adig_any y (by omega) _).mono ?_; rw [DY.out])
                        rintro e wz ⟨rfl, rfl⟩
                        go_wp2_with (go_at_call 25; refine (num_any x (by omega) ((dgB_iff _).1 DX.out).1 _).mono ?_; rw [VX.out])
                        rintro e wz ⟨rfl, rfl⟩
                        go_wp2_with (go_at_call 25; refine (num_any y (by omega) ((dgB_iff _).1 DY.out).1 _).mono ?_; rw [VY.out])
                        rintro e wz ⟨rfl, rfl⟩
                        by_cases h1 : vx < vy
                        · go_wp2
                          go_ret
                          exact ⟨ret_int (by rw [HM2.out, if_pos h1]), BW.out⟩
                        · by_cases h2 : vy < vx
                          · go_wp2
                            go_ret
                            exact ⟨ret_int (by rw [HM2.out, if_neg h1, if_pos h2]), BW.out⟩
                          · by_cases h3 : x.size < y.size
                            · go_wp2
                              go_ret
                              exact ⟨ret_int (by rw [HM2.out, if_neg h1, if_neg h2, if_pos h3]), BW.out⟩
                            · go_wp2
                              go_ret
                              exact ⟨ret_int (by rw [HM2.out, if_neg h1, if_neg h2, if_neg h3]), BW.out⟩
                      | false =>
                        have DY := Lib.hid hdy
                        clear hdy
                        have HM2 : Hid (mdl zs ys a.data.toList b.data.toList = -1) := Lib.hid (by
                          rw [HM.out]; unfold mHead; rw [DX.out, DY.out]; simp)
                        go_wp2_with (go_at_call 20; refine (adig_any x (by omega) _).mono ?_; rw [DX.out])
                        rintro e wz ⟨rfl, rfl⟩
                        go_wp2_with (go_at_call 20; refine (adig_any y (by omega) _).mono ?_; rw [DY.out])
                        rintro e wz ⟨rfl, rfl⟩
                        go_wp2
                        go_ret
                        exact ⟨ret_int HM2.out.symm, BW.out⟩
                    | false =>
                      have DX := Lib.hid hdx
                      clear hdx
                      cases hdy : dgB y.data.toList with
                      | true =>
                        have DY := Lib.hid hdy
                        clear hdy
                        have HM2 : Hid (mdl zs ys a.data.toList b.data.toList = 1) := Lib.hid (by
                          rw [HM.out]; unfold mHead; rw [DX.out, DY.out]; simp)
                        go_wp2_with (go_at_call 20; refine (adig_any x (by omega) _).mono ?_; rw [DX.out])
                        rintro e wz ⟨rfl, rfl⟩
                        go_wp2_with (go_at_call 20; refine (adig_any y (by omega) _).mono ?_; rw [DY.out])
                        rintro e wz ⟨rfl, rfl⟩
                        go_wp2
                        go_ret
                        exact ⟨ret_int HM2.out.symm, BW.out⟩
                      | false =>
                        have DY := Lib.hid hdy
                        clear hdy
                        cases hls : Op.bytesLess x.toList y.toList with
                        | true =>
                          have HM2 : Hid (mdl zs ys a.data.toList b.data.toList = -1) := Lib.hid (by
                            rw [HM.out]; unfold mHead; rw [DX.out, DY.out, ← ByteArray.toList_eq x, ← ByteArray.toList_eq y, hls]; simp)
                          go_wp2_with (go_at_call 20; refine (adig_any x (by omega) _).mono ?_; rw [DX.out])
                          rintro e wz ⟨rfl, rfl⟩
                          go_wp2_with (go_at_call 20; refine (adig_any y (by omega) _).mono ?_; rw [DY.out])
                          rintro e wz ⟨rfl, rfl⟩
                          go_wp2
                          go_ret
                          exact ⟨ret_int HM2.out.symm, BW.out⟩
                        | false =>
                          have HM2 : Hid (mdl zs ys a.data.toList b.data.toList = 1) := Lib.hid (by
                            rw [HM.out]; unfold mHead; rw [DX.out, DY.out, ← ByteArray.toList_eq x, ← ByteArray.toList_eq y, hls]; simp)
                          go_wp2_with (go_at_call 20; refine (adig_any x (by omega) _).mono ?_; rw [DX.out])
                          rintro e wz ⟨rfl, rfl⟩
                          go_wp2_with (go_at_call 20; refine (adig_any y (by omega) _).mono ?_; rw [DY.out])
                          rintro e wz ⟨rfl, rfl⟩
                          go_wp2
                          go_ret
                          exact ⟨ret_int HM2.out.symm, BW.out⟩
                · have HM : Hid (mdl zs ys a.data.toList b.data.toList = if lp < lq then -1 else if lq < lp then 1 else 0) := Lib.hid (by
                    rw [HFN.out, mIds_end ps qs (fun j h1 h2 => HALL.out j (by have := LP.out; have := LQ.out; omega)), LP.out, LQ.out])
                  by_cases h1 : lp < lq
                  · go_wp2
                    go_ret
                    exact ⟨ret_int (by rw [HM.out, if_pos h1]), BW.out⟩
                  · by_cases h2 : lq < lp
                    · exact absurd h2 hmin
                    · go_wp2
                      go_ret
                      exact ⟨ret_int (HM.out.trans (by rw [if_neg h1, if_neg h2])).symm, BW.out⟩
end Go.Proofs.YtanhijhhceakjaaDoor
