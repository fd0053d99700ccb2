/- The maker, zzOutStartsIdent, the text read back (written by mkidz.py). -/
import Derived.Test.YtppcjkajjahclaaFmtIdy
namespace Go.Proofs.YtppcjkajjahclaaFmt
open Go.RowKit Go.Shelf
set_option linter.unusedVariables false
set_option linter.unusedSimpArgs false
theorem reads_cell {k : IntKind} {w : World} {B : Nat} {A : Option Addr} {n : Nat} {zs : List Int} (h : Reads w B 1 A n (zs.map (Value.int k))) (hn : 0 < n) :
    ∃ b off, A = some ⟨b, off, none⟩ ∧ b < B ∧ ∀ i, i < n → w.cell? ⟨b, off + i, none⟩ = some (.int k (zs.getD i 0)) := by
  have hlen : zs.length = n := by have := h.1; simpa using this
  obtain ⟨ad, u, rfl, hb, _, hc⟩ := h.at_ hn
  obtain ⟨b, off, spot⟩ := ad
  have hs : spot = none := World.cell?_spot (show w.cell? ⟨b, off, spot⟩ = some u from hc)
  subst hs
  refine ⟨b, off, rfl, hb, fun i hi => ?_⟩
  obtain ⟨ad', u', e1, _, hx, hc'⟩ := h.at_ hi
  injection e1 with e1
  subst e1
  rw [List.getElem?_map, List.getElem?_eq_getElem (by omega)] at hx
  have e : (⟨b, off, none⟩ : Addr).add i = ⟨b, off + i, none⟩ := by unfold Addr.add; split <;> simp_all
  rw [e] at hc'
  rw [hc', List.getD_eq_getElem?_getD, List.getElem?_eq_getElem (by omega)]
  simp only [Option.map_some, Option.some.injEq] at hx
  exact congrArg some hx.symm
theorem own_slice {w : World} {B n : Nat} {v : Value} {xs : List Value} (h : w.ownsRow B 5 1 v n xs) : ∃ A c, v = .slice A n c := by
  rcases h.2 with ⟨rfl, rfl⟩ | ⟨g, cap, cur, rfl, _⟩
  · exact ⟨none, 0, rfl⟩
  · exact ⟨_, _, rfl⟩
theorem cellsB_ints (l : List UInt8) : cellsB l = (l.map (fun b => (b.toNat : Int))).map (Value.int .u8) := by unfold cellsB; rw [List.map_map]; rfl
theorem ints_get (l : List UInt8) (i : Nat) : (l.map (fun b => (b.toNat : Int))).getD i 0 = (tb l i : Nat) := by
  unfold tb
  rw [List.getD_eq_getElem?_getD, List.getD_eq_getElem?_getD, List.getElem?_map]
  cases l[i]? <;> rfl
theorem cellsB_take (t : List UInt8) (k : Nat) (hk : k < t.length) : cellsB (t.take (k + 1)) = cellsB (t.take k) ++ [.int .u8 (tb t k : Nat)] := by
  rw [List.take_succ_eq_append_getElem hk]
  unfold cellsB tb
  rw [List.map_append, List.getD_eq_getElem?_getD, List.getElem?_eq_getElem hk]
  rfl
theorem conv_back {w W : World} {B : Nat} {l : List UInt8} {A : Option Addr} {n c : Nat} (h : w.ownsRow B 5 1 (.slice A n c) n (cellsB l)) : (convert 27 9 (.slice A n c)).run Tryf.prog w = .ok (.string ⟨l.toArray⟩) w := by
  have hn : l.length = n := by have := h.1; unfold cellsB at this; simpa using this
  have R := Reads.of_own h
  cases A with
  | none =>
    have h0 : n = 0 := by
      rcases h.2 with ⟨_, h0⟩ | ⟨g, cap, cur, hv, _⟩
      · exact h0
      · injection hv with a; cases a
    subst h0
    obtain rfl := List.eq_nil_of_length_eq_zero hn
    rw [run_convert_bytes_string w 27 9 5 _ _ _ Tryf.underlying27 Tryf.underlying5 Tryf.underlying9]
    show (Conv.bytesToString (.slice none 0 _)).run Tryf.prog w = _
    simp [Conv.bytesToString]
    rfl
  | some ad =>
    subst hn
    refine run_convert_bytes_back w 27 9 5 ad c l Tryf.underlying27 Tryf.underlying5 Tryf.underlying9 (fun j hj => ?_)
    obtain ⟨ad', u', e1, _, hx, hc'⟩ := R.at_ hj
    injection e1 with e1
    subst e1
    rw [hc', ← hx]
    unfold cellsB
    rw [List.getElem?_map, List.getElem?_eq_getElem hj]
    rfl
def freshA (asc : Bool) : Array Value := #[.pointer none, .slice none 0 0, .map none, .int .i64 0, .int .u32 0, .int .u16 0, .bool false, .bool asc, .int .u8 0, .bool false, .int .u8 0, .bool false, .int .u8 0, .slice none 0 0, .slice none 0 0, .slice none 0 0, .map none, .slice none 0 0, .slice none 0 0, .pointer none, .slice none 0 0, .slice none 0 0, .map none, .slice none 0 0, .string ⟨#[]⟩, .int .i64 0, .int .i64 0, .int .i64 0, .int .i64 0, .int .i64 0, .int .i64 0, .bool false, .int .i64 0, .int .i64 0, .int .i64 0, .int .i32 0, .int .u32 0, .bool false, .bool false, .bool false, .bool false, .int .i64 0, .int .i64 0]
def NewPost (asc : Bool) (w : World) (e : Ending) (w' : World) : Prop :=
  e = .returned (.pointer (some ⟨w.heap.size, 0, none⟩)) ∧ IsP w.heap.size w.heap.size (freshA asc) none 0 [] w' ∧ Below w.heap.size w w' ∧ w.heap.size < w'.heap.size
set_option maxHeartbeats 1000000 in
set_option maxRecDepth 100000 in
theorem new_any (asc : Bool) (w : World) :
    Calls Tryf.prog 6 #[.slice none 0 0, .int .i64 0, .bool false, .bool asc] w (NewPost asc w) := by
  have HP : Hid (IsP w.heap.size w.heap.size (freshA asc) none 0 [] (w.alloc (.cells (freshA asc) 60))) := Lib.hid ⟨Nat.le_refl _, rfl, Blk.new w _ _, (World.ownsRow_nil w _ 5 1).alloc _⟩
  go_enter Tryf.func6, Tryf.ntmps6
  go_wp2
  go_ret
  exact ⟨rfl, HP.out, (Below.refl _ _).alloc (Nat.le_refl _) _, by simp⟩
set_option maxHeartbeats 1000000 in
set_option maxRecDepth 100000 in
theorem css_any {B b : Nat} {K : Array Value} {A : Option Addr} {cap : Nat} {bs : List Value} (w : World) (h : IsP B b K A cap bs w) (L : Nat) (hL : bs.length = L) :
    Calls Tryf.prog 8 #[.pointer (some ⟨b, 0, none⟩)] w fun e w' => e = .returned (.slice A L cap) ∧ w = w' := by
  have c15 : w.cell? ⟨b, 15, none⟩ = some (.slice A L cap) := h.css hL
  clear h hL
  go_enter Tryf.func8, Tryf.ntmps8
  go_wp2
  go_ret
  exact ⟨rfl, rfl⟩
/-- The printed text of a fresh printer. -/
def IdPost (b : Nat) (K : Array Value) (t : List UInt8) (w : World) (e : Ending) (w' : World) : Prop :=
  e = .returned (.tuple #[]) ∧ (∃ A' cap', IsP b b K A' cap' (cellsB (outI t t.length)) w') ∧ Below b w w'
set_option maxHeartbeats 1000000 in
set_option maxRecDepth 100000 in
theorem normal_any {b : Nat} {K : Array Value} (ao : Bool) (hao : K[7]? = some (.bool ao)) (s : ByteArray) (hs : s.size ≤ 1048576) (hd : Dom s ao) (ws : Int) (w : World) (h : IsP b b K none 0 [] w) (hB : b ≤ w.heap.size) (hT : Lib.Utf8Tabs 0 1 w) :
    Calls Tryf.prog 7 #[.pointer (some ⟨b, 0, none⟩), .string s, .int .u8 ws] w (IdPost b K s.data.toList w) := by
  have key : Calls Tryf.prog 13 #[.pointer (some ⟨b, 0, none⟩), .string s, .int .u8 0, .int .u8 ws] w (Printed b b K none ([] ++ cellsB (outI s.data.toList s.data.toList.length)) w) := by
    by_cases hst : startsI s.data.toList
    · exact ident_b ao hao s hs hd ws w h hB 0 rfl (by omega) hT hst
    · exact ident_a ao hao s hs hd ws w h hB 0 rfl (by omega) hT hst
  have KEY := Lib.hid key
  clear key h hd hT hao
  go_enter Tryf.func7, Tryf.ntmps7
  go_wp2_with (go_at_call 13; (with_reducible refine KEY.out.mono ?_); rintro e w1 ⟨rfl, hp, hb, _⟩; have HP := Lib.hid hp; have HB := Lib.hid hb; clear hp hb)
  go_end0
  obtain ⟨A', c', h1, _⟩ := HP.out
  exact ⟨rfl, ⟨A', c', h1⟩, HB.out⟩
set_option maxHeartbeats 4000000 in
set_option maxRecDepth 100000 in
theorem outs_any (O : List UInt8) (b off n c : Nat) (w : World) (hn : n = O.length) (h16 : n ≤ 16777216) (h0 : 0 < n) (hcell : ∀ p, p < n → w.cell? ⟨b, off + p, none⟩ = some (.int .u8 (tb O p : Nat)))
    (hst : tb O 0 = 92 ∨ nsB (tb O 0) ∨ (tb O 0 = 45 ∧ 1 < n ∧ (nsB (tb O 1) ∨ tb O 1 = 45 ∨ tb O 1 = 92))) :
    Calls Tryf.prog 9 #[.slice (some ⟨b, off, none⟩) n c] w fun e w' => e = .returned (.bool true) ∧ Below w.heap.size w w' := by
  have c0 : w.cell? ⟨b, off, none⟩ = some (.int .u8 (tb O 0 : Nat)) := hcell 0 h0
  have n0 : ((n : Int) == 0) = false := beq_eq_false_iff_ne.2 (by omega)
  have n1 : (0 : Int) < (n : Int) := by omega
  obtain ⟨x, hx⟩ : ∃ x, x = tb O 0 := ⟨_, rfl⟩
  rw [← hx] at c0 hst
  clear hx
  have hst2 : letB x ∨ x = 95 ∨ 128 ≤ x ∨ x = 92 ∨ (x = 45 ∧ 1 < n ∧ (nsB (tb O 1) ∨ tb O 1 = 45 ∨ tb O 1 = 92)) := by
    rcases hst with h | h | h
    · exact .inr (.inr (.inr (.inl h)))
    · unfold nsB at h
      unfold letB
      omega
    · exact .inr (.inr (.inr (.inr h)))
  clear hst
  rcases hst2 with hkp | hkp | hkp | hkp | ⟨hkp, h1, hst⟩
  · clear hcell
    have pl : decide (letB x) = true := decide_eq_true hkp
    have p95 : ((x : Int) == 95) = false := beq_eq_false_iff_ne.2 (by unfold letB at hkp; omega)
    have p92 : ((x : Int) == 92) = false := beq_eq_false_iff_ne.2 (by unfold letB at hkp; omega)
    have p45 : ((x : Int) == 45) = false := beq_eq_false_iff_ne.2 (by unfold letB at hkp; omega)
    have ph : ¬ (128 : Int) ≤ (x : Int) := by unfold letB at hkp; omega
    clear hkp
    go_enter Tryf.func9, Tryf.ntmps9
    go_wp2_with (go_at_call 14; (with_reducible refine (let_any x _).mono ?_); rw [pl]; rintro e wz ⟨rfl, rfl⟩)
    all_goals
      go_ret
      exact ⟨rfl, by repeat (first | exact Below.refl _ _ | apply Below.drew | apply below_drewN)⟩
  · clear hcell
    have pl : decide (letB x) = false := decide_eq_false (by unfold letB; omega)
    have p95 : ((x : Int) == 95) = true := by rw [hkp]; rfl
    have p92 : ((x : Int) == 92) = false := beq_eq_false_iff_ne.2 (by omega)
    have p45 : ((x : Int) == 45) = false := beq_eq_false_iff_ne.2 (by omega)
    have ph : ¬ (128 : Int) ≤ (x : Int) := by omega
    clear hkp
    go_enter Tryf.func9, Tryf.ntmps9
    go_wp2_with (go_at_call 14; (with_reducible refine (let_any x _).mono ?_); rw [pl]; rintro e wz ⟨rfl, rfl⟩)
    all_goals
      go_ret
      exact ⟨rfl, by repeat (first | exact Below.refl _ _ | apply Below.drew | apply below_drewN)⟩
  · clear hcell
    have pl : decide (letB x) = false := decide_eq_false (by unfold letB; omega)
    have p95 : ((x : Int) == 95) = false := beq_eq_false_iff_ne.2 (by omega)
    have p92 : ((x : Int) == 92) = false := beq_eq_false_iff_ne.2 (by omega)
    have p45 : ((x : Int) == 45) = false := beq_eq_false_iff_ne.2 (by omega)
    have ph : (128 : Int) ≤ (x : Int) := by omega
    clear hkp
    go_enter Tryf.func9, Tryf.ntmps9
    go_wp2_with (go_at_call 14; (with_reducible refine (let_any x _).mono ?_); rw [pl]; rintro e wz ⟨rfl, rfl⟩)
    all_goals
      go_ret
      exact ⟨rfl, by repeat (first | exact Below.refl _ _ | apply Below.drew | apply below_drewN)⟩
  · clear hcell
    have pl : decide (letB x) = false := decide_eq_false (by unfold letB; omega)
    have p95 : ((x : Int) == 95) = false := beq_eq_false_iff_ne.2 (by omega)
    have p92 : ((x : Int) == 92) = true := by rw [hkp]; rfl
    have p45 : ((x : Int) == 45) = false := beq_eq_false_iff_ne.2 (by omega)
    have ph : ¬ (128 : Int) ≤ (x : Int) := by omega
    clear hkp
    go_enter Tryf.func9, Tryf.ntmps9
    go_wp2_with (go_at_call 14; (with_reducible refine (let_any x _).mono ?_); rw [pl]; rintro e wz ⟨rfl, rfl⟩)
    all_goals
      go_ret
      exact ⟨rfl, by repeat (first | exact Below.refl _ _ | apply Below.drew | apply below_drewN)⟩
  · have c1 : w.cell? ⟨b, off + 1, none⟩ = some (.int .u8 (tb O 1 : Nat)) := hcell 1 h1
    have n2 : (1 : Int) < (n : Int) := by omega
    obtain ⟨y, hy⟩ : ∃ y, y = tb O 1 := ⟨_, rfl⟩
    rw [← hy] at c1 hst
    have hst2 : letB y ∨ y = 95 ∨ 128 ≤ y ∨ y = 92 ∨ y = 45 := by
      unfold nsB at hst
      unfold letB
      omega
    clear hy hst hcell
    have pl : decide (letB x) = false := decide_eq_false (by unfold letB; omega)
    have p95 : ((x : Int) == 95) = false := beq_eq_false_iff_ne.2 (by omega)
    have p92 : ((x : Int) == 92) = false := beq_eq_false_iff_ne.2 (by omega)
    have p45 : ((x : Int) == 45) = true := by rw [hkp]; rfl
    have ph : ¬ (128 : Int) ≤ (x : Int) := by omega
    clear hkp
    rcases hst2 with hkq | hkq | hkq | hkq | hkq
    · have ql : decide (letB y) = true := decide_eq_true hkq
      have q95 : ((y : Int) == 95) = false := beq_eq_false_iff_ne.2 (by unfold letB at hkq; omega)
      have q92 : ((y : Int) == 92) = false := beq_eq_false_iff_ne.2 (by unfold letB at hkq; omega)
      have q45 : ((y : Int) == 45) = false := beq_eq_false_iff_ne.2 (by unfold letB at hkq; omega)
      have qh : ¬ (128 : Int) ≤ (y : Int) := by unfold letB at hkq; omega
      clear hkq
      go_enter Tryf.func9, Tryf.ntmps9
      go_wp2_with (first | (go_at_call 14; (with_reducible refine (let_any x _).mono ?_); rw [pl]; rintro e wz ⟨rfl, rfl⟩) | (go_at_call 14; (with_reducible refine (let_any y _).mono ?_); rw [ql]; rintro e wz ⟨rfl, rfl⟩))
      all_goals
        go_ret
        exact ⟨rfl, by repeat (first | exact Below.refl _ _ | apply Below.drew | apply below_drewN)⟩
    · have ql : decide (letB y) = false := decide_eq_false (by unfold letB; omega)
      have q95 : ((y : Int) == 95) = true := by rw [hkq]; rfl
      have q92 : ((y : Int) == 92) = false := beq_eq_false_iff_ne.2 (by omega)
      have q45 : ((y : Int) == 45) = false := beq_eq_false_iff_ne.2 (by omega)
      have qh : ¬ (128 : Int) ≤ (y : Int) := by omega
      clear hkq
      go_enter Tryf.func9, Tryf.ntmps9
      go_wp2_with (first | (go_at_call 14; (with_reducible refine (let_any x _).mono ?_); rw [pl]; rintro e wz ⟨rfl, rfl⟩) | (go_at_call 14; (with_reducible refine (let_any y _).mono ?_); rw [ql]; rintro e wz ⟨rfl, rfl⟩))
      all_goals
        go_ret
        exact ⟨rfl, by repeat (first | exact Below.refl _ _ | apply Below.drew | apply below_drewN)⟩
    · have ql : decide (letB y) = false := decide_eq_false (by unfold letB; omega)
      have q95 : ((y : Int) == 95) = false := beq_eq_false_iff_ne.2 (by omega)
      have q92 : ((y : Int) == 92) = false := beq_eq_false_iff_ne.2 (by omega)
      have q45 : ((y : Int) == 45) = false := beq_eq_false_iff_ne.2 (by omega)
      have qh : (128 : Int) ≤ (y : Int) := by omega
      clear hkq
      go_enter Tryf.func9, Tryf.ntmps9
      go_wp2_with (first | (go_at_call 14; (with_reducible refine (let_any x _).mono ?_); rw [pl]; rintro e wz ⟨rfl, rfl⟩) | (go_at_call 14; (with_reducible refine (let_any y _).mono ?_); rw [ql]; rintro e wz ⟨rfl, rfl⟩))
      all_goals
        go_ret
        exact ⟨rfl, by repeat (first | exact Below.refl _ _ | apply Below.drew | apply below_drewN)⟩
    · have ql : decide (letB y) = false := decide_eq_false (by unfold letB; omega)
      have q95 : ((y : Int) == 95) = false := beq_eq_false_iff_ne.2 (by omega)
      have q92 : ((y : Int) == 92) = true := by rw [hkq]; rfl
      have q45 : ((y : Int) == 45) = false := beq_eq_false_iff_ne.2 (by omega)
      have qh : ¬ (128 : Int) ≤ (y : Int) := by omega
      clear hkq
      go_enter Tryf.func9, Tryf.ntmps9
      go_wp2_with (first | (go_at_call 14; (with_reducible refine (let_any x _).mono ?_); rw [pl]; rintro e wz ⟨rfl, rfl⟩) | (go_at_call 14; (with_reducible refine (let_any y _).mono ?_); rw [ql]; rintro e wz ⟨rfl, rfl⟩))
      all_goals
        go_ret
        exact ⟨rfl, by repeat (first | exact Below.refl _ _ | apply Below.drew | apply below_drewN)⟩
    · have ql : decide (letB y) = false := decide_eq_false (by unfold letB; omega)
      have q95 : ((y : Int) == 95) = false := beq_eq_false_iff_ne.2 (by omega)
      have q92 : ((y : Int) == 92) = false := beq_eq_false_iff_ne.2 (by omega)
      have q45 : ((y : Int) == 45) = true := by rw [hkq]; rfl
      have qh : ¬ (128 : Int) ≤ (y : Int) := by omega
      clear hkq
      go_enter Tryf.func9, Tryf.ntmps9
      go_wp2_with (first | (go_at_call 14; (with_reducible refine (let_any x _).mono ?_); rw [pl]; rintro e wz ⟨rfl, rfl⟩) | (go_at_call 14; (with_reducible refine (let_any y _).mono ?_); rw [ql]; rintro e wz ⟨rfl, rfl⟩))
      all_goals
        go_ret
        exact ⟨rfl, by repeat (first | exact Below.refl _ _ | apply Below.drew | apply below_drewN)⟩
end Go.Proofs.YtppcjkajjahclaaFmt
