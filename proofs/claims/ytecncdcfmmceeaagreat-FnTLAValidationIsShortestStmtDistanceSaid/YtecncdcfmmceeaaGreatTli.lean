/- recursivelyValidateTLA in one contract; iterativelyValidateTLA: the fixed point. -/
import Derived.Test.YtecncdcfmmceeaaGreatTlg
namespace Go.Proofs.YtecncdcfmmceeaaGreat
open Go.RowKit
set_option linter.unusedVariables false
set_option linter.unusedSimpArgs false
theorem rec_any (G : TG) (rb db sb : Nat) (jb : Nat → Nat) (p : Nat) (hG : GOk G) (hp32 : p ≤ 4294967295) : ∀ (N : Nat) (σ : TS) (dc : Bool) (i : Nat) (w : World), todo G p σ = N → i < G.n → TW G rb db sb jb σ dc w → Sound G σ →
    Calls Tryz.prog 24 #[.pointer (some ⟨sb, 0, none⟩), .int .u32 (i : Int), .int .u32 (p : Int), .pointer (some ⟨db, 0, none⟩)] w (RecPost G rb db sb jb σ dc i p w) := by
  intro N
  induction N using Nat.strongRecOn with
  | ind N ih =>
    intro σ dc i w hN hi ht hs
    by_cases h1 : σ.pas i = p ∨ G.ok i = false
    · exact rec_skip G rb db sb jb σ dc i p w hG hi ht hs h1
    · have h2 : σ.pas i ≠ p := fun e => h1 (.inl e)
      have h3 : G.ok i = true := by
        cases h : G.ok i with
        | true => rfl
        | false => exact absurd (.inr h) h1
      refine rec_go G rb db sb jb σ dc i p w hG hi hp32 ht hs h2 h3 fun σ' dc' t w' ht' hlt hw hs' => ?_
      exact ih (todo G p σ') (by omega) σ' dc' t w' rfl ht' hw hs'
/-- The state without the flag. -/
structure TW1 (G : TG) (rb sb : Nat) (jb : Nat → Nat) (σ : TS) (w : World) : Prop where
  res : ∃ cs, Blk w rb 87 cs ∧ ResOK G σ jb cs
  scan : ∃ css cap, Blk w sb 153 css ∧ css[11]? = some (.slice (some ⟨rb, 0, none⟩) G.n cap) ∧ G.n ≤ cap
  js : ∀ i, i < G.n → G.ok i = true → JsOK G w (jb i) i
theorem TW1.keep {G : TG} {rb sb : Nat} {jb : Nat → Nat} {σ : TS} {w w' : World} (h : TW1 G rb sb jb σ w) (hk : ∀ i, i < w.heap.size → w'.heap[i]? = w.heap[i]?) : TW1 G rb sb jb σ w' := by
  obtain ⟨⟨cs, h1, h2⟩, ⟨css, cap, h4, h5⟩, h6⟩ := h
  have kb : ∀ {g : Nat} {t : TypeId} {c : Array Value}, Blk w g t c → Blk w' g t c := fun hb => (hk _ hb.lt).trans hb
  refine ⟨⟨cs, kb h1, h2⟩, ⟨css, cap, kb h4, h5⟩, fun i hi ho => ?_⟩
  obtain ⟨csj, q1, q2, A, cp, q3, q4⟩ := h6 i hi ho
  refine ⟨csj, kb q1, q2, A, cp, q3, fun hn => ?_⟩
  obtain ⟨g, cur, e, q5, q6⟩ := q4 hn
  exact ⟨g, cur, e, kb q5, q6⟩
theorem TW1.alloc {G : TG} {rb sb : Nat} {jb : Nat → Nat} {σ : TS} {w : World} (h : TW1 G rb sb jb σ w) (o : Obj) : TW1 G rb sb jb σ (w.alloc o) := h.keep fun i hi => Below.heap_alloc w o i hi
theorem TW1.flag {G : TG} {rb sb : Nat} {jb : Nat → Nat} {σ : TS} {w : World} (h : TW1 G rb sb jb σ w) : TW G rb w.heap.size sb jb σ false (w.alloc (.cells #[.bool false] 4)) :=
  have h' := h.alloc (.cells #[.bool false] 4)
  ⟨h'.res, Blk.new _ _ _, h'.scan, h'.js⟩
theorem TW.drop {G : TG} {rb db sb : Nat} {jb : Nat → Nat} {σ : TS} {dc : Bool} {w : World} (h : TW G rb db sb jb σ dc w) : TW1 G rb sb jb σ w := ⟨h.res, h.scan, h.js⟩
/-- What the fixed point leaves. -/
def IterPost (G : TG) (rb sb : Nat) (jb : Nat → Nat) (σ : TS) (w : World) (e : Ending) (w' : World) : Prop :=
  ∃ σ' b, e = .returned (.bool b) ∧ TW1 G rb sb jb σ' w' ∧ Sound G σ' ∧ (∀ k, Settled G σ' k) ∧ Flag σ σ' false b ∧ (∀ j, σ'.dep j ≤ σ.dep j) ∧ w.grownBy w' (some rb)
/-- At the head of pass k. -/
structure Head (G : TG) (rb sb : Nat) (jb : Nat → Nat) (σ : TS) (w : World) (k : Nat) (σk : TS) (b : Bool) (wr : World) : Prop where
  k1 : 1 ≤ k
  k2 : k ≤ INV
  tw : TW1 G rb sb jb σk wr
  snd : Sound G σk
  set_ : Settled G σk (k - 1)
  pas : ∀ j, σk.pas j < k
  flag : Flag σ σk false b
  mono : ∀ j, σk.dep j ≤ σ.dep j
  gr : w.grownBy wr (some rb)
theorem Head.start {G : TG} {rb sb : Nat} {jb : Nat → Nat} {σ : TS} {w : World} (ht : TW1 G rb sb jb σ w) (hs : Sound G σ) (hp : ∀ j, σ.pas j = 0) : Head G rb sb jb σ w 1 σ false w :=
  ⟨Nat.le_refl _, by decide, ht, hs, fun m j h => by omega, fun j => by rw [hp j]; omega, .inl ⟨rfl, Same.refl _⟩, fun _ => Nat.le_refl _, ⟨rfl, rfl, rfl, Nat.le_refl _, fun _ _ _ => rfl⟩⟩
theorem Fr.grown1 {rb db : Nat} {w W w' : World} {o : Obj} (hW : W = w.alloc o) (hdb : db = w.heap.size) (h : Fr rb db W w') : w.grownBy w' (some rb) := by
  subst hW hdb
  refine ⟨h.os, h.tape, h.output, Nat.le_trans (by simp) h.size, fun i hi hn => ?_⟩
  have h1 : i < (w.alloc o).heap.size := by simp; omega
  exact (h.block i h1 (fun e => hn (by rw [e])) (by omega)).trans (Below.heap_alloc w o i hi)
theorem grownBy_acc {a b c : World} {row : Option Nat} (h : a.grownBy b row) (k : b.grownBy c row) : a.grownBy c row := ⟨k.os.trans h.os, k.tape.trans h.tape, k.output.trans h.output, Nat.le_trans h.size k.size, fun i hi hn => (k.block i (Nat.lt_of_lt_of_le hi h.size) hn).trans (h.block i hi hn)⟩
/-- Inside pass k, the files below idx done. -/
structure Inn (G : TG) (rb db sb : Nat) (jb : Nat → Nat) (k : Nat) (σk : TS) (W : World) (idx : Nat) (σi : TS) (dc : Bool) (wr : World) : Prop where
  tw : TW G rb db sb jb σi dc wr
  snd : Sound G σi
  rel : Rel G k none σk σi
  flag : Flag σk σi false dc
  all : ∀ x, x < idx → G.ok x = true → σi.pas x = k
  fr : Fr rb db W wr
theorem Inn.step {G : TG} {rb db sb : Nat} {jb : Nat → Nat} {k : Nat} {σk : TS} {W : World} {idx : Nat} {σi : TS} {dc : Bool} {wr : World} (h : Inn G rb db sb jb k σk W idx σi dc wr) {e : Ending} {w' : World} (hp : RecPost G rb db sb jb σi dc idx k wr e w') : ∃ σ' dc', e = .returned (.agg (chk σ' idx)) ∧ Inn G rb db sb jb k σk W (idx + 1) σ' dc' w' := by
  obtain ⟨σ', dc', rfl, h1, h2, h3, h4, h5, h6⟩ := hp
  refine ⟨σ', dc', rfl, h1, h2, h.rel.trans h3, h.flag.trans h4 h.rel.mono h3.mono, fun x hx ho => ?_, h.fr.trans h6⟩
  rcases Nat.lt_or_ge x idx with h7 | h7
  · exact h3.pas1 x (h.all x h7 ho)
  · obtain rfl : x = idx := by omega
    exact h5 ho
/-- A pass that changed nothing. -/
theorem Head.done {G : TG} {rb db sb : Nat} {jb : Nat → Nat} {σ : TS} {w : World} {k : Nat} {σk : TS} {b : Bool} {wr W w' : World} {σi : TS} (hG : GOk G) (h : Head G rb sb jb σ w k σk b wr) {o : Obj} (hW : W = wr.alloc o) (hdb : db = wr.heap.size) (hi : Inn G rb db sb jb k σk W G.n σi false w') : IterPost G rb sb jb σ w (.returned (.bool b)) w' := by
  have hsame : Same σk σi := by
    rcases hi.flag with ⟨_, h2⟩ | ⟨h1, _⟩
    · exact h2
    · cases h1
  refine ⟨σi, b, rfl, hi.tw.drop, hi.snd, settled_all hi.rel hsame (fun j => by have := h.pas j; omega) (fun j hj ho => hi.all j hj ho) hG.ok, ?_, fun j => by rw [hsame.1]; exact h.mono j, grownBy_acc h.gr (hi.fr.grown1 hW hdb)⟩
  exact h.flag.trans (.inl ⟨rfl, hsame⟩) h.mono (fun j => by rw [hsame.1]; exact Nat.le_refl _)
/-- A pass that changed something. -/
theorem Head.next {G : TG} {rb db sb : Nat} {jb : Nat → Nat} {σ : TS} {w : World} {k : Nat} {σk : TS} {b : Bool} {wr W w' : World} {σi : TS} (hG : GOk G) (h : Head G rb sb jb σ w k σk b wr) {o : Obj} (hW : W = wr.alloc o) (hdb : db = wr.heap.size) (hi : Inn G rb db sb jb k σk W G.n σi true w') : k < INV ∧ Head G rb sb jb σ w (k + 1) σi true w' := by
  have hch : ∃ j, σi.dep j < σk.dep j := by
    rcases hi.flag with ⟨h1, _⟩ | ⟨_, h2⟩
    · cases h1
    · exact h2
  obtain ⟨j, hj⟩ := hch
  have hk1 := h.k1
  obtain ⟨h1, h2⟩ := change_far (p := 0) h.set_ hi.snd hj (h.snd.pos j).2
  have hlt : k < INV := by omega
  have hst := settled_step h.set_ hi.rel (fun j => by have := h.pas j; omega) (fun j hj ho => hi.all j hj ho) hG.ok
  refine ⟨hlt, by omega, by omega, hi.tw.drop, hi.snd, by rw [show k + 1 - 1 = k - 1 + 1 by omega]; exact hst, fun x => ?_, .inr ⟨rfl, j, Nat.lt_of_lt_of_le hj (h.mono j)⟩, fun x => Nat.le_trans (hi.rel.mono x) (h.mono x), grownBy_acc h.gr (hi.fr.grown1 hW hdb)⟩
  have := h.pas x
  rcases hi.rel.pas2 x with h3 | h3 <;> omega
set_option maxHeartbeats 4000000 in
set_option maxRecDepth 100000 in
theorem iter_any (G : TG) (rb sb : Nat) (jb : Nat → Nat) (σ : TS) (w : World) (hG : GOk G) (ht : TW1 G rb sb jb σ w) (hs : Sound G σ) (hp : ∀ j, σ.pas j = 0) :
    Calls Tryz.prog 20 #[.pointer (some ⟨sb, 0, none⟩)] w (IterPost G rb sb jb σ w) := by
  have HH := Lib.hid (Head.start ht hs hp)
  have HG := Lib.hid hG
  have hn16 := hG.n
  have hrec := fun (p : Nat) (hp : p ≤ 4294967295) (db : Nat) (σ' : TS) (dc : Bool) (i : Nat) (w' : World) => rec_any G rb db sb jb p hG hp (todo G p σ') σ' dc i w' rfl
  have HREC := Lib.hid hrec
  clear hrec ht hs hp hG
  go_enter Tryz.func20, Tryz.ntmps20
  go_wp2
  go_loopw [3, 4] (fun pv bv wr => ∃ (k : Nat) (σk : TS) (b : Bool), pv = .int .u32 (k : Int) ∧ bv = .bool b ∧ Head G rb sb jb σ w k σk b wr) (fun pv _ _ => INV - (intOf pv).toNat)
  case atStart => exact ⟨1, σ, false, rfl, rfl, HH.out⟩
  case round =>
    obtain ⟨k, σk, b, rfl, rfl, hh⟩ := hrel
    obtain ⟨wo, hwo⟩ : ∃ x, x = wr := ⟨_, rfl⟩
    subst hwo
    have HK := Lib.hid hh
    have hk2 := hh.k2
    obtain ⟨W, hW⟩ : ∃ W, W = wo.alloc (.cells #[.bool false] 4) := ⟨_, rfl⟩
    have htw := hh.tw.flag
    rw [← hW] at htw
    obtain ⟨css, cap, hsb, h11, hcap⟩ := htw.scan
    have c11 : W.cell? ⟨sb, 11, none⟩ = some (.slice (some ⟨rb, 0, none⟩) G.n cap) := (hsb.cell 11).trans h11
    have HIN := Lib.hid (show Inn G rb wo.heap.size sb jb k σk W 0 σk false W from ⟨htw, hh.snd, Rel.refl _ _ _ _, .inl ⟨rfl, Same.refl _⟩, fun x hx => by omega, Fr.refl _ _ _⟩)
    have HW := Lib.hid hW
    clear hh htw hsb h11
    go_upto_region 4 with fail
    first | rw [← hW] | (change wpList _ _ _ _ _ W)
    clear hW
    go_wp2
    go_loopw [12] (fun iv wx => ∃ (j : Nat) (σi : TS) (dc : Bool), iv = .int .i64 (j : Int) ∧ j ≤ G.n ∧ Inn G rb wo.heap.size sb jb k σk W j σi dc wx) (fun iv _ => G.n - (intOf iv).toNat)
    case atStart => exact ⟨0, σk, false, rfl, Nat.zero_le _, HIN.out⟩
    case round =>
      obtain ⟨j, σi, dc, rfl, hj, hin⟩ := hrel
      have HI := Lib.hid hin
      clear hin c11 HIN
      by_cases hlt : j < G.n
      · have hlt' : (j : Int) < (G.n : Int) := by omega
        have hwr : IntKind.u32.wrap (j : Int) = (j : Int) := by rw [IntKind.wrap_u32']; omega
        have hw1 : IntKind.i64.wrap ((j : Int) + 1) = (j : Int) + 1 := by rw [IntKind.wrap_i64]; omega
        have hk32 : k ≤ 4294967295 := by unfold INV at hk2; exact hk2
        go_wp2_with (go_at_call 24; refine (HREC.out k hk32 wo.heap.size σi dc j _ hlt HI.out.tw HI.out.snd).mono ?_)
        rintro e w5 hpost
        obtain ⟨σ', dc', rfl, hin'⟩ := HI.out.step hpost
        have HI2 := Lib.hid hin'
        clear hpost hin'
        go_wp2
        go_roundw
        case rel => exact ⟨j + 1, σ', dc', by first | rfl | simp, by omega, HI2.out⟩
        case measure => simp [intOf]; omega
      · obtain rfl : j = G.n := by omega
        have hlt' : ¬ ((G.n : Int) < (G.n : Int)) := by omega
        have cd := HI.out.tw.flag.cell 0
        cases dc with
        | false =>
          have HD := Lib.hid (HK.out.done HG.out HW.out rfl HI.out)
          have cd' : wr.cell? ⟨wo.heap.size, 0, none⟩ = some (.bool false) := cd
          clear cd
          go_wp2
          go_ret
          exact HD.out
        | true =>
          obtain ⟨hkI, hhd⟩ := HK.out.next HG.out HW.out rfl HI.out
          have HD := Lib.hid hhd
          have cd' : wr.cell? ⟨wo.heap.size, 0, none⟩ = some (.bool true) := cd
          have hw1 : IntKind.u32.wrap ((k : Int) + 1) = (k : Int) + 1 := by rw [IntKind.wrap_u32']; unfold INV at hkI; omega
          clear cd hhd
          go_wp2
          go_roundw
          case rel => exact ⟨k + 1, σi, true, by first | rfl | simp, rfl, HD.out⟩
          case measure => simp [intOf]; omega
end Go.Proofs.YtecncdcfmmceeaaGreat
