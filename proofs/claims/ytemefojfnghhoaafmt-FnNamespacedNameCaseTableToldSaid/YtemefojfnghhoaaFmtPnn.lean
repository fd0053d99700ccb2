/- n011_276: printNamespacedName, way by way; the law's own test of a plain identifier. -/
import Derived.Test.YtemefojfnghhoaaFmtNpr
import Derived.BigRegion
import Derived.BigQuiet
import Derived.Deep.QuietTactic
namespace Go.Proofs.YtemefojfnghhoaaFmt
open Go.RowKit
set_option linter.unusedVariables false
set_option linter.unusedSimpArgs false
theorem sz1 (c : UInt8) : (⟨#[c]⟩ : ByteArray).size = 1 := rfl
theorem PSt.nine {B b x : Nat} {t : TypeId} {cs K : Array Value} {w : World} {bs : List Value} {W : World} (h : PSt B b x t cs K w bs W) (hK : K[9]? = some (.bool false)) : W.cell? ⟨b, 9, none⟩ = some (.bool false) := by
  obtain ⟨A, cap, hp, _⟩ := h.p
  rw [hp.cell (by decide)]; exact hK
theorem PSt.ident {B b x : Nat} {t : TypeId} {cs K : Array Value} {w : World} {bs : List Value} {W : World} (h : PSt B b x t cs K w bs W) (hB : B ≤ w.heap.size) (s : ByteArray) (hp : PlainId s) (hs : s.size ≤ 16777216) (ws : Int) (hlen : bs.length ≤ 16777216) :
    Calls Tryf.prog 22 #[.pointer (some ⟨b, 0, none⟩), .string s, .int .u8 0, .int .u8 ws] W (PPost B b x t cs K w (bs ++ byteCells s)) := by
  obtain ⟨A, cap, hp', hne⟩ := h.p
  refine (ident_plain s hp hs ws W hp' (Nat.le_trans hB h.bel.size) _ rfl hlen).mono ?_
  rintro e w' ⟨rfl, ⟨A', cap', hp', hr⟩, hb, hk⟩
  refine ⟨rfl, ⟨A', cap', hp', ?_⟩, hk.blk h.box h.xb (fun e => hne e.symm), h.xb, h.bel.trans hb⟩
  rcases hr with hr | ⟨g, hr, hg⟩
  · rw [hr]; exact hne
  · rw [hr]
    intro e
    have := h.box.lt
    have := Option.some.inj e
    omega
def NnPost (B b : Nat) (K : Array Value) (bs : List Value) (w : World) (e : Ending) (w' : World) : Prop := e = .returned (.tuple #[]) ∧ (∃ A cap, IsP B b K A cap bs w') ∧ Below B w w'
set_option maxHeartbeats 2000000 in
set_option maxRecDepth 100000 in
theorem nn_ni {B b : Nat} {K : Array Value} {A : Option Addr} {cap : Nat} {bs : List Value} (w : World) (hK : K[9]? = some (.bool false)) (T : ByteArray) (hts : T.size ≤ 1048576) (hpt : PlainId T) (ws : Int) (h : IsP B b K A cap bs w) (hB : B ≤ w.heap.size) (hlen : bs.length ≤ 4194304) :
    Calls Tryf.prog 20 #[.pointer (some ⟨b, 0, none⟩), .agg #[.pointer none, .string T, .int .i32 0, .int .i32 0, .int .u8 29], .int .u8 ws] w (NnPost B b K (bs ++ ([T] : List ByteArray).flatMap byteCells) w) := by
  have HS0 := Lib.hid (PSt.start h hB 74 #[.pointer none, .string T, .int .i32 0, .int .i32 0, .int .u8 29])
  have c9 : (w.alloc (.cells #[.pointer none, .string T, .int .i32 0, .int .i32 0, .int .u8 29] 74)).cell? ⟨b, 9, none⟩ = some (.bool false) := HS0.out.nine hK
  have HK := Lib.hid hK
  have HPT := Lib.hid hpt
  clear hpt
  clear h hK
  go_enter Tryf.func20, Tryf.ntmps20
  go_wp2_with (go_at_call 22; refine (HS0.out.ident hB T HPT.out (by omega) _ (by (try simp only [List.length_append, byteCells_length]); have := sz1 42; have := sz1 124; have := sz1 38; omega)).mono ?_)
  rintro e w1 ⟨rfl, hst⟩
  have HS1 := Lib.hid hst
  clear hst
  go_wp2_with fail
  go_end0
  have HE := HS1.out
  obtain ⟨A', cap', hp', _⟩ := HE.p
  exact ⟨rfl, ⟨A', cap', by simpa [List.flatMap_cons, List.flatMap_nil, List.append_assoc] using hp'⟩, HE.bel⟩
set_option maxHeartbeats 2000000 in
set_option maxRecDepth 100000 in
theorem nn_ns {B b : Nat} {K : Array Value} {A : Option Addr} {cap : Nat} {bs : List Value} (w : World) (hK : K[9]? = some (.bool false)) (T : ByteArray) (hts : T.size ≤ 1048576) (ws : Int) (h : IsP B b K A cap bs w) (hB : B ≤ w.heap.size) (hlen : bs.length ≤ 4194304) :
    Calls Tryf.prog 20 #[.pointer (some ⟨b, 0, none⟩), .agg #[.pointer none, .string T, .int .i32 0, .int .i32 0, .int .u8 13], .int .u8 ws] w (NnPost B b K (bs ++ ([⟨#[42]⟩] : List ByteArray).flatMap byteCells) w) := by
  have HS0 := Lib.hid (PSt.start h hB 74 #[.pointer none, .string T, .int .i32 0, .int .i32 0, .int .u8 13])
  have c9 : (w.alloc (.cells #[.pointer none, .string T, .int .i32 0, .int .i32 0, .int .u8 13] 74)).cell? ⟨b, 9, none⟩ = some (.bool false) := HS0.out.nine hK
  have HK := Lib.hid hK
  clear h hK
  go_enter Tryf.func20, Tryf.ntmps20
  go_wp2_with (go_at_call 23; refine (HS0.out.step hB ⟨#[42]⟩ (by decide) (by decide) (by (try simp only [List.length_append, byteCells_length]); have := sz1 42; have := sz1 124; have := sz1 38; omega)).mono ?_)
  rintro e w1 ⟨rfl, hst⟩
  have HS1 := Lib.hid hst
  clear hst
  go_wp2_with fail
  go_end0
  have HE := HS1.out
  obtain ⟨A', cap', hp', _⟩ := HE.p
  exact ⟨rfl, ⟨A', cap', by simpa [List.flatMap_cons, List.flatMap_nil, List.append_assoc] using hp'⟩, HE.bel⟩
set_option maxHeartbeats 2000000 in
set_option maxRecDepth 100000 in
theorem nn_na {B b : Nat} {K : Array Value} {A : Option Addr} {cap : Nat} {bs : List Value} (w : World) (hK : K[9]? = some (.bool false)) (T : ByteArray) (hts : T.size ≤ 1048576) (ws : Int) (h : IsP B b K A cap bs w) (hB : B ≤ w.heap.size) (hlen : bs.length ≤ 4194304) :
    Calls Tryf.prog 20 #[.pointer (some ⟨b, 0, none⟩), .agg #[.pointer none, .string T, .int .i32 0, .int .i32 0, .int .u8 12], .int .u8 ws] w (NnPost B b K (bs ++ ([⟨#[38]⟩] : List ByteArray).flatMap byteCells) w) := by
  have HS0 := Lib.hid (PSt.start h hB 74 #[.pointer none, .string T, .int .i32 0, .int .i32 0, .int .u8 12])
  have c9 : (w.alloc (.cells #[.pointer none, .string T, .int .i32 0, .int .i32 0, .int .u8 12] 74)).cell? ⟨b, 9, none⟩ = some (.bool false) := HS0.out.nine hK
  have HK := Lib.hid hK
  clear h hK
  go_enter Tryf.func20, Tryf.ntmps20
  go_wp2_with (go_at_call 23; refine (HS0.out.step hB ⟨#[38]⟩ (by decide) (by decide) (by (try simp only [List.length_append, byteCells_length]); have := sz1 42; have := sz1 124; have := sz1 38; omega)).mono ?_)
  rintro e w1 ⟨rfl, hst⟩
  have HS1 := Lib.hid hst
  clear hst
  go_wp2_with fail
  go_end0
  have HE := HS1.out
  obtain ⟨A', cap', hp', _⟩ := HE.p
  exact ⟨rfl, ⟨A', cap', by simpa [List.flatMap_cons, List.flatMap_nil, List.append_assoc] using hp'⟩, HE.bel⟩
set_option maxHeartbeats 2000000 in
set_option maxRecDepth 100000 in
theorem nn_ii {B b : Nat} {K : Array Value} {A : Option Addr} {cap : Nat} {bs : List Value} (w : World) (hK : K[9]? = some (.bool false)) (T : ByteArray) (hts : T.size ≤ 1048576) (PT : ByteArray) (hps : PT.size ≤ 1048576) (q : Nat) (hq : Blk w q 71 #[.string PT, .int .i32 0, .int .i32 0, .int .u8 29]) (hpp : PlainId PT) (hpt : PlainId T) (ws : Int) (h : IsP B b K A cap bs w) (hB : B ≤ w.heap.size) (hlen : bs.length ≤ 4194304) :
    Calls Tryf.prog 20 #[.pointer (some ⟨b, 0, none⟩), .agg #[.pointer (some ⟨q, 0, none⟩), .string T, .int .i32 0, .int .i32 0, .int .u8 29], .int .u8 ws] w (NnPost B b K (bs ++ ([PT, ⟨#[124]⟩, T] : List ByteArray).flatMap byteCells) w) := by
  have HS0 := Lib.hid (PSt.start h hB 74 #[.pointer (some ⟨q, 0, none⟩), .string T, .int .i32 0, .int .i32 0, .int .u8 29])
  have c9 : (w.alloc (.cells #[.pointer (some ⟨q, 0, none⟩), .string T, .int .i32 0, .int .i32 0, .int .u8 29] 74)).cell? ⟨b, 9, none⟩ = some (.bool false) := HS0.out.nine hK
  have HK := Lib.hid hK
  have HQ := Lib.hid (hq.alloc (.cells #[.pointer (some ⟨q, 0, none⟩), .string T, .int .i32 0, .int .i32 0, .int .u8 29] 74))
  have q0 : (w.alloc (.cells #[.pointer (some ⟨q, 0, none⟩), .string T, .int .i32 0, .int .i32 0, .int .u8 29] 74)).cell? ⟨q, 0, none⟩ = some (.string PT) := HQ.out.cell 0
  have q3 : (w.alloc (.cells #[.pointer (some ⟨q, 0, none⟩), .string T, .int .i32 0, .int .i32 0, .int .u8 29] 74)).cell? ⟨q, 3, none⟩ = some (.int .u8 29) := HQ.out.cell 3
  clear hq
  have HPP := Lib.hid hpp
  clear hpp
  have HPT := Lib.hid hpt
  clear hpt
  clear h hK
  go_enter Tryf.func20, Tryf.ntmps20
  go_wp2_with (go_at_call 22; refine (HS0.out.ident hB PT HPP.out (by omega) _ (by (try simp only [List.length_append, byteCells_length]); have := sz1 42; have := sz1 124; have := sz1 38; omega)).mono ?_)
  rintro e w1 ⟨rfl, hst⟩
  have HS1 := Lib.hid hst
  have c91 : w1.cell? ⟨b, 9, none⟩ = some (.bool false) := hst.nine HK.out
  have cb1 : w1.cell? ⟨w.heap.size, 1, none⟩ = some (.string T) := hst.box.cell 1
  have cd1 : w1.cell? ⟨w.heap.size, 4, none⟩ = some (.int .u8 29) := hst.box.cell 4
  clear hst
  go_wp2_with (go_at_call 23; refine (HS1.out.step hB ⟨#[124]⟩ (by decide) (by decide) (by (try simp only [List.length_append, byteCells_length]); have := sz1 42; have := sz1 124; have := sz1 38; omega)).mono ?_)
  rintro e w2 ⟨rfl, hst⟩
  have HS2 := Lib.hid hst
  have c92 : w2.cell? ⟨b, 9, none⟩ = some (.bool false) := hst.nine HK.out
  have cb2 : w2.cell? ⟨w.heap.size, 1, none⟩ = some (.string T) := hst.box.cell 1
  have cd2 : w2.cell? ⟨w.heap.size, 4, none⟩ = some (.int .u8 29) := hst.box.cell 4
  clear hst
  go_wp2_with (go_at_call 22; refine (HS2.out.ident hB T HPT.out (by omega) _ (by (try simp only [List.length_append, byteCells_length]); have := sz1 42; have := sz1 124; have := sz1 38; omega)).mono ?_)
  rintro e w3 ⟨rfl, hst⟩
  have HS3 := Lib.hid hst
  clear hst
  go_wp2_with fail
  go_end0
  have HE := HS3.out
  obtain ⟨A', cap', hp', _⟩ := HE.p
  exact ⟨rfl, ⟨A', cap', by simpa [List.flatMap_cons, List.flatMap_nil, List.append_assoc] using hp'⟩, HE.bel⟩
set_option maxHeartbeats 2000000 in
set_option maxRecDepth 100000 in
theorem nn_is {B b : Nat} {K : Array Value} {A : Option Addr} {cap : Nat} {bs : List Value} (w : World) (hK : K[9]? = some (.bool false)) (T : ByteArray) (hts : T.size ≤ 1048576) (PT : ByteArray) (hps : PT.size ≤ 1048576) (q : Nat) (hq : Blk w q 71 #[.string PT, .int .i32 0, .int .i32 0, .int .u8 29]) (hpp : PlainId PT) (ws : Int) (h : IsP B b K A cap bs w) (hB : B ≤ w.heap.size) (hlen : bs.length ≤ 4194304) :
    Calls Tryf.prog 20 #[.pointer (some ⟨b, 0, none⟩), .agg #[.pointer (some ⟨q, 0, none⟩), .string T, .int .i32 0, .int .i32 0, .int .u8 13], .int .u8 ws] w (NnPost B b K (bs ++ ([PT, ⟨#[124]⟩, ⟨#[42]⟩] : List ByteArray).flatMap byteCells) w) := by
  have HS0 := Lib.hid (PSt.start h hB 74 #[.pointer (some ⟨q, 0, none⟩), .string T, .int .i32 0, .int .i32 0, .int .u8 13])
  have c9 : (w.alloc (.cells #[.pointer (some ⟨q, 0, none⟩), .string T, .int .i32 0, .int .i32 0, .int .u8 13] 74)).cell? ⟨b, 9, none⟩ = some (.bool false) := HS0.out.nine hK
  have HK := Lib.hid hK
  have HQ := Lib.hid (hq.alloc (.cells #[.pointer (some ⟨q, 0, none⟩), .string T, .int .i32 0, .int .i32 0, .int .u8 13] 74))
  have q0 : (w.alloc (.cells #[.pointer (some ⟨q, 0, none⟩), .string T, .int .i32 0, .int .i32 0, .int .u8 13] 74)).cell? ⟨q, 0, none⟩ = some (.string PT) := HQ.out.cell 0
  have q3 : (w.alloc (.cells #[.pointer (some ⟨q, 0, none⟩), .string T, .int .i32 0, .int .i32 0, .int .u8 13] 74)).cell? ⟨q, 3, none⟩ = some (.int .u8 29) := HQ.out.cell 3
  clear hq
  have HPP := Lib.hid hpp
  clear hpp
  clear h hK
  go_enter Tryf.func20, Tryf.ntmps20
  go_wp2_with (go_at_call 22; refine (HS0.out.ident hB PT HPP.out (by omega) _ (by (try simp only [List.length_append, byteCells_length]); have := sz1 42; have := sz1 124; have := sz1 38; omega)).mono ?_)
  rintro e w1 ⟨rfl, hst⟩
  have HS1 := Lib.hid hst
  have c91 : w1.cell? ⟨b, 9, none⟩ = some (.bool false) := hst.nine HK.out
  have cb1 : w1.cell? ⟨w.heap.size, 1, none⟩ = some (.string T) := hst.box.cell 1
  have cd1 : w1.cell? ⟨w.heap.size, 4, none⟩ = some (.int .u8 13) := hst.box.cell 4
  clear hst
  go_wp2_with (go_at_call 23; refine (HS1.out.step hB ⟨#[124]⟩ (by decide) (by decide) (by (try simp only [List.length_append, byteCells_length]); have := sz1 42; have := sz1 124; have := sz1 38; omega)).mono ?_)
  rintro e w2 ⟨rfl, hst⟩
  have HS2 := Lib.hid hst
  have c92 : w2.cell? ⟨b, 9, none⟩ = some (.bool false) := hst.nine HK.out
  have cb2 : w2.cell? ⟨w.heap.size, 1, none⟩ = some (.string T) := hst.box.cell 1
  have cd2 : w2.cell? ⟨w.heap.size, 4, none⟩ = some (.int .u8 13) := hst.box.cell 4
  clear hst
  go_wp2_with (go_at_call 23; refine (HS2.out.step hB ⟨#[42]⟩ (by decide) (by decide) (by (try simp only [List.length_append, byteCells_length]); have := sz1 42; have := sz1 124; have := sz1 38; omega)).mono ?_)
  rintro e w3 ⟨rfl, hst⟩
  have HS3 := Lib.hid hst
  clear hst
  go_wp2_with fail
  go_end0
  have HE := HS3.out
  obtain ⟨A', cap', hp', _⟩ := HE.p
  exact ⟨rfl, ⟨A', cap', by simpa [List.flatMap_cons, List.flatMap_nil, List.append_assoc] using hp'⟩, HE.bel⟩
set_option maxHeartbeats 2000000 in
set_option maxRecDepth 100000 in
theorem nn_ia {B b : Nat} {K : Array Value} {A : Option Addr} {cap : Nat} {bs : List Value} (w : World) (hK : K[9]? = some (.bool false)) (T : ByteArray) (hts : T.size ≤ 1048576) (PT : ByteArray) (hps : PT.size ≤ 1048576) (q : Nat) (hq : Blk w q 71 #[.string PT, .int .i32 0, .int .i32 0, .int .u8 29]) (hpp : PlainId PT) (ws : Int) (h : IsP B b K A cap bs w) (hB : B ≤ w.heap.size) (hlen : bs.length ≤ 4194304) :
    Calls Tryf.prog 20 #[.pointer (some ⟨b, 0, none⟩), .agg #[.pointer (some ⟨q, 0, none⟩), .string T, .int .i32 0, .int .i32 0, .int .u8 12], .int .u8 ws] w (NnPost B b K (bs ++ ([PT, ⟨#[124]⟩, ⟨#[38]⟩] : List ByteArray).flatMap byteCells) w) := by
  have HS0 := Lib.hid (PSt.start h hB 74 #[.pointer (some ⟨q, 0, none⟩), .string T, .int .i32 0, .int .i32 0, .int .u8 12])
  have c9 : (w.alloc (.cells #[.pointer (some ⟨q, 0, none⟩), .string T, .int .i32 0, .int .i32 0, .int .u8 12] 74)).cell? ⟨b, 9, none⟩ = some (.bool false) := HS0.out.nine hK
  have HK := Lib.hid hK
  have HQ := Lib.hid (hq.alloc (.cells #[.pointer (some ⟨q, 0, none⟩), .string T, .int .i32 0, .int .i32 0, .int .u8 12] 74))
  have q0 : (w.alloc (.cells #[.pointer (some ⟨q, 0, none⟩), .string T, .int .i32 0, .int .i32 0, .int .u8 12] 74)).cell? ⟨q, 0, none⟩ = some (.string PT) := HQ.out.cell 0
  have q3 : (w.alloc (.cells #[.pointer (some ⟨q, 0, none⟩), .string T, .int .i32 0, .int .i32 0, .int .u8 12] 74)).cell? ⟨q, 3, none⟩ = some (.int .u8 29) := HQ.out.cell 3
  clear hq
  have HPP := Lib.hid hpp
  clear hpp
  clear h hK
  go_enter Tryf.func20, Tryf.ntmps20
  go_wp2_with (go_at_call 22; refine (HS0.out.ident hB PT HPP.out (by omega) _ (by (try simp only [List.length_append, byteCells_length]); have := sz1 42; have := sz1 124; have := sz1 38; omega)).mono ?_)
  rintro e w1 ⟨rfl, hst⟩
  have HS1 := Lib.hid hst
  have c91 : w1.cell? ⟨b, 9, none⟩ = some (.bool false) := hst.nine HK.out
  have cb1 : w1.cell? ⟨w.heap.size, 1, none⟩ = some (.string T) := hst.box.cell 1
  have cd1 : w1.cell? ⟨w.heap.size, 4, none⟩ = some (.int .u8 12) := hst.box.cell 4
  clear hst
  go_wp2_with (go_at_call 23; refine (HS1.out.step hB ⟨#[124]⟩ (by decide) (by decide) (by (try simp only [List.length_append, byteCells_length]); have := sz1 42; have := sz1 124; have := sz1 38; omega)).mono ?_)
  rintro e w2 ⟨rfl, hst⟩
  have HS2 := Lib.hid hst
  have c92 : w2.cell? ⟨b, 9, none⟩ = some (.bool false) := hst.nine HK.out
  have cb2 : w2.cell? ⟨w.heap.size, 1, none⟩ = some (.string T) := hst.box.cell 1
  have cd2 : w2.cell? ⟨w.heap.size, 4, none⟩ = some (.int .u8 12) := hst.box.cell 4
  clear hst
  go_wp2_with (go_at_call 23; refine (HS2.out.step hB ⟨#[38]⟩ (by decide) (by decide) (by (try simp only [List.length_append, byteCells_length]); have := sz1 42; have := sz1 124; have := sz1 38; omega)).mono ?_)
  rintro e w3 ⟨rfl, hst⟩
  have HS3 := Lib.hid hst
  clear hst
  go_wp2_with fail
  go_end0
  have HE := HS3.out
  obtain ⟨A', cap', hp', _⟩ := HE.p
  exact ⟨rfl, ⟨A', cap', by simpa [List.flatMap_cons, List.flatMap_nil, List.append_assoc] using hp'⟩, HE.bel⟩
set_option maxHeartbeats 2000000 in
set_option maxRecDepth 100000 in
theorem nn_si {B b : Nat} {K : Array Value} {A : Option Addr} {cap : Nat} {bs : List Value} (w : World) (hK : K[9]? = some (.bool false)) (T : ByteArray) (hts : T.size ≤ 1048576) (PT : ByteArray) (hps : PT.size ≤ 1048576) (q : Nat) (hq : Blk w q 71 #[.string PT, .int .i32 0, .int .i32 0, .int .u8 13]) (hpt : PlainId T) (ws : Int) (h : IsP B b K A cap bs w) (hB : B ≤ w.heap.size) (hlen : bs.length ≤ 4194304) :
    Calls Tryf.prog 20 #[.pointer (some ⟨b, 0, none⟩), .agg #[.pointer (some ⟨q, 0, none⟩), .string T, .int .i32 0, .int .i32 0, .int .u8 29], .int .u8 ws] w (NnPost B b K (bs ++ ([⟨#[42]⟩, ⟨#[124]⟩, T] : List ByteArray).flatMap byteCells) w) := by
  have HS0 := Lib.hid (PSt.start h hB 74 #[.pointer (some ⟨q, 0, none⟩), .string T, .int .i32 0, .int .i32 0, .int .u8 29])
  have c9 : (w.alloc (.cells #[.pointer (some ⟨q, 0, none⟩), .string T, .int .i32 0, .int .i32 0, .int .u8 29] 74)).cell? ⟨b, 9, none⟩ = some (.bool false) := HS0.out.nine hK
  have HK := Lib.hid hK
  have HQ := Lib.hid (hq.alloc (.cells #[.pointer (some ⟨q, 0, none⟩), .string T, .int .i32 0, .int .i32 0, .int .u8 29] 74))
  have q0 : (w.alloc (.cells #[.pointer (some ⟨q, 0, none⟩), .string T, .int .i32 0, .int .i32 0, .int .u8 29] 74)).cell? ⟨q, 0, none⟩ = some (.string PT) := HQ.out.cell 0
  have q3 : (w.alloc (.cells #[.pointer (some ⟨q, 0, none⟩), .string T, .int .i32 0, .int .i32 0, .int .u8 29] 74)).cell? ⟨q, 3, none⟩ = some (.int .u8 13) := HQ.out.cell 3
  clear hq
  have HPT := Lib.hid hpt
  clear hpt
  clear h hK
  go_enter Tryf.func20, Tryf.ntmps20
  go_wp2_with (go_at_call 23; refine (HS0.out.step hB ⟨#[42]⟩ (by decide) (by decide) (by (try simp only [List.length_append, byteCells_length]); have := sz1 42; have := sz1 124; have := sz1 38; omega)).mono ?_)
  rintro e w1 ⟨rfl, hst⟩
  have HS1 := Lib.hid hst
  have c91 : w1.cell? ⟨b, 9, none⟩ = some (.bool false) := hst.nine HK.out
  have cb1 : w1.cell? ⟨w.heap.size, 1, none⟩ = some (.string T) := hst.box.cell 1
  have cd1 : w1.cell? ⟨w.heap.size, 4, none⟩ = some (.int .u8 29) := hst.box.cell 4
  clear hst
  go_wp2_with (go_at_call 23; refine (HS1.out.step hB ⟨#[124]⟩ (by decide) (by decide) (by (try simp only [List.length_append, byteCells_length]); have := sz1 42; have := sz1 124; have := sz1 38; omega)).mono ?_)
  rintro e w2 ⟨rfl, hst⟩
  have HS2 := Lib.hid hst
  have c92 : w2.cell? ⟨b, 9, none⟩ = some (.bool false) := hst.nine HK.out
  have cb2 : w2.cell? ⟨w.heap.size, 1, none⟩ = some (.string T) := hst.box.cell 1
  have cd2 : w2.cell? ⟨w.heap.size, 4, none⟩ = some (.int .u8 29) := hst.box.cell 4
  clear hst
  go_wp2_with (go_at_call 22; refine (HS2.out.ident hB T HPT.out (by omega) _ (by (try simp only [List.length_append, byteCells_length]); have := sz1 42; have := sz1 124; have := sz1 38; omega)).mono ?_)
  rintro e w3 ⟨rfl, hst⟩
  have HS3 := Lib.hid hst
  clear hst
  go_wp2_with fail
  go_end0
  have HE := HS3.out
  obtain ⟨A', cap', hp', _⟩ := HE.p
  exact ⟨rfl, ⟨A', cap', by simpa [List.flatMap_cons, List.flatMap_nil, List.append_assoc] using hp'⟩, HE.bel⟩
set_option maxHeartbeats 2000000 in
set_option maxRecDepth 100000 in
theorem nn_ss {B b : Nat} {K : Array Value} {A : Option Addr} {cap : Nat} {bs : List Value} (w : World) (hK : K[9]? = some (.bool false)) (T : ByteArray) (hts : T.size ≤ 1048576) (PT : ByteArray) (hps : PT.size ≤ 1048576) (q : Nat) (hq : Blk w q 71 #[.string PT, .int .i32 0, .int .i32 0, .int .u8 13]) (ws : Int) (h : IsP B b K A cap bs w) (hB : B ≤ w.heap.size) (hlen : bs.length ≤ 4194304) :
    Calls Tryf.prog 20 #[.pointer (some ⟨b, 0, none⟩), .agg #[.pointer (some ⟨q, 0, none⟩), .string T, .int .i32 0, .int .i32 0, .int .u8 13], .int .u8 ws] w (NnPost B b K (bs ++ ([⟨#[42]⟩, ⟨#[124]⟩, ⟨#[42]⟩] : List ByteArray).flatMap byteCells) w) := by
  have HS0 := Lib.hid (PSt.start h hB 74 #[.pointer (some ⟨q, 0, none⟩), .string T, .int .i32 0, .int .i32 0, .int .u8 13])
  have c9 : (w.alloc (.cells #[.pointer (some ⟨q, 0, none⟩), .string T, .int .i32 0, .int .i32 0, .int .u8 13] 74)).cell? ⟨b, 9, none⟩ = some (.bool false) := HS0.out.nine hK
  have HK := Lib.hid hK
  have HQ := Lib.hid (hq.alloc (.cells #[.pointer (some ⟨q, 0, none⟩), .string T, .int .i32 0, .int .i32 0, .int .u8 13] 74))
  have q0 : (w.alloc (.cells #[.pointer (some ⟨q, 0, none⟩), .string T, .int .i32 0, .int .i32 0, .int .u8 13] 74)).cell? ⟨q, 0, none⟩ = some (.string PT) := HQ.out.cell 0
  have q3 : (w.alloc (.cells #[.pointer (some ⟨q, 0, none⟩), .string T, .int .i32 0, .int .i32 0, .int .u8 13] 74)).cell? ⟨q, 3, none⟩ = some (.int .u8 13) := HQ.out.cell 3
  clear hq
  clear h hK
  go_enter Tryf.func20, Tryf.ntmps20
  go_wp2_with (go_at_call 23; refine (HS0.out.step hB ⟨#[42]⟩ (by decide) (by decide) (by (try simp only [List.length_append, byteCells_length]); have := sz1 42; have := sz1 124; have := sz1 38; omega)).mono ?_)
  rintro e w1 ⟨rfl, hst⟩
  have HS1 := Lib.hid hst
  have c91 : w1.cell? ⟨b, 9, none⟩ = some (.bool false) := hst.nine HK.out
  have cb1 : w1.cell? ⟨w.heap.size, 1, none⟩ = some (.string T) := hst.box.cell 1
  have cd1 : w1.cell? ⟨w.heap.size, 4, none⟩ = some (.int .u8 13) := hst.box.cell 4
  clear hst
  go_wp2_with (go_at_call 23; refine (HS1.out.step hB ⟨#[124]⟩ (by decide) (by decide) (by (try simp only [List.length_append, byteCells_length]); have := sz1 42; have := sz1 124; have := sz1 38; omega)).mono ?_)
  rintro e w2 ⟨rfl, hst⟩
  have HS2 := Lib.hid hst
  have c92 : w2.cell? ⟨b, 9, none⟩ = some (.bool false) := hst.nine HK.out
  have cb2 : w2.cell? ⟨w.heap.size, 1, none⟩ = some (.string T) := hst.box.cell 1
  have cd2 : w2.cell? ⟨w.heap.size, 4, none⟩ = some (.int .u8 13) := hst.box.cell 4
  clear hst
  go_wp2_with (go_at_call 23; refine (HS2.out.step hB ⟨#[42]⟩ (by decide) (by decide) (by (try simp only [List.length_append, byteCells_length]); have := sz1 42; have := sz1 124; have := sz1 38; omega)).mono ?_)
  rintro e w3 ⟨rfl, hst⟩
  have HS3 := Lib.hid hst
  clear hst
  go_wp2_with fail
  go_end0
  have HE := HS3.out
  obtain ⟨A', cap', hp', _⟩ := HE.p
  exact ⟨rfl, ⟨A', cap', by simpa [List.flatMap_cons, List.flatMap_nil, List.append_assoc] using hp'⟩, HE.bel⟩
set_option maxHeartbeats 2000000 in
set_option maxRecDepth 100000 in
theorem nn_sa {B b : Nat} {K : Array Value} {A : Option Addr} {cap : Nat} {bs : List Value} (w : World) (hK : K[9]? = some (.bool false)) (T : ByteArray) (hts : T.size ≤ 1048576) (PT : ByteArray) (hps : PT.size ≤ 1048576) (q : Nat) (hq : Blk w q 71 #[.string PT, .int .i32 0, .int .i32 0, .int .u8 13]) (ws : Int) (h : IsP B b K A cap bs w) (hB : B ≤ w.heap.size) (hlen : bs.length ≤ 4194304) :
    Calls Tryf.prog 20 #[.pointer (some ⟨b, 0, none⟩), .agg #[.pointer (some ⟨q, 0, none⟩), .string T, .int .i32 0, .int .i32 0, .int .u8 12], .int .u8 ws] w (NnPost B b K (bs ++ ([⟨#[42]⟩, ⟨#[124]⟩, ⟨#[38]⟩] : List ByteArray).flatMap byteCells) w) := by
  have HS0 := Lib.hid (PSt.start h hB 74 #[.pointer (some ⟨q, 0, none⟩), .string T, .int .i32 0, .int .i32 0, .int .u8 12])
  have c9 : (w.alloc (.cells #[.pointer (some ⟨q, 0, none⟩), .string T, .int .i32 0, .int .i32 0, .int .u8 12] 74)).cell? ⟨b, 9, none⟩ = some (.bool false) := HS0.out.nine hK
  have HK := Lib.hid hK
  have HQ := Lib.hid (hq.alloc (.cells #[.pointer (some ⟨q, 0, none⟩), .string T, .int .i32 0, .int .i32 0, .int .u8 12] 74))
  have q0 : (w.alloc (.cells #[.pointer (some ⟨q, 0, none⟩), .string T, .int .i32 0, .int .i32 0, .int .u8 12] 74)).cell? ⟨q, 0, none⟩ = some (.string PT) := HQ.out.cell 0
  have q3 : (w.alloc (.cells #[.pointer (some ⟨q, 0, none⟩), .string T, .int .i32 0, .int .i32 0, .int .u8 12] 74)).cell? ⟨q, 3, none⟩ = some (.int .u8 13) := HQ.out.cell 3
  clear hq
  clear h hK
  go_enter Tryf.func20, Tryf.ntmps20
  go_wp2_with (go_at_call 23; refine (HS0.out.step hB ⟨#[42]⟩ (by decide) (by decide) (by (try simp only [List.length_append, byteCells_length]); have := sz1 42; have := sz1 124; have := sz1 38; omega)).mono ?_)
  rintro e w1 ⟨rfl, hst⟩
  have HS1 := Lib.hid hst
  have c91 : w1.cell? ⟨b, 9, none⟩ = some (.bool false) := hst.nine HK.out
  have cb1 : w1.cell? ⟨w.heap.size, 1, none⟩ = some (.string T) := hst.box.cell 1
  have cd1 : w1.cell? ⟨w.heap.size, 4, none⟩ = some (.int .u8 12) := hst.box.cell 4
  clear hst
  go_wp2_with (go_at_call 23; refine (HS1.out.step hB ⟨#[124]⟩ (by decide) (by decide) (by (try simp only [List.length_append, byteCells_length]); have := sz1 42; have := sz1 124; have := sz1 38; omega)).mono ?_)
  rintro e w2 ⟨rfl, hst⟩
  have HS2 := Lib.hid hst
  have c92 : w2.cell? ⟨b, 9, none⟩ = some (.bool false) := hst.nine HK.out
  have cb2 : w2.cell? ⟨w.heap.size, 1, none⟩ = some (.string T) := hst.box.cell 1
  have cd2 : w2.cell? ⟨w.heap.size, 4, none⟩ = some (.int .u8 12) := hst.box.cell 4
  clear hst
  go_wp2_with (go_at_call 23; refine (HS2.out.step hB ⟨#[38]⟩ (by decide) (by decide) (by (try simp only [List.length_append, byteCells_length]); have := sz1 42; have := sz1 124; have := sz1 38; omega)).mono ?_)
  rintro e w3 ⟨rfl, hst⟩
  have HS3 := Lib.hid hst
  clear hst
  go_wp2_with fail
  go_end0
  have HE := HS3.out
  obtain ⟨A', cap', hp', _⟩ := HE.p
  exact ⟨rfl, ⟨A', cap', by simpa [List.flatMap_cons, List.flatMap_nil, List.append_assoc] using hp'⟩, HE.bel⟩
set_option maxHeartbeats 2000000 in
set_option maxRecDepth 100000 in
theorem zz_ni {B b : Nat} {K : Array Value} {A : Option Addr} {cap : Nat} {bs : List Value} (hK : K[9]? = some (.bool false)) (T : ByteArray) (hts : T.size ≤ 1048576) (hpt : PlainId T) (ws : Int) (hws : 0 ≤ ws ∧ ws ≤ 1) (w : World) (h : IsP B b K A cap bs w) (hB : B ≤ w.heap.size) (hlen : bs.length ≤ 4194304) :
    Calls Tryf.prog 12 #[.pointer (some ⟨b, 0, none⟩), .int .i64 29, .string T, .int .u8 ws] w (NnPost B b K (bs ++ ([T] : List ByteArray).flatMap byteCells) w) := by
  have HC := Lib.hid (nn_ni w hK T hts hpt ws h hB hlen)
  clear h hK hpt
  go_enter Tryf.func12, Tryf.ntmps12
  go_wp2_with (go_at_call 20; refine HC.out.mono ?_)
  rintro e w' ⟨rfl, hp, hb⟩
  have HP := Lib.hid hp; have HB := Lib.hid hb
  clear hp hb
  go_wp2_with fail
  go_end0
  exact ⟨rfl, HP.out, HB.out⟩
set_option maxHeartbeats 2000000 in
set_option maxRecDepth 100000 in
theorem zz_ns {B b : Nat} {K : Array Value} {A : Option Addr} {cap : Nat} {bs : List Value} (hK : K[9]? = some (.bool false)) (T : ByteArray) (hts : T.size ≤ 1048576) (ws : Int) (hws : 0 ≤ ws ∧ ws ≤ 1) (w : World) (h : IsP B b K A cap bs w) (hB : B ≤ w.heap.size) (hlen : bs.length ≤ 4194304) :
    Calls Tryf.prog 12 #[.pointer (some ⟨b, 0, none⟩), .int .i64 13, .string T, .int .u8 ws] w (NnPost B b K (bs ++ ([⟨#[42]⟩] : List ByteArray).flatMap byteCells) w) := by
  have HC := Lib.hid (nn_ns w hK T hts ws h hB hlen)
  clear h hK
  go_enter Tryf.func12, Tryf.ntmps12
  go_wp2_with (go_at_call 20; refine HC.out.mono ?_)
  rintro e w' ⟨rfl, hp, hb⟩
  have HP := Lib.hid hp; have HB := Lib.hid hb
  clear hp hb
  go_wp2_with fail
  go_end0
  exact ⟨rfl, HP.out, HB.out⟩
set_option maxHeartbeats 2000000 in
set_option maxRecDepth 100000 in
theorem zz_na {B b : Nat} {K : Array Value} {A : Option Addr} {cap : Nat} {bs : List Value} (hK : K[9]? = some (.bool false)) (T : ByteArray) (hts : T.size ≤ 1048576) (ws : Int) (hws : 0 ≤ ws ∧ ws ≤ 1) (w : World) (h : IsP B b K A cap bs w) (hB : B ≤ w.heap.size) (hlen : bs.length ≤ 4194304) :
    Calls Tryf.prog 12 #[.pointer (some ⟨b, 0, none⟩), .int .i64 12, .string T, .int .u8 ws] w (NnPost B b K (bs ++ ([⟨#[38]⟩] : List ByteArray).flatMap byteCells) w) := by
  have HC := Lib.hid (nn_na w hK T hts ws h hB hlen)
  clear h hK
  go_enter Tryf.func12, Tryf.ntmps12
  go_wp2_with (go_at_call 20; refine HC.out.mono ?_)
  rintro e w' ⟨rfl, hp, hb⟩
  have HP := Lib.hid hp; have HB := Lib.hid hb
  clear hp hb
  go_wp2_with fail
  go_end0
  exact ⟨rfl, HP.out, HB.out⟩
set_option maxHeartbeats 2000000 in
set_option maxRecDepth 100000 in
theorem zz_ii {B b : Nat} {K : Array Value} {A : Option Addr} {cap : Nat} {bs : List Value} (hK : K[9]? = some (.bool false)) (T : ByteArray) (hts : T.size ≤ 1048576) (PT : ByteArray) (hps : PT.size ≤ 1048576) (hpp : PlainId PT) (hpt : PlainId T) (ws : Int) (hws : 0 ≤ ws ∧ ws ≤ 1) (w : World) (h : IsP B b K A cap bs w) (hB : B ≤ w.heap.size) (hlen : bs.length ≤ 4194304) :
    Calls Tryf.prog 13 #[.pointer (some ⟨b, 0, none⟩), .int .i64 29, .string PT, .int .i64 29, .string T, .int .u8 ws] w (NnPost B b K (bs ++ ([PT, ⟨#[124]⟩, T] : List ByteArray).flatMap byteCells) w) := by
  obtain ⟨W, hW⟩ : ∃ W, W = w.alloc (.cells #[.string PT, .int .i32 0, .int .i32 0, .int .u8 29] 71) := ⟨_, rfl⟩
  have HC := Lib.hid (nn_ii W hK T hts PT hps w.heap.size (by rw [hW]; exact Blk.new w 71 #[.string PT, .int .i32 0, .int .i32 0, .int .u8 29]) hpp hpt ws (by rw [hW]; exact h.alloc _) (by rw [hW]; simp; omega) hlen)
  have HB0 : Hid (Below B w W) := Lib.hid (by rw [hW]; exact (Below.refl _ _).alloc hB _)
  have HW := Lib.hid hW
  clear h hK hW hpt hpp
  go_enter Tryf.func13, Tryf.ntmps13
  go_wp2_with (go_at_call 20; rw [← HW.out]; refine HC.out.mono ?_)
  rintro e w' ⟨rfl, hp, hb⟩
  have HP := Lib.hid hp; have HB := Lib.hid (HB0.out.trans hb)
  clear hp hb
  go_wp2_with fail
  go_end0
  exact ⟨rfl, HP.out, HB.out⟩
set_option maxHeartbeats 2000000 in
set_option maxRecDepth 100000 in
theorem zz_is {B b : Nat} {K : Array Value} {A : Option Addr} {cap : Nat} {bs : List Value} (hK : K[9]? = some (.bool false)) (T : ByteArray) (hts : T.size ≤ 1048576) (PT : ByteArray) (hps : PT.size ≤ 1048576) (hpp : PlainId PT) (ws : Int) (hws : 0 ≤ ws ∧ ws ≤ 1) (w : World) (h : IsP B b K A cap bs w) (hB : B ≤ w.heap.size) (hlen : bs.length ≤ 4194304) :
    Calls Tryf.prog 13 #[.pointer (some ⟨b, 0, none⟩), .int .i64 29, .string PT, .int .i64 13, .string T, .int .u8 ws] w (NnPost B b K (bs ++ ([PT, ⟨#[124]⟩, ⟨#[42]⟩] : List ByteArray).flatMap byteCells) w) := by
  obtain ⟨W, hW⟩ : ∃ W, W = w.alloc (.cells #[.string PT, .int .i32 0, .int .i32 0, .int .u8 29] 71) := ⟨_, rfl⟩
  have HC := Lib.hid (nn_is W hK T hts PT hps w.heap.size (by rw [hW]; exact Blk.new w 71 #[.string PT, .int .i32 0, .int .i32 0, .int .u8 29]) hpp ws (by rw [hW]; exact h.alloc _) (by rw [hW]; simp; omega) hlen)
  have HB0 : Hid (Below B w W) := Lib.hid (by rw [hW]; exact (Below.refl _ _).alloc hB _)
  have HW := Lib.hid hW
  clear h hK hW hpp
  go_enter Tryf.func13, Tryf.ntmps13
  go_wp2_with (go_at_call 20; rw [← HW.out]; refine HC.out.mono ?_)
  rintro e w' ⟨rfl, hp, hb⟩
  have HP := Lib.hid hp; have HB := Lib.hid (HB0.out.trans hb)
  clear hp hb
  go_wp2_with fail
  go_end0
  exact ⟨rfl, HP.out, HB.out⟩
set_option maxHeartbeats 2000000 in
set_option maxRecDepth 100000 in
theorem zz_ia {B b : Nat} {K : Array Value} {A : Option Addr} {cap : Nat} {bs : List Value} (hK : K[9]? = some (.bool false)) (T : ByteArray) (hts : T.size ≤ 1048576) (PT : ByteArray) (hps : PT.size ≤ 1048576) (hpp : PlainId PT) (ws : Int) (hws : 0 ≤ ws ∧ ws ≤ 1) (w : World) (h : IsP B b K A cap bs w) (hB : B ≤ w.heap.size) (hlen : bs.length ≤ 4194304) :
    Calls Tryf.prog 13 #[.pointer (some ⟨b, 0, none⟩), .int .i64 29, .string PT, .int .i64 12, .string T, .int .u8 ws] w (NnPost B b K (bs ++ ([PT, ⟨#[124]⟩, ⟨#[38]⟩] : List ByteArray).flatMap byteCells) w) := by
  obtain ⟨W, hW⟩ : ∃ W, W = w.alloc (.cells #[.string PT, .int .i32 0, .int .i32 0, .int .u8 29] 71) := ⟨_, rfl⟩
  have HC := Lib.hid (nn_ia W hK T hts PT hps w.heap.size (by rw [hW]; exact Blk.new w 71 #[.string PT, .int .i32 0, .int .i32 0, .int .u8 29]) hpp ws (by rw [hW]; exact h.alloc _) (by rw [hW]; simp; omega) hlen)
  have HB0 : Hid (Below B w W) := Lib.hid (by rw [hW]; exact (Below.refl _ _).alloc hB _)
  have HW := Lib.hid hW
  clear h hK hW hpp
  go_enter Tryf.func13, Tryf.ntmps13
  go_wp2_with (go_at_call 20; rw [← HW.out]; refine HC.out.mono ?_)
  rintro e w' ⟨rfl, hp, hb⟩
  have HP := Lib.hid hp; have HB := Lib.hid (HB0.out.trans hb)
  clear hp hb
  go_wp2_with fail
  go_end0
  exact ⟨rfl, HP.out, HB.out⟩
set_option maxHeartbeats 2000000 in
set_option maxRecDepth 100000 in
theorem zz_si {B b : Nat} {K : Array Value} {A : Option Addr} {cap : Nat} {bs : List Value} (hK : K[9]? = some (.bool false)) (T : ByteArray) (hts : T.size ≤ 1048576) (PT : ByteArray) (hps : PT.size ≤ 1048576) (hpt : PlainId T) (ws : Int) (hws : 0 ≤ ws ∧ ws ≤ 1) (w : World) (h : IsP B b K A cap bs w) (hB : B ≤ w.heap.size) (hlen : bs.length ≤ 4194304) :
    Calls Tryf.prog 13 #[.pointer (some ⟨b, 0, none⟩), .int .i64 13, .string PT, .int .i64 29, .string T, .int .u8 ws] w (NnPost B b K (bs ++ ([⟨#[42]⟩, ⟨#[124]⟩, T] : List ByteArray).flatMap byteCells) w) := by
  obtain ⟨W, hW⟩ : ∃ W, W = w.alloc (.cells #[.string PT, .int .i32 0, .int .i32 0, .int .u8 13] 71) := ⟨_, rfl⟩
  have HC := Lib.hid (nn_si W hK T hts PT hps w.heap.size (by rw [hW]; exact Blk.new w 71 #[.string PT, .int .i32 0, .int .i32 0, .int .u8 13]) hpt ws (by rw [hW]; exact h.alloc _) (by rw [hW]; simp; omega) hlen)
  have HB0 : Hid (Below B w W) := Lib.hid (by rw [hW]; exact (Below.refl _ _).alloc hB _)
  have HW := Lib.hid hW
  clear h hK hW hpt
  go_enter Tryf.func13, Tryf.ntmps13
  go_wp2_with (go_at_call 20; rw [← HW.out]; refine HC.out.mono ?_)
  rintro e w' ⟨rfl, hp, hb⟩
  have HP := Lib.hid hp; have HB := Lib.hid (HB0.out.trans hb)
  clear hp hb
  go_wp2_with fail
  go_end0
  exact ⟨rfl, HP.out, HB.out⟩
set_option maxHeartbeats 2000000 in
set_option maxRecDepth 100000 in
theorem zz_ss {B b : Nat} {K : Array Value} {A : Option Addr} {cap : Nat} {bs : List Value} (hK : K[9]? = some (.bool false)) (T : ByteArray) (hts : T.size ≤ 1048576) (PT : ByteArray) (hps : PT.size ≤ 1048576) (ws : Int) (hws : 0 ≤ ws ∧ ws ≤ 1) (w : World) (h : IsP B b K A cap bs w) (hB : B ≤ w.heap.size) (hlen : bs.length ≤ 4194304) :
    Calls Tryf.prog 13 #[.pointer (some ⟨b, 0, none⟩), .int .i64 13, .string PT, .int .i64 13, .string T, .int .u8 ws] w (NnPost B b K (bs ++ ([⟨#[42]⟩, ⟨#[124]⟩, ⟨#[42]⟩] : List ByteArray).flatMap byteCells) w) := by
  obtain ⟨W, hW⟩ : ∃ W, W = w.alloc (.cells #[.string PT, .int .i32 0, .int .i32 0, .int .u8 13] 71) := ⟨_, rfl⟩
  have HC := Lib.hid (nn_ss W hK T hts PT hps w.heap.size (by rw [hW]; exact Blk.new w 71 #[.string PT, .int .i32 0, .int .i32 0, .int .u8 13]) ws (by rw [hW]; exact h.alloc _) (by rw [hW]; simp; omega) hlen)
  have HB0 : Hid (Below B w W) := Lib.hid (by rw [hW]; exact (Below.refl _ _).alloc hB _)
  have HW := Lib.hid hW
  clear h hK hW
  go_enter Tryf.func13, Tryf.ntmps13
  go_wp2_with (go_at_call 20; rw [← HW.out]; refine HC.out.mono ?_)
  rintro e w' ⟨rfl, hp, hb⟩
  have HP := Lib.hid hp; have HB := Lib.hid (HB0.out.trans hb)
  clear hp hb
  go_wp2_with fail
  go_end0
  exact ⟨rfl, HP.out, HB.out⟩
set_option maxHeartbeats 2000000 in
set_option maxRecDepth 100000 in
theorem zz_sa {B b : Nat} {K : Array Value} {A : Option Addr} {cap : Nat} {bs : List Value} (hK : K[9]? = some (.bool false)) (T : ByteArray) (hts : T.size ≤ 1048576) (PT : ByteArray) (hps : PT.size ≤ 1048576) (ws : Int) (hws : 0 ≤ ws ∧ ws ≤ 1) (w : World) (h : IsP B b K A cap bs w) (hB : B ≤ w.heap.size) (hlen : bs.length ≤ 4194304) :
    Calls Tryf.prog 13 #[.pointer (some ⟨b, 0, none⟩), .int .i64 13, .string PT, .int .i64 12, .string T, .int .u8 ws] w (NnPost B b K (bs ++ ([⟨#[42]⟩, ⟨#[124]⟩, ⟨#[38]⟩] : List ByteArray).flatMap byteCells) w) := by
  obtain ⟨W, hW⟩ : ∃ W, W = w.alloc (.cells #[.string PT, .int .i32 0, .int .i32 0, .int .u8 13] 71) := ⟨_, rfl⟩
  have HC := Lib.hid (nn_sa W hK T hts PT hps w.heap.size (by rw [hW]; exact Blk.new w 71 #[.string PT, .int .i32 0, .int .i32 0, .int .u8 13]) ws (by rw [hW]; exact h.alloc _) (by rw [hW]; simp; omega) hlen)
  have HB0 : Hid (Below B w W) := Lib.hid (by rw [hW]; exact (Below.refl _ _).alloc hB _)
  have HW := Lib.hid hW
  clear h hK hW
  go_enter Tryf.func13, Tryf.ntmps13
  go_wp2_with (go_at_call 20; rw [← HW.out]; refine HC.out.mono ?_)
  rintro e w' ⟨rfl, hp, hb⟩
  have HP := Lib.hid hp; have HB := Lib.hid (HB0.out.trans hb)
  clear hp hb
  go_wp2_with fail
  go_end0
  exact ⟨rfl, HP.out, HB.out⟩
def lS (c : Int) : Bool := decide ((97 ≤ c ∧ c ≤ 122) ∨ (65 ≤ c ∧ c ≤ 90) ∨ c = 95)
def lC (c : Int) : Bool := decide (lS c = true ∨ (48 ≤ c ∧ c ≤ 57) ∨ c = 45)
theorem lS_iff (c : UInt8) : lS (c.toNat : Int) = true ↔ pS c := by unfold lS pS; exact decide_eq_true_iff
theorem lC_iff (c : UInt8) : lC (c.toNat : Int) = true ↔ pC c := by unfold lC pC; rw [decide_eq_true_iff, lS_iff]
set_option maxRecDepth 100000 in
theorem letter_any (c : Int) (w : World) : Calls Tryf.prog 16 #[.int .u8 c] w fun e w' => e = .returned (.bool (lS c)) ∧ w = w' := by
  go_enter Tryf.func16, Tryf.ntmps16
  go_wp2
  all_goals
    go_ret
    refine ⟨ret_bool ?_, rfl⟩
    go_light
    symm
    unfold lS
    rw [Bool.eq_iff_iff]
    simp
    try omega
set_option maxRecDepth 100000 in
theorem nameb_any (c : Int) (w : World) : Calls Tryf.prog 17 #[.int .u8 c] w fun e w' => e = .returned (.bool (lC c)) ∧ w = w' := by
  cases hs : lS c
  all_goals
    have HC : Hid (lC c = decide (lS c = true ∨ (48 ≤ c ∧ c ≤ 57) ∨ c = 45)) := Lib.hid rfl
    have HS := Lib.hid hs
    clear hs
    go_enter Tryf.func17, Tryf.ntmps17
    go_wp2_with (go_at_call 16; (with_reducible refine (letter_any c _).mono ?_); rw [HS.out]; rintro e w' ⟨rfl, rfl⟩)
    all_goals
      go_ret
      refine ⟨ret_bool ?_, rfl⟩
      rw [HC.out, HS.out]
      go_light
      symm
      rw [Bool.eq_iff_iff]
      simp
      try omega
noncomputable def plB (s : ByteArray) : Bool := @decide (PlainId s) (Classical.propDecidable _)
theorem plB_yes {s : ByteArray} (h : PlainId s) : plB s = true := by unfold plB; exact @decide_eq_true _ (Classical.propDecidable _) h
theorem plB_no {s : ByteArray} (h : ¬ PlainId s) : plB s = false := by unfold plB; exact @decide_eq_false _ (Classical.propDecidable _) h
theorem plB_iff {s : ByteArray} : plB s = true ↔ PlainId s := by unfold plB; exact @decide_eq_true_iff _ (Classical.propDecidable _)
/-- The loop of the test, when the head is as it must be. -/
def HeadOk (s : ByteArray) : Prop := (((s.data.toList.getD 0 0).toNat : Int) = 45 ∧ 2 ≤ s.size ∧ (pS (s.data.toList.getD 1 0) ∨ ((s.data.toList.getD 1 0).toNat : Int) = 45)) ∨ pS (s.data.toList.getD 0 0)
theorem plB_head {s : ByteArray} (h : ¬ HeadOk s) : plB s = false := plB_no fun hp => h hp.hd
theorem plB_at {s : ByteArray} {i : Nat} (hi : i < s.size) (h : ¬ pC (s.data.toList.getD i 0)) : plB s = false := plB_no fun hp => h (hp.all i hi)
theorem plB_all {s : ByteArray} (h0 : 0 < s.size) (hd : HeadOk s) (h : ∀ i, i < s.size → pC (s.data.toList.getD i 0)) : plB s = true := plB_yes ⟨h0, h, hd⟩
set_option maxHeartbeats 4000000 in
set_option maxRecDepth 100000 in
theorem plain_any (s : ByteArray) (w : World) (hs : s.size ≤ 16777216) :
    Calls Tryf.prog 5 #[.string s] w fun e w' => e = .returned (.bool (plB s)) ∧ w = w' := by
  by_cases hz : s.size = 0
  · have HF := Lib.hid (plB_no (s := s) (fun h => by have := h.pos; omega))
    have z1 : (s.size : Int) = 0 := by omega
    go_enter Tryf.func5, Tryf.ntmps5
    go_wp2
    go_ret
    exact ⟨ret_bool HF.out.symm, rfl⟩
  have hp : 0 < s.size := by omega
  have hb0 := byte_get s 0 hp
  have HB0 := Lib.hid hb0
  clear hb0 hz
  by_cases h45 : (s[0].toNat : Int) = 45
  · have q1 : ((s[0].toNat : Int) == 45) = true := by rw [h45]; rfl
    have H45 : Hid (((s.data.toList.getD 0 0).toNat : Int) = 45) := Lib.hid (by rw [← HB0.out]; exact h45)
    have hns : ¬ pS (s.data.toList.getD 0 0) := by unfold pS; have := H45.out; omega
    have HNS := Lib.hid hns
    clear h45 hns
    by_cases hs1 : s.size < 2
    · have HF := Lib.hid (plB_head (s := s) (by rintro (⟨_, h, _⟩ | h); omega; exact HNS.out h))
      go_enter Tryf.func5, Tryf.ntmps5
      go_wp2
      go_ret
      exact ⟨ret_bool HF.out.symm, rfl⟩
    have hs2 : 2 ≤ s.size := by omega
    have h1lt : 1 < s.size := by omega
    have hb1 := byte_get s 1 h1lt
    have HB1 := Lib.hid hb1
    clear hb1 hs1
    cases hl : lS (s[1].toNat : Int)
    · have HL := Lib.hid hl
      have hn1 : ¬ pS (s.data.toList.getD 1 0) := by rw [← HB1.out, ← lS_iff, hl]; decide
      have HN1 := Lib.hid hn1
      clear hl hn1
      by_cases h1 : (s[1].toNat : Int) = 45
      · have q2 : ((s[1].toNat : Int) == 45) = true := by rw [h1]; rfl
        have HO : Hid (HeadOk s) := Lib.hid (.inl ⟨H45.out, hs2, .inr (by rw [← HB1.out]; exact h1)⟩)
        clear h1
        go_enter Tryf.func5, Tryf.ntmps5
        go_wp2_with (go_at_call 16; (with_reducible refine (letter_any (s[1].toNat : Int) _).mono ?_); rw [HL.out]; rintro e w' ⟨rfl, rfl⟩)
        go_loop [3] (fun i => ∃ k : Nat, i = .int .i64 k ∧ k ≤ s.size ∧ ∀ i, i < k → pC (s.data.toList.getD i 0)) (fun i => s.size - (intOf i).toNat)
        case atStart => exact ⟨0, rfl, by omega, fun i hi => by omega⟩
        case round =>
          obtain ⟨k, rfl, hk, hd⟩ := hrel
          have HD := Lib.hid hd
          clear hd
          by_cases hlt : k < s.size
          · have hbk := byte_get s k hlt
            have HBK := Lib.hid hbk
            clear hbk
            cases hc : lC (s[k].toNat : Int)
            · have HF : Hid (plB s = false) := Lib.hid (plB_at hlt (by rw [← HBK.out, ← lC_iff, hc]; decide))
              have HC := Lib.hid hc
              clear hc
              go_wp2_with (go_at_call 17; (with_reducible refine (nameb_any (s[k].toNat : Int) _).mono ?_); rw [HC.out]; rintro e w' ⟨rfl, rfl⟩)
              go_ret
              exact ⟨ret_bool HF.out.symm, rfl⟩
            · have HN : Hid (pC (s.data.toList.getD k 0)) := Lib.hid (by rw [← HBK.out, ← lC_iff, hc])
              have HC := Lib.hid hc
              clear hc
              go_wp2_with (go_at_call 17; (with_reducible refine (nameb_any (s[k].toNat : Int) _).mono ?_); rw [HC.out]; rintro e w' ⟨rfl, rfl⟩)
              go_round
              case rel => exact ⟨k + 1, by go_num, by omega, fun i hi => by
                rcases Nat.lt_or_ge i k with h | h
                · exact HD.out i h
                · obtain rfl : i = k := by omega
                  exact HN.out⟩
              case measure => simp [intOf]; omega
          · obtain rfl : k = s.size := by omega
            have HF : Hid (plB s = true) := Lib.hid (plB_all hp HO.out HD.out)
            go_wp2
            go_ret
            exact ⟨ret_bool HF.out.symm, rfl⟩
      · have q2 : ((s[1].toNat : Int) == 45) = false := by rw [beq_eq_false_iff_ne]; exact h1
        have HF := Lib.hid (plB_head (s := s) (by rintro (⟨_, _, h | h⟩ | h); exact HN1.out h; exact h1 (by rw [HB1.out]; exact h); exact HNS.out h))
        clear h1
        go_enter Tryf.func5, Tryf.ntmps5
        go_wp2_with (go_at_call 16; (with_reducible refine (letter_any (s[1].toNat : Int) _).mono ?_); rw [HL.out]; rintro e w' ⟨rfl, rfl⟩)
        go_ret
        exact ⟨ret_bool HF.out.symm, rfl⟩
    · have HL := Lib.hid hl
      have HO : Hid (HeadOk s) := Lib.hid (.inl ⟨H45.out, hs2, .inl (by rw [← HB1.out, ← lS_iff, hl])⟩)
      clear hl
      go_enter Tryf.func5, Tryf.ntmps5
      go_wp2_with (go_at_call 16; (with_reducible refine (letter_any (s[1].toNat : Int) _).mono ?_); rw [HL.out]; rintro e w' ⟨rfl, rfl⟩)
      go_loop [3] (fun i => ∃ k : Nat, i = .int .i64 k ∧ k ≤ s.size ∧ ∀ i, i < k → pC (s.data.toList.getD i 0)) (fun i => s.size - (intOf i).toNat)
      case atStart => exact ⟨0, rfl, by omega, fun i hi => by omega⟩
      case round =>
        obtain ⟨k, rfl, hk, hd⟩ := hrel
        have HD := Lib.hid hd
        clear hd
        by_cases hlt : k < s.size
        · have hbk := byte_get s k hlt
          have HBK := Lib.hid hbk
          clear hbk
          cases hc : lC (s[k].toNat : Int)
          · have HF : Hid (plB s = false) := Lib.hid (plB_at hlt (by rw [← HBK.out, ← lC_iff, hc]; decide))
            have HC := Lib.hid hc
            clear hc
            go_wp2_with (go_at_call 17; (with_reducible refine (nameb_any (s[k].toNat : Int) _).mono ?_); rw [HC.out]; rintro e w' ⟨rfl, rfl⟩)
            go_ret
            exact ⟨ret_bool HF.out.symm, rfl⟩
          · have HN : Hid (pC (s.data.toList.getD k 0)) := Lib.hid (by rw [← HBK.out, ← lC_iff, hc])
            have HC := Lib.hid hc
            clear hc
            go_wp2_with (go_at_call 17; (with_reducible refine (nameb_any (s[k].toNat : Int) _).mono ?_); rw [HC.out]; rintro e w' ⟨rfl, rfl⟩)
            go_round
            case rel => exact ⟨k + 1, by go_num, by omega, fun i hi => by
              rcases Nat.lt_or_ge i k with h | h
              · exact HD.out i h
              · obtain rfl : i = k := by omega
                exact HN.out⟩
            case measure => simp [intOf]; omega
        · obtain rfl : k = s.size := by omega
          have HF : Hid (plB s = true) := Lib.hid (plB_all hp HO.out HD.out)
          go_wp2
          go_ret
          exact ⟨ret_bool HF.out.symm, rfl⟩
  · have q1 : ((s[0].toNat : Int) == 45) = false := by rw [beq_eq_false_iff_ne]; exact h45
    have H45 : Hid (¬ ((s.data.toList.getD 0 0).toNat : Int) = 45) := Lib.hid (by rw [← HB0.out]; exact h45)
    clear h45
    cases hl : lS (s[0].toNat : Int)
    · have HL := Lib.hid hl
      have HF := Lib.hid (plB_head (s := s) (by rintro (⟨h, _⟩ | h); exact H45.out h; rw [← HB0.out, ← lS_iff, hl] at h; cases h))
      clear hl
      go_enter Tryf.func5, Tryf.ntmps5
      go_wp2_with (go_at_call 16; (with_reducible refine (letter_any (s[0].toNat : Int) _).mono ?_); rw [HL.out]; rintro e w' ⟨rfl, rfl⟩)
      go_ret
      exact ⟨ret_bool HF.out.symm, rfl⟩
    · have HL := Lib.hid hl
      have HO : Hid (HeadOk s) := Lib.hid (.inr (by rw [← HB0.out, ← lS_iff, hl]))
      clear hl
      go_enter Tryf.func5, Tryf.ntmps5
      go_wp2_with (go_at_call 16; (with_reducible refine (letter_any (s[0].toNat : Int) _).mono ?_); rw [HL.out]; rintro e w' ⟨rfl, rfl⟩)
      go_loop [3] (fun i => ∃ k : Nat, i = .int .i64 k ∧ k ≤ s.size ∧ ∀ i, i < k → pC (s.data.toList.getD i 0)) (fun i => s.size - (intOf i).toNat)
      case atStart => exact ⟨0, rfl, by omega, fun i hi => by omega⟩
      case round =>
        obtain ⟨k, rfl, hk, hd⟩ := hrel
        have HD := Lib.hid hd
        clear hd
        by_cases hlt : k < s.size
        · have hbk := byte_get s k hlt
          have HBK := Lib.hid hbk
          clear hbk
          cases hc : lC (s[k].toNat : Int)
          · have HF : Hid (plB s = false) := Lib.hid (plB_at hlt (by rw [← HBK.out, ← lC_iff, hc]; decide))
            have HC := Lib.hid hc
            clear hc
            go_wp2_with (go_at_call 17; (with_reducible refine (nameb_any (s[k].toNat : Int) _).mono ?_); rw [HC.out]; rintro e w' ⟨rfl, rfl⟩)
            go_ret
            exact ⟨ret_bool HF.out.symm, rfl⟩
          · have HN : Hid (pC (s.data.toList.getD k 0)) := Lib.hid (by rw [← HBK.out, ← lC_iff, hc])
            have HC := Lib.hid hc
            clear hc
            go_wp2_with (go_at_call 17; (with_reducible refine (nameb_any (s[k].toNat : Int) _).mono ?_); rw [HC.out]; rintro e w' ⟨rfl, rfl⟩)
            go_round
            case rel => exact ⟨k + 1, by go_num, by omega, fun i hi => by
              rcases Nat.lt_or_ge i k with h | h
              · exact HD.out i h
              · obtain rfl : i = k := by omega
                exact HN.out⟩
            case measure => simp [intOf]; omega
        · obtain rfl : k = s.size := by omega
          have HF : Hid (plB s = true) := Lib.hid (plB_all hp HO.out HD.out)
          go_wp2
          go_ret
          exact ⟨ret_bool HF.out.symm, rfl⟩
end Go.Proofs.YtemefojfnghhoaaFmt
