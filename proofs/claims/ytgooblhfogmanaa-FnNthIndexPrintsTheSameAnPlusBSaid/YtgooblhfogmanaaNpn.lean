/- n011_276: printNthIndex. -/
import Derived.Test.YtgooblhfogmanaaNpr
import Derived.Deep.RegionWith
namespace Go.Proofs.Ytgooblhfogmanaa
open Go.RowKit
set_option linter.unusedVariables false
set_option linter.unusedSimpArgs false
theorem first_list (b : ByteArray) (h : 0 < b.size) : (b.extract 0 1).data.toList = [b.data.toList.getD 0 0] := by
  rw [extract_list, List.drop_zero]
  have hl := byte_size b
  cases e : b.data.toList with
  | nil => rw [e] at hl; simp at hl; omega
  | cons x r => rfl
set_option maxHeartbeats 1000000 in
set_option maxRecDepth 100000 in
theorem pre_yes (b : ByteArray) (w : World) (hs : b.size ≤ 16777216) (h0 : 0 < b.size) (h : b.data.toList.getD 0 0 = 45) :
    Calls Try.prog 15 #[.string b, .string ⟨#[45]⟩] w fun e w' => e = .returned (.bool true) ∧ w = w' := by
  have e1 : (b.extract 0 1).toList = [45] := by rw [toList_data, first_list b h0, h]
  have e2 : ((b.extract 0 1).toList == [45]) = true := by rw [e1]; rfl
  clear h
  go_enter Try.func15, Try.ntmps15
  go_wp2
  go_ret
  exact ⟨rfl, rfl⟩
set_option maxHeartbeats 1000000 in
set_option maxRecDepth 100000 in
theorem pre_no (b : ByteArray) (w : World) (hs : b.size ≤ 16777216) (h0 : 0 < b.size) (h : b.data.toList.getD 0 0 ≠ 45) :
    Calls Try.prog 15 #[.string b, .string ⟨#[45]⟩] w fun e w' => e = .returned (.bool false) ∧ w = w' := by
  have e1 : ¬ (b.extract 0 1).toList = [45] := by rw [toList_data, first_list b h0]; intro e; injection e with e; exact h e
  have e2 : ((b.extract 0 1).toList == [45]) = false := by simpa using e1
  clear h
  go_enter Try.func15, Try.ntmps15
  go_wp2
  go_ret
  exact ⟨rfl, rfl⟩
def AP (a : ByteArray) (p : List ByteArray) : Prop := (a.data.toList = [45, 49] ∧ p = [⟨#[45]⟩]) ∨ (a.data.toList = [49] ∧ p = []) ∨ (a.data.toList ≠ [] ∧ a.data.toList ≠ [45, 49] ∧ a.data.toList ≠ [49] ∧ p = [a])
def BP (b : ByteArray) (p : List ByteArray) : Prop := (b.data.toList = [] ∧ p = []) ∨ (0 < b.size ∧ b.data.toList.getD 0 0 = 45 ∧ p = [b]) ∨ (0 < b.size ∧ b.data.toList.getD 0 0 ≠ 45 ∧ p = [⟨#[43]⟩, b])
theorem bc1 (bs : List Value) (s : ByteArray) : bs ++ byteCells s = bs ++ [s].flatMap byteCells := by simp
theorem bc2 (bs : List Value) (p : List ByteArray) (s : ByteArray) : bs ++ p.flatMap byteCells ++ byteCells s = bs ++ (p ++ [s]).flatMap byteCells := by simp
theorem sz1 (c : UInt8) : (⟨#[c]⟩ : ByteArray).size = 1 := rfl
set_option maxHeartbeats 2000000 in
set_option maxRecDepth 100000 in
theorem nth_me {B b : Nat} {K : Array Value} {A : Option Addr} {cap : Nat} {bs : List Value} (sa sb : ByteArray) (w : World) (h : IsP B b K A cap bs w) (hB : B ≤ w.heap.size) (hsa : sa.size ≤ 1048576) (hsb : sb.size ≤ 1048576) (hlen : bs.length ≤ 4194304) (qa : sa.data.toList = [45, 49]) (ra : sb.data.toList = []) :
    Calls Try.prog 13 #[.pointer (some ⟨b, 0, none⟩), .agg #[.string sa, .string sb]] w (PPost B b w.heap.size 66 #[.string sa, .string sb] K w (bs ++ ([⟨#[45]⟩, ⟨#[110]⟩] : List ByteArray).flatMap byteCells)) := by
  have HS0 := Lib.hid (PSt.start h hB 66 #[.string sa, .string sb])
  clear h
  have qa1 : sa.toList = [45, 49] := by rw [toList_data]; exact qa
  have qa2 : (sa.toList == [45, 49]) = true := by rw [qa1]; rfl
  have qa4 : ¬ sa.toList = [] := by rw [qa1]; simp
  have qa3 : sa.toList.isEmpty = false := by rw [qa1]; rfl
  clear qa
  have ra1 : sb.toList = [] := by rw [toList_data]; exact ra
  have ra2 : (sb.toList == []) = true := by rw [ra1]; rfl
  have ra3 : sb.toList.isEmpty = true := by rw [ra1]; rfl
  clear ra
  go_enter Try.func13, Try.ntmps13
  go_wp2_with (go_at_call 14; refine (HS0.out.step hB ⟨#[45]⟩ (by decide) (by decide) (by (try simp only [List.length_append, byteCells_length]); have := sz1 45; have := sz1 43; have := sz1 110; omega)).mono ?_)
  rintro e w1 ⟨rfl, hst⟩
  have HS1 := Lib.hid hst
  have ca1 : w1.cell? ⟨w.heap.size, 0, none⟩ = some (.string sa) := hst.box.cell 0
  have cb1 : w1.cell? ⟨w.heap.size, 1, none⟩ = some (.string sb) := hst.box.cell 1
  clear hst
  go_wp2_with (go_at_call 14; refine (HS1.out.step hB ⟨#[110]⟩ (by decide) (by decide) (by (try simp only [List.length_append, byteCells_length]); have := sz1 45; have := sz1 43; have := sz1 110; omega)).mono ?_)
  rintro e w2 ⟨rfl, hst⟩
  have HS2 := Lib.hid hst
  have ca2 : w2.cell? ⟨w.heap.size, 0, none⟩ = some (.string sa) := hst.box.cell 0
  have cb2 : w2.cell? ⟨w.heap.size, 1, none⟩ = some (.string sb) := hst.box.cell 1
  clear hst
  go_wp2
  go_end0
  exact ⟨rfl, by have := HS2.out; simpa [List.flatMap_cons, List.flatMap_nil, List.append_assoc] using this⟩
set_option maxHeartbeats 2000000 in
set_option maxRecDepth 100000 in
theorem nth_mm {B b : Nat} {K : Array Value} {A : Option Addr} {cap : Nat} {bs : List Value} (sa sb : ByteArray) (w : World) (h : IsP B b K A cap bs w) (hB : B ≤ w.heap.size) (hsa : sa.size ≤ 1048576) (hsb : sb.size ≤ 1048576) (hlen : bs.length ≤ 4194304) (qa : sa.data.toList = [45, 49]) (hb0 : 0 < sb.size) (hbf : sb.data.toList.getD 0 0 = 45) :
    Calls Try.prog 13 #[.pointer (some ⟨b, 0, none⟩), .agg #[.string sa, .string sb]] w (PPost B b w.heap.size 66 #[.string sa, .string sb] K w (bs ++ ([⟨#[45]⟩, ⟨#[110]⟩, sb] : List ByteArray).flatMap byteCells)) := by
  have HS0 := Lib.hid (PSt.start h hB 66 #[.string sa, .string sb])
  clear h
  have qa1 : sa.toList = [45, 49] := by rw [toList_data]; exact qa
  have qa2 : (sa.toList == [45, 49]) = true := by rw [qa1]; rfl
  have qa4 : ¬ sa.toList = [] := by rw [qa1]; simp
  have qa3 : sa.toList.isEmpty = false := by rw [qa1]; rfl
  clear qa
  have ra : sb.data.toList ≠ [] := fun e => by have h1 := byte_size sb; rw [e] at h1; simp at h1; omega
  have ra1 : ¬ sb.toList = [] := by rw [toList_data]; exact ra
  have ra2 : (sb.toList == []) = false := by simpa using ra1
  have ra3 : sb.toList.isEmpty = false := by simpa using ra1
  clear ra
  go_enter Try.func13, Try.ntmps13
  go_wp2_with (go_at_call 14; refine (HS0.out.step hB ⟨#[45]⟩ (by decide) (by decide) (by (try simp only [List.length_append, byteCells_length]); have := sz1 45; have := sz1 43; have := sz1 110; omega)).mono ?_)
  rintro e w1 ⟨rfl, hst⟩
  have HS1 := Lib.hid hst
  have ca1 : w1.cell? ⟨w.heap.size, 0, none⟩ = some (.string sa) := hst.box.cell 0
  have cb1 : w1.cell? ⟨w.heap.size, 1, none⟩ = some (.string sb) := hst.box.cell 1
  clear hst
  go_wp2_with (go_at_call 14; refine (HS1.out.step hB ⟨#[110]⟩ (by decide) (by decide) (by (try simp only [List.length_append, byteCells_length]); have := sz1 45; have := sz1 43; have := sz1 110; omega)).mono ?_)
  rintro e w2 ⟨rfl, hst⟩
  have HS2 := Lib.hid hst
  have ca2 : w2.cell? ⟨w.heap.size, 0, none⟩ = some (.string sa) := hst.box.cell 0
  have cb2 : w2.cell? ⟨w.heap.size, 1, none⟩ = some (.string sb) := hst.box.cell 1
  clear hst
  go_wp2_with (go_at_call 15; refine (pre_yes sb _ (by omega) hb0 hbf).mono ?_; rintro e wq ⟨rfl, rfl⟩)
  go_wp2_with (go_at_call 14; refine (HS2.out.step hB sb hb0 (by omega) (by (try simp only [List.length_append, byteCells_length]); have := sz1 45; have := sz1 43; have := sz1 110; omega)).mono ?_)
  rintro e w3 ⟨rfl, hst⟩
  have HS3 := Lib.hid hst
  have ca3 : w3.cell? ⟨w.heap.size, 0, none⟩ = some (.string sa) := hst.box.cell 0
  have cb3 : w3.cell? ⟨w.heap.size, 1, none⟩ = some (.string sb) := hst.box.cell 1
  clear hst
  go_wp2
  go_end0
  exact ⟨rfl, by have := HS3.out; simpa [List.flatMap_cons, List.flatMap_nil, List.append_assoc] using this⟩
set_option maxHeartbeats 2000000 in
set_option maxRecDepth 100000 in
theorem nth_mp {B b : Nat} {K : Array Value} {A : Option Addr} {cap : Nat} {bs : List Value} (sa sb : ByteArray) (w : World) (h : IsP B b K A cap bs w) (hB : B ≤ w.heap.size) (hsa : sa.size ≤ 1048576) (hsb : sb.size ≤ 1048576) (hlen : bs.length ≤ 4194304) (qa : sa.data.toList = [45, 49]) (hb0 : 0 < sb.size) (hbf : sb.data.toList.getD 0 0 ≠ 45) :
    Calls Try.prog 13 #[.pointer (some ⟨b, 0, none⟩), .agg #[.string sa, .string sb]] w (PPost B b w.heap.size 66 #[.string sa, .string sb] K w (bs ++ ([⟨#[45]⟩, ⟨#[110]⟩, ⟨#[43]⟩, sb] : List ByteArray).flatMap byteCells)) := by
  have HS0 := Lib.hid (PSt.start h hB 66 #[.string sa, .string sb])
  clear h
  have qa1 : sa.toList = [45, 49] := by rw [toList_data]; exact qa
  have qa2 : (sa.toList == [45, 49]) = true := by rw [qa1]; rfl
  have qa4 : ¬ sa.toList = [] := by rw [qa1]; simp
  have qa3 : sa.toList.isEmpty = false := by rw [qa1]; rfl
  clear qa
  have ra : sb.data.toList ≠ [] := fun e => by have h1 := byte_size sb; rw [e] at h1; simp at h1; omega
  have ra1 : ¬ sb.toList = [] := by rw [toList_data]; exact ra
  have ra2 : (sb.toList == []) = false := by simpa using ra1
  have ra3 : sb.toList.isEmpty = false := by simpa using ra1
  clear ra
  go_enter Try.func13, Try.ntmps13
  go_wp2_with (go_at_call 14; refine (HS0.out.step hB ⟨#[45]⟩ (by decide) (by decide) (by (try simp only [List.length_append, byteCells_length]); have := sz1 45; have := sz1 43; have := sz1 110; omega)).mono ?_)
  rintro e w1 ⟨rfl, hst⟩
  have HS1 := Lib.hid hst
  have ca1 : w1.cell? ⟨w.heap.size, 0, none⟩ = some (.string sa) := hst.box.cell 0
  have cb1 : w1.cell? ⟨w.heap.size, 1, none⟩ = some (.string sb) := hst.box.cell 1
  clear hst
  go_wp2_with (go_at_call 14; refine (HS1.out.step hB ⟨#[110]⟩ (by decide) (by decide) (by (try simp only [List.length_append, byteCells_length]); have := sz1 45; have := sz1 43; have := sz1 110; omega)).mono ?_)
  rintro e w2 ⟨rfl, hst⟩
  have HS2 := Lib.hid hst
  have ca2 : w2.cell? ⟨w.heap.size, 0, none⟩ = some (.string sa) := hst.box.cell 0
  have cb2 : w2.cell? ⟨w.heap.size, 1, none⟩ = some (.string sb) := hst.box.cell 1
  clear hst
  go_wp2_with (go_at_call 15; refine (pre_no sb _ (by omega) hb0 hbf).mono ?_; rintro e wq ⟨rfl, rfl⟩)
  go_wp2_with (go_at_call 14; refine (HS2.out.step hB ⟨#[43]⟩ (by decide) (by decide) (by (try simp only [List.length_append, byteCells_length]); have := sz1 45; have := sz1 43; have := sz1 110; omega)).mono ?_)
  rintro e w3 ⟨rfl, hst⟩
  have HS3 := Lib.hid hst
  have ca3 : w3.cell? ⟨w.heap.size, 0, none⟩ = some (.string sa) := hst.box.cell 0
  have cb3 : w3.cell? ⟨w.heap.size, 1, none⟩ = some (.string sb) := hst.box.cell 1
  clear hst
  go_wp2_with (go_at_call 14; refine (HS3.out.step hB sb hb0 (by omega) (by (try simp only [List.length_append, byteCells_length]); have := sz1 45; have := sz1 43; have := sz1 110; omega)).mono ?_)
  rintro e w4 ⟨rfl, hst⟩
  have HS4 := Lib.hid hst
  have ca4 : w4.cell? ⟨w.heap.size, 0, none⟩ = some (.string sa) := hst.box.cell 0
  have cb4 : w4.cell? ⟨w.heap.size, 1, none⟩ = some (.string sb) := hst.box.cell 1
  clear hst
  go_wp2
  go_end0
  exact ⟨rfl, by have := HS4.out; simpa [List.flatMap_cons, List.flatMap_nil, List.append_assoc] using this⟩
set_option maxHeartbeats 2000000 in
set_option maxRecDepth 100000 in
theorem nth_oe {B b : Nat} {K : Array Value} {A : Option Addr} {cap : Nat} {bs : List Value} (sa sb : ByteArray) (w : World) (h : IsP B b K A cap bs w) (hB : B ≤ w.heap.size) (hsa : sa.size ≤ 1048576) (hsb : sb.size ≤ 1048576) (hlen : bs.length ≤ 4194304) (qa : sa.data.toList = [49]) (ra : sb.data.toList = []) :
    Calls Try.prog 13 #[.pointer (some ⟨b, 0, none⟩), .agg #[.string sa, .string sb]] w (PPost B b w.heap.size 66 #[.string sa, .string sb] K w (bs ++ ([⟨#[110]⟩] : List ByteArray).flatMap byteCells)) := by
  have HS0 := Lib.hid (PSt.start h hB 66 #[.string sa, .string sb])
  clear h
  have qa1 : sa.toList = [49] := by rw [toList_data]; exact qa
  have qa2 : (sa.toList == [49]) = true := by rw [qa1]; rfl
  have qa4 : ¬ sa.toList = [] := by rw [qa1]; simp
  have qa3 : sa.toList.isEmpty = false := by rw [qa1]; rfl
  clear qa
  have qb2 : ¬ sa.toList = [45, 49] := by rw [qa1]; simp
  have qb3 : (sa.toList == [45, 49]) = false := by rw [qa1]; rfl
  have ra1 : sb.toList = [] := by rw [toList_data]; exact ra
  have ra2 : (sb.toList == []) = true := by rw [ra1]; rfl
  have ra3 : sb.toList.isEmpty = true := by rw [ra1]; rfl
  clear ra
  go_enter Try.func13, Try.ntmps13
  go_wp2_with (go_at_call 14; refine (HS0.out.step hB ⟨#[110]⟩ (by decide) (by decide) (by (try simp only [List.length_append, byteCells_length]); have := sz1 45; have := sz1 43; have := sz1 110; omega)).mono ?_)
  rintro e w1 ⟨rfl, hst⟩
  have HS1 := Lib.hid hst
  have ca1 : w1.cell? ⟨w.heap.size, 0, none⟩ = some (.string sa) := hst.box.cell 0
  have cb1 : w1.cell? ⟨w.heap.size, 1, none⟩ = some (.string sb) := hst.box.cell 1
  clear hst
  go_wp2
  go_end0
  exact ⟨rfl, by have := HS1.out; simpa [List.flatMap_cons, List.flatMap_nil, List.append_assoc] using this⟩
set_option maxHeartbeats 2000000 in
set_option maxRecDepth 100000 in
theorem nth_om {B b : Nat} {K : Array Value} {A : Option Addr} {cap : Nat} {bs : List Value} (sa sb : ByteArray) (w : World) (h : IsP B b K A cap bs w) (hB : B ≤ w.heap.size) (hsa : sa.size ≤ 1048576) (hsb : sb.size ≤ 1048576) (hlen : bs.length ≤ 4194304) (qa : sa.data.toList = [49]) (hb0 : 0 < sb.size) (hbf : sb.data.toList.getD 0 0 = 45) :
    Calls Try.prog 13 #[.pointer (some ⟨b, 0, none⟩), .agg #[.string sa, .string sb]] w (PPost B b w.heap.size 66 #[.string sa, .string sb] K w (bs ++ ([⟨#[110]⟩, sb] : List ByteArray).flatMap byteCells)) := by
  have HS0 := Lib.hid (PSt.start h hB 66 #[.string sa, .string sb])
  clear h
  have qa1 : sa.toList = [49] := by rw [toList_data]; exact qa
  have qa2 : (sa.toList == [49]) = true := by rw [qa1]; rfl
  have qa4 : ¬ sa.toList = [] := by rw [qa1]; simp
  have qa3 : sa.toList.isEmpty = false := by rw [qa1]; rfl
  clear qa
  have qb2 : ¬ sa.toList = [45, 49] := by rw [qa1]; simp
  have qb3 : (sa.toList == [45, 49]) = false := by rw [qa1]; rfl
  have ra : sb.data.toList ≠ [] := fun e => by have h1 := byte_size sb; rw [e] at h1; simp at h1; omega
  have ra1 : ¬ sb.toList = [] := by rw [toList_data]; exact ra
  have ra2 : (sb.toList == []) = false := by simpa using ra1
  have ra3 : sb.toList.isEmpty = false := by simpa using ra1
  clear ra
  go_enter Try.func13, Try.ntmps13
  go_wp2_with (go_at_call 14; refine (HS0.out.step hB ⟨#[110]⟩ (by decide) (by decide) (by (try simp only [List.length_append, byteCells_length]); have := sz1 45; have := sz1 43; have := sz1 110; omega)).mono ?_)
  rintro e w1 ⟨rfl, hst⟩
  have HS1 := Lib.hid hst
  have ca1 : w1.cell? ⟨w.heap.size, 0, none⟩ = some (.string sa) := hst.box.cell 0
  have cb1 : w1.cell? ⟨w.heap.size, 1, none⟩ = some (.string sb) := hst.box.cell 1
  clear hst
  go_wp2_with (go_at_call 15; refine (pre_yes sb _ (by omega) hb0 hbf).mono ?_; rintro e wq ⟨rfl, rfl⟩)
  go_wp2_with (go_at_call 14; refine (HS1.out.step hB sb hb0 (by omega) (by (try simp only [List.length_append, byteCells_length]); have := sz1 45; have := sz1 43; have := sz1 110; omega)).mono ?_)
  rintro e w2 ⟨rfl, hst⟩
  have HS2 := Lib.hid hst
  have ca2 : w2.cell? ⟨w.heap.size, 0, none⟩ = some (.string sa) := hst.box.cell 0
  have cb2 : w2.cell? ⟨w.heap.size, 1, none⟩ = some (.string sb) := hst.box.cell 1
  clear hst
  go_wp2
  go_end0
  exact ⟨rfl, by have := HS2.out; simpa [List.flatMap_cons, List.flatMap_nil, List.append_assoc] using this⟩
set_option maxHeartbeats 2000000 in
set_option maxRecDepth 100000 in
theorem nth_op {B b : Nat} {K : Array Value} {A : Option Addr} {cap : Nat} {bs : List Value} (sa sb : ByteArray) (w : World) (h : IsP B b K A cap bs w) (hB : B ≤ w.heap.size) (hsa : sa.size ≤ 1048576) (hsb : sb.size ≤ 1048576) (hlen : bs.length ≤ 4194304) (qa : sa.data.toList = [49]) (hb0 : 0 < sb.size) (hbf : sb.data.toList.getD 0 0 ≠ 45) :
    Calls Try.prog 13 #[.pointer (some ⟨b, 0, none⟩), .agg #[.string sa, .string sb]] w (PPost B b w.heap.size 66 #[.string sa, .string sb] K w (bs ++ ([⟨#[110]⟩, ⟨#[43]⟩, sb] : List ByteArray).flatMap byteCells)) := by
  have HS0 := Lib.hid (PSt.start h hB 66 #[.string sa, .string sb])
  clear h
  have qa1 : sa.toList = [49] := by rw [toList_data]; exact qa
  have qa2 : (sa.toList == [49]) = true := by rw [qa1]; rfl
  have qa4 : ¬ sa.toList = [] := by rw [qa1]; simp
  have qa3 : sa.toList.isEmpty = false := by rw [qa1]; rfl
  clear qa
  have qb2 : ¬ sa.toList = [45, 49] := by rw [qa1]; simp
  have qb3 : (sa.toList == [45, 49]) = false := by rw [qa1]; rfl
  have ra : sb.data.toList ≠ [] := fun e => by have h1 := byte_size sb; rw [e] at h1; simp at h1; omega
  have ra1 : ¬ sb.toList = [] := by rw [toList_data]; exact ra
  have ra2 : (sb.toList == []) = false := by simpa using ra1
  have ra3 : sb.toList.isEmpty = false := by simpa using ra1
  clear ra
  go_enter Try.func13, Try.ntmps13
  go_wp2_with (go_at_call 14; refine (HS0.out.step hB ⟨#[110]⟩ (by decide) (by decide) (by (try simp only [List.length_append, byteCells_length]); have := sz1 45; have := sz1 43; have := sz1 110; omega)).mono ?_)
  rintro e w1 ⟨rfl, hst⟩
  have HS1 := Lib.hid hst
  have ca1 : w1.cell? ⟨w.heap.size, 0, none⟩ = some (.string sa) := hst.box.cell 0
  have cb1 : w1.cell? ⟨w.heap.size, 1, none⟩ = some (.string sb) := hst.box.cell 1
  clear hst
  go_wp2_with (go_at_call 15; refine (pre_no sb _ (by omega) hb0 hbf).mono ?_; rintro e wq ⟨rfl, rfl⟩)
  go_wp2_with (go_at_call 14; refine (HS1.out.step hB ⟨#[43]⟩ (by decide) (by decide) (by (try simp only [List.length_append, byteCells_length]); have := sz1 45; have := sz1 43; have := sz1 110; omega)).mono ?_)
  rintro e w2 ⟨rfl, hst⟩
  have HS2 := Lib.hid hst
  have ca2 : w2.cell? ⟨w.heap.size, 0, none⟩ = some (.string sa) := hst.box.cell 0
  have cb2 : w2.cell? ⟨w.heap.size, 1, none⟩ = some (.string sb) := hst.box.cell 1
  clear hst
  go_wp2_with (go_at_call 14; refine (HS2.out.step hB sb hb0 (by omega) (by (try simp only [List.length_append, byteCells_length]); have := sz1 45; have := sz1 43; have := sz1 110; omega)).mono ?_)
  rintro e w3 ⟨rfl, hst⟩
  have HS3 := Lib.hid hst
  have ca3 : w3.cell? ⟨w.heap.size, 0, none⟩ = some (.string sa) := hst.box.cell 0
  have cb3 : w3.cell? ⟨w.heap.size, 1, none⟩ = some (.string sb) := hst.box.cell 1
  clear hst
  go_wp2
  go_end0
  exact ⟨rfl, by have := HS3.out; simpa [List.flatMap_cons, List.flatMap_nil, List.append_assoc] using this⟩
set_option maxHeartbeats 2000000 in
set_option maxRecDepth 100000 in
theorem nth_xe {B b : Nat} {K : Array Value} {A : Option Addr} {cap : Nat} {bs : List Value} (sa sb : ByteArray) (w : World) (h : IsP B b K A cap bs w) (hB : B ≤ w.heap.size) (hsa : sa.size ≤ 1048576) (hsb : sb.size ≤ 1048576) (hlen : bs.length ≤ 4194304) (qa : sa.data.toList ≠ []) (qb : sa.data.toList ≠ [45, 49]) (qc : sa.data.toList ≠ [49]) (ra : sb.data.toList = []) :
    Calls Try.prog 13 #[.pointer (some ⟨b, 0, none⟩), .agg #[.string sa, .string sb]] w (PPost B b w.heap.size 66 #[.string sa, .string sb] K w (bs ++ ([sa, ⟨#[110]⟩] : List ByteArray).flatMap byteCells)) := by
  have HS0 := Lib.hid (PSt.start h hB 66 #[.string sa, .string sb])
  clear h
  have ha0 : 0 < sa.size := by rw [← byte_size]; exact List.length_pos_iff.2 qa
  have qa1 : ¬ sa.toList = [] := by rw [toList_data]; exact qa
  have qa2 : (sa.toList == []) = false := by simpa using qa1
  have qa3 : sa.toList.isEmpty = false := by simpa using qa1
  clear qa
  have qb1 : ¬ sa.toList = [45, 49] := by rw [toList_data]; exact qb
  have qb2 : (sa.toList == [45, 49]) = false := by simpa using qb1
  clear qb
  have qc1 : ¬ sa.toList = [49] := by rw [toList_data]; exact qc
  have qc2 : (sa.toList == [49]) = false := by simpa using qc1
  clear qc
  have ra1 : sb.toList = [] := by rw [toList_data]; exact ra
  have ra2 : (sb.toList == []) = true := by rw [ra1]; rfl
  have ra3 : sb.toList.isEmpty = true := by rw [ra1]; rfl
  clear ra
  go_enter Try.func13, Try.ntmps13
  go_wp2_with (go_at_call 14; refine (HS0.out.step hB sa ha0 (by omega) (by (try simp only [List.length_append, byteCells_length]); have := sz1 45; have := sz1 43; have := sz1 110; omega)).mono ?_)
  rintro e w1 ⟨rfl, hst⟩
  have HS1 := Lib.hid hst
  have ca1 : w1.cell? ⟨w.heap.size, 0, none⟩ = some (.string sa) := hst.box.cell 0
  have cb1 : w1.cell? ⟨w.heap.size, 1, none⟩ = some (.string sb) := hst.box.cell 1
  clear hst
  go_wp2_with (go_at_call 14; refine (HS1.out.step hB ⟨#[110]⟩ (by decide) (by decide) (by (try simp only [List.length_append, byteCells_length]); have := sz1 45; have := sz1 43; have := sz1 110; omega)).mono ?_)
  rintro e w2 ⟨rfl, hst⟩
  have HS2 := Lib.hid hst
  have ca2 : w2.cell? ⟨w.heap.size, 0, none⟩ = some (.string sa) := hst.box.cell 0
  have cb2 : w2.cell? ⟨w.heap.size, 1, none⟩ = some (.string sb) := hst.box.cell 1
  clear hst
  go_wp2
  go_end0
  exact ⟨rfl, by have := HS2.out; simpa [List.flatMap_cons, List.flatMap_nil, List.append_assoc] using this⟩
set_option maxHeartbeats 2000000 in
set_option maxRecDepth 100000 in
theorem nth_xm {B b : Nat} {K : Array Value} {A : Option Addr} {cap : Nat} {bs : List Value} (sa sb : ByteArray) (w : World) (h : IsP B b K A cap bs w) (hB : B ≤ w.heap.size) (hsa : sa.size ≤ 1048576) (hsb : sb.size ≤ 1048576) (hlen : bs.length ≤ 4194304) (qa : sa.data.toList ≠ []) (qb : sa.data.toList ≠ [45, 49]) (qc : sa.data.toList ≠ [49]) (hb0 : 0 < sb.size) (hbf : sb.data.toList.getD 0 0 = 45) :
    Calls Try.prog 13 #[.pointer (some ⟨b, 0, none⟩), .agg #[.string sa, .string sb]] w (PPost B b w.heap.size 66 #[.string sa, .string sb] K w (bs ++ ([sa, ⟨#[110]⟩, sb] : List ByteArray).flatMap byteCells)) := by
  have HS0 := Lib.hid (PSt.start h hB 66 #[.string sa, .string sb])
  clear h
  have ha0 : 0 < sa.size := by rw [← byte_size]; exact List.length_pos_iff.2 qa
  have qa1 : ¬ sa.toList = [] := by rw [toList_data]; exact qa
  have qa2 : (sa.toList == []) = false := by simpa using qa1
  have qa3 : sa.toList.isEmpty = false := by simpa using qa1
  clear qa
  have qb1 : ¬ sa.toList = [45, 49] := by rw [toList_data]; exact qb
  have qb2 : (sa.toList == [45, 49]) = false := by simpa using qb1
  clear qb
  have qc1 : ¬ sa.toList = [49] := by rw [toList_data]; exact qc
  have qc2 : (sa.toList == [49]) = false := by simpa using qc1
  clear qc
  have ra : sb.data.toList ≠ [] := fun e => by have h1 := byte_size sb; rw [e] at h1; simp at h1; omega
  have ra1 : ¬ sb.toList = [] := by rw [toList_data]; exact ra
  have ra2 : (sb.toList == []) = false := by simpa using ra1
  have ra3 : sb.toList.isEmpty = false := by simpa using ra1
  clear ra
  go_enter Try.func13, Try.ntmps13
  go_wp2_with (go_at_call 14; refine (HS0.out.step hB sa ha0 (by omega) (by (try simp only [List.length_append, byteCells_length]); have := sz1 45; have := sz1 43; have := sz1 110; omega)).mono ?_)
  rintro e w1 ⟨rfl, hst⟩
  have HS1 := Lib.hid hst
  have ca1 : w1.cell? ⟨w.heap.size, 0, none⟩ = some (.string sa) := hst.box.cell 0
  have cb1 : w1.cell? ⟨w.heap.size, 1, none⟩ = some (.string sb) := hst.box.cell 1
  clear hst
  go_wp2_with (go_at_call 14; refine (HS1.out.step hB ⟨#[110]⟩ (by decide) (by decide) (by (try simp only [List.length_append, byteCells_length]); have := sz1 45; have := sz1 43; have := sz1 110; omega)).mono ?_)
  rintro e w2 ⟨rfl, hst⟩
  have HS2 := Lib.hid hst
  have ca2 : w2.cell? ⟨w.heap.size, 0, none⟩ = some (.string sa) := hst.box.cell 0
  have cb2 : w2.cell? ⟨w.heap.size, 1, none⟩ = some (.string sb) := hst.box.cell 1
  clear hst
  go_wp2_with (go_at_call 15; refine (pre_yes sb _ (by omega) hb0 hbf).mono ?_; rintro e wq ⟨rfl, rfl⟩)
  go_wp2_with (go_at_call 14; refine (HS2.out.step hB sb hb0 (by omega) (by (try simp only [List.length_append, byteCells_length]); have := sz1 45; have := sz1 43; have := sz1 110; omega)).mono ?_)
  rintro e w3 ⟨rfl, hst⟩
  have HS3 := Lib.hid hst
  have ca3 : w3.cell? ⟨w.heap.size, 0, none⟩ = some (.string sa) := hst.box.cell 0
  have cb3 : w3.cell? ⟨w.heap.size, 1, none⟩ = some (.string sb) := hst.box.cell 1
  clear hst
  go_wp2
  go_end0
  exact ⟨rfl, by have := HS3.out; simpa [List.flatMap_cons, List.flatMap_nil, List.append_assoc] using this⟩
set_option maxHeartbeats 2000000 in
set_option maxRecDepth 100000 in
theorem nth_xp {B b : Nat} {K : Array Value} {A : Option Addr} {cap : Nat} {bs : List Value} (sa sb : ByteArray) (w : World) (h : IsP B b K A cap bs w) (hB : B ≤ w.heap.size) (hsa : sa.size ≤ 1048576) (hsb : sb.size ≤ 1048576) (hlen : bs.length ≤ 4194304) (qa : sa.data.toList ≠ []) (qb : sa.data.toList ≠ [45, 49]) (qc : sa.data.toList ≠ [49]) (hb0 : 0 < sb.size) (hbf : sb.data.toList.getD 0 0 ≠ 45) :
    Calls Try.prog 13 #[.pointer (some ⟨b, 0, none⟩), .agg #[.string sa, .string sb]] w (PPost B b w.heap.size 66 #[.string sa, .string sb] K w (bs ++ ([sa, ⟨#[110]⟩, ⟨#[43]⟩, sb] : List ByteArray).flatMap byteCells)) := by
  have HS0 := Lib.hid (PSt.start h hB 66 #[.string sa, .string sb])
  clear h
  have ha0 : 0 < sa.size := by rw [← byte_size]; exact List.length_pos_iff.2 qa
  have qa1 : ¬ sa.toList = [] := by rw [toList_data]; exact qa
  have qa2 : (sa.toList == []) = false := by simpa using qa1
  have qa3 : sa.toList.isEmpty = false := by simpa using qa1
  clear qa
  have qb1 : ¬ sa.toList = [45, 49] := by rw [toList_data]; exact qb
  have qb2 : (sa.toList == [45, 49]) = false := by simpa using qb1
  clear qb
  have qc1 : ¬ sa.toList = [49] := by rw [toList_data]; exact qc
  have qc2 : (sa.toList == [49]) = false := by simpa using qc1
  clear qc
  have ra : sb.data.toList ≠ [] := fun e => by have h1 := byte_size sb; rw [e] at h1; simp at h1; omega
  have ra1 : ¬ sb.toList = [] := by rw [toList_data]; exact ra
  have ra2 : (sb.toList == []) = false := by simpa using ra1
  have ra3 : sb.toList.isEmpty = false := by simpa using ra1
  clear ra
  go_enter Try.func13, Try.ntmps13
  go_wp2_with (go_at_call 14; refine (HS0.out.step hB sa ha0 (by omega) (by (try simp only [List.length_append, byteCells_length]); have := sz1 45; have := sz1 43; have := sz1 110; omega)).mono ?_)
  rintro e w1 ⟨rfl, hst⟩
  have HS1 := Lib.hid hst
  have ca1 : w1.cell? ⟨w.heap.size, 0, none⟩ = some (.string sa) := hst.box.cell 0
  have cb1 : w1.cell? ⟨w.heap.size, 1, none⟩ = some (.string sb) := hst.box.cell 1
  clear hst
  go_wp2_with (go_at_call 14; refine (HS1.out.step hB ⟨#[110]⟩ (by decide) (by decide) (by (try simp only [List.length_append, byteCells_length]); have := sz1 45; have := sz1 43; have := sz1 110; omega)).mono ?_)
  rintro e w2 ⟨rfl, hst⟩
  have HS2 := Lib.hid hst
  have ca2 : w2.cell? ⟨w.heap.size, 0, none⟩ = some (.string sa) := hst.box.cell 0
  have cb2 : w2.cell? ⟨w.heap.size, 1, none⟩ = some (.string sb) := hst.box.cell 1
  clear hst
  go_wp2_with (go_at_call 15; refine (pre_no sb _ (by omega) hb0 hbf).mono ?_; rintro e wq ⟨rfl, rfl⟩)
  go_wp2_with (go_at_call 14; refine (HS2.out.step hB ⟨#[43]⟩ (by decide) (by decide) (by (try simp only [List.length_append, byteCells_length]); have := sz1 45; have := sz1 43; have := sz1 110; omega)).mono ?_)
  rintro e w3 ⟨rfl, hst⟩
  have HS3 := Lib.hid hst
  have ca3 : w3.cell? ⟨w.heap.size, 0, none⟩ = some (.string sa) := hst.box.cell 0
  have cb3 : w3.cell? ⟨w.heap.size, 1, none⟩ = some (.string sb) := hst.box.cell 1
  clear hst
  go_wp2_with (go_at_call 14; refine (HS3.out.step hB sb hb0 (by omega) (by (try simp only [List.length_append, byteCells_length]); have := sz1 45; have := sz1 43; have := sz1 110; omega)).mono ?_)
  rintro e w4 ⟨rfl, hst⟩
  have HS4 := Lib.hid hst
  have ca4 : w4.cell? ⟨w.heap.size, 0, none⟩ = some (.string sa) := hst.box.cell 0
  have cb4 : w4.cell? ⟨w.heap.size, 1, none⟩ = some (.string sb) := hst.box.cell 1
  clear hst
  go_wp2
  go_end0
  exact ⟨rfl, by have := HS4.out; simpa [List.flatMap_cons, List.flatMap_nil, List.append_assoc] using this⟩
set_option maxHeartbeats 2000000 in
set_option maxRecDepth 100000 in
theorem nth_ee {B b : Nat} {K : Array Value} {A : Option Addr} {cap : Nat} {bs : List Value} (sa sb : ByteArray) (w : World) (h : IsP B b K A cap bs w) (hB : B ≤ w.heap.size) (hsa : sa.size ≤ 1048576) (hsb : sb.size ≤ 1048576) (hlen : bs.length ≤ 4194304) (qa : sa.data.toList = []) (ra : sb.data.toList = []) :
    Calls Try.prog 13 #[.pointer (some ⟨b, 0, none⟩), .agg #[.string sa, .string sb]] w (PPost B b w.heap.size 66 #[.string sa, .string sb] K w (bs ++ ([] : List ByteArray).flatMap byteCells)) := by
  have HS0 := Lib.hid (PSt.start h hB 66 #[.string sa, .string sb])
  clear h
  have qa1 : sa.toList = [] := by rw [toList_data]; exact qa
  have qa2 : (sa.toList == []) = true := by rw [qa1]; rfl
  have qa3 : sa.toList.isEmpty = true := by rw [qa1]; rfl
  clear qa
  have ra1 : sb.toList = [] := by rw [toList_data]; exact ra
  have ra2 : (sb.toList == []) = true := by rw [ra1]; rfl
  have ra3 : sb.toList.isEmpty = true := by rw [ra1]; rfl
  clear ra
  go_enter Try.func13, Try.ntmps13
  go_wp2
  go_end0
  exact ⟨rfl, by have := HS0.out; simpa [List.flatMap_cons, List.flatMap_nil, List.append_assoc] using this⟩
set_option maxHeartbeats 2000000 in
set_option maxRecDepth 100000 in
theorem nth_em {B b : Nat} {K : Array Value} {A : Option Addr} {cap : Nat} {bs : List Value} (sa sb : ByteArray) (w : World) (h : IsP B b K A cap bs w) (hB : B ≤ w.heap.size) (hsa : sa.size ≤ 1048576) (hsb : sb.size ≤ 1048576) (hlen : bs.length ≤ 4194304) (qa : sa.data.toList = []) (hb0 : 0 < sb.size) :
    Calls Try.prog 13 #[.pointer (some ⟨b, 0, none⟩), .agg #[.string sa, .string sb]] w (PPost B b w.heap.size 66 #[.string sa, .string sb] K w (bs ++ ([sb] : List ByteArray).flatMap byteCells)) := by
  have HS0 := Lib.hid (PSt.start h hB 66 #[.string sa, .string sb])
  clear h
  have qa1 : sa.toList = [] := by rw [toList_data]; exact qa
  have qa2 : (sa.toList == []) = true := by rw [qa1]; rfl
  have qa3 : sa.toList.isEmpty = true := by rw [qa1]; rfl
  clear qa
  have ra : sb.data.toList ≠ [] := fun e => by have h1 := byte_size sb; rw [e] at h1; simp at h1; omega
  have ra1 : ¬ sb.toList = [] := by rw [toList_data]; exact ra
  have ra2 : (sb.toList == []) = false := by simpa using ra1
  have ra3 : sb.toList.isEmpty = false := by simpa using ra1
  clear ra
  go_enter Try.func13, Try.ntmps13
  go_wp2_with (go_at_call 14; refine (HS0.out.step hB sb hb0 (by omega) (by (try simp only [List.length_append, byteCells_length]); have := sz1 45; have := sz1 43; have := sz1 110; omega)).mono ?_)
  rintro e w1 ⟨rfl, hst⟩
  have HS1 := Lib.hid hst
  have ca1 : w1.cell? ⟨w.heap.size, 0, none⟩ = some (.string sa) := hst.box.cell 0
  have cb1 : w1.cell? ⟨w.heap.size, 1, none⟩ = some (.string sb) := hst.box.cell 1
  clear hst
  go_wp2
  go_end0
  exact ⟨rfl, by have := HS1.out; simpa [List.flatMap_cons, List.flatMap_nil, List.append_assoc] using this⟩
end Go.Proofs.Ytgooblhfogmanaa
