/- unicode.SimpleFold, its tables as cells: on an ASCII letter, and on the long s. -/
import Derived.Test.YtachkgmngahpoaaFmtRows
import Derived.Test.YtachkgmngahpoaaFmtWords
import Derived.WalkKit
import Derived.WalkSpells
import Derived.LoopTactic
import Derived.Outline
import Derived.IntWalk
import Derived.Deep.Light
namespace Go.Proofs.YtachkgmngahpoaaFmt
open Go.RowKit
set_option linter.unusedVariables false
set_option linter.unusedSimpArgs false
def ascT : List Nat := [0, 1, 2, 3, 4, 5, 6, 7, 8, 9, 10, 11, 12, 13, 14, 15, 16, 17, 18, 19, 20, 21, 22, 23, 24, 25, 26, 27, 28, 29, 30, 31, 32, 33, 34, 35, 36, 37, 38, 39, 40, 41, 42, 43, 44, 45, 46, 47, 48, 49, 50, 51, 52, 53, 54, 55, 56, 57, 58, 59, 60, 61, 62, 63, 64, 97, 98, 99, 100, 101, 102, 103, 104, 105, 106, 107, 108, 109, 110, 111, 112, 113, 114, 115, 116, 117, 118, 119, 120, 121, 122, 91, 92, 93, 94, 95, 96, 65, 66, 67, 68, 69, 70, 71, 72, 73, 74, 8490, 76, 77, 78, 79, 80, 81, 82, 383, 84, 85, 86, 87, 88, 89, 90, 123, 124, 125, 126, 127]
def orbT : List (Nat × Nat) := [(75, 107), (83, 115), (107, 8490), (115, 383), (181, 924), (197, 229), (223, 7838), (229, 8491), (304, 304), (305, 305), (383, 83), (452, 453), (453, 454), (454, 452), (455, 456), (456, 457), (457, 455), (458, 459), (459, 460), (460, 458), (497, 498), (498, 499), (499, 497), (837, 921), (912, 8147), (914, 946), (917, 949), (920, 952), (921, 953), (922, 954), (924, 956), (928, 960), (929, 961), (931, 962), (934, 966), (937, 969), (944, 8163), (946, 976), (949, 1013), (952, 977), (953, 8126), (954, 1008), (956, 181), (960, 982), (961, 1009), (962, 963), (963, 931), (966, 981), (969, 8486), (976, 914), (977, 1012), (981, 934), (982, 928), (1008, 922), (1009, 929), (1012, 920), (1013, 917), (1042, 1074), (1044, 1076), (1054, 1086), (1057, 1089), (1058, 1090), (1066, 1098), (1074, 7296), (1076, 7297), (1086, 7298), (1089, 7299), (1090, 7300), (1098, 7302), (1122, 1123), (1123, 7303), (7296, 1042), (7297, 1044), (7298, 1054), (7299, 1057), (7300, 7301), (7301, 1058), (7302, 1066), (7303, 1122), (7304, 42570), (7776, 7777), (7777, 7835), (7835, 7776), (7838, 223), (8126, 837), (8147, 912), (8163, 944), (8486, 937), (8490, 75), (8491, 197), (42570, 42571), (42571, 7304), (64261, 64262), (64262, 64261)]
/-- The two tables, as they lie. -/
structure FoldTabs (w : World) : Prop where
  asc : ∀ c, c < 128 → w.cell? ⟨2, c, none⟩ = some (.int .u16 (ascT.getD c 0 : Nat))
  orb : ∃ R oR cap, w.cell? ⟨3, 0, none⟩ = some (.slice (some ⟨R, oR, none⟩) 94 cap) ∧ ∀ i, i < 94 → w.cell? ⟨R, oR + i * 2, none⟩ = some (.int .u16 (orbT.getD i (0, 0)).1) ∧ w.cell? ⟨R, oR + i * 2 + 1, none⟩ = some (.int .u16 (orbT.getD i (0, 0)).2)
theorem FoldTabs.keep {w w' : World} (h : FoldTabs w) (hk : ∀ p : Addr, p.block < w.heap.size → w'.cell? p = w.cell? p) : FoldTabs w' := by
  have key : ∀ p u, w.cell? p = some u → w'.cell? p = some u := fun p u hp => (hk p (World.block_lt_of_cell? _ _ hp)).trans hp
  obtain ⟨R, oR, cap, h1, h2⟩ := h.orb
  exact ⟨fun c hc => key _ _ (h.asc c hc), R, oR, cap, key _ _ h1, fun i hi => ⟨key _ _ (h2 i hi).1, key _ _ (h2 i hi).2⟩⟩
def SfPost (v : Int) (w : World) (e : Ending) (w' : World) : Prop := e = .returned (.int .i32 v) ∧ w' = w
set_option maxRecDepth 100000 in
theorem sf_ascii (c : Nat) (hc : c < 128) (w : World) (h : FoldTabs w) : Calls Tryf.prog 22 #[.int .i32 (c : Int)] w (SfPost (ascT.getD c 0 : Nat) w) := by
  have h1 := h.asc c hc
  obtain ⟨v, hv⟩ : ∃ v, v = ascT.getD c 0 := ⟨_, rfl⟩
  have hlt : v < 65536 := by
    rw [hv]
    have hall : ascT.all (fun x => decide (x < 65536)) = true := by decide
    rw [List.getD_eq_getElem?_getD]
    cases hx : ascT[c]? with
    | none => simp
    | some y => exact of_decide_eq_true (List.all_eq_true.1 hall y (List.mem_of_getElem? hx))
  rw [← hv] at h1 ⊢
  clear h hv
  have e1 : ¬ (c : Int) < 0 := by omega
  have e2 : ¬ (1114111 : Int) < (c : Int) := by omega
  have e2' : (c : Int) ≤ 1114111 := by omega
  have e3 : (c : Int) < 128 := by omega
  have e4 : (v : Int) < 65536 := by omega
  have e5 : IntKind.i32.wrap (v : Int) = (v : Int) := by rw [IntKind.wrap_i32]; omega
  have e6 : IntKind.i64.wrap (c : Int) = (c : Int) := by rw [IntKind.wrap_i64]; omega
  go_enter Tryf.func22, Tryf.ntmps22
  go_wp2
  go_ret
  exact ⟨rfl, rfl⟩
def stL : List Nat := [0, 0, 0, 0, 6, 9, 9, 10]
def stH : List Nat := [94, 47, 23, 11, 11, 11, 10, 10]
set_option maxHeartbeats 2000000 in
set_option maxRecDepth 100000 in
theorem sf_long (w : World) (h : FoldTabs w) : Calls Tryf.prog 22 #[.int .i32 383] w (SfPost 83 w) := by
  obtain ⟨R, oR, cap, h0, hr⟩ := h.orb
  have a5 : w.cell? ⟨R, oR + 10, none⟩ = some (.int .u16 197) := (hr 5 (by omega)).1
  have a8 : w.cell? ⟨R, oR + 16, none⟩ = some (.int .u16 304) := (hr 8 (by omega)).1
  have a9 : w.cell? ⟨R, oR + 18, none⟩ = some (.int .u16 305) := (hr 9 (by omega)).1
  have a10 : w.cell? ⟨R, oR + 20, none⟩ = some (.int .u16 383) := (hr 10 (by omega)).1
  have a11 : w.cell? ⟨R, oR + 22, none⟩ = some (.int .u16 452) := (hr 11 (by omega)).1
  have a23 : w.cell? ⟨R, oR + 46, none⟩ = some (.int .u16 837) := (hr 23 (by omega)).1
  have a47 : w.cell? ⟨R, oR + 94, none⟩ = some (.int .u16 966) := (hr 47 (by omega)).1
  have b10 : w.cell? ⟨R, oR + 21, none⟩ = some (.int .u16 83) := (hr 10 (by omega)).2
  clear hr h
  go_enter Tryf.func22, Tryf.ntmps22
  go_wp2
  go_loopw [3, 4] (fun a b wr => wr = w ∧ ∃ k, k < 8 ∧ a = .int .i64 (stL.getD k 0 : Nat) ∧ b = .int .i64 (stH.getD k 0 : Nat)) (fun a b _ => (intOf b - intOf a).toNat)
  case atStart => exact ⟨rfl, 0, by omega, rfl, rfl⟩
  case round =>
    obtain ⟨rfl, k, hk, rfl, rfl⟩ := hrel
    rcases (by omega : k = 0 ∨ k = 1 ∨ k = 2 ∨ k = 3 ∨ k = 4 ∨ k = 5 ∨ k = 6 ∨ k = 7) with rfl | rfl | rfl | rfl | rfl | rfl | rfl | rfl
    · have x1 : ((stL.getD 0 0 : Nat) : Int) = 0 := rfl
      have x2 : ((stH.getD 0 0 : Nat) : Int) = 94 := rfl
      rw [x1, x2]
      clear x1 x2
      go_wp2
      go_roundw
      case rel => exact ⟨by trivial, 1, by omega, rfl, rfl⟩
      case measure => decide
    · have x1 : ((stL.getD 1 0 : Nat) : Int) = 0 := rfl
      have x2 : ((stH.getD 1 0 : Nat) : Int) = 47 := rfl
      rw [x1, x2]
      clear x1 x2
      go_wp2
      go_roundw
      case rel => exact ⟨by trivial, 2, by omega, rfl, rfl⟩
      case measure => decide
    · have x1 : ((stL.getD 2 0 : Nat) : Int) = 0 := rfl
      have x2 : ((stH.getD 2 0 : Nat) : Int) = 23 := rfl
      rw [x1, x2]
      clear x1 x2
      go_wp2
      go_roundw
      case rel => exact ⟨by trivial, 3, by omega, rfl, rfl⟩
      case measure => decide
    · have x1 : ((stL.getD 3 0 : Nat) : Int) = 0 := rfl
      have x2 : ((stH.getD 3 0 : Nat) : Int) = 11 := rfl
      rw [x1, x2]
      clear x1 x2
      go_wp2
      go_roundw
      case rel => exact ⟨by trivial, 4, by omega, rfl, rfl⟩
      case measure => decide
    · have x1 : ((stL.getD 4 0 : Nat) : Int) = 6 := rfl
      have x2 : ((stH.getD 4 0 : Nat) : Int) = 11 := rfl
      rw [x1, x2]
      clear x1 x2
      go_wp2
      go_roundw
      case rel => exact ⟨by trivial, 5, by omega, rfl, rfl⟩
      case measure => decide
    · have x1 : ((stL.getD 5 0 : Nat) : Int) = 9 := rfl
      have x2 : ((stH.getD 5 0 : Nat) : Int) = 11 := rfl
      rw [x1, x2]
      clear x1 x2
      go_wp2
      go_roundw
      case rel => exact ⟨by trivial, 6, by omega, rfl, rfl⟩
      case measure => decide
    · have x1 : ((stL.getD 6 0 : Nat) : Int) = 9 := rfl
      have x2 : ((stH.getD 6 0 : Nat) : Int) = 10 := rfl
      rw [x1, x2]
      clear x1 x2
      go_wp2
      go_roundw
      case rel => exact ⟨by trivial, 7, by omega, rfl, rfl⟩
      case measure => decide
    · have x1 : ((stL.getD 7 0 : Nat) : Int) = 10 := rfl
      have x2 : ((stH.getD 7 0 : Nat) : Int) = 10 := rfl
      rw [x1, x2]
      clear x1 x2
      go_wp2
      go_ret
      exact ⟨rfl, rfl⟩
end Go.Proofs.YtachkgmngahpoaaFmt
