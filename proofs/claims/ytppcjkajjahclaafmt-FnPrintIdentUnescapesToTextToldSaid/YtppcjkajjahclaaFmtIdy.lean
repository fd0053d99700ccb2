/- css_printer.printIdent of a text that the law speaks of (written by mkidy.py). -/
import Derived.Test.YtppcjkajjahclaaFmtIdx
import Derived.WalkMore
import Derived.ScopeJumps
import Derived.Deep.LoopGhost
namespace Go.Proofs.YtppcjkajjahclaaFmt
open Go.RowKit Go.Shelf
set_option linter.unusedVariables false
set_option linter.unusedSimpArgs false
def Jump (s : ByteArray) (b : Nat) (ws : Int) (w1 : World) (a : Act) (w' : World) : Prop :=
  w' = w1 ∧ ∃ f : Nat → Value, a = { tmps := #[.pointer (some ⟨b, 0, none⟩), .string s, .int .u8 0, .int .u8 ws, f 4, f 5, f 6, f 7, .int .i64 s.size, .int .u8 0, f 10, f 11, f 12, f 13, f 14, f 15, f 16, f 17, f 18, f 19, f 20, f 21, f 22, f 23, f 24, f 25, f 26, f 27, f 28, f 29, f 30, f 31, f 32, f 33, f 34, f 35, f 36, f 37, f 38, f 39, f 40, f 41, f 42, f 43, f 44, f 45, f 46, f 47, f 48, f 49, f 50, f 51, f 52, f 53, f 54, f 55, f 56, f 57, f 58, f 59, f 60, f 61, f 62, f 63, f 64, f 65, f 66, f 67, f 68, f 69, f 70, f 71, f 72, f 73, f 74, f 75, f 76, f 77, f 78, f 79, f 80, f 81, f 82, f 83, f 84, f 85, f 86, f 87, f 88, f 89, f 90, f 91, f 92, f 93, f 94, f 95, f 96, f 97, f 98, f 99, f 100, f 101, f 102, f 103, f 104, f 105, f 106, f 107, f 108, f 109, f 110, f 111, f 112, f 113, f 114, f 115, f 116, f 117, f 118, f 119, f 120, f 121, f 122, f 123, f 124, f 125, f 126, f 127, f 128, f 129, f 130, f 131, f 132, f 133, f 134, f 135, f 136, f 137, f 138, f 139, f 140, f 141, f 142, f 143, f 144, f 145, f 146, f 147, f 148, f 149, f 150, f 151, f 152, f 153, f 154, f 155, f 156, f 157, f 158, f 159, f 160, f 161, f 162, f 163, f 164, f 165, f 166, f 167], defers := [] }
theorem jump_mk (s : ByteArray) (b : Nat) (ws : Int) (w1 : World) (u4 u5 u6 u7 u10 u11 u12 u13 u14 u15 u16 u17 u18 u19 u20 u21 u22 u23 u24 u25 u26 u27 u28 u29 u30 u31 u32 u33 u34 u35 u36 u37 u38 u39 u40 u41 u42 u43 u44 u45 u46 u47 u48 u49 u50 u51 u52 u53 u54 u55 u56 u57 u58 u59 u60 u61 u62 u63 u64 u65 u66 u67 u68 u69 u70 u71 u72 u73 u74 u75 u76 u77 u78 u79 u80 u81 u82 u83 u84 u85 u86 u87 u88 u89 u90 u91 u92 u93 u94 u95 u96 u97 u98 u99 u100 u101 u102 u103 u104 u105 u106 u107 u108 u109 u110 u111 u112 u113 u114 u115 u116 u117 u118 u119 u120 u121 u122 u123 u124 u125 u126 u127 u128 u129 u130 u131 u132 u133 u134 u135 u136 u137 u138 u139 u140 u141 u142 u143 u144 u145 u146 u147 u148 u149 u150 u151 u152 u153 u154 u155 u156 u157 u158 u159 u160 u161 u162 u163 u164 u165 u166 u167 : Value) : Jump s b ws w1 { tmps := #[.pointer (some ⟨b, 0, none⟩), .string s, .int .u8 0, .int .u8 ws, u4, u5, u6, u7, .int .i64 s.size, .int .u8 0, u10, u11, u12, u13, u14, u15, u16, u17, u18, u19, u20, u21, u22, u23, u24, u25, u26, u27, u28, u29, u30, u31, u32, u33, u34, u35, u36, u37, u38, u39, u40, u41, u42, u43, u44, u45, u46, u47, u48, u49, u50, u51, u52, u53, u54, u55, u56, u57, u58, u59, u60, u61, u62, u63, u64, u65, u66, u67, u68, u69, u70, u71, u72, u73, u74, u75, u76, u77, u78, u79, u80, u81, u82, u83, u84, u85, u86, u87, u88, u89, u90, u91, u92, u93, u94, u95, u96, u97, u98, u99, u100, u101, u102, u103, u104, u105, u106, u107, u108, u109, u110, u111, u112, u113, u114, u115, u116, u117, u118, u119, u120, u121, u122, u123, u124, u125, u126, u127, u128, u129, u130, u131, u132, u133, u134, u135, u136, u137, u138, u139, u140, u141, u142, u143, u144, u145, u146, u147, u148, u149, u150, u151, u152, u153, u154, u155, u156, u157, u158, u159, u160, u161, u162, u163, u164, u165, u166, u167], defers := [] } w1 :=
  ⟨rfl, fun k => match k with | 4 => u4 | 5 => u5 | 6 => u6 | 7 => u7 | 10 => u10 | 11 => u11 | 12 => u12 | 13 => u13 | 14 => u14 | 15 => u15 | 16 => u16 | 17 => u17 | 18 => u18 | 19 => u19 | 20 => u20 | 21 => u21 | 22 => u22 | 23 => u23 | 24 => u24 | 25 => u25 | 26 => u26 | 27 => u27 | 28 => u28 | 29 => u29 | 30 => u30 | 31 => u31 | 32 => u32 | 33 => u33 | 34 => u34 | 35 => u35 | 36 => u36 | 37 => u37 | 38 => u38 | 39 => u39 | 40 => u40 | 41 => u41 | 42 => u42 | 43 => u43 | 44 => u44 | 45 => u45 | 46 => u46 | 47 => u47 | 48 => u48 | 49 => u49 | 50 => u50 | 51 => u51 | 52 => u52 | 53 => u53 | 54 => u54 | 55 => u55 | 56 => u56 | 57 => u57 | 58 => u58 | 59 => u59 | 60 => u60 | 61 => u61 | 62 => u62 | 63 => u63 | 64 => u64 | 65 => u65 | 66 => u66 | 67 => u67 | 68 => u68 | 69 => u69 | 70 => u70 | 71 => u71 | 72 => u72 | 73 => u73 | 74 => u74 | 75 => u75 | 76 => u76 | 77 => u77 | 78 => u78 | 79 => u79 | 80 => u80 | 81 => u81 | 82 => u82 | 83 => u83 | 84 => u84 | 85 => u85 | 86 => u86 | 87 => u87 | 88 => u88 | 89 => u89 | 90 => u90 | 91 => u91 | 92 => u92 | 93 => u93 | 94 => u94 | 95 => u95 | 96 => u96 | 97 => u97 | 98 => u98 | 99 => u99 | 100 => u100 | 101 => u101 | 102 => u102 | 103 => u103 | 104 => u104 | 105 => u105 | 106 => u106 | 107 => u107 | 108 => u108 | 109 => u109 | 110 => u110 | 111 => u111 | 112 => u112 | 113 => u113 | 114 => u114 | 115 => u115 | 116 => u116 | 117 => u117 | 118 => u118 | 119 => u119 | 120 => u120 | 121 => u121 | 122 => u122 | 123 => u123 | 124 => u124 | 125 => u125 | 126 => u126 | 127 => u127 | 128 => u128 | 129 => u129 | 130 => u130 | 131 => u131 | 132 => u132 | 133 => u133 | 134 => u134 | 135 => u135 | 136 => u136 | 137 => u137 | 138 => u138 | 139 => u139 | 140 => u140 | 141 => u141 | 142 => u142 | 143 => u143 | 144 => u144 | 145 => u145 | 146 => u146 | 147 => u147 | 148 => u148 | 149 => u149 | 150 => u150 | 151 => u151 | 152 => u152 | 153 => u153 | 154 => u154 | 155 => u155 | 156 => u156 | 157 => u157 | 158 => u158 | 159 => u159 | 160 => u160 | 161 => u161 | 162 => u162 | 163 => u163 | 164 => u164 | 165 => u165 | 166 => u166 | 167 => u167 | _ => undef, rfl⟩
theorem outI_plain (t : List UInt8) (hs : startsI t) (h : ∀ i, i < t.length → nmB (tb t i)) : ∀ n, n ≤ t.length → outI t n = t.take n
  | 0, _ => by simp [outI]
  | n + 1, hn => by
    rw [outI_succ, outI_plain t hs h n (by omega), List.take_succ_eq_append_getElem (by omega)]
    unfold pcI
    have : ¬ escI t n := fun e => by
      rcases e.2 with e2 | e2
      · exact e2 (h n (by omega))
      · exact e2.2 hs
    rw [if_neg this, List.getD_eq_getElem?_getD, List.getElem?_eq_getElem (by omega)]
    rfl
set_option maxHeartbeats 16000000 in
set_option maxRecDepth 100000 in
theorem ident_a {B b : Nat} {K : Array Value} {A : Option Addr} {cap : Nat} {bs : List Value} (ao : Bool) (hao : K[7]? = some (.bool ao)) (s : ByteArray) (hs : s.size ≤ 1048576) (hd : Dom s ao) (ws : Int) (w : World) (h : IsP B b K A cap bs w) (hB : B ≤ w.heap.size) (L : Nat) (hL : bs.length = L) (hlen : L ≤ 8388608) (hT : Lib.Utf8Tabs 0 1 w) (hst : ¬ startsI s.data.toList) :
    Calls Tryf.prog 13 #[.pointer (some ⟨b, 0, none⟩), .string s, .int .u8 0, .int .u8 ws] w (Printed B b K A (bs ++ cellsB (outI s.data.toList s.data.toList.length)) w) := by
  have WD := Lib.hid (would_any s hs hd.valid hd.nul w hT)
  have H := Lib.hid h; have HL := Lib.hid hL; have HD := Lib.hid hd; have HAO := Lib.hid hao
  have hqs := qsize s
  have hbl := h.lt
  have HDC := Lib.hid (decide_eq_false hst); have HNS := Lib.hid hst
  clear h hL hd hao hst hT
  go_enter Tryf.func13, Tryf.ntmps13
  go_wp2_with (go_at_call 17; (with_reducible refine WD.out.mono ?_); rw [HDC.out]; rintro e w1 ⟨rfl, hb1⟩; have HB1 := Lib.hid hb1; have hsw1 := hb1.size; clear hb1)
  go_loopw [13, 14, 15, 16] (fun v13 v14 v15 v16 wr => SlowRel s B b K A bs w w1.heap.size wr) (fun v13 v14 v15 v16 wr => s.size - wr.iterPos w1.heap.size)
  case atStart => exact slow_start H.out hB HB1.out
  case round =>
    obtain ⟨k, A1, cap1, hk, hA1⟩ := hrel
    obtain ⟨p, hp⟩ : ∃ p, p = pos s k := ⟨_, rfl⟩
    rw [← hp] at hk hA1
    have HP := Lib.hid hp
    have HIT := Lib.hid hA1.it
    have hq1 : w1.heap.size < wr.heap.size := (Array.getElem?_eq_some_iff.1 hA1.it).1
    by_cases hlt : p < s.size
    · obtain ⟨c, wd, hdc⟩ : ∃ c wd, Utf8.decode s p = (c, wd) := ⟨_, _, rfl⟩
      have hg : good s p := by rw [hp]; exact HD.out.valid k (by rw [← hp]; exact hlt)
      have hS := step_i s ao HD.out p c wd hlt hg hdc
      have HPS : Hid (pos s (k + 1) = p + wd) := Lib.hid (by rw [hp]; exact pos_step s k c wd (by rw [← hp]; exact hlt) (by rw [← hp]; exact hdc))
      have hnx : ∀ ty, (Instr.next (.pointer (some ⟨w1.heap.size, 0, none⟩)) true ty).run Tryf.prog wr = .ok (.tuple #[.bool true, .int .i64 p, .int .i32 c]) (wr.iterAt w1.heap.size s (p + wd)) := fun ty => by
        rw [Lib.run_next_any_at wr w1.heap.size s p ty hA1.it hlt, hdc]
      have hA2 := hA1.next (by omega) (by omega) (by omega) (p + wd)
      obtain ⟨W, hW⟩ : ∃ W, W = wr.iterAt w1.heap.size s (p + wd) := ⟨_, rfl⟩
      have hsz : B ≤ W.heap.size := by rw [hW, Lib.iterAt_size]; omega
      rw [← hW] at hnx hA2
      have hao2 : W.cell? ⟨b, 7, none⟩ = some (.bool ao) := by rw [hA2.isp.cell (by decide)]; exact HAO.out
      obtain ⟨L2, hL2⟩ : ∃ n, (bs ++ cellsB (outI s.data.toList p)).length = n := ⟨_, rfl⟩
      have hl2 : L2 ≤ 16777216 := by
        rw [← hL2, List.length_append]
        unfold cellsB
        rw [List.length_map]
        have := outI_le s.data.toList p
        have := HL.out
        omega
      obtain ⟨p13, p10, p12, pb⟩ := hS.plain
      have x13 : ((c : Int) == 13) = false := beq_eq_false_iff_ne.2 (by omega)
      have x10 : ((c : Int) == 10) = false := beq_eq_false_iff_ne.2 (by omega)
      have x12 : ((c : Int) == 12) = false := beq_eq_false_iff_ne.2 (by omega)
      have xb : ((c : Int) == 65279) = false := beq_eq_false_iff_ne.2 (by omega)
      have htop := hS.top
      have hwd := hS.wd1
      have hfit := hS.fits
      have hasc := hS.asc
      have HS := Lib.hid hS; have HA2 := Lib.hid hA2; have HL2 := Lib.hid hL2
      clear hS hA2 hL2 hdc hg hA1 hW hp p13 p10 p12 pb
      have hcs : isCont (c : Int) = true ∨ isCont (c : Int) = false := by cases isCont (c : Int) <;> simp
      cases ao
      all_goals
        try (have hascT := hasc rfl; have xa : ¬ (128 : Int) ≤ (c : Int) := by omega)
        clear hasc
        by_cases hp0 : p = 0
        · have y0 : ((p : Int) == 0) = true := by rw [hp0]; rfl
          have HX := Lib.hid (HS.out.bs_ (.inr ⟨hp0, HNS.out⟩))
          have EQ : Hid (bs ++ cellsB (outI s.data.toList (p + wd)) = bs ++ cellsB (outI s.data.toList p) ++ [.int .u8 92] ++ Lib.runeCells (c : Int)) := Lib.hid (by rw [HX.out.2, List.append_assoc, List.append_assoc, List.append_assoc])
          clear hp0
          rcases hcs with hc | hc
          · have HC := Lib.hid hc
            clear hc
            by_cases hws : ws = 0
            ·   have ew : (ws == 0) = true := by rw [hws]; rfl
                clear hws
                go_wp2_with (first | (go_at_call 18; (with_reducible refine (cont_any (c : Int) _).mono ?_); rw [HC.out]; rintro e wz ⟨rfl, rfl⟩) | (go_at_call 19; refine (runelen_any (c : Int) _).mono ?_; rintro e wz ⟨⟨nr, rfl, hnr1, hnr2⟩, rfl⟩) | (go_at_call 20; refine (esc_bs (c : Int) (by omega) (by omega) HX.out.1 _ _ _ HA2.out.isp (by omega) L2 HL2.out (by omega)).mono ?_))
                all_goals
                  rintro e w3 hpr
                  obtain ⟨he, _⟩ := id hpr
                  subst he
                  obtain ⟨A3, cap3, hA3⟩ := HA2.out.print (by omega) hpr
                  clear hpr
                  have HA3 := Lib.hid hA3
                  clear hA3
                  have hI3 : w3.heap[w1.heap.size]? = some (.stringIter s (p + wd)) := HA3.out.it
                  have HI3 := Lib.hid hI3
                  clear hI3
                  go_wp2
                  first
                    | (go_roundw
                       case rel => exact ⟨k + 1, A3, cap3, by rw [HPS.out]; omega, by rw [HPS.out, EQ.out]; exact HA3.out⟩
                       case measure => simp only [World.iterPos, HIT.out, HI3.out]; omega)
                    | exact ⟨⟨k + 1, A3, cap3, by rw [HPS.out]; omega, by rw [HPS.out, EQ.out]; exact HA3.out⟩, by simp only [World.iterPos, HIT.out, HI3.out]; omega⟩
            ·   have ew : (ws == 0) = false := beq_eq_false_iff_ne.2 hws
                clear hws
                go_wp2_with (first | (go_at_call 18; (with_reducible refine (cont_any (c : Int) _).mono ?_); rw [HC.out]; rintro e wz ⟨rfl, rfl⟩) | (go_at_call 19; refine (runelen_any (c : Int) _).mono ?_; rintro e wz ⟨⟨nr, rfl, hnr1, hnr2⟩, rfl⟩) | (go_at_call 20; refine (esc_bs (c : Int) (by omega) (by omega) HX.out.1 _ _ _ HA2.out.isp (by omega) L2 HL2.out (by omega)).mono ?_))
                all_goals
                  rintro e w3 hpr
                  obtain ⟨he, _⟩ := id hpr
                  subst he
                  obtain ⟨A3, cap3, hA3⟩ := HA2.out.print (by omega) hpr
                  clear hpr
                  have HA3 := Lib.hid hA3
                  clear hA3
                  have hI3 : w3.heap[w1.heap.size]? = some (.stringIter s (p + wd)) := HA3.out.it
                  have HI3 := Lib.hid hI3
                  clear hI3
                  go_wp2
                  first
                    | (go_roundw
                       case rel => exact ⟨k + 1, A3, cap3, by rw [HPS.out]; omega, by rw [HPS.out, EQ.out]; exact HA3.out⟩
                       case measure => simp only [World.iterPos, HIT.out, HI3.out]; omega)
                    | exact ⟨⟨k + 1, A3, cap3, by rw [HPS.out]; omega, by rw [HPS.out, EQ.out]; exact HA3.out⟩, by simp only [World.iterPos, HIT.out, HI3.out]; omega⟩
          · have HC := Lib.hid hc
            clear hc
            by_cases hws : ws = 0
            ·   have ew : (ws == 0) = true := by rw [hws]; rfl
                clear hws
                go_wp2_with (first | (go_at_call 18; (with_reducible refine (cont_any (c : Int) _).mono ?_); rw [HC.out]; rintro e wz ⟨rfl, rfl⟩) | (go_at_call 19; refine (runelen_any (c : Int) _).mono ?_; rintro e wz ⟨⟨nr, rfl, hnr1, hnr2⟩, rfl⟩) | (go_at_call 20; refine (esc_bs (c : Int) (by omega) (by omega) HX.out.1 _ _ _ HA2.out.isp (by omega) L2 HL2.out (by omega)).mono ?_))
                all_goals
                  rintro e w3 hpr
                  obtain ⟨he, _⟩ := id hpr
                  subst he
                  obtain ⟨A3, cap3, hA3⟩ := HA2.out.print (by omega) hpr
                  clear hpr
                  have HA3 := Lib.hid hA3
                  clear hA3
                  have hI3 : w3.heap[w1.heap.size]? = some (.stringIter s (p + wd)) := HA3.out.it
                  have HI3 := Lib.hid hI3
                  clear hI3
                  go_wp2
                  first
                    | (go_roundw
                       case rel => exact ⟨k + 1, A3, cap3, by rw [HPS.out]; omega, by rw [HPS.out, EQ.out]; exact HA3.out⟩
                       case measure => simp only [World.iterPos, HIT.out, HI3.out]; omega)
                    | exact ⟨⟨k + 1, A3, cap3, by rw [HPS.out]; omega, by rw [HPS.out, EQ.out]; exact HA3.out⟩, by simp only [World.iterPos, HIT.out, HI3.out]; omega⟩
            ·   have ew : (ws == 0) = false := beq_eq_false_iff_ne.2 hws
                clear hws
                go_wp2_with (first | (go_at_call 18; (with_reducible refine (cont_any (c : Int) _).mono ?_); rw [HC.out]; rintro e wz ⟨rfl, rfl⟩) | (go_at_call 19; refine (runelen_any (c : Int) _).mono ?_; rintro e wz ⟨⟨nr, rfl, hnr1, hnr2⟩, rfl⟩) | (go_at_call 20; refine (esc_bs (c : Int) (by omega) (by omega) HX.out.1 _ _ _ HA2.out.isp (by omega) L2 HL2.out (by omega)).mono ?_))
                all_goals
                  rintro e w3 hpr
                  obtain ⟨he, _⟩ := id hpr
                  subst he
                  obtain ⟨A3, cap3, hA3⟩ := HA2.out.print (by omega) hpr
                  clear hpr
                  have HA3 := Lib.hid hA3
                  clear hA3
                  have hI3 : w3.heap[w1.heap.size]? = some (.stringIter s (p + wd)) := HA3.out.it
                  have HI3 := Lib.hid hI3
                  clear hI3
                  go_wp2
                  first
                    | (go_roundw
                       case rel => exact ⟨k + 1, A3, cap3, by rw [HPS.out]; omega, by rw [HPS.out, EQ.out]; exact HA3.out⟩
                       case measure => simp only [World.iterPos, HIT.out, HI3.out]; omega)
                    | exact ⟨⟨k + 1, A3, cap3, by rw [HPS.out]; omega, by rw [HPS.out, EQ.out]; exact HA3.out⟩, by simp only [World.iterPos, HIT.out, HI3.out]; omega⟩
        · have y0 : ((p : Int) == 0) = false := beq_eq_false_iff_ne.2 (by omega)
          rcases hcs with hc | hc
          · have HC := Lib.hid hc
            have EQ : Hid (bs ++ cellsB (outI s.data.toList (p + wd)) = bs ++ cellsB (outI s.data.toList p) ++ Lib.runeCells (c : Int)) := Lib.hid (by rw [HS.out.none_ HC.out (by intro e; exact hp0 e.1), List.append_assoc])
            clear hc hp0
            by_cases hws : ws = 0
            ·   have ew : (ws == 0) = true := by rw [hws]; rfl
                clear hws
                go_wp2_with (first | (go_at_call 18; (with_reducible refine (cont_any (c : Int) _).mono ?_); rw [HC.out]; rintro e wz ⟨rfl, rfl⟩) | (go_at_call 19; refine (runelen_any (c : Int) _).mono ?_; rintro e wz ⟨⟨nr, rfl, hnr1, hnr2⟩, rfl⟩) | (go_at_call 20; refine (esc_none (c : Int) (by omega) (by omega) _ _ _ HA2.out.isp (by omega) L2 HL2.out (by omega)).mono ?_))
                all_goals
                  rintro e w3 hpr
                  obtain ⟨he, _⟩ := id hpr
                  subst he
                  obtain ⟨A3, cap3, hA3⟩ := HA2.out.print (by omega) hpr
                  clear hpr
                  have HA3 := Lib.hid hA3
                  clear hA3
                  have hI3 : w3.heap[w1.heap.size]? = some (.stringIter s (p + wd)) := HA3.out.it
                  have HI3 := Lib.hid hI3
                  clear hI3
                  go_wp2
                  first
                    | (go_roundw
                       case rel => exact ⟨k + 1, A3, cap3, by rw [HPS.out]; omega, by rw [HPS.out, EQ.out]; exact HA3.out⟩
                       case measure => simp only [World.iterPos, HIT.out, HI3.out]; omega)
                    | exact ⟨⟨k + 1, A3, cap3, by rw [HPS.out]; omega, by rw [HPS.out, EQ.out]; exact HA3.out⟩, by simp only [World.iterPos, HIT.out, HI3.out]; omega⟩
            ·   have ew : (ws == 0) = false := beq_eq_false_iff_ne.2 hws
                clear hws
                go_wp2_with (first | (go_at_call 18; (with_reducible refine (cont_any (c : Int) _).mono ?_); rw [HC.out]; rintro e wz ⟨rfl, rfl⟩) | (go_at_call 19; refine (runelen_any (c : Int) _).mono ?_; rintro e wz ⟨⟨nr, rfl, hnr1, hnr2⟩, rfl⟩) | (go_at_call 20; refine (esc_none (c : Int) (by omega) (by omega) _ _ _ HA2.out.isp (by omega) L2 HL2.out (by omega)).mono ?_))
                all_goals
                  rintro e w3 hpr
                  obtain ⟨he, _⟩ := id hpr
                  subst he
                  obtain ⟨A3, cap3, hA3⟩ := HA2.out.print (by omega) hpr
                  clear hpr
                  have HA3 := Lib.hid hA3
                  clear hA3
                  have hI3 : w3.heap[w1.heap.size]? = some (.stringIter s (p + wd)) := HA3.out.it
                  have HI3 := Lib.hid hI3
                  clear hI3
                  go_wp2
                  first
                    | (go_roundw
                       case rel => exact ⟨k + 1, A3, cap3, by rw [HPS.out]; omega, by rw [HPS.out, EQ.out]; exact HA3.out⟩
                       case measure => simp only [World.iterPos, HIT.out, HI3.out]; omega)
                    | exact ⟨⟨k + 1, A3, cap3, by rw [HPS.out]; omega, by rw [HPS.out, EQ.out]; exact HA3.out⟩, by simp only [World.iterPos, HIT.out, HI3.out]; omega⟩
          · have HC := Lib.hid hc
            have HX := Lib.hid (HS.out.bs_ (.inl HC.out))
            have EQ : Hid (bs ++ cellsB (outI s.data.toList (p + wd)) = bs ++ cellsB (outI s.data.toList p) ++ [.int .u8 92] ++ Lib.runeCells (c : Int)) := Lib.hid (by rw [HX.out.2, List.append_assoc, List.append_assoc, List.append_assoc])
            clear hc hp0
            by_cases hws : ws = 0
            ·   have ew : (ws == 0) = true := by rw [hws]; rfl
                clear hws
                go_wp2_with (first | (go_at_call 18; (with_reducible refine (cont_any (c : Int) _).mono ?_); rw [HC.out]; rintro e wz ⟨rfl, rfl⟩) | (go_at_call 19; refine (runelen_any (c : Int) _).mono ?_; rintro e wz ⟨⟨nr, rfl, hnr1, hnr2⟩, rfl⟩) | (go_at_call 20; refine (esc_bs (c : Int) (by omega) (by omega) HX.out.1 _ _ _ HA2.out.isp (by omega) L2 HL2.out (by omega)).mono ?_))
                all_goals
                  rintro e w3 hpr
                  obtain ⟨he, _⟩ := id hpr
                  subst he
                  obtain ⟨A3, cap3, hA3⟩ := HA2.out.print (by omega) hpr
                  clear hpr
                  have HA3 := Lib.hid hA3
                  clear hA3
                  have hI3 : w3.heap[w1.heap.size]? = some (.stringIter s (p + wd)) := HA3.out.it
                  have HI3 := Lib.hid hI3
                  clear hI3
                  go_wp2
                  first
                    | (go_roundw
                       case rel => exact ⟨k + 1, A3, cap3, by rw [HPS.out]; omega, by rw [HPS.out, EQ.out]; exact HA3.out⟩
                       case measure => simp only [World.iterPos, HIT.out, HI3.out]; omega)
                    | exact ⟨⟨k + 1, A3, cap3, by rw [HPS.out]; omega, by rw [HPS.out, EQ.out]; exact HA3.out⟩, by simp only [World.iterPos, HIT.out, HI3.out]; omega⟩
            ·   have ew : (ws == 0) = false := beq_eq_false_iff_ne.2 hws
                clear hws
                go_wp2_with (first | (go_at_call 18; (with_reducible refine (cont_any (c : Int) _).mono ?_); rw [HC.out]; rintro e wz ⟨rfl, rfl⟩) | (go_at_call 19; refine (runelen_any (c : Int) _).mono ?_; rintro e wz ⟨⟨nr, rfl, hnr1, hnr2⟩, rfl⟩) | (go_at_call 20; refine (esc_bs (c : Int) (by omega) (by omega) HX.out.1 _ _ _ HA2.out.isp (by omega) L2 HL2.out (by omega)).mono ?_))
                all_goals
                  rintro e w3 hpr
                  obtain ⟨he, _⟩ := id hpr
                  subst he
                  obtain ⟨A3, cap3, hA3⟩ := HA2.out.print (by omega) hpr
                  clear hpr
                  have HA3 := Lib.hid hA3
                  clear hA3
                  have hI3 : w3.heap[w1.heap.size]? = some (.stringIter s (p + wd)) := HA3.out.it
                  have HI3 := Lib.hid hI3
                  clear hI3
                  go_wp2
                  first
                    | (go_roundw
                       case rel => exact ⟨k + 1, A3, cap3, by rw [HPS.out]; omega, by rw [HPS.out, EQ.out]; exact HA3.out⟩
                       case measure => simp only [World.iterPos, HIT.out, HI3.out]; omega)
                    | exact ⟨⟨k + 1, A3, cap3, by rw [HPS.out]; omega, by rw [HPS.out, EQ.out]; exact HA3.out⟩, by simp only [World.iterPos, HIT.out, HI3.out]; omega⟩
    · obtain rfl : p = s.size := by omega
      have hend := hA1
      have HE := Lib.hid hend
      have hnx : ∀ ty, (Instr.next (.pointer (some ⟨w1.heap.size, 0, none⟩)) true ty).run Tryf.prog wr = .ok (.tuple #[.bool false]) wr := fun ty => Lib.run_next_end_at wr w1.heap.size s s.size ty hA1.it (by omega)
      clear hA1 hend hp
      go_wp2
      first | simp only [Exit.jump] | (try rw [Exit.noGoto_ret])
      go_end0
      have e : s.data.toList.length = s.size := hqs
      rw [e]
      exact slow_end HE.out
set_option maxHeartbeats 16000000 in
set_option maxRecDepth 100000 in
theorem ident_b {B b : Nat} {K : Array Value} {A : Option Addr} {cap : Nat} {bs : List Value} (ao : Bool) (hao : K[7]? = some (.bool ao)) (s : ByteArray) (hs : s.size ≤ 1048576) (hd : Dom s ao) (ws : Int) (w : World) (h : IsP B b K A cap bs w) (hB : B ≤ w.heap.size) (L : Nat) (hL : bs.length = L) (hlen : L ≤ 8388608) (hT : Lib.Utf8Tabs 0 1 w) (hst : startsI s.data.toList) :
    Calls Tryf.prog 13 #[.pointer (some ⟨b, 0, none⟩), .string s, .int .u8 0, .int .u8 ws] w (Printed B b K A (bs ++ cellsB (outI s.data.toList s.data.toList.length)) w) := by
  obtain ⟨i0, hi, hz0, hz1, hz2⟩ := info_parts u8I
  have WD := Lib.hid (would_any s hs hd.valid hd.nul w hT)
  have H := Lib.hid h; have HL := Lib.hid hL; have HD := Lib.hid hd; have HAO := Lib.hid hao
  have hqs := qsize s
  have hbl := h.lt
  have HDC := Lib.hid (decide_eq_true hst); have HNS := Lib.hid hst
  have hs0 : 0 < s.size := by have := hst.1; omega
  clear h hL hd hao hst hT
  go_enter Tryf.func13, Tryf.ntmps13
  go_wp2_with (go_at_call 17; (with_reducible refine WD.out.mono ?_); rw [HDC.out]; rintro e w1 ⟨rfl, hb1⟩; have HB1 := Lib.hid hb1; have hsw1 := hb1.size; clear hb1)
  have HP1 : Hid (IsP B b K A cap bs w1) := Lib.hid (H.out.below HB1.out (Nat.le_refl _))
  have HBB : Hid (Below B w w1) := Lib.hid (HB1.out.mono hB)
  have HSRC : Hid (Src Tryf.prog 1 9 (.string s) s.size (byteCells s) w1) := Lib.hid (Src.ofString w1 Tryf.underlying9 s)
  have c15 : w1.cell? ⟨b, 15, none⟩ = some (.slice A L cap) := HP1.out.css HL.out
  refine wp_scope_jumps 0 (Jump s b ws w1) (fun _ _ => 0) rfl ?_ ?_
  · go_wp2
    go_loop [11, 12] (fun i c => ∃ k : Nat, i = .int .i64 k ∧ k ≤ s.size ∧ ∀ j, j < k → nmB (tb s.data.toList j)) (fun i c => s.size - (intOf i).toNat)
    case atStart => exact ⟨0, rfl, by omega, fun j hj => by omega⟩
    case round =>
      obtain ⟨k, rfl, hk, hall⟩ := hrel
      have HALL := Lib.hid hall
      clear hall
      by_cases hlt : k < s.size
      · have p0 : s[k]'hlt = s.data.toList.getD k 0 := qget s _ _
        obtain ⟨x, hx⟩ : ∃ c, c = s.data.toList.getD k 0 := ⟨_, rfl⟩
        have HX : Hid (x.toNat = tb s.data.toList k) := Lib.hid (by rw [hx]; rfl)
        have hxl := x.toNat_lt
        rw [← hx] at p0
        clear hx
        have hw0 : IntKind.i32.wrap (x.toNat : Int) = (x.toNat : Int) := by rw [IntKind.wrap_i32]; omega
        by_cases h128 : 128 ≤ x.toNat
        · have g : (128 : Int) ≤ (x.toNat : Int) := by omega
          clear h128
          go_wp2
          try go_step3
          exact ⟨rfl, jump_mk s b ws w1 _ _ _ _ _ _ _ _ _ _ _ _ _ _ _ _ _ _ _ _ _ _ _ _ _ _ _ _ _ _ _ _ _ _ _ _ _ _ _ _ _ _ _ _ _ _ _ _ _ _ _ _ _ _ _ _ _ _ _ _ _ _ _ _ _ _ _ _ _ _ _ _ _ _ _ _ _ _ _ _ _ _ _ _ _ _ _ _ _ _ _ _ _ _ _ _ _ _ _ _ _ _ _ _ _ _ _ _ _ _ _ _ _ _ _ _ _ _ _ _ _ _ _ _ _ _ _ _ _ _ _ _ _ _ _ _ _ _ _ _ _ _ _ _ _ _ _ _ _ _ _ _ _ _ _ _ _ _ _ _ _ _⟩
        · have g : ¬ (128 : Int) ≤ (x.toNat : Int) := by omega
          by_cases hn : nmB x.toNat
          · have HC : Hid (isCont (x.toNat : Int) = true) := Lib.hid (by unfold isCont isStart; rw [Bool.or_eq_true, decide_eq_true_iff, decide_eq_true_iff]; unfold nmB at hn; omega)
            have HN := Lib.hid hn
            clear hn h128
            go_wp2_with (go_at_call 18; (with_reducible refine (cont_any (x.toNat : Int) _).mono ?_); rw [HC.out]; rintro e w' ⟨rfl, rfl⟩)
            go_round
            case rel => exact ⟨k + 1, by go_num, by omega, fun j hj => by
              rcases Nat.lt_or_ge j k with h1 | h1
              · exact HALL.out j h1
              · obtain rfl : j = k := by omega
                rw [← HX.out]; exact HN.out⟩
            case measure => simp [intOf]; omega
          · have HC : Hid (isCont (x.toNat : Int) = false) := Lib.hid (by
              have h0 := HD.out.nul k hlt
              rw [← HX.out] at h0
              unfold isCont isStart; rw [Bool.or_eq_false_iff, decide_eq_false_iff_not, decide_eq_false_iff_not]; unfold nmB at hn; omega)
            clear hn h128
            go_wp2_with (go_at_call 18; (with_reducible refine (cont_any (x.toNat : Int) _).mono ?_); rw [HC.out]; rintro e w' ⟨rfl, rfl⟩)
            try go_step3
            exact ⟨rfl, jump_mk s b ws w1 _ _ _ _ _ _ _ _ _ _ _ _ _ _ _ _ _ _ _ _ _ _ _ _ _ _ _ _ _ _ _ _ _ _ _ _ _ _ _ _ _ _ _ _ _ _ _ _ _ _ _ _ _ _ _ _ _ _ _ _ _ _ _ _ _ _ _ _ _ _ _ _ _ _ _ _ _ _ _ _ _ _ _ _ _ _ _ _ _ _ _ _ _ _ _ _ _ _ _ _ _ _ _ _ _ _ _ _ _ _ _ _ _ _ _ _ _ _ _ _ _ _ _ _ _ _ _ _ _ _ _ _ _ _ _ _ _ _ _ _ _ _ _ _ _ _ _ _ _ _ _ _ _ _ _ _ _ _ _ _ _ _⟩
      · obtain rfl : k = s.size := by omega
        have HEQ : Hid (cellsB (outI s.data.toList s.data.toList.length) = byteCells s) := Lib.hid (by
          rw [outI_plain _ HNS.out (fun i hi => HALL.out i (by omega)) _ (Nat.le_refl _), List.take_length]
          rfl)
        go_wp2_with (at_builtin; refine wpList_append_own_src _ rfl _ _ 27 9 rfl B 5 i0 (.int .u8 0) 1 1 Tryf.underlying27 hi hz0 hz1 hz2 rfl _ L bs rfl (HP1.out.ownL HL.out) _ s.size (byteCells s) rfl HSRC.out ?c2 ?c3 ?c4 ?_)
        case c2 => unfold maxLen; omega
        case c3 => omega
        case c4 => omega
        intro v' w2 hown' hgrow hat
        obtain ⟨g, cap2, rfl, d15, z15, hp2, hb2, hl2, hs2, hk2, hr2⟩ := HP1.out.app HL.out (by omega) HBB.out hs0 hown' hgrow hat
        have HP2 := Lib.hid hp2; have HB2 := Lib.hid hb2; have HR2 := Lib.hid hr2
        have HK2 : Hid (Kept b (rb A) w (w2.setCell ⟨b, 15, none⟩ (.slice (some ⟨g, 0, none⟩) (L + s.size) cap2))) := Lib.hid ((Kept.of_below HB1.out).trans hk2 (.inl rfl))
        have HRR : Hid (RowAt (rb A) (rb (some ⟨g, 0, none⟩)) w.heap.size) := Lib.hid (RowAt.trans (.inl rfl) hr2 hsw1)
        clear hp2 hb2 hown' hgrow hl2 hk2 hr2 hat
        go_wp2_with fail
        first | simp only [Exit.jump] | (try rw [Exit.noGoto_ret])
        go_end0
        rw [HEQ.out]
        exact ⟨rfl, ⟨_, _, HP2.out, HRR.out⟩, HB2.out, HK2.out⟩
  · rintro a w' ⟨hwe, f, rfl⟩
    have hwe2 := hwe.symm
    subst hwe2
    clear hwe
    refine wp_skip ?_
    simp only [Exit.jump, Exit.then]
    go_wp2
    go_loopw [13, 14, 15, 16] (fun v13 v14 v15 v16 wr => SlowRel s B b K A bs w w1.heap.size wr) (fun v13 v14 v15 v16 wr => s.size - wr.iterPos w1.heap.size)
    case atStart => exact slow_start H.out hB HB1.out
    case round =>
      obtain ⟨k, A1, cap1, hk, hA1⟩ := hrel
      obtain ⟨p, hp⟩ : ∃ p, p = pos s k := ⟨_, rfl⟩
      rw [← hp] at hk hA1
      have HP := Lib.hid hp
      have HIT := Lib.hid hA1.it
      have hq1 : w1.heap.size < wr.heap.size := (Array.getElem?_eq_some_iff.1 hA1.it).1
      by_cases hlt : p < s.size
      · obtain ⟨c, wd, hdc⟩ : ∃ c wd, Utf8.decode s p = (c, wd) := ⟨_, _, rfl⟩
        have hg : good s p := by rw [hp]; exact HD.out.valid k (by rw [← hp]; exact hlt)
        have hS := step_i s ao HD.out p c wd hlt hg hdc
        have HPS : Hid (pos s (k + 1) = p + wd) := Lib.hid (by rw [hp]; exact pos_step s k c wd (by rw [← hp]; exact hlt) (by rw [← hp]; exact hdc))
        have hnx : ∀ ty, (Instr.next (.pointer (some ⟨w1.heap.size, 0, none⟩)) true ty).run Tryf.prog wr = .ok (.tuple #[.bool true, .int .i64 p, .int .i32 c]) (wr.iterAt w1.heap.size s (p + wd)) := fun ty => by
          rw [Lib.run_next_any_at wr w1.heap.size s p ty hA1.it hlt, hdc]
        have hA2 := hA1.next (by omega) (by omega) (by omega) (p + wd)
        obtain ⟨W, hW⟩ : ∃ W, W = wr.iterAt w1.heap.size s (p + wd) := ⟨_, rfl⟩
        have hsz : B ≤ W.heap.size := by rw [hW, Lib.iterAt_size]; omega
        rw [← hW] at hnx hA2
        have hao2 : W.cell? ⟨b, 7, none⟩ = some (.bool ao) := by rw [hA2.isp.cell (by decide)]; exact HAO.out
        obtain ⟨L2, hL2⟩ : ∃ n, (bs ++ cellsB (outI s.data.toList p)).length = n := ⟨_, rfl⟩
        have hl2 : L2 ≤ 16777216 := by
          rw [← hL2, List.length_append]
          unfold cellsB
          rw [List.length_map]
          have := outI_le s.data.toList p
          have := HL.out
          omega
        obtain ⟨p13, p10, p12, pb⟩ := hS.plain
        have x13 : ((c : Int) == 13) = false := beq_eq_false_iff_ne.2 (by omega)
        have x10 : ((c : Int) == 10) = false := beq_eq_false_iff_ne.2 (by omega)
        have x12 : ((c : Int) == 12) = false := beq_eq_false_iff_ne.2 (by omega)
        have xb : ((c : Int) == 65279) = false := beq_eq_false_iff_ne.2 (by omega)
        have htop := hS.top
        have hwd := hS.wd1
        have hfit := hS.fits
        have hasc := hS.asc
        have HS := Lib.hid hS; have HA2 := Lib.hid hA2; have HL2 := Lib.hid hL2
        clear hS hA2 hL2 hdc hg hA1 hW hp p13 p10 p12 pb
        have hcs : isCont (c : Int) = true ∨ isCont (c : Int) = false := by cases isCont (c : Int) <;> simp
        cases ao
        all_goals
          try (have hascT := hasc rfl; have xa : ¬ (128 : Int) ≤ (c : Int) := by omega)
          clear hasc
          rcases hcs with hc | hc
          · have HC := Lib.hid hc
            have EQ : Hid (bs ++ cellsB (outI s.data.toList (p + wd)) = bs ++ cellsB (outI s.data.toList p) ++ Lib.runeCells (c : Int)) := Lib.hid (by rw [HS.out.none_ HC.out (by intro e; exact e.2 HNS.out), List.append_assoc])
            clear hc
            by_cases hws : ws = 0
            ·   have ew : (ws == 0) = true := by rw [hws]; rfl
                clear hws
                go_wp2_with (first | (go_at_call 18; (with_reducible refine (cont_any (c : Int) _).mono ?_); rw [HC.out]; rintro e wz ⟨rfl, rfl⟩) | (go_at_call 19; refine (runelen_any (c : Int) _).mono ?_; rintro e wz ⟨⟨nr, rfl, hnr1, hnr2⟩, rfl⟩) | (go_at_call 20; refine (esc_none (c : Int) (by omega) (by omega) _ _ _ HA2.out.isp (by omega) L2 HL2.out (by omega)).mono ?_))
                all_goals
                  rintro e w3 hpr
                  obtain ⟨he, _⟩ := id hpr
                  subst he
                  obtain ⟨A3, cap3, hA3⟩ := HA2.out.print (by omega) hpr
                  clear hpr
                  have HA3 := Lib.hid hA3
                  clear hA3
                  have hI3 : w3.heap[w1.heap.size]? = some (.stringIter s (p + wd)) := HA3.out.it
                  have HI3 := Lib.hid hI3
                  clear hI3
                  go_wp2
                  first
                    | (go_roundw
                       case rel => exact ⟨k + 1, A3, cap3, by rw [HPS.out]; omega, by rw [HPS.out, EQ.out]; exact HA3.out⟩
                       case measure => simp only [World.iterPos, HIT.out, HI3.out]; omega)
                    | exact ⟨⟨k + 1, A3, cap3, by rw [HPS.out]; omega, by rw [HPS.out, EQ.out]; exact HA3.out⟩, by simp only [World.iterPos, HIT.out, HI3.out]; omega⟩
            ·   have ew : (ws == 0) = false := beq_eq_false_iff_ne.2 hws
                clear hws
                go_wp2_with (first | (go_at_call 18; (with_reducible refine (cont_any (c : Int) _).mono ?_); rw [HC.out]; rintro e wz ⟨rfl, rfl⟩) | (go_at_call 19; refine (runelen_any (c : Int) _).mono ?_; rintro e wz ⟨⟨nr, rfl, hnr1, hnr2⟩, rfl⟩) | (go_at_call 20; refine (esc_none (c : Int) (by omega) (by omega) _ _ _ HA2.out.isp (by omega) L2 HL2.out (by omega)).mono ?_))
                all_goals
                  rintro e w3 hpr
                  obtain ⟨he, _⟩ := id hpr
                  subst he
                  obtain ⟨A3, cap3, hA3⟩ := HA2.out.print (by omega) hpr
                  clear hpr
                  have HA3 := Lib.hid hA3
                  clear hA3
                  have hI3 : w3.heap[w1.heap.size]? = some (.stringIter s (p + wd)) := HA3.out.it
                  have HI3 := Lib.hid hI3
                  clear hI3
                  go_wp2
                  first
                    | (go_roundw
                       case rel => exact ⟨k + 1, A3, cap3, by rw [HPS.out]; omega, by rw [HPS.out, EQ.out]; exact HA3.out⟩
                       case measure => simp only [World.iterPos, HIT.out, HI3.out]; omega)
                    | exact ⟨⟨k + 1, A3, cap3, by rw [HPS.out]; omega, by rw [HPS.out, EQ.out]; exact HA3.out⟩, by simp only [World.iterPos, HIT.out, HI3.out]; omega⟩
          · have HC := Lib.hid hc
            have HX := Lib.hid (HS.out.bs_ (.inl HC.out))
            have EQ : Hid (bs ++ cellsB (outI s.data.toList (p + wd)) = bs ++ cellsB (outI s.data.toList p) ++ [.int .u8 92] ++ Lib.runeCells (c : Int)) := Lib.hid (by rw [HX.out.2, List.append_assoc, List.append_assoc, List.append_assoc])
            clear hc
            by_cases hws : ws = 0
            ·   have ew : (ws == 0) = true := by rw [hws]; rfl
                clear hws
                go_wp2_with (first | (go_at_call 18; (with_reducible refine (cont_any (c : Int) _).mono ?_); rw [HC.out]; rintro e wz ⟨rfl, rfl⟩) | (go_at_call 19; refine (runelen_any (c : Int) _).mono ?_; rintro e wz ⟨⟨nr, rfl, hnr1, hnr2⟩, rfl⟩) | (go_at_call 20; refine (esc_bs (c : Int) (by omega) (by omega) HX.out.1 _ _ _ HA2.out.isp (by omega) L2 HL2.out (by omega)).mono ?_))
                all_goals
                  rintro e w3 hpr
                  obtain ⟨he, _⟩ := id hpr
                  subst he
                  obtain ⟨A3, cap3, hA3⟩ := HA2.out.print (by omega) hpr
                  clear hpr
                  have HA3 := Lib.hid hA3
                  clear hA3
                  have hI3 : w3.heap[w1.heap.size]? = some (.stringIter s (p + wd)) := HA3.out.it
                  have HI3 := Lib.hid hI3
                  clear hI3
                  go_wp2
                  first
                    | (go_roundw
                       case rel => exact ⟨k + 1, A3, cap3, by rw [HPS.out]; omega, by rw [HPS.out, EQ.out]; exact HA3.out⟩
                       case measure => simp only [World.iterPos, HIT.out, HI3.out]; omega)
                    | exact ⟨⟨k + 1, A3, cap3, by rw [HPS.out]; omega, by rw [HPS.out, EQ.out]; exact HA3.out⟩, by simp only [World.iterPos, HIT.out, HI3.out]; omega⟩
            ·   have ew : (ws == 0) = false := beq_eq_false_iff_ne.2 hws
                clear hws
                go_wp2_with (first | (go_at_call 18; (with_reducible refine (cont_any (c : Int) _).mono ?_); rw [HC.out]; rintro e wz ⟨rfl, rfl⟩) | (go_at_call 19; refine (runelen_any (c : Int) _).mono ?_; rintro e wz ⟨⟨nr, rfl, hnr1, hnr2⟩, rfl⟩) | (go_at_call 20; refine (esc_bs (c : Int) (by omega) (by omega) HX.out.1 _ _ _ HA2.out.isp (by omega) L2 HL2.out (by omega)).mono ?_))
                all_goals
                  rintro e w3 hpr
                  obtain ⟨he, _⟩ := id hpr
                  subst he
                  obtain ⟨A3, cap3, hA3⟩ := HA2.out.print (by omega) hpr
                  clear hpr
                  have HA3 := Lib.hid hA3
                  clear hA3
                  have hI3 : w3.heap[w1.heap.size]? = some (.stringIter s (p + wd)) := HA3.out.it
                  have HI3 := Lib.hid hI3
                  clear hI3
                  go_wp2
                  first
                    | (go_roundw
                       case rel => exact ⟨k + 1, A3, cap3, by rw [HPS.out]; omega, by rw [HPS.out, EQ.out]; exact HA3.out⟩
                       case measure => simp only [World.iterPos, HIT.out, HI3.out]; omega)
                    | exact ⟨⟨k + 1, A3, cap3, by rw [HPS.out]; omega, by rw [HPS.out, EQ.out]; exact HA3.out⟩, by simp only [World.iterPos, HIT.out, HI3.out]; omega⟩
      · obtain rfl : p = s.size := by omega
        have hend := hA1
        have HE := Lib.hid hend
        have hnx : ∀ ty, (Instr.next (.pointer (some ⟨w1.heap.size, 0, none⟩)) true ty).run Tryf.prog wr = .ok (.tuple #[.bool false]) wr := fun ty => Lib.run_next_end_at wr w1.heap.size s s.size ty hA1.it (by omega)
        clear hA1 hend hp
        go_wp2
        first | simp only [Exit.jump] | (try rw [Exit.noGoto_ret])
        go_end0
        have e : s.data.toList.length = s.size := hqs
        rw [e]
        exact slow_end HE.out
end Go.Proofs.YtppcjkajjahclaaFmt
