/- n011_276: what printNthIndex prints is read back as the same pair. -/
import Derived.Test.YtgooblhfogmanaaNpn
namespace Go.Proofs.Ytgooblhfogmanaa
open Go.RowKit
set_option linter.unusedVariables false
set_option linter.unusedSimpArgs false
theorem app_list (x y : ByteArray) : (x ++ y).data.toList = x.data.toList ++ y.data.toList := by rw [ByteArray.data_append, Array.toList_append]
theorem app_cells (x y : ByteArray) : byteCells (x ++ y) = byteCells x ++ byteCells y := by unfold byteCells; rw [app_list, List.map_append]
theorem app_size (x y : ByteArray) : (x ++ y).size = x.size + y.size := by rw [← byte_size, app_list, List.length_append, byte_size, byte_size]
theorem int_no110 {l : Bs} (h : IntT l) : ∀ x ∈ l, x ≠ 110 := by
  obtain ⟨d, _, hall, h⟩ := h
  have hd : ∀ x ∈ d, x ≠ 110 := fun x hx e => by
    subst e
    exact absurd (hall 110 hx) (by unfold isDg; decide)
  rcases h with rfl | rfl
  · exact hd
  · intro x hx
    rcases List.mem_cons.1 hx with rfl | hx
    · decide
    · exact hd x hx
/-- What the reader ought to hand back: the text, or 0 for none. -/
noncomputable def wa (s : ByteArray) : ByteArray := if s.data.toList = [] then ⟨#[48]⟩ else s
theorem wa_e {s : ByteArray} (h : s.data.toList = []) : wa s = ⟨#[48]⟩ := if_pos h
theorem wa_n {s : ByteArray} (h : s.data.toList ≠ []) : wa s = s := if_neg h
structure Good (a b out : ByteArray) : Prop where
  size : out.size ≤ a.size + b.size + 2
  read : ∀ w : World, Calls Try.prog 11 #[.string out] w fun e w' => e = .returned (.tuple #[.string (wa a), .string (wa b), .bool true]) ∧ w = w'
def PrPost (B b : Nat) (K : Array Value) (bs : List Value) (w : World) (e : Ending) (w' : World) : Prop := e = .returned (.tuple #[]) ∧ (∃ A' cap', IsP B b K A' cap' bs w') ∧ Below B w w'
theorem eq_of_list {s t : ByteArray} (h : s.data.toList = t.data.toList) : s = t := ext_bytes h
theorem good_n (a b c t : ByteArray) (ha : a.size ≤ 1048576) (hb : b.size ≤ 1048576) (hc : c.size ≤ a.size) (ht : t.size ≤ b.size + 1) (hcn : ∀ x ∈ c.data.toList, x ≠ 110) (htn : ∀ x ∈ t.data.toList, x ≠ 110) (hcp : CP c (wa a)) (htp : TP t (wa b)) : Good a b (c ++ ⟨#[110]⟩ ++ t) := by
  have hs : (c ++ ⟨#[110]⟩ ++ t).size ≤ a.size + b.size + 2 := by rw [app_size, app_size, sz1]; omega
  exact ⟨hs, fun w => parse_n _ c t _ _ w (by omega) (by rw [app_list, app_list, List.append_assoc]; rfl) hcn htn hcp htp⟩
/-- The ways of a's part. -/
theorem ca_cases (a : ByteArray) (h : IntT a.data.toList) : a.data.toList ≠ [] ∧ ((a.data.toList = [45, 49] ∧ CP ⟨#[45]⟩ (wa a)) ∨ (a.data.toList = [49] ∧ CP ⟨#[]⟩ (wa a)) ∨ (a.data.toList ≠ [45, 49] ∧ a.data.toList ≠ [49] ∧ CP a (wa a))) := by
  have hne : a.data.toList ≠ [] := fun e => int_short (.inl e) h
  refine ⟨hne, ?_⟩
  rw [wa_n hne]
  by_cases h1 : a.data.toList = [45, 49]
  · exact .inl ⟨h1, .inr (.inl ⟨rfl, eq_of_list h1⟩)⟩
  · by_cases h2 : a.data.toList = [49]
    · exact .inr (.inl ⟨h2, .inl ⟨rfl, eq_of_list h2⟩⟩)
    · exact .inr (.inr ⟨h1, h2, .inr (.inr ⟨h, rfl⟩)⟩)
theorem tb_cases (b : ByteArray) (h : b.data.toList = [] ∨ IntT b.data.toList) : (b.data.toList = [] ∧ TP ⟨#[]⟩ (wa b)) ∨ (0 < b.size ∧ b.data.toList.getD 0 0 = 45 ∧ IntT b.data.toList ∧ TP b (wa b)) ∨ (0 < b.size ∧ b.data.toList.getD 0 0 ≠ 45 ∧ IntT b.data.toList ∧ TP (⟨#[43]⟩ ++ b) (wa b)) := by
  rcases h with h | h
  · exact .inl ⟨h, .inl ⟨rfl, wa_e h⟩⟩
  · have hne : b.data.toList ≠ [] := fun e => int_short (.inl e) h
    have hp : 0 < b.size := by rw [← byte_size]; exact List.length_pos_iff.2 hne
    rw [wa_n hne]
    by_cases h1 : b.data.toList.getD 0 0 = 45
    · exact .inr (.inl ⟨hp, h1, h, .inr (.inr ⟨h1, h, rfl⟩)⟩)
    · exact .inr (.inr ⟨hp, h1, h, .inr (.inl ⟨by rw [app_list]; rfl, h, h1⟩)⟩)
theorem no110_45 : ∀ x ∈ (⟨#[45]⟩ : ByteArray).data.toList, x ≠ 110 := by decide
theorem no110_nil : ∀ x ∈ (⟨#[]⟩ : ByteArray).data.toList, x ≠ 110 := by decide
theorem no110_43 (b : ByteArray) (h : ∀ x ∈ b.data.toList, x ≠ 110) : ∀ x ∈ ((⟨#[43]⟩ : ByteArray) ++ b).data.toList, x ≠ 110 := by
  intro x hx
  rw [app_list] at hx
  rcases List.mem_append.1 hx with hx | hx
  · have : x = 43 := by simpa using hx
    rw [this]; decide
  · exact h x hx
theorem nil_cells : byteCells (⟨#[]⟩ : ByteArray) = [] := rfl
theorem nth_good {B b : Nat} {K : Array Value} {A : Option Addr} {cap : Nat} {bs : List Value} (sa sb : ByteArray) (ha : sa.data.toList = [] ∨ IntT sa.data.toList) (hb : sb.data.toList = [] ∨ IntT sb.data.toList) (hsa : sa.size ≤ 1048576) (hsb : sb.size ≤ 1048576) :
    ∃ out, Good sa sb out ∧ ∀ (B b : Nat) (K : Array Value) (A : Option Addr) (cap : Nat) (bs : List Value) (w : World), IsP B b K A cap bs w → B ≤ w.heap.size → bs.length ≤ 4194304 →
      Calls Try.prog 13 #[.pointer (some ⟨b, 0, none⟩), .agg #[.string sa, .string sb]] w (PrPost B b K (bs ++ byteCells out) w) := by
  have wrap : ∀ (out : ByteArray) (ps : List ByteArray), ps.flatMap byteCells = byteCells out →
      (∀ (B b : Nat) (K : Array Value) (A : Option Addr) (cap : Nat) (bs : List Value) (w : World), IsP B b K A cap bs w → B ≤ w.heap.size → bs.length ≤ 4194304 → Calls Try.prog 13 #[.pointer (some ⟨b, 0, none⟩), .agg #[.string sa, .string sb]] w (PPost B b w.heap.size 66 #[.string sa, .string sb] K w (bs ++ ps.flatMap byteCells))) →
      ∀ (B b : Nat) (K : Array Value) (A : Option Addr) (cap : Nat) (bs : List Value) (w : World), IsP B b K A cap bs w → B ≤ w.heap.size → bs.length ≤ 4194304 → Calls Try.prog 13 #[.pointer (some ⟨b, 0, none⟩), .agg #[.string sa, .string sb]] w (PrPost B b K (bs ++ byteCells out) w) := by
    intro out ps hps hcall B b K A cap bs w h1 h2 h3
    refine (hcall B b K A cap bs w h1 h2 h3).mono ?_
    rintro e w' ⟨rfl, hst⟩
    obtain ⟨A', cap', hp, _⟩ := hst.p
    exact ⟨rfl, ⟨A', cap', by rw [← hps]; exact hp⟩, hst.bel⟩
  rcases ha with ha | ha
  · rcases hb with hb | hb
    · refine ⟨⟨#[]⟩, ⟨Nat.zero_le _, fun w => by rw [wa_e ha, wa_e hb]; exact parse_none ⟨#[]⟩ w (Nat.zero_le _) (by decide) ⟨#[48]⟩ (.inl ⟨rfl, rfl⟩)⟩, wrap _ [] rfl fun B b K A cap bs w h1 h2 h3 => nth_ee sa sb w h1 h2 hsa hsb h3 ha hb⟩
    · have hne : sb.data.toList ≠ [] := fun e => int_short (.inl e) hb
      have hp : 0 < sb.size := by rw [← byte_size]; exact List.length_pos_iff.2 hne
      refine ⟨sb, ⟨by omega, fun w => by rw [wa_e ha, wa_n hne]; exact parse_none sb w (by omega) (int_no110 hb) sb (.inr ⟨hb, rfl⟩)⟩, wrap _ [sb] (by simp) fun B b K A cap bs w h1 h2 h3 => ?_⟩
      exact nth_em sa sb w h1 h2 hsa hsb h3 ha hp
  · obtain ⟨hne, hca⟩ := ca_cases sa ha
    have hpa : 0 < sa.size := by rw [← byte_size]; exact List.length_pos_iff.2 hne
    rcases hca with ⟨qa, hcp⟩ | ⟨qa, hcp⟩ | ⟨qb, qc, hcp⟩ <;> rcases tb_cases sb hb with ⟨ra, htp⟩ | ⟨rp, rf, ri, htp⟩ | ⟨rp, rf, ri, htp⟩
    · refine ⟨_, good_n sa sb ⟨#[45]⟩ ⟨#[]⟩ hsa hsb (by rw [sz1]; omega) (Nat.zero_le _) no110_45 no110_nil hcp htp, wrap _ [⟨#[45]⟩, ⟨#[110]⟩] (by simp [app_cells, nil_cells]) fun B b K A cap bs w h1 h2 h3 => nth_me sa sb w h1 h2 hsa hsb h3 qa ra⟩
    · refine ⟨_, good_n sa sb ⟨#[45]⟩ sb hsa hsb (by rw [sz1]; omega) (by omega) no110_45 (int_no110 ri) hcp htp, wrap _ [⟨#[45]⟩, ⟨#[110]⟩, sb] (by simp [app_cells, nil_cells]) fun B b K A cap bs w h1 h2 h3 => nth_mm sa sb w h1 h2 hsa hsb h3 qa rp rf⟩
    · refine ⟨_, good_n sa sb ⟨#[45]⟩ (⟨#[43]⟩ ++ sb) hsa hsb (by rw [sz1]; omega) (by rw [app_size, sz1]; omega) no110_45 (no110_43 sb (int_no110 ri)) hcp htp, wrap _ [⟨#[45]⟩, ⟨#[110]⟩, ⟨#[43]⟩, sb] (by simp [app_cells, nil_cells]) fun B b K A cap bs w h1 h2 h3 => nth_mp sa sb w h1 h2 hsa hsb h3 qa rp rf⟩
    · refine ⟨_, good_n sa sb ⟨#[]⟩ ⟨#[]⟩ hsa hsb (Nat.zero_le _) (Nat.zero_le _) no110_nil no110_nil hcp htp, wrap _ [⟨#[110]⟩] (by simp [app_cells, nil_cells]) fun B b K A cap bs w h1 h2 h3 => nth_oe sa sb w h1 h2 hsa hsb h3 qa ra⟩
    · refine ⟨_, good_n sa sb ⟨#[]⟩ sb hsa hsb (Nat.zero_le _) (by omega) no110_nil (int_no110 ri) hcp htp, wrap _ [⟨#[110]⟩, sb] (by simp [app_cells, nil_cells]) fun B b K A cap bs w h1 h2 h3 => nth_om sa sb w h1 h2 hsa hsb h3 qa rp rf⟩
    · refine ⟨_, good_n sa sb ⟨#[]⟩ (⟨#[43]⟩ ++ sb) hsa hsb (Nat.zero_le _) (by rw [app_size, sz1]; omega) no110_nil (no110_43 sb (int_no110 ri)) hcp htp, wrap _ [⟨#[110]⟩, ⟨#[43]⟩, sb] (by simp [app_cells, nil_cells]) fun B b K A cap bs w h1 h2 h3 => nth_op sa sb w h1 h2 hsa hsb h3 qa rp rf⟩
    · refine ⟨_, good_n sa sb sa ⟨#[]⟩ hsa hsb (Nat.le_refl _) (Nat.zero_le _) (int_no110 ha) no110_nil hcp htp, wrap _ [sa, ⟨#[110]⟩] (by simp [app_cells, nil_cells]) fun B b K A cap bs w h1 h2 h3 => nth_xe sa sb w h1 h2 hsa hsb h3 hne qb qc ra⟩
    · refine ⟨_, good_n sa sb sa sb hsa hsb (Nat.le_refl _) (by omega) (int_no110 ha) (int_no110 ri) hcp htp, wrap _ [sa, ⟨#[110]⟩, sb] (by simp [app_cells, nil_cells]) fun B b K A cap bs w h1 h2 h3 => nth_xm sa sb w h1 h2 hsa hsb h3 hne qb qc rp rf⟩
    · refine ⟨_, good_n sa sb sa (⟨#[43]⟩ ++ sb) hsa hsb (Nat.le_refl _) (by rw [app_size, sz1]; omega) (int_no110 ha) (no110_43 sb (int_no110 ri)) hcp htp, wrap _ [sa, ⟨#[110]⟩, ⟨#[43]⟩, sb] (by simp [app_cells, nil_cells]) fun B b K A cap bs w h1 h2 h3 => nth_xp sa sb w h1 h2 hsa hsb h3 hne qb qc rp rf⟩
end Go.Proofs.Ytgooblhfogmanaa
