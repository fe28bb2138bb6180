/- Plain laws on trimming white space: the encoded white-space runes are a code that reads the same from both ends. No program in sight. -/
import Derived.Lib.SpaceUEq
namespace Go.Proofs.YtnnjoehhjmomaaaDoor
open Go.Lib
set_option linter.unusedVariables false

/-- A run of white-space runes. -/
def Sp (l : List UInt8) : Prop := ∃ qs : List (List UInt8), (∀ q ∈ qs, q ∈ spaceSeqs) ∧ l = qs.flatten
def LT (l : List UInt8) : List UInt8 := stripL l.length l
def RT (l : List UInt8) : List UInt8 := stripR l.length l
theorem Sp.nil : Sp [] := ⟨[], (fun _ h => by cases h), rfl⟩
theorem Sp.append {a b : List UInt8} (h : Sp a) (k : Sp b) : Sp (a ++ b) := by
  obtain ⟨x, hx, rfl⟩ := h
  obtain ⟨y, hy, rfl⟩ := k
  exact ⟨x ++ y, fun q hq => (List.mem_append.1 hq).elim (hx q) (hy q), by simp⟩
theorem Sp.one {q : List UInt8} (h : q ∈ spaceSeqs) : Sp q := ⟨[q], (fun x hx => by simp at hx; subst hx; exact h), by simp⟩

theorem seq_len : ∀ q ∈ spaceSeqs, 1 ≤ q.length ∧ q.length ≤ 3 := by decide
theorem pre_code : ∀ q ∈ spaceSeqs, ∀ r ∈ spaceSeqs, q.isPrefixOf r = true → q = r := by decide +kernel
theorem suf_code : ∀ q ∈ spaceSeqs, ∀ r ∈ spaceSeqs, q.isSuffixOf r = true → q = r := by decide +kernel
/-- No proper head of one reads at the end of another, nor the other way round. -/
theorem head_end : ∀ q ∈ spaceSeqs, ∀ r ∈ spaceSeqs, ∀ k ∈ List.range 4, 0 < k → k < q.length → (q.take k).isSuffixOf r = false ∧ r.isSuffixOf (q.take k) = false := by decide +kernel

theorem pre_uniq {q r l : List UInt8} (hq : q ∈ spaceSeqs) (hr : r ∈ spaceSeqs) (h1 : q <+: l) (h2 : r <+: l) : q = r := by
  rcases List.prefix_or_prefix_of_prefix h1 h2 with h | h
  · exact pre_code q hq r hr (List.isPrefixOf_iff_prefix.2 h)
  · exact (pre_code r hr q hq (List.isPrefixOf_iff_prefix.2 h)).symm
theorem suf_uniq {q r l : List UInt8} (hq : q ∈ spaceSeqs) (hr : r ∈ spaceSeqs) (h1 : q <:+ l) (h2 : r <:+ l) : q = r := by
  rcases List.suffix_or_suffix_of_suffix h1 h2 with h | h
  · exact suf_code q hq r hr (List.isSuffixOf_iff_suffix.2 h)
  · exact (suf_code r hr q hq (List.isSuffixOf_iff_suffix.2 h)).symm
theorem head_some {l : List UInt8} (h : headSpace l ≠ 0) : ∃ q ∈ spaceSeqs, q <+: l ∧ headSpace l = q.length := by
  unfold headSpace at h ⊢
  cases hf : spaceSeqs.find? (·.isPrefixOf l) with
  | none => rw [hf] at h; exact absurd rfl h
  | some q => exact ⟨q, List.mem_of_find?_eq_some hf, List.isPrefixOf_iff_prefix.1 (by simpa using List.find?_some hf), rfl⟩
theorem tail_some {l : List UInt8} (h : tailSpace l ≠ 0) : ∃ q ∈ spaceSeqs, q <:+ l ∧ tailSpace l = q.length := by
  unfold tailSpace at h ⊢
  cases hf : spaceSeqs.find? (·.isSuffixOf l) with
  | none => rw [hf] at h; exact absurd rfl h
  | some q => exact ⟨q, List.mem_of_find?_eq_some hf, List.isSuffixOf_iff_suffix.1 (by simpa using List.find?_some hf), rfl⟩
theorem head_of {q l : List UInt8} (hq : q ∈ spaceSeqs) (h : q <+: l) : headSpace l = q.length := by
  unfold headSpace
  cases hf : spaceSeqs.find? (·.isPrefixOf l) with
  | none =>
    have := List.find?_eq_none.1 hf q hq
    exact absurd (List.isPrefixOf_iff_prefix.2 h) this
  | some r =>
    rw [pre_uniq hq (List.mem_of_find?_eq_some hf) h (List.isPrefixOf_iff_prefix.1 (by simpa using List.find?_some hf))]
    rfl
theorem tail_of {q l : List UInt8} (hq : q ∈ spaceSeqs) (h : q <:+ l) : tailSpace l = q.length := by
  unfold tailSpace
  cases hf : spaceSeqs.find? (·.isSuffixOf l) with
  | none =>
    have := List.find?_eq_none.1 hf q hq
    exact absurd (List.isSuffixOf_iff_suffix.2 h) this
  | some r =>
    rw [suf_uniq hq (List.mem_of_find?_eq_some hf) h (List.isSuffixOf_iff_suffix.1 (by simpa using List.find?_some hf))]
    rfl
theorem head_none {l : List UInt8} (h : headSpace l = 0) {q : List UInt8} (hq : q ∈ spaceSeqs) : ¬ q <+: l := by
  intro hp
  have := head_of hq hp
  have := seq_len q hq
  omega
theorem tail_none {l : List UInt8} (h : tailSpace l = 0) {q : List UInt8} (hq : q ∈ spaceSeqs) : ¬ q <:+ l := by
  intro hp
  have := tail_of hq hp
  have := seq_len q hq
  omega
theorem head_zero {l : List UInt8} (h : ∀ q ∈ spaceSeqs, ¬ q <+: l) : headSpace l = 0 := by
  by_cases hh : headSpace l = 0
  · exact hh
  · obtain ⟨q, hq, hp, _⟩ := head_some hh
    exact absurd hp (h q hq)
theorem tail_zero {l : List UInt8} (h : ∀ q ∈ spaceSeqs, ¬ q <:+ l) : tailSpace l = 0 := by
  by_cases hh : tailSpace l = 0
  · exact hh
  · obtain ⟨q, hq, hp, _⟩ := tail_some hh
    exact absurd hp (h q hq)
theorem head_le (l : List UInt8) : headSpace l ≤ l.length := by
  by_cases hh : headSpace l = 0
  · omega
  · obtain ⟨q, hq, hp, e⟩ := head_some hh
    rw [e]; exact hp.length_le
theorem tail_le (l : List UInt8) : tailSpace l ≤ l.length := by
  by_cases hh : tailSpace l = 0
  · omega
  · obtain ⟨q, hq, hp, e⟩ := tail_some hh
    rw [e]; exact hp.length_le
theorem stripL_fuel : ∀ (f g : Nat) (l : List UInt8), l.length ≤ f → l.length ≤ g → stripL f l = stripL g l
  | 0, g, l, hf, _ => by
    obtain rfl : l = [] := List.eq_nil_of_length_eq_zero (by omega)
    cases g <;> simp [stripL, headSpace_nil]
  | f + 1, 0, l, _, hg => by
    obtain rfl : l = [] := List.eq_nil_of_length_eq_zero (by omega)
    simp [stripL, headSpace_nil]
  | f + 1, g + 1, l, hf, hg => by
    unfold stripL
    by_cases h : headSpace l = 0
    · rw [if_pos h, if_pos h]
    · rw [if_neg h, if_neg h]
      exact stripL_fuel f g _ (by rw [List.length_drop]; omega) (by rw [List.length_drop]; omega)
theorem stripR_fuel : ∀ (f g : Nat) (l : List UInt8), l.length ≤ f → l.length ≤ g → stripR f l = stripR g l
  | 0, g, l, hf, _ => by
    obtain rfl : l = [] := List.eq_nil_of_length_eq_zero (by omega)
    cases g <;> simp [stripR, tailSpace_nil]
  | f + 1, 0, l, _, hg => by
    obtain rfl : l = [] := List.eq_nil_of_length_eq_zero (by omega)
    simp [stripR, tailSpace_nil]
  | f + 1, g + 1, l, hf, hg => by
    unfold stripR
    have := tail_le l
    by_cases h : tailSpace l = 0
    · rw [if_pos h, if_pos h]
    · rw [if_neg h, if_neg h]
      exact stripR_fuel f g _ (by rw [List.length_take]; omega) (by rw [List.length_take]; omega)
theorem LT_same {l : List UInt8} (h : headSpace l = 0) : LT l = l := by
  unfold LT
  cases l with
  | nil => rfl
  | cons x t => show (if _ then _ else _) = _; rw [if_pos h]
theorem RT_same {l : List UInt8} (h : tailSpace l = 0) : RT l = l := by
  unfold RT
  cases l with
  | nil => rfl
  | cons x t => show (if _ then _ else _) = _; rw [if_pos h]
theorem LT_seq {q : List UInt8} (hq : q ∈ spaceSeqs) (l : List UInt8) : LT (q ++ l) = LT l := by
  have hl := seq_len q hq
  have hh := head_of hq (List.prefix_append q l)
  unfold LT
  obtain ⟨n, hn⟩ : ∃ n, (q ++ l).length = n + 1 := ⟨(q ++ l).length - 1, by rw [List.length_append]; omega⟩
  rw [hn]
  show (if _ then _ else _) = _
  rw [if_neg (by omega), hh, List.drop_left]
  rw [List.length_append] at hn
  exact stripL_fuel _ _ _ (by omega) (by omega)
theorem RT_seq {q : List UInt8} (hq : q ∈ spaceSeqs) (l : List UInt8) : RT (l ++ q) = RT l := by
  have hl := seq_len q hq
  have hh := tail_of hq (List.suffix_append l q)
  unfold RT
  obtain ⟨n, hn⟩ : ∃ n, (l ++ q).length = n + 1 := ⟨(l ++ q).length - 1, by rw [List.length_append]; omega⟩
  rw [hn]
  show (if _ then _ else _) = _
  have e : n + 1 - q.length = l.length := by rw [List.length_append] at hn; omega
  rw [if_neg (by omega), hh, hn, e, List.take_left]
  rw [List.length_append] at hn
  exact stripR_fuel _ _ _ (by omega) (by omega)
theorem LT_sp {z : List UInt8} (hz : Sp z) (l : List UInt8) : LT (z ++ l) = LT l := by
  obtain ⟨qs, hqs, rfl⟩ := hz
  induction qs with
  | nil => rfl
  | cons q qs ih =>
    rw [List.flatten_cons, List.append_assoc, LT_seq (hqs q (by simp)), ih (fun r hr => hqs r (by simp [hr]))]
theorem RT_sp {z : List UInt8} (hz : Sp z) (l : List UInt8) : RT (l ++ z) = RT l := by
  obtain ⟨qs, hqs, rfl⟩ := hz
  induction qs generalizing l with
  | nil => simp
  | cons q qs ih =>
    rw [List.flatten_cons, ← List.append_assoc, ih (l ++ q) (fun r hr => hqs r (by simp [hr])), RT_seq (hqs q (by simp))]
theorem LT_spec : ∀ (n : Nat) (l : List UInt8), l.length ≤ n → ∃ z, Sp z ∧ l = z ++ LT l ∧ headSpace (LT l) = 0
  | 0, l, h => by
    obtain rfl : l = [] := List.eq_nil_of_length_eq_zero (by omega)
    exact ⟨[], Sp.nil, rfl, headSpace_nil⟩
  | n + 1, l, h => by
    by_cases hh : headSpace l = 0
    · exact ⟨[], Sp.nil, by rw [LT_same hh]; rfl, by rw [LT_same hh]; exact hh⟩
    · obtain ⟨q, hq, ⟨t, rfl⟩, e⟩ := head_some hh
      have hl := seq_len q hq
      obtain ⟨z, hz, h1, h2⟩ := LT_spec n t (by rw [List.length_append] at h; omega)
      rw [LT_seq hq]
      exact ⟨q ++ z, (Sp.one hq).append hz, by rw [List.append_assoc, ← h1], h2⟩
theorem RT_spec : ∀ (n : Nat) (l : List UInt8), l.length ≤ n → ∃ z, Sp z ∧ l = RT l ++ z ∧ tailSpace (RT l) = 0
  | 0, l, h => by
    obtain rfl : l = [] := List.eq_nil_of_length_eq_zero (by omega)
    exact ⟨[], Sp.nil, rfl, tailSpace_nil⟩
  | n + 1, l, h => by
    by_cases hh : tailSpace l = 0
    · exact ⟨[], Sp.nil, by rw [RT_same hh]; simp, by rw [RT_same hh]; exact hh⟩
    · obtain ⟨q, hq, ⟨t, rfl⟩, e⟩ := tail_some hh
      have hl := seq_len q hq
      obtain ⟨z, hz, h1, h2⟩ := RT_spec n t (by rw [List.length_append] at h; omega)
      rw [RT_seq hq]
      exact ⟨z ++ q, hz.append (Sp.one hq), by rw [← List.append_assoc, ← h1], h2⟩
theorem RT_idem (l : List UInt8) : RT (RT l) = RT l := by
  obtain ⟨_, _, _, h⟩ := RT_spec _ l (Nat.le_refl _)
  exact RT_same h
/-- The head of what begins with no white space begins with none. -/
theorem head_prefix {r z : List UInt8} (h : headSpace (r ++ z) = 0) : headSpace r = 0 :=
  head_zero fun q hq hp => head_none h hq (hp.trans (List.prefix_append r z))
/-- Behind white space: what does not end in white space, still does not. -/
theorem tail_behind {z r : List UInt8} (hz : Sp z) (hne : r ≠ []) (ht : tailSpace r = 0) : tailSpace (z ++ r) = 0 := by
  refine tail_zero fun q hq hp => ?_
  rcases Nat.lt_or_ge r.length q.length with hl | hl
  · -- q straddles
    have hr : r <:+ z ++ r := List.suffix_append z r
    have hrq : r <:+ q := List.suffix_of_suffix_length_le hr hp (by omega)
    obtain ⟨u, hu⟩ := hrq
    have hrl : 0 < r.length := List.length_pos_iff.2 hne
    have hul : u.length < q.length := by rw [← hu, List.length_append]; omega
    have hu0 : 0 < u.length := by rw [← hu, List.length_append] at hl; omega
    have hut : q.take u.length = u := by rw [← hu, List.take_left]
    have huz : u <:+ z := by
      obtain ⟨v, hv⟩ := hp
      rw [← hu, ← List.append_assoc] at hv
      exact ⟨v, List.append_cancel_right hv⟩
    have h3 := seq_len q hq
    obtain ⟨qs, hqs, rfl⟩ := hz
    rcases List.eq_nil_or_concat qs with rfl | ⟨qs', p, rfl⟩
    · have h0 := huz.length_le
      rw [List.flatten_nil, List.length_nil] at h0
      omega
    · have hp2 := hqs p (by simp)
      have hpz : p <:+ (qs'.concat p).flatten := by
        rw [List.concat_eq_append, List.flatten_append]
        simp
      have hk := head_end q hq p hp2 u.length (by rw [List.mem_range]; omega) hu0 hul
      rw [hut] at hk
      rcases List.suffix_or_suffix_of_suffix huz hpz with h | h
      · rw [List.isSuffixOf_iff_suffix.2 h] at hk; exact absurd hk.1 (by decide)
      · rw [List.isSuffixOf_iff_suffix.2 h] at hk; exact absurd hk.2 (by decide)
  · exact tail_none ht hq (List.suffix_of_suffix_length_le hp (List.suffix_append z r) hl)
theorem sp_head {z : List UInt8} (hz : Sp z) (h : headSpace z = 0) : z = [] := by
  obtain ⟨qs, hqs, rfl⟩ := hz
  cases qs with
  | nil => rfl
  | cons q qs =>
    exact absurd (by rw [List.flatten_cons]; exact List.prefix_append q _) (head_none h (hqs q (by simp)))
theorem trims_commute (s : List UInt8) : LT (RT s) = RT (LT s) := by
  obtain ⟨z1, hz1, h1, hh⟩ := LT_spec _ s (Nat.le_refl _)
  obtain ⟨m, hm⟩ : ∃ m, m = LT s := ⟨_, rfl⟩
  rw [← hm] at h1 hh ⊢
  obtain ⟨z2, hz2, h2, ht⟩ := RT_spec _ m (Nat.le_refl _)
  obtain ⟨r, hr⟩ : ∃ r, r = RT m := ⟨_, rfl⟩
  rw [← hr] at h2 ht ⊢
  have hhr : headSpace r = 0 := head_prefix (by rw [← h2]; exact hh)
  have e : RT s = RT (z1 ++ r) := by rw [h1, h2, ← List.append_assoc, RT_sp hz2]
  rw [e]
  by_cases hne : r = []
  · subst hne
    rw [List.append_nil]
    have : RT z1 = [] := by
      have := RT_sp hz1 []
      rwa [List.nil_append] at this
    rw [this]; rfl
  · rw [RT_same (tail_behind hz1 hne ht), LT_sp hz1, LT_same hhr]
theorem TR_idem (s : List UInt8) : RT (LT (RT (LT s))) = RT (LT s) := by
  rw [← trims_commute s, ← trims_commute (LT (RT s))]
  obtain ⟨_, _, _, hh⟩ := LT_spec _ (RT s) (Nat.le_refl _)
  have e : RT (LT (RT s)) = LT (RT s) := by rw [← trims_commute, RT_idem]
  rw [e, LT_same hh]
theorem TR_pad (s p q : List UInt8) (hp : Sp p) (hq : Sp q) : RT (LT (p ++ s ++ q)) = RT (LT s) := by
  rw [List.append_assoc, LT_sp hp, ← trims_commute, RT_sp hq, trims_commute]
/-- Trimming on both sides: the middle. -/
theorem TR_spec (s : List UInt8) : ∃ z, Sp z ∧ LT s = RT (LT s) ++ z ∧ tailSpace (RT (LT s)) = 0 ∧ headSpace (RT (LT s)) = 0 := by
  obtain ⟨_, _, _, hh⟩ := LT_spec _ s (Nat.le_refl _)
  obtain ⟨z2, hz2, h2, ht⟩ := RT_spec _ (LT s) (Nat.le_refl _)
  exact ⟨z2, hz2, h2, ht, head_prefix (z := z2) (by rw [← h2]; exact hh)⟩
theorem LT_D (l : List UInt8) : trimLeftD l.length l = LT l := (stripL_eq _ _).symm
theorem RT_D (l : List UInt8) : trimRightD l.length l = RT l := (stripR_eq _ _).symm
theorem LT_le (l : List UInt8) : (LT l).length ≤ l.length := by
  obtain ⟨z, _, h, _⟩ := LT_spec _ l (Nat.le_refl _)
  have := congrArg List.length h
  rw [List.length_append] at this
  omega
theorem RT_le (l : List UInt8) : (RT l).length ≤ l.length := by
  obtain ⟨z, _, h, _⟩ := RT_spec _ l (Nat.le_refl _)
  have := congrArg List.length h
  rw [List.length_append] at this
  omega
theorem TR_D (l : List UInt8) : trimSpaceD l = RT (LT l) := by
  rw [← trimSpaceU_eq]
  exact stripR_fuel _ _ _ (LT_le l) (Nat.le_refl _)
end Go.Proofs.YtnnjoehhjmomaaaDoor
