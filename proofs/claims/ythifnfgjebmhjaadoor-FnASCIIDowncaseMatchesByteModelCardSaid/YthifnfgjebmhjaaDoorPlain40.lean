/- Plain laws on downcasing rune by rune: over valid text it is bytewise; it composes. No program in sight. -/
import Derived.Lib.MapLaws
import Derived.Lib.ValidLaws
namespace Go.Proofs.YthifnfgjebmhjaaDoor
open Go.Lib
set_option linter.unusedVariables false

def dnR (x : Int) : Int := if 65 ≤ x ∧ x ≤ 90 then x + 32 else x
def upR (x : Int) : Int := if 97 ≤ x ∧ x ≤ 122 then x - 32 else x
def dnB (b : UInt8) : UInt8 := if 65 ≤ b.toNat ∧ b.toNat ≤ 90 then b + 32 else b

/-- What a rune function must be: it moves ASCII to ASCII and leaves the rest. -/
def AsciiFn (f : Int → Int) : Prop := (∀ x : Int, 0 ≤ x → x < 128 → 0 ≤ f x ∧ f x < 128) ∧ ∀ x : Int, 128 ≤ x → f x = x
theorem dn_ascii : AsciiFn dnR := ⟨fun x h0 h1 => by unfold dnR; split <;> omega, fun x h => by unfold dnR; rw [if_neg (by omega)]⟩
theorem up_ascii : AsciiFn upR := ⟨fun x h0 h1 => by unfold upR; split <;> omega, fun x h => by unfold upR; rw [if_neg (by omega)]⟩
theorem dn_dn (x : Int) : dnR (dnR x) = dnR x := by unfold dnR; repeat' split
                                                    all_goals omega
theorem dn_up (x : Int) : dnR (upR x) = dnR x := by unfold dnR upR; repeat' split
                                                    all_goals omega
theorem fn_nonneg {f : Int → Int} (hf : AsciiFn f) (x : Nat) : 0 ≤ f x := by
  by_cases h : (x : Int) < 128
  · exact (hf.1 x (by omega) h).1
  · rw [hf.2 x (by omega)]; omega
theorem fn_bound {f : Int → Int} (hf : AsciiFn f) (x : Nat) (hx : x ≤ 1114111) : 0 ≤ f x ∧ f x ≤ 1114111 := by
  refine ⟨fn_nonneg hf x, ?_⟩
  by_cases h : (x : Int) < 128
  · have := (hf.1 x (by omega) h).2; omega
  · rw [hf.2 x (by omega)]; omega
theorem step_ascii (f : Int → Int) (hf : AsciiFn f) (l : List UInt8) (hne : l ≠ []) : mapD f l = encodeRune (f (decodeL l).1) ++ mapD f (l.drop (decodeL l).2) := by
  rw [mapD_step f l hne, if_pos (fn_nonneg hf _)]
theorem encode_small (x : Int) (h0 : 0 ≤ x) (h1 : x < 128) : encodeRune x = [x.toNat.toUInt8] := by
  unfold encodeRune
  rw [encodeRuneZ_one h0 (by omega)]; rfl
theorem decode_small (b : UInt8) (t : List UInt8) (h : b.toNat < 128) : decodeL (b :: t) = (b.toNat, 1) := by
  rw [decodeL_N]; exact decodeN_ascii _ _ _ _ _ (by simpa using h)
theorem decode_err (t : List UInt8) : decodeL (encodeRune 65533 ++ t) = (65533, 3) := by
  have e : encodeRune 65533 = [239, 191, 189] := by decide +kernel
  rw [e, decodeL_N]
  simp only [List.cons_append, List.nil_append, List.length_cons, List.getD_cons_zero, List.getD_cons_succ]
  unfold decodeN
  rw [if_neg (by decide), if_neg (fun h => absurd h.1 (by decide)), if_pos ⟨by decide, ⟨by omega, by decide⟩, by omega, by decide⟩, if_pos (by decide)]
  rfl
/-- The first rune is read off its own bytes alone. -/
theorem decode_take (l t : List UInt8) (hne : l ≠ []) (hv : ¬ ((decodeL l).1 = 65533 ∧ (decodeL l).2 = 1)) : decodeL (l.take (decodeL l).2 ++ t) = decodeL l := by
  have hl : 0 < l.length := List.length_pos_iff.2 hne
  rw [decodeL_N l] at hv ⊢
  rcases decodeN_shape l.length (l.getD 0 0).toNat (l.getD 1 0).toNat (l.getD 2 0).toNat (l.getD 3 0).toNat with ⟨c, e⟩ | ⟨c1, c2, c3, cv, e⟩ | ⟨c1, c2, c3, c4, cv, cs, e⟩ | ⟨c1, c2, c3, c4, c5, cv, cw, e⟩ | e
  · rw [e] at hv ⊢
    dsimp only
    rw [takeA l hl, decodeL_N, List.cons_append, List.getD_cons_zero]
    exact decodeN_ascii _ _ _ _ _ c
  · rw [e] at hv ⊢
    dsimp only
    rw [takeB l c2, decodeL_N]
    simp only [List.cons_append, List.nil_append, List.length_cons, List.getD_cons_zero, List.getD_cons_succ]
    unfold decodeN
    rw [if_neg (by omega), if_pos ⟨c1, by omega, c3⟩, if_pos cv]
  · rw [e] at hv ⊢
    dsimp only
    rw [takeC l c2, decodeL_N]
    simp only [List.cons_append, List.nil_append, List.length_cons, List.getD_cons_zero, List.getD_cons_succ]
    unfold decodeN
    rw [if_neg (by omega), if_neg (by omega), if_pos ⟨c1, ⟨by omega, c3⟩, by omega, c4⟩, if_pos ⟨cv, by omega⟩]
  · rw [e] at hv ⊢
    dsimp only
    rw [takeD l c2, decodeL_N]
    simp only [List.cons_append, List.nil_append, List.length_cons, List.getD_cons_zero, List.getD_cons_succ]
    unfold decodeN
    rw [if_neg (by omega), if_neg (by omega), if_neg (by omega), if_pos ⟨c1, ⟨by omega, c3⟩, ⟨by omega, c4⟩, by omega, c5⟩, if_pos ⟨cv, by omega⟩]
  · rw [e] at hv
    exact absurd ⟨rfl, rfl⟩ hv
/-- A rune below 128 is one byte. -/
theorem decode_low (l : List UInt8) (hne : l ≠ []) (h : (decodeL l).1 < 128) : (decodeL l).2 = 1 ∧ (l.getD 0 0).toNat = (decodeL l).1 := by
  have k0 := (l.getD 0 0).toNat_lt
  rw [decodeL_N] at h ⊢
  rcases decodeN_shape l.length (l.getD 0 0).toNat (l.getD 1 0).toNat (l.getD 2 0).toNat (l.getD 3 0).toNat with ⟨c, e⟩ | ⟨c1, c2, c3, cv, e⟩ | ⟨c1, c2, c3, c4, cv, cs, e⟩ | ⟨c1, c2, c3, c4, c5, cv, cw, e⟩ | e
  all_goals (rw [e] at h ⊢; dsimp only at h ⊢)
  · exact ⟨rfl, rfl⟩
  all_goals omega
/-- What one rune gives is read back as one rune. -/
theorem decode_encode (f : Int → Int) (hf : AsciiFn f) (l t : List UInt8) (hne : l ≠ []) :
    ∃ m : Nat, (m : Int) = f (decodeL l).1 ∧ decodeL (encodeRune (f (decodeL l).1) ++ t) = (m, (encodeRune (f (decodeL l).1)).length) ∧ encodeRune (f (decodeL l).1) ≠ [] := by
  obtain ⟨m, hm⟩ := Int.eq_ofNat_of_zero_le (fn_nonneg hf (decodeL l).1)
  refine ⟨m, hm.symm, ?_⟩
  by_cases h : (decodeL l).1 < 128
  · have h1 := hf.1 (decodeL l).1 (by omega) (by omega)
    rw [encode_small _ h1.1 h1.2, hm]
    refine ⟨?_, by simp⟩
    have h2 : m < 128 := by omega
    have h3 : (m.toUInt8).toNat = m := by simp; omega
    show decodeL (m.toUInt8 :: t) = (m, 1)
    rw [decode_small _ t (by omega), h3]
  · have h1 := hf.2 (decodeL l).1 (by omega)
    rw [h1] at hm ⊢
    obtain rfl : (decodeL l).1 = m := by omega
    by_cases hv : (decodeL l).1 = 65533 ∧ (decodeL l).2 = 1
    · rw [hv.1]
      have e : encodeRune ((65533 : Nat) : Int) = encodeRune 65533 := rfl
      rw [e, decode_err]
      exact ⟨by decide +kernel, by decide +kernel⟩
    · rw [encode_decode l hne hv, decode_take l t hne hv]
      have hle := decodeL_le l hne
      have hw := decodeL_width l
      refine ⟨?_, ?_⟩
      · rw [List.length_take, Nat.min_eq_left hle]
      · intro h0
        have := congrArg List.length h0
        simp at this
        have hl : 0 < l.length := List.length_pos_iff.2 hne
        rcases this with h | h
        · omega
        · exact hne h
theorem mapD_comp (g f : Int → Int) (hg : AsciiFn g) (hf : AsciiFn f) : ∀ (n : Nat) (l : List UInt8), l.length ≤ n → mapD g (mapD f l) = mapD (fun x => g (f x)) l := by
  have hgf : AsciiFn (fun x => g (f x)) := ⟨fun x h0 h1 => hg.1 _ (hf.1 x h0 h1).1 (hf.1 x h0 h1).2, fun x h => by show g (f x) = x; rw [hf.2 x h, hg.2 x h]⟩
  intro n
  induction n with
  | zero => intro l hl; obtain rfl : l = [] := List.eq_nil_of_length_eq_zero (by omega); rfl
  | succ n ih =>
    intro l hl
    by_cases hne : l = []
    · subst hne; rfl
    · have hw := decodeL_width l
      have hlp : 0 < l.length := List.length_pos_iff.2 hne
      obtain ⟨m, hm, hd, hn⟩ := decode_encode f hf l (mapD f (l.drop (decodeL l).2)) hne
      rw [step_ascii f hf l hne, step_ascii _ hgf l hne, step_ascii g hg _ (by simp [hn]), hd]
      simp only
      rw [hm, List.drop_left, ih _ (by rw [List.length_drop]; omega)]
theorem dn_twice (l : List UInt8) : mapD dnR (mapD dnR l) = mapD dnR l := by
  rw [mapD_comp _ _ dn_ascii dn_ascii l.length l (Nat.le_refl _)]
  congr 1
  funext x
  exact dn_dn x
theorem dn_after_up (l : List UInt8) : mapD dnR (mapD upR l) = mapD dnR l := by
  rw [mapD_comp _ _ dn_ascii up_ascii l.length l (Nat.le_refl _)]
  congr 1
  funext x
  exact dn_up x
/-- The bytes of a rune from 128 on are from 128 on. -/
theorem high_bytes (l : List UInt8) (hne : l ≠ []) (hv : ¬ ((decodeL l).1 = 65533 ∧ (decodeL l).2 = 1)) (h : ¬ (decodeL l).1 < 128) : ∀ b ∈ l.take (decodeL l).2, 128 ≤ b.toNat := by
  have hl : 0 < l.length := List.length_pos_iff.2 hne
  have k0 := (l.getD 0 0).toNat_lt
  rw [decodeL_N] at hv h ⊢
  rcases decodeN_shape l.length (l.getD 0 0).toNat (l.getD 1 0).toNat (l.getD 2 0).toNat (l.getD 3 0).toNat with ⟨c, e⟩ | ⟨c1, c2, c3, cv, e⟩ | ⟨c1, c2, c3, c4, cv, cs, e⟩ | ⟨c1, c2, c3, c4, c5, cv, cw, e⟩ | e
  all_goals (rw [e] at hv h ⊢; dsimp only at hv h ⊢)
  · exact absurd c h
  · rw [takeB l c2]; intro b hb
    simp only [List.mem_cons, List.not_mem_nil, or_false] at hb
    rcases hb with rfl | rfl <;> omega
  · rw [takeC l c2]; intro b hb
    simp only [List.mem_cons, List.not_mem_nil, or_false] at hb
    rcases hb with rfl | rfl | rfl <;> omega
  · rw [takeD l c2]; intro b hb
    simp only [List.mem_cons, List.not_mem_nil, or_false] at hb
    rcases hb with rfl | rfl | rfl | rfl <;> omega
  · exact absurd ⟨rfl, rfl⟩ hv
theorem dnB_byte (b : UInt8) (h : b.toNat < 128) : [(dnR (b.toNat : Int)).toNat.toUInt8] = [dnB b] := by
  congr 1
  unfold dnR dnB
  by_cases c : 65 ≤ b.toNat ∧ b.toNat ≤ 90
  · rw [if_pos (by omega), if_pos c]
    apply UInt8.toNat_inj.1
    rw [UInt8.toNat_add]
    simp
    omega
  · rw [if_neg (by omega), if_neg c]; simp
theorem mapD_valid : ∀ (n : Nat) (l : List UInt8), l.length ≤ n → validD l = true → mapD dnR l = l.map dnB := by
  intro n
  induction n with
  | zero => intro l hl _; obtain rfl : l = [] := List.eq_nil_of_length_eq_zero (by omega); rfl
  | succ n ih =>
    intro l hl hv
    by_cases hne : l = []
    · subst hne; rfl
    · have hw := decodeL_width l
      have hlp : 0 < l.length := List.length_pos_iff.2 hne
      rw [validD_step l hne] at hv
      by_cases hb : (decodeL l).1 = 65533 ∧ (decodeL l).2 = 1
      · rw [if_pos hb] at hv; cases hv
      · rw [if_neg hb] at hv
        rw [step_ascii dnR dn_ascii l hne, ih _ (by rw [List.length_drop]; omega) hv]
        conv => rhs; rw [← List.take_append_drop (decodeL l).2 l, List.map_append]
        congr 1
        by_cases h : (decodeL l).1 < 128
        · obtain ⟨e1, e2⟩ := decode_low l hne h
          have h1 := dn_ascii.1 (decodeL l).1 (by omega) (by omega)
          rw [encode_small _ h1.1 h1.2, e1, takeA l hlp, ← e2, List.map_cons, List.map_nil]
          exact dnB_byte _ (by omega)
        · rw [dn_ascii.2 (decodeL l).1 (by omega), encode_decode l hne hb]
          symm
          conv => rhs; rw [← List.map_id (l.take (decodeL l).2)]
          apply List.map_congr_left
          intro b hbm
          have := high_bytes l hne hb h b hbm
          unfold dnB
          rw [if_neg (by omega)]; rfl
end Go.Proofs.YthifnfgjebmhjaaDoor
