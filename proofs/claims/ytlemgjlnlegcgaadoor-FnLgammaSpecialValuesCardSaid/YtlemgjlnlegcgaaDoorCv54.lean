/- Bounds over a range of words, piece by piece. -/
import Derived.Test.YtlemgjlnlegcgaaDoorTr54
namespace Go.Proofs.YtlemgjlnlegcgaaDoor
open Go.RowKit
open FL
open Go.Extern
set_option linter.unusedVariables false
set_option linter.unusedSimpArgs false

def hull : Option (Nat × Nat) → Option (Nat × Nat) → Option (Nat × Nat)
  | some p, some q => some (if SV p.1 ≤ SV q.1 then p.1 else q.1, if SV p.2 ≤ SV q.2 then q.2 else p.2)
  | _, _ => none
theorem hull_ok {o1 o2 : Option (Nat × Nat)} {a b : Nat} (h : hull o1 o2 = some (a, b)) : ∃ p q, o1 = some p ∧ o2 = some q ∧ SV a ≤ SV p.1 ∧ SV a ≤ SV q.1 ∧ SV p.2 ≤ SV b ∧ SV q.2 ≤ SV b := by
  unfold hull at h
  split at h
  · rename_i p q
    simp only [Option.some.injEq, Prod.mk.injEq] at h
    obtain ⟨rfl, rfl⟩ := h
    refine ⟨p, q, rfl, rfl, ?_, ?_, ?_, ?_⟩ <;> split <;> omega
  · cases h
theorem LogIs.mono {x a b a' b' : Nat} (h : LogIs x a b) (h1 : SV a' ≤ SV a) (h2 : SV b ≤ SV b') : LogIs x a' b' := by
  obtain ⟨r, hr, hi⟩ := h
  exact ⟨r, hr, hi.mono h1 h2⟩
/-- Bounds of log between two words. -/
def SQ : Nat := 0x3FE6A09E667F3BCD
def logK (flo fhi : Nat) (klo khi : Int) : Option (Nat × Nat) :=
  if fhi ≤ SQ then logB 4607182418800017408 flo fhi klo khi else if SQ < flo then logB 0 flo fhi klo khi
  else hull (logB 4607182418800017408 flo SQ klo khi) (logB 0 (SQ + 1) fhi klo khi)
def logR (a b : Nat) : Option (Nat × Nat) :=
  if decide (1 ≤ a) && decide (b < 9218868437227405312) then
    if a / 2 ^ 52 = b / 2 ^ 52 then logK (f1of a) (f1of b) (kof a) (kof b) else logK 4602678819172646912 4607182418800017407 (kof a) (kof b)
  else none
theorem logK_ok {x flo fhi a b : Nat} {klo khi : Int} (h1 : 1 ≤ x) (h2 : x < 9218868437227405312) (hf1 : flo ≤ f1of x) (hf2 : f1of x ≤ fhi) (hk1 : klo ≤ kof x) (hk2 : kof x ≤ khi)
    (h : logK flo fhi klo khi = some (a, b)) : LogIs x a b := by
  unfold logK at h
  split at h
  · exact logB_ok h1 h2 hf1 hf2 hk1 hk2 h
  split at h
  · exact logB_ok h1 h2 hf1 hf2 hk1 hk2 h
  obtain ⟨p, q, e1, e2, c1, c2, c3, c4⟩ := hull_ok h
  by_cases hs : f1of x ≤ SQ
  · exact (logB_ok (a := p.1) (b := p.2) h1 h2 hf1 hs hk1 hk2 e1).mono c1 c3
  · exact (logB_ok (a := q.1) (b := q.2) h1 h2 (by omega) hf2 hk1 hk2 e2).mono c2 c4
theorem logR_ok {x lo hi a b : Nat} (h1 : lo ≤ x) (h2 : x ≤ hi) (h : logR lo hi = some (a, b)) : LogIs x a b := by
  unfold logR at h
  split at h
  · rename_i hc
    rw [Bool.and_eq_true, decide_eq_true_eq, decide_eq_true_eq] at hc
    have q1 : lo / 2 ^ 52 ≤ x / 2 ^ 52 := Nat.div_le_div_right h1
    have q2 : x / 2 ^ 52 ≤ hi / 2 ^ 52 := Nat.div_le_div_right h2
    split at h
    · refine logK_ok (by omega) (by omega) ?_ ?_ ?_ ?_ h
      · unfold f1of; omega
      · unfold f1of; omega
      · unfold kof; omega
      · unfold kof; omega
    · refine logK_ok (by omega) (by omega) ?_ ?_ ?_ ?_ h
      · unfold f1of; omega
      · unfold f1of; omega
      · unfold kof; omega
      · unfold kof; omega
  · cases h
/-- A word whose value lies between those of two positive words lies between them. -/
theorem words_of {a b z : Nat} (h : In a b z) (ha : a < 2 ^ 63) (ha0 : 0 < a) (hb : b < 2 ^ 63) : a ≤ z ∧ z ≤ b := by
  obtain ⟨h64, hf, h1, h2⟩ := h
  have sa := sg_small ha
  have sb := sg_small hb
  rw [SV_pos sa] at h1
  rw [SV_pos sb] at h2
  have hva : 0 < V a := by
    have := V_lt (x := 0) (y := a) (by rw [rung_small ha]; exact ha0)
    omega
  have sz : sg z = false := by
    cases e : sg z
    · rfl
    · rw [SV_neg e] at h1; omega
  rw [SV_pos sz] at h1 h2
  have hz : z < 2 ^ 63 := by
    unfold sg at sz
    rcases Nat.lt_or_ge z (2 ^ 63) with h' | h'
    · exact h'
    · have : z / 2 ^ 63 % 2 = 1 := by omega
      rw [this] at sz
      cases sz
  have r1 := rung_of_V (x := a) (y := z) (by omega)
  have r2 := rung_of_V (x := z) (y := b) (by omega)
  rw [rung_small ha, rung_small hz] at r1
  rw [rung_small hb, rung_small hz] at r2
  exact ⟨r1, r2⟩
def allOk (f : Nat → Nat → Bool) : List Nat → Bool
  | a :: b :: l => f a (b - 1) && allOk f (b :: l)
  | _ => true
def endOf : Nat → List Nat → Nat
  | a, [] => a
  | _, b :: l => endOf b l
theorem cover {f : Nat → Nat → Bool} : ∀ {l : List Nat} {a x : Nat}, allOk f (a :: l) = true → a ≤ x → x < endOf a l → ∃ c d, f c d = true ∧ c ≤ x ∧ x ≤ d
  | [], a, x, _, h1, h2 => absurd h1 (Nat.not_le_of_lt h2)
  | b :: l, a, x, h, h1, h2 => by
    unfold allOk at h
    rw [Bool.and_eq_true] at h
    by_cases hx : x < b
    · exact ⟨a, b - 1, h.1, h1, by omega⟩
    · exact cover h.2 (by omega) h2
/-- The last result lies between two words that are good. -/
def Good (g : Nat × Nat → Bool) (e : List Nat) : Prop := ∃ r e' p, e = r :: e' ∧ g p = true ∧ In p.1 p.2 r
def lastOk (g : Nat × Nat → Bool) (o : Option (List (Nat × Nat))) : Bool :=
  match o with
  | some (p :: _) => g p
  | _ => false
theorem last_ok {g : Nat × Nat → Bool} {o : Option (List (Nat × Nat))} (h : lastOk g o = true) : ∃ p l, o = some (p :: l) ∧ g p = true := by
  unfold lastOk at h
  split at h
  · rename_i p l; exact ⟨p, l, rfl, h⟩
  · cases h
theorem good_of {g : Nat × Nat → Bool} {p : Nat × Nat} {l : List (Nat × Nat)} {e : List Nat} (hg : g p = true) (h : Ins e (p :: l)) : Good g e := by
  match e, h with
  | r :: e', h => exact ⟨r, e', p, rfl, hg, h.1⟩
def okX (ops : List (Nat × Sum Nat Nat × Sum Nat Nat)) (g : Nat × Nat → Bool) (a b : Nat) : Bool := decide (b < 2047 * 2 ^ 52) && lastOk g (auto ops [(a, b)])
theorem okX_runs {ops : List (Nat × Sum Nat Nat × Sum Nat Nat)} {g : Nat × Nat → Bool} {a b x : Nat} (h : okX ops g a b = true) (h1 : a ≤ x) (h2 : x ≤ b) : Runs ops [x] (Good g) := by
  unfold okX at h
  rw [Bool.and_eq_true, decide_eq_true_eq] at h
  obtain ⟨p, l, ho, hg⟩ := last_ok h.2
  exact (auto_ok (env := [x]) ops ho ⟨in_words h1 h2 h.1, trivial⟩).mono fun e he => good_of hg he
def okL (ops : List (Nat × Sum Nat Nat × Sum Nat Nat)) (g : Nat × Nat → Bool) (a b : Nat) : Bool :=
  decide (b < 2047 * 2 ^ 52) && match logR a b with
    | some L => lastOk g (auto ops [L, (a, b)])
    | none => false
theorem okL_runs {ops : List (Nat × Sum Nat Nat × Sum Nat Nat)} {g : Nat × Nat → Bool} {a b x : Nat} (h : okL ops g a b = true) (h1 : a ≤ x) (h2 : x ≤ b) : ∃ L, MathLog.archLog #[.float .f64 x] = pure (.float .f64 L) ∧ Runs ops [L, x] (Good g) := by
  unfold okL at h
  rw [Bool.and_eq_true, decide_eq_true_eq] at h
  obtain ⟨hb, h⟩ := h
  split at h
  · rename_i q hL
    obtain ⟨p, l, ho, hg⟩ := last_ok h
    obtain ⟨L, hL', hi⟩ := logR_ok (a := q.1) (b := q.2) h1 h2 hL
    exact ⟨L, hL', (auto_ok (env := [L, x]) ops ho ⟨hi, in_words h1 h2 hb, trivial⟩).mono fun e he => good_of hg he⟩
  · cases h
def okZ (ops ops2 : List (Nat × Sum Nat Nat × Sum Nat Nat)) (g : Nat × Nat → Bool) (a b : Nat) : Bool :=
  decide (b < 2047 * 2 ^ 52) && match auto ops [(a, b)] with
    | some (z :: l) => decide (0 < z.1) && decide (z.1 < 2 ^ 63) && decide (z.2 < 2 ^ 63) && match logR z.1 z.2 with
      | some L => lastOk g (auto ops2 (L :: z :: l))
      | none => false
    | _ => false
theorem okZ_runs {ops ops2 : List (Nat × Sum Nat Nat × Sum Nat Nat)} {g : Nat × Nat → Bool} {a b x : Nat} (h : okZ ops ops2 g a b = true) (h1 : a ≤ x) (h2 : x ≤ b) :
    Runs ops [x] fun e1 => ∃ z e2, e1 = z :: e2 ∧ ∃ L, MathLog.archLog #[.float .f64 z] = pure (.float .f64 L) ∧ Runs ops2 (L :: e1) (Good g) := by
  unfold okZ at h
  rw [Bool.and_eq_true, decide_eq_true_eq] at h
  obtain ⟨hb, h⟩ := h
  split at h
  · rename_i z l hz
    simp only [Bool.and_eq_true, decide_eq_true_eq] at h
    obtain ⟨⟨⟨z0, z1⟩, z2⟩, h⟩ := h
    split at h
    · rename_i q hL
      obtain ⟨p, l', ho, hg⟩ := last_ok h
      refine (auto_ok (env := [x]) ops hz ⟨in_words h1 h2 hb, trivial⟩).mono fun e he => ?_
      match e, he with
      | y :: e', he =>
        obtain ⟨w1, w2⟩ := words_of he.1 z1 z0 z2
        obtain ⟨L, hL', hi⟩ := logR_ok (a := q.1) (b := q.2) w1 w2 hL
        exact ⟨y, e', rfl, L, hL', (auto_ok (env := L :: y :: e') ops2 ho ⟨hi, he⟩).mono fun e he => good_of hg he⟩
    · cases h
  · cases h
def pos (p : Nat × Nat) : Bool := decide (0 < SV p.1)
def neg (p : Nat × Nat) : Bool := decide (SV p.2 < 0)
end Go.Proofs.YtlemgjlnlegcgaaDoor
