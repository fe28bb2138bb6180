/- The walk of FnExplodeConcat: the law. -/
import Derived.Test.YtnnjoehhjmomaaaCat2
import Derived.Outline
namespace Go.Proofs.Ytnnjoehhjmomaaa
open Go.RowKit

def fitB (a b : Nat) : Bool := decide (a + b ≤ 1048576)
theorem bytes11 (a b : ByteArray) (w : World) (ha : a.size ≤ maxLen) (hb : b.size ≤ maxLen) :
    Calls Try.prog 11 #[.string a, .string b] w fun e w' => e = .returned (.bool (fitB a.size b.size)) ∧ w = w' := by
  unfold maxLen at *
  go_enter Try.func11, Try.ntmps11
  go_wp2
  all_goals (go_ret; exact ⟨ret_bool (by unfold fitB; simp; omega), rfl⟩)

theorem mk_cap (N : Int) (n : Nat) (hN : N = n) (hn : n ≤ 10000000) (W : World) :
    (Instr.makeSlice 24 (.int .i64 0) (.int .i64 N)).run Try.prog W = .ok (.slice (some ⟨W.heap.size, 0, none⟩) 0 n) (W.alloc (.cells (List.replicate n (Value.int .i64 0)).toArray 3)) := by
  subst hN
  obtain ⟨i, hi, hz0, hz1, hz2⟩ := info_parts info3
  have := run_make (P := Try.prog) W 24 3 i (.int .i64 0) Try.underlying24 hi hz0 .i64 .i64 0 n (Int.le_refl _) (by omega) (by rw [hz2]; omega) (by omega)
  simp only [Int.toNat_natCast, Int.toNat_zero, hz1, Nat.mul_one] at this
  rw [this]
  have e : madeCells (Value.int .i64 0).cells n = (List.replicate n (Value.int .i64 0)).toArray := by
    apply Array.ext'
    rw [show (Value.int .i64 0).cells = #[Value.int .i64 0] from rfl, toList_madeCells_one]
  rw [e]

theorem wpList_append_run {P : Program} (w : World) {ops : Array Oper} {rest : List Oper} {o : Oper} {a : Act} {Q : Exit → Act → World → Prop}
    (hg : o.guard = none) (s x : Operand) (t : TypeId) (hop : o.op = Op.call { callee := Callee.builtin Builtin.append, args := #[s, x], argTypes := #[t, t] })
    (vs vx v' : Value) (hs : a.eval s = vs) (hx : a.eval x = vx) (w' : World) (hrun : ∀ ty, (Builtin.append_ #[t, t] ty #[vs, vx]).run P w = .ok v' w')
    (hK : wpList P ops Q rest (a.put o.dst v') w') : wpList P ops Q (o :: rest) a w := by
  refine wpList_plain hg fun K hK' => ?_
  unfold Oper.wp
  simp [execOp, hop, resolve, invoke, builtin, hs, hx, hrun, Result.andThen]
  exact hK' _ _ hK

/-- While the list l (in block b) is appended behind the list A: D has gone over, E is to come. -/
def CRel (A l : List Nat) (g cap : Nat) (w : World) (v i : Value) (wr : World) : Prop :=
  ∃ (D E : List Nat), l = D ++ E ∧ i = .int .i64 D.length ∧ v = .slice (some ⟨g, 0, none⟩) (A.length + D.length) cap ∧
    Blk 3 g ((A ++ D).map nv ++ List.replicate (cap - (A.length + D.length)) (.int .i64 0)) wr ∧ Below g w wr

set_option maxHeartbeats 1000000 in
theorem law5_good (a b : ByteArray) (w : World) (hs : a.size + b.size ≤ 1048576) (hV : V a 0 = true) :
    Calls Try.prog 5 #[.string a, .string b] w (True1 w) := by
  have hf : fitB a.size b.size = true := by unfold fitB; simpa using hs
  have hab : (a ++ b).size ≤ 1048576 := by rw [ByteArray.size_append]; exact hs
  have hcat := R_cat a b _ 0 rfl (Nat.zero_le _) hV
  obtain ⟨la, hla⟩ : ∃ l, R a 0 = l := ⟨_, rfl⟩
  obtain ⟨lb, hlb⟩ : ∃ l, R b 0 = l := ⟨_, rfl⟩
  have hna : la.length ≤ 1048576 := by rw [← hla]; exact Nat.le_trans (R_len a) (by omega)
  have hnb : lb.length ≤ 1048576 := by rw [← hlb]; exact Nat.le_trans (R_len b) (by omega)
  rw [hla, hlb] at hcat
  have HLA := Lib.hid hla
  have HLB := Lib.hid hlb
  have HLC := Lib.hid hcat
  have HV := Lib.hid hV
  have hmk := mk_cap (↑la.length + ↑lb.length) (la.length + lb.length) (by omega) (by omega)
  have hsz : a.size + b.size ≤ 9223372036854775807 := by omega
  clear hla hlb hcat
  go_enter Try.func5, Try.ntmps5
  go_wp2_with fail
  refine (bytes11 _ _ _ (by unfold maxLen; omega) (by unfold maxLen; omega)).mono ?_
  rintro e w' ⟨rfl, rfl⟩
  go_wp2_with fail
  refine (valid_any a _ (by omega)).mono ?_
  rintro e w' ⟨rfl, rfl⟩
  clear HV
  go_wp2_with fail
  refine (zzExplode_any a _ (by omega) la HLA.out).mono ?_
  rintro e w1 ⟨ba, rfl, hba, hBA, hb1⟩
  have hba1 : ba < w1.heap.size := lt_of_block hBA
  have HBA := Lib.hid hBA
  clear hBA
  go_wp2_with fail
  refine (zzExplode_any b _ (by omega) lb HLB.out).mono ?_
  rintro e w2 ⟨bb, rfl, hbb, hBB, hb2⟩
  have hbb1 : bb < w2.heap.size := lt_of_block hBB
  have HBA2 : Hid (Blk 3 ba (la.map nv) w2) := Lib.hid ((hb2.block ba hba1).trans HBA.out)
  have HBB := Lib.hid hBB
  have hb12 : Below w.heap.size w w2 := hb1.trans (hb2.mono hb1.size)
  have hz12 := hb2.size
  clear hBB HBA hb1 hb2
  go_wp2_with fail
  refine (zzExplode_any (a ++ b) _ hab (la ++ lb) HLC.out).mono ?_
  rintro e w3 ⟨bc, rfl, hbc, hBC, hb3⟩
  have hbc1 : bc < w3.heap.size := lt_of_block hBC
  have HBA3 : Hid (Blk 3 ba (la.map nv) w3) := Lib.hid ((hb3.block ba (by omega)).trans HBA2.out)
  have HBB3 : Hid (Blk 3 bb (lb.map nv) w3) := Lib.hid ((hb3.block bb hbb1).trans HBB.out)
  have HBC := Lib.hid hBC
  have hb13 : Below w.heap.size w w3 := hb12.trans (hb3.mono hb12.size)
  have hz23 := hb3.size
  clear hBC HBA2 HBB hb12 hb3
  rw [List.length_append]
  go_wp2_with fail
  obtain ⟨w4, hw4⟩ : ∃ w4, w4 = w3.alloc (.cells (Array.replicate (la.length + lb.length) (Value.int .i64 0)) 3) := ⟨_, rfl⟩
  have hG : Blk 3 w3.heap.size (List.replicate (la.length + lb.length) (Value.int .i64 0)) w4 := by rw [hw4]; exact (heap_alloc_at _ _).trans (by simp)
  have hb34 : Below w3.heap.size w3 w4 := by rw [hw4]; exact (Below.refl _ _).alloc (Nat.le_refl _) _
  rw [← hw4]
  obtain ⟨g, hg⟩ : ∃ g, g = w3.heap.size := ⟨_, rfl⟩
  rw [← hg] at hG hb34 hbc1 hz23 ⊢
  have hgw : w.heap.size ≤ g := by rw [hg]; exact hb13.size
  have hb14 : Below w.heap.size w w4 := hb13.trans (hb34.mono hgw)
  have HBA4 : Hid (Blk 3 ba (la.map nv) w4) := Lib.hid ((hb34.block ba (by omega)).trans HBA3.out)
  have HBB4 : Hid (Blk 3 bb (lb.map nv) w4) := Lib.hid ((hb34.block bb (by omega)).trans HBB3.out)
  have HBC4 : Hid (Blk 3 bc ((la ++ lb).map nv) w4) := Lib.hid ((hb34.block bc (by omega)).trans HBC.out)
  have hbag : ba < g := by omega
  have hbbg : bb < g := by omega
  clear hw4 hg hmk hb34 HBA3 HBB3 HBC hb13 hz12 hz23 hba1 hbb1 hba hbb hbc
  go_loopw [8, 9] (CRel [] la g (la.length + lb.length) w4) (fun _ i _ => la.length - (intOf i).toNat)
  case atStart => exact ⟨[], la, rfl, rfl, rfl, by simpa using hG, Below.refl _ _⟩
  case round =>
    obtain ⟨D, E, hl, rfl, rfl, hB, hbw⟩ := hrel
    cases E with
    | cons r E =>
      have hD : D.length < la.length := by rw [hl]; simp
      obtain ⟨q, hq⟩ : ∃ q, la.length + lb.length - (([] : List Nat).length + D.length) = q + 1 := ⟨la.length + lb.length - D.length - 1, by simp; omega⟩
      rw [hq, List.replicate_succ] at hB
      have c0 : wr.cell? ⟨ba, D.length, none⟩ = some (.int .i64 (r : Int)) := by
        have h1 : D.length < (la.map nv).length := by simpa using hD
        have hO : Blk 3 ba (la.map nv) wr := (hbw.block ba hbag).trans HBA4.out
        rw [hO.cell h1]
        simp [hl, nv]
      obtain ⟨w5, hap, hB5, hb5⟩ := app_eq g D.length (la.length + lb.length) r _ _ wr hB (by simp) (by omega)
      have hbw5 := hbw.trans hb5
      have HB5 := Lib.hid hB5
      have HL := Lib.hid hl
      have HQ := Lib.hid hq
      clear hB hB5 hl hq hb5
      simp only [List.length_nil, Nat.zero_add]
      go_wp2_with (at_builtin; refine wpList_append_run _ rfl _ _ _ rfl _ _ _ rfl rfl _ hap ?_)
      go_roundw
      case rel =>
        refine ⟨D ++ [r], E, by rw [HL.out]; simp, by simp, by simp, ?_, hbw5⟩
        have h := HB5.out
        have e : la.length + lb.length - (([] : List Nat).length + (D ++ [r]).length) = q := by have := HQ.out; simp at this ⊢; omega
        have e2 : ([] ++ (D ++ [r])).map nv ++ List.replicate q (Value.int .i64 0) = ([] ++ D).map nv ++ nv r :: List.replicate q (Value.int .i64 0) := by simp
        rw [e, e2]
        exact h
      case measure => simp [intOf]; omega
    | nil =>
      have hD : D = la := by rw [hl]; simp
      subst hD
      clear hl
      have hB1 : Blk 3 g (D.map nv ++ List.replicate lb.length (.int .i64 0)) wr := by
        have e : D.length + lb.length - (([] : List Nat).length + D.length) = lb.length := by simp
        rw [e] at hB
        simpa using hB
      have HB1 := Lib.hid hB1
      clear hB hB1
      simp only [List.length_nil, Nat.zero_add]
      go_wp2_with fail
      obtain ⟨wa, hwa⟩ : ∃ wa, wa = wr := ⟨_, rfl⟩
      rw [← hwa] at hbw HB1 ⊢
      clear hwa
      go_loopw [8, 10] (CRel D lb g (D.length + lb.length) wa) (fun _ i _ => lb.length - (intOf i).toNat)
      case atStart => exact ⟨[], lb, rfl, rfl, rfl, by have h := HB1.out; simpa using h, Below.refl _ _⟩
      case round =>
        obtain ⟨F, E, hl, rfl, rfl, hB, hbw2⟩ := hrel
        have hbw3 := hbw.trans hbw2
        cases E with
        | cons r E =>
          have hF : F.length < lb.length := by rw [hl]; simp
          obtain ⟨q, hq⟩ : ∃ q, D.length + lb.length - (D.length + F.length) = q + 1 := ⟨lb.length - F.length - 1, by omega⟩
          rw [hq, List.replicate_succ] at hB
          have c0 : wr.cell? ⟨bb, F.length, none⟩ = some (.int .i64 (r : Int)) := by
            have h1 : F.length < (lb.map nv).length := by simpa using hF
            have hO : Blk 3 bb (lb.map nv) wr := (hbw3.block bb hbbg).trans HBB4.out
            rw [hO.cell h1]
            simp [hl, nv]
          obtain ⟨w5, hap, hB5, hb5⟩ := app_eq g (D.length + F.length) (D.length + lb.length) r _ _ wr hB (by simp) (by omega)
          have hbw5 := hbw2.trans hb5
          have HB5 := Lib.hid hB5
          have HL := Lib.hid hl
          have HQ := Lib.hid hq
          clear hB hB5 hl hq hb5 hbw3
          go_wp2_with (at_builtin; refine wpList_append_run _ rfl _ _ _ rfl _ _ _ rfl rfl _ hap ?_)
          go_roundw
          case rel =>
            refine ⟨F ++ [r], E, by rw [HL.out]; simp, by simp, by simp; omega, ?_, hbw5⟩
            have h := HB5.out
            have e : D.length + lb.length - (D.length + (F ++ [r]).length) = q := by have := HQ.out; simp at this ⊢; omega
            have e2 : (D ++ (F ++ [r])).map nv ++ List.replicate q (Value.int .i64 0) = (D ++ F).map nv ++ nv r :: List.replicate q (Value.int .i64 0) := by simp
            rw [e, e2]
            exact h
          case measure => simp [intOf]; omega
        | nil =>
          have hF : F = lb := by rw [hl]; simp
          subst hF
          have HC : Hid (Blk 3 bc ((D ++ F).map nv) wr) := Lib.hid ((hbw3.block bc hbc1).trans HBC4.out)
          have HB2 := Lib.hid hB
          clear hl hB
          go_wp2_with fail
          refine (eq_any bc g (D.length + F.length) _ _ (D ++ F) _ _ HC.out HB2.out (by simp) (by omega)).mono ?_
          rintro e w' ⟨rfl, m, rfl⟩
          go_wp2_with fail
          go_ret
          exact ⟨rfl, below_drewN (hb14.trans (hbw3.mono hgw)) _⟩

set_option maxHeartbeats 1000000 in
theorem law5_rest (a b : ByteArray) (w : World) (ha : a.size ≤ maxLen) (hb : b.size ≤ maxLen) (h : ¬ (a.size + b.size ≤ 1048576 ∧ V a 0 = true)) :
    Calls Try.prog 5 #[.string a, .string b] w (True1 w) := by
  by_cases hs : a.size + b.size ≤ 1048576
  · have hf : fitB a.size b.size = true := by unfold fitB; simpa using hs
    have hV : V a 0 = false := by
      cases hv : V a 0
      · rfl
      · exact absurd ⟨hs, hv⟩ h
    clear h
    go_enter Try.func5, Try.ntmps5
    go_wp2_with (first | (go_at_call 11; refine (bytes11 _ _ _ ha hb).mono ?_; rintro e w' ⟨rfl, rfl⟩) | (go_at_call 12; refine (valid_any a _ (by omega)).mono ?_; rintro e w' ⟨rfl, rfl⟩))
    go_ret
    exact ⟨rfl, Below.refl _ _⟩
  · have hf : fitB a.size b.size = false := by unfold fitB; simpa using hs
    clear h
    go_enter Try.func5, Try.ntmps5
    go_wp2_with (go_at_call 11; refine (bytes11 _ _ _ ha hb).mono ?_; rintro e w' ⟨rfl, rfl⟩)
    go_ret
    exact ⟨rfl, Below.refl _ _⟩

end Go.Proofs.Ytnnjoehhjmomaaa
