/- The law FnInputReadsInOrderThenStops. -/
import Derived.Test.YtdjlkehdjlaojaaInp48
namespace Go.Proofs.Ytdjlkehdjlaojaa
open Go.RowKit

theorem Nd.below {p : Nat} {t : TypeId} {cs : Array Value} {w w' : World} (h : Nd p t cs w) {n : Nat} (k : Below n w w') (hn : p < n) : Nd p t cs w' := (k.block p hn).trans h
theorem Nd.setNe {p : Nat} {t : TypeId} {cs : Array Value} {w : World} (h : Nd p t cs w) {b i : Nat} (hb : p ≠ b) (v : Value) : Nd p t cs (w.setCell ⟨b, i, none⟩ v) := (heap_setCell_ne hb v).trans h
theorem Nd.set1 {p : Nat} {t : TypeId} {u : Value} {w : World} (h : Nd p t #[u] w) (v : Value) : Nd p t #[v] (w.setCell ⟨p, 0, none⟩ v) := heap_setCell_at h v
theorem Nd.alloc {p : Nat} {t : TypeId} {cs : Array Value} {w : World} (h : Nd p t cs w) (o : Obj) : Nd p t cs (w.alloc o) := (heap_alloc_ne h.lt).trans h
theorem sl_cell {α : Type} {C : α → Value} {a : Option Addr} {n cap : Nat} {xs : List α} {w : World} (h : Sl (.slice a n cap) (xs.map C) w) {k : Nat} (hk : k < xs.length) : ∃ b off, a = some ⟨b, off, none⟩ ∧ w.cell? ⟨b, off + k, none⟩ = some (C xs[k]) := by
  obtain ⟨a', cap', hv, _, _, _, h4⟩ := h
  cases hv
  rcases h4 with h0 | ⟨b, off, ha, hc⟩
  · rw [List.map_eq_nil_iff] at h0; rw [h0] at hk; simp at hk
  · refine ⟨b, off, ha, ?_⟩
    have := hc k (by simpa using hk)
    rwa [List.getElem_map] at this
def IRel (xs : List Int) (it : Nat) (w2 : World) (vi : Value) (wr : World) : Prop :=
  ∃ (k : Nat) (v : Value), k ≤ xs.length ∧ vi = .int .i64 k ∧ Hid (Nd it 95 #[v] wr) ∧ Hid (Sl v ((xs.drop k).map (Value.int .i64)) w2) ∧ Hid (Nd (it + 1) 82 (cmpCells it) wr) ∧ Below it w2 wr
def JRel (m : Nat) (it : Nat) (v : Value) (w2 : World) (vj : Value) (wr : World) : Prop :=
  ∃ k : Nat, k ≤ m + 1 ∧ vj = .int .i64 k ∧ Hid (Nd it 95 #[v] wr) ∧ Hid (Nd (it + 1) 82 (cmpCells it) wr) ∧ Below it w2 wr
set_option maxHeartbeats 4000000 in
set_option maxRecDepth 100000 in
theorem lawInp (v0 : Value) (xs : List Int) (ex : Int) (w : World) (h0 : Sl v0 (xs.map (Value.int .i64)) w) (he1 : -9223372036854775808 ≤ ex) (he2 : ex ≤ 9223372036854775807) :
    Calls Try.prog 4 #[v0, .int .i64 ex] w fun e w' => e = .returned (.bool true) ∧ Below w.heap.size w w' := by
  have HBy := Lib.hid (bytes_FnInputReadsInOrderThenStops v0 _ (.int .i64 ex) w h0)
  rw [List.length_map] at HBy
  have H0 := Lib.hid h0
  obtain ⟨a0, c0, e0, _⟩ := h0
  rw [List.length_map] at e0
  subst e0
  by_cases hb1 : xs.length ≤ 65536
  · have hft : fitT xs.length = true := by unfold fitT; simp; omega
    rw [hft] at HBy
    clear hft
    by_cases hx1 : 0 ≤ ex
    · by_cases hx2 : ex ≤ 65536
      · obtain ⟨m, rfl⟩ := Int.eq_ofNat_of_zero_le hx1
        go_enter Try.func4, Try.ntmps4
        go_wp2_with fail
        refine HBy.out.mono ?_
        rintro e w' ⟨rfl, rfl⟩
        clear HBy
        go_wp2_with fail
        refine (clone_zzCloneInts _ xs w H0.out (by omega)).mono ?_
        rintro e w2 ⟨v2, rfl, hS2, hb2⟩
        have HS2 := Lib.hid hS2
        have HN := Lib.hid (newInp_any v2 _ w2 hS2)
        obtain ⟨a2, c2, e2, _⟩ := hS2
        rw [List.length_map] at e2
        subst e2
        go_wp2_with fail
        refine HN.out.mono ?_
        rintro e w3 ⟨rfl, hit, hcm, hb3⟩
        obtain ⟨it, hit0⟩ : ∃ it, w2.heap.size = it := ⟨_, rfl⟩
        have HB2 := Lib.hid hb2
        rw [hit0] at hit hcm hb3
        rw [hit0]
        have hE := Lib.hid hit0
        clear HN hit0 hb2
        go_wp2_with fail
        go_loopw [6] (IRel xs it w2) (fun i _ => xs.length - (intOf i).toNat)
        case atStart => exact ⟨0, _, Nat.zero_le _, rfl, Lib.hid hit, HS2, Lib.hid hcm, hb3⟩
        case round =>
          obtain ⟨k, v, hk, rfl, hI, hSv, hC, hbw⟩ := hrel
          clear hit hcm hb3
          by_cases hlt : k < xs.length
          · obtain ⟨ba, oa, ha, hca⟩ := sl_cell HS2.out hlt
            subst ha
            have la := World.block_lt_of_cell? w2 _ hca
            simp only at la
            rw [hE.out] at la
            have hsv := hSv.out
            rw [List.drop_eq_getElem_cons hlt, List.map_cons] at hsv
            obtain ⟨x, hx⟩ : ∃ x, x = xs[k] := ⟨_, rfl⟩
            rw [← hx] at hca hsv
            have hT := hsv.tail
            have HZ := Lib.hid (zzInput_any (it + 1) it v x _ _ wr hC.out rfl hI.out (hsv.below hbw (by have := hE.out; omega)))
            have ck : (wr.setCell ⟨it, 0, none⟩ (tailV v)).cell? ⟨ba, oa + k, none⟩ = some (.int .i64 x) := by
              rw [((Below.refl it wr).setCell (Nat.le_refl _) _).cell (p := ⟨ba, oa + k, none⟩) la, hbw.cell (p := ⟨ba, oa + k, none⟩) la]; exact hca
            have hI2 := hI.out.set1 (tailV v)
            have hC2 := hC.out.setNe (b := it) (i := 0) (by omega) (tailV v)
            have hb2 := hbw.setCell (p := ⟨it, 0, none⟩) (Nat.le_refl _) (tailV v)
            obtain ⟨W, hW⟩ : ∃ W, wr.setCell ⟨it, 0, none⟩ (tailV v) = W := ⟨_, rfl⟩
            rw [hW] at HZ ck hI2 hC2 hb2
            have HT := Lib.hid hT
            have HI2 := Lib.hid hI2
            have HC2 := Lib.hid hC2
            clear hx hsv hT hW hI2 hC2 hca hI hSv hC hbw
            go_wp2_with fail
            refine HZ.out.mono ?_
            rintro e w' ⟨rfl, rfl⟩
            clear HZ
            go_wp2_with fail
            go_roundw
            case rel => exact ⟨k + 1, _, by omega, by go_num, HI2, HT, HC2, hb2⟩
            case measure => simp [intOf]; omega
          · obtain rfl : k = xs.length := by omega
            have hsv := hSv.out
            rw [List.drop_length] at hsv
            obtain ⟨av, cv, ev, _⟩ := hsv
            simp only [List.map_nil, List.length_nil] at ev
            subst ev
            have HB := Lib.hid hbw
            clear hSv
            have HC := Lib.hid hC.out
            have HI := Lib.hid hI.out
            clear hI hC hbw
            go_wp2_with fail
            go_loopw [10] (JRel m it (.slice av 0 cv) w2) (fun j _ => (m + 1) - (intOf j).toNat)
            case atStart => exact ⟨0, Nat.zero_le _, rfl, HI, HC, HB.out⟩
            case round =>
              obtain ⟨k, hk, rfl, hI, hC, hbw⟩ := hrel
              by_cases hlt : k ≤ m
              · have HZ := Lib.hid (zzInput_end (it + 1) it av cv _ _ hC.out rfl hI.out)
                have HI2 := Lib.hid (hI.out.alloc (.cells #[.string ⟨#[98, 114, 101, 97, 107]⟩] 113))
                have HC2 := Lib.hid (hC.out.alloc (.cells #[.string ⟨#[98, 114, 101, 97, 107]⟩] 113))
                have HB2 := Lib.hid (hbw.alloc (by have := hI.out.lt; omega) (.cells #[.string ⟨#[98, 114, 101, 97, 107]⟩] 113))
                clear hI hC hbw
                go_wp2_with fail
                refine HZ.out.mono ?_
                rintro e w' ⟨rfl, rfl⟩
                clear HZ
                go_wp2_with fail
                go_roundw
                case rel => exact ⟨k + 1, by omega, by go_num, HI2, HC2, HB2.out⟩
                case measure => simp [intOf]; omega
              · obtain rfl : k = m + 1 := by omega
                have HB3 := Lib.hid hbw
                clear hI hC hbw
                go_wp2_with fail
                go_ret
                exact ⟨rfl, HB2.out.trans (HB3.out.mono (by have := HB2.out.size; have := hE.out; omega))⟩
      · go_enter Try.func4, Try.ntmps4
        go_wp2_with fail
        refine HBy.out.mono ?_
        rintro e w' ⟨rfl, rfl⟩
        go_wp2_with fail
        go_ret
        exact ⟨rfl, Below.refl _ _⟩
    · go_enter Try.func4, Try.ntmps4
      go_wp2_with fail
      refine HBy.out.mono ?_
      rintro e w' ⟨rfl, rfl⟩
      go_wp2_with fail
      go_ret
      exact ⟨rfl, Below.refl _ _⟩
  · obtain ⟨f, hf⟩ : ∃ f, fitT xs.length = f := ⟨_, rfl⟩
    rw [hf] at HBy
    clear hf
    have hlm := H0.out.len
    unfold maxLen at hlm
    rw [List.length_map] at hlm
    cases f with
    | false =>
      go_enter Try.func4, Try.ntmps4
      go_wp2_with fail
      refine HBy.out.mono ?_
      rintro e w' ⟨rfl, rfl⟩
      go_wp2_with fail
      go_ret
      exact ⟨rfl, Below.refl _ _⟩
    | true =>
      go_enter Try.func4, Try.ntmps4
      go_wp2_with fail
      refine HBy.out.mono ?_
      rintro e w' ⟨rfl, rfl⟩
      go_wp2_with fail
      go_ret
      exact ⟨rfl, Below.refl _ _⟩
end Go.Proofs.Ytdjlkehdjlaojaa
