/- zzScalarObjectModel, zzObjArgsTooBig. -/
import Derived.Test.YtbdjddgihnmemaaDoorObj41
import Derived.Test.YtbdjddgihnmemaaDoorOwn
namespace Go.Proofs.YtbdjddgihnmemaaDoor
open Go.RowKit

theorem quoted0 : quoted ⟨#[]⟩ = [34, 34] := by
  unfold quoted
  rw [E, dif_neg (by decide)]
  rfl
theorem kvT_key {x : ByteArray} (V : List UInt8) (h : x.size ≠ 0) : kvT x ⟨#[]⟩ V = x.data.toList ++ [58, 32] ++ V := by unfold kvT; rw [if_pos h]
theorem kvT_none (V : List UInt8) : kvT ⟨#[]⟩ ⟨#[]⟩ V = [34, 34] ++ [58, 32] ++ V := by unfold kvT; rw [if_neg (by decide), quoted0]
theorem kvN_len (ks : List ByteArray) (kinds nums : List Int) (gn : I64s nums) : ∀ k, k ≤ ks.length → (seqT [44, 32] (kvN ks kinds nums) k).length ≤ 30 * k + tot (ks.take k) := by
  intro k
  induction k with
  | zero => intro _; simp [seqT]
  | succ k ih =>
    intro hk
    have i1 := ih (by omega)
    have hlt : k < ks.length := by omega
    have i2 : (kvN ks kinds nums k).length ≤ ks[k].size + 28 := by
      have hv := valT_le (pkK kinds k) (pkN nums k) (pkN_b gn k).1 (pkN_b gn k).2
      rw [kvN_at hlt]
      by_cases h : ks[k].size = 0
      · rw [empty_str h, kvT_none]
        simp only [List.length_append, List.length_cons, List.length_nil]; omega
      · rw [kvT_key _ h]
        have hd : ks[k].data.toList.length = ks[k].size := rfl
        simp only [List.length_append, List.length_cons, List.length_nil]; omega
    rw [tot_snoc ks k hlt]
    simp only [seqT, List.length_append]
    split <;> simp only [List.length_cons, List.length_nil] <;> omega
def MRel (ks : List ByteArray) (kinds nums : List Int) (base : Nat) (w : World) (v7 v8 : Value) (wr : World) : Prop :=
  ∃ (k : Nat) (v : Value), k ≤ ks.length ∧ v = v7 ∧ v8 = .int .i64 k ∧ Hid (OB base v ([123, 32] ++ seqT [44, 32] (kvN ks kinds nums) k) wr) ∧ Below base w wr

set_option maxHeartbeats 2000000 in
set_option maxRecDepth 100000 in
theorem model_any (v1 v2 v3 : Value) (ks : List ByteArray) (kinds nums : List Int) (w : World) (h1 : Sl v1 (ks.map Value.string) w) (h2 : Sl v2 (kinds.map (Value.int .i64)) w) (h3 : Sl v3 (nums.map (Value.int .i64)) w) (hk : ks.length ≤ 1048576) (t1 : tot ks ≤ 1048576) (gn : I64s nums) :
    Calls Tryd.prog 15 #[v1, v2, v3] w fun e w' => e = .returned (.string ⟨(objT (kvN ks kinds nums) ks.length).toArray⟩) ∧ Below w.heap.size w w' := by
  have H1 := Lib.hid h1
  have H2 := Lib.hid h2
  have H3 := Lib.hid h3
  obtain ⟨a1, c1, e1, _⟩ := h1
  obtain ⟨a2, c2, e2, _⟩ := h2
  obtain ⟨a3, c3, e3, _⟩ := h3
  rw [List.length_map] at e1 e2 e3
  subst e1 e2 e3
  by_cases h0 : ks.length = 0
  · have HO : Hid (objT (kvN ks kinds nums) ks.length = [123, 125]) := Lib.hid (by unfold objT; rw [if_pos h0])
    have h0' : (ks.length : Int) = 0 := by omega
    rw [HO.out]
    go_enter Tryd.func15, Tryd.ntmps15
    go_wp2_with fail
    go_ret
    exact ⟨rfl, Below.refl _ _⟩
  · have h0' : ¬ (ks.length : Int) = 0 := by omega
    obtain ⟨v0, w0, hap, ho0, hb0⟩ := app_str (OB.nil w.heap.size w) ⟨#[123, 32]⟩ (Nat.le_refl _) (by decide)
    have HO0 := Lib.hid ho0
    clear ho0
    go_enter Tryd.func15, Tryd.ntmps15
    go_wp2_with (at_builtin; refine wpList_append_run _ rfl _ _ _ _ rfl _ _ _ rfl rfl _ hap ?_)
    have HT := Lib.hid (fun k => kvN_len ks kinds nums gn k)
    have HTk := Lib.hid (tot_take_le ks)
    have GN := Lib.hid gn
    clear hap gn
    obtain ⟨base, hbase⟩ : ∃ b, b = w.heap.size := ⟨_, rfl⟩
    rw [← hbase] at HO0 hb0
    have HB := Lib.hid hbase
    have hbE : w.heap.size ≤ base := by omega
    go_loopw [7, 8] (MRel ks kinds nums base w) (fun _ i _ => ks.length - (intOf i).toNat)
    case atStart => exact ⟨0, v0, Nat.zero_le _, rfl, rfl, Lib.hid (by simpa [seqT] using HO0.out), hb0⟩
    case round =>
      obtain ⟨k, v, hkk, rfl, rfl, hO, hbw⟩ := hrel
      have hl0 := HT.out k hkk
      have hl1 := HTk.out k
      by_cases hlt : k < ks.length
      · obtain ⟨ba, oa, ha, hca⟩ := sl_cell H1.out hlt
        subst ha
        have la := World.block_lt_of_cell? w _ hca
        simp only at la
        have la : ba < base := by omega
        have hKV := kvN_at (kinds := kinds) (nums := nums) hlt
        have hxl := big_of hlt t1
        obtain ⟨x, hx⟩ : ∃ x, x = ks[k] := ⟨_, rfl⟩
        rw [← hx] at hKV hxl hca
        have hvl := valT_le (pkK kinds k) (pkN nums k) (pkN_b GN.out k).1 (pkN_b GN.out k).2
        have HP := fun (W : World) (hW : Below base w W) => Lib.hid (pick_any _ _ kinds nums k W (H2.out.below hW hbE) (H3.out.below hW hbE))
        have HV := fun (W : World) => Lib.hid (valText_any (pkK kinds k) (pkN nums k) W (pkK_lt _ _) (pkN_b GN.out k).1 (pkN_b GN.out k).2)
        obtain ⟨V, hV⟩ : ∃ V, valT (pkK kinds k) (pkN nums k) = V := ⟨_, rfl⟩
        obtain ⟨K, hK⟩ : ∃ K, pkK kinds k = K := ⟨_, rfl⟩
        obtain ⟨M, hM⟩ : ∃ M, pkN nums k = M := ⟨_, rfl⟩
        rw [hV] at hKV HV hvl
        rw [hK, hM] at HP HV
        have HKV := Lib.hid hKV
        have hVs : (⟨V.toArray⟩ : ByteArray).size = V.length := by show V.toArray.size = _; simp
        have HVs := Lib.hid hVs
        clear hVs
        have hxd : x.data.toList.length = x.size := rfl
        have hl : ([123, 32] ++ seqT [44, 32] (kvN ks kinds nums) k).length ≤ 1000000000 := by simp only [List.length_append, List.length_cons, List.length_nil]; omega
        obtain ⟨L, hL⟩ : ∃ L, [123, 32] ++ seqT [44, 32] (kvN ks kinds nums) k = L := ⟨_, rfl⟩
        rw [hL] at hO hl
        have HL := Lib.hid hL
        clear hx hV hK hM hKV hL hl0 hl1
        by_cases hk0 : k = 0
        · by_cases hx0 : x.size = 0
          · obtain rfl := empty_str hx0
            clear hxd
            have hbE0 : base ≤ w.heap.size := by have := HB.out; omega
            have HK0 := Lib.hid hk0
            have hd : decide (0 < k) = false := by simp; omega
            clear hk0
            have ck := (hbw.cell (p := ⟨ba, oa + k, none⟩) la).trans hca
            obtain ⟨v1, w1, hap1, ho1, hb1⟩ := app_lit hO.out [34, 34] (Nat.le_trans hbE0 hbw.size) (by first | omega | (simp; omega))
            have hap1 : ∀ ty, (Builtin.append_ #[45, 45] ty #[v, .slice (some ⟨wr.heap.size, 0, none⟩) 2 2]).run Tryd.prog (wr.alloc (.cells #[.int .u8 34, .int .u8 34] 5)) = .ok v1 w1 := hap1
            have HO1 := Lib.hid ho1
            have hbw1 := hbw.trans hb1
            clear ho1 hb1
            obtain ⟨v2, w2, hap2, ho2, hb2⟩ := app_str HO1.out ⟨#[58, 32]⟩ (Nat.le_trans hbE0 hbw1.size) (by rw [show (⟨#[58, 32]⟩ : ByteArray).size = 2 from rfl]; first | omega | (simp; omega))
            have HO2 := Lib.hid ho2
            have hbw2 := hbw1.trans hb2
            clear ho2 hb2
            have HPk := HP _ hbw2
            clear hO HP
            go_wp2_with (at_builtin; first | refine wpList_append_run _ rfl _ _ _ _ rfl _ _ _ rfl rfl _ hap1 ?_ | refine wpList_append_run _ rfl _ _ _ _ rfl _ _ _ rfl rfl _ hap2 ?_)
            refine HPk.out.mono ?_
            rintro e w' ⟨rfl, rfl⟩
            go_wp2_with fail
            refine (HV _).out.mono ?_
            rintro e wv ⟨rfl, hbv⟩
            have hbwv := hbw2.trans (hbv.mono (Nat.le_trans hbE0 hbw2.size))
            have HOv := Lib.hid (OB.below HO2.out hbv (Nat.le_refl _))
            obtain ⟨vz, wz, hapz, hoz, hbz⟩ := app_str HOv.out ⟨V.toArray⟩ (Nat.le_trans hbE0 hbwv.size) (by rw [HVs.out]; first | omega | (simp; omega))
            have HOz := Lib.hid hoz
            have hbwz := hbwv.trans hbz
            clear hoz hbz
            go_wp2_with (at_builtin; refine wpList_append_run _ rfl _ _ _ _ rfl _ _ _ rfl rfl _ hapz ?_)
            go_roundw
            case rel =>
              refine ⟨k + 1, vz, by omega, rfl, by go_num, Lib.hid ?_, hbwz⟩
              have h := HOz.out
              rw [show [123, 32] ++ seqT [44, 32] (kvN ks kinds nums) (k + 1) = L ++ [34, 34] ++ [58, 32] ++ V by rw [← HL.out]; simp only [seqT]; rw [HKV.out, kvT_none, if_pos HK0.out]; simp]
              exact h
            case measure => simp [intOf]; omega
          · have hne := ne_empty hx0
            have hbE0 : base ≤ w.heap.size := by have := HB.out; omega
            have HK0 := Lib.hid hk0
            have hd : decide (0 < k) = false := by simp; omega
            clear hk0
            have ck := (hbw.cell (p := ⟨ba, oa + k, none⟩) la).trans hca
            obtain ⟨v1, w1, hap1, ho1, hb1⟩ := app_str hO.out x (Nat.le_trans hbE0 hbw.size) (by first | omega | (simp; omega))
            have HO1 := Lib.hid ho1
            have hbw1 := hbw.trans hb1
            clear ho1 hb1
            obtain ⟨v2, w2, hap2, ho2, hb2⟩ := app_str HO1.out ⟨#[58, 32]⟩ (Nat.le_trans hbE0 hbw1.size) (by rw [show (⟨#[58, 32]⟩ : ByteArray).size = 2 from rfl]; first | omega | (simp; omega))
            have HO2 := Lib.hid ho2
            have hbw2 := hbw1.trans hb2
            clear ho2 hb2
            have HPk := HP _ hbw2
            clear hO HP
            go_wp2_with (at_builtin; first | refine wpList_append_run _ rfl _ _ _ _ rfl _ _ _ rfl rfl _ hap1 ?_ | refine wpList_append_run _ rfl _ _ _ _ rfl _ _ _ rfl rfl _ hap2 ?_)
            refine HPk.out.mono ?_
            rintro e w' ⟨rfl, rfl⟩
            go_wp2_with fail
            refine (HV _).out.mono ?_
            rintro e wv ⟨rfl, hbv⟩
            have hbwv := hbw2.trans (hbv.mono (Nat.le_trans hbE0 hbw2.size))
            have HOv := Lib.hid (OB.below HO2.out hbv (Nat.le_refl _))
            obtain ⟨vz, wz, hapz, hoz, hbz⟩ := app_str HOv.out ⟨V.toArray⟩ (Nat.le_trans hbE0 hbwv.size) (by rw [HVs.out]; first | omega | (simp; omega))
            have HOz := Lib.hid hoz
            have hbwz := hbwv.trans hbz
            clear hoz hbz
            go_wp2_with (at_builtin; refine wpList_append_run _ rfl _ _ _ _ rfl _ _ _ rfl rfl _ hapz ?_)
            go_roundw
            case rel =>
              refine ⟨k + 1, vz, by omega, rfl, by go_num, Lib.hid ?_, hbwz⟩
              have h := HOz.out
              rw [show [123, 32] ++ seqT [44, 32] (kvN ks kinds nums) (k + 1) = L ++ x.data.toList ++ [58, 32] ++ V by rw [← HL.out]; simp only [seqT]; rw [HKV.out, kvT_key _ hx0, if_pos HK0.out]; simp]
              exact h
            case measure => simp [intOf]; omega
        · by_cases hx0 : x.size = 0
          · obtain rfl := empty_str hx0
            clear hxd
            have hbE0 : base ≤ w.heap.size := by have := HB.out; omega
            have HK0 := Lib.hid hk0
            have hd : decide (0 < k) = true := by simp; omega
            have hd2 : 0 < k := by omega
            clear hk0
            obtain ⟨v1, w1, hap1, ho1, hb1⟩ := app_str hO.out ⟨#[44, 32]⟩ (Nat.le_trans hbE0 hbw.size) (by rw [show (⟨#[44, 32]⟩ : ByteArray).size = 2 from rfl]; first | omega | (simp; omega))
            have HO1 := Lib.hid ho1
            have hbw1 := hbw.trans hb1
            clear ho1 hb1
            have ck := (hbw1.cell (p := ⟨ba, oa + k, none⟩) la).trans hca
            obtain ⟨v2, w2, hap2, ho2, hb2⟩ := app_lit HO1.out [34, 34] (Nat.le_trans hbE0 hbw1.size) (by first | omega | (simp; omega))
            have hap2 : ∀ ty, (Builtin.append_ #[45, 45] ty #[v1, .slice (some ⟨w1.heap.size, 0, none⟩) 2 2]).run Tryd.prog (w1.alloc (.cells #[.int .u8 34, .int .u8 34] 5)) = .ok v2 w2 := hap2
            have HO2 := Lib.hid ho2
            have hbw2 := hbw1.trans hb2
            clear ho2 hb2
            obtain ⟨v3, w3, hap3, ho3, hb3⟩ := app_str HO2.out ⟨#[58, 32]⟩ (Nat.le_trans hbE0 hbw2.size) (by rw [show (⟨#[58, 32]⟩ : ByteArray).size = 2 from rfl]; first | omega | (simp; omega))
            have HO3 := Lib.hid ho3
            have hbw3 := hbw2.trans hb3
            clear ho3 hb3
            have HPk := HP _ hbw3
            clear hO HP
            go_wp2_with (at_builtin; first | refine wpList_append_run _ rfl _ _ _ _ rfl _ _ _ rfl rfl _ hap1 ?_ | refine wpList_append_run _ rfl _ _ _ _ rfl _ _ _ rfl rfl _ hap2 ?_ | refine wpList_append_run _ rfl _ _ _ _ rfl _ _ _ rfl rfl _ hap3 ?_)
            refine HPk.out.mono ?_
            rintro e w' ⟨rfl, rfl⟩
            go_wp2_with fail
            refine (HV _).out.mono ?_
            rintro e wv ⟨rfl, hbv⟩
            have hbwv := hbw3.trans (hbv.mono (Nat.le_trans hbE0 hbw3.size))
            have HOv := Lib.hid (OB.below HO3.out hbv (Nat.le_refl _))
            obtain ⟨vz, wz, hapz, hoz, hbz⟩ := app_str HOv.out ⟨V.toArray⟩ (Nat.le_trans hbE0 hbwv.size) (by rw [HVs.out]; first | omega | (simp; omega))
            have HOz := Lib.hid hoz
            have hbwz := hbwv.trans hbz
            clear hoz hbz
            go_wp2_with (at_builtin; refine wpList_append_run _ rfl _ _ _ _ rfl _ _ _ rfl rfl _ hapz ?_)
            go_roundw
            case rel =>
              refine ⟨k + 1, vz, by omega, rfl, by go_num, Lib.hid ?_, hbwz⟩
              have h := HOz.out
              rw [show [123, 32] ++ seqT [44, 32] (kvN ks kinds nums) (k + 1) = L ++ [44, 32] ++ [34, 34] ++ [58, 32] ++ V by rw [← HL.out]; simp only [seqT]; rw [HKV.out, kvT_none, if_neg HK0.out]; simp]
              exact h
            case measure => simp [intOf]; omega
          · have hne := ne_empty hx0
            have hbE0 : base ≤ w.heap.size := by have := HB.out; omega
            have HK0 := Lib.hid hk0
            have hd : decide (0 < k) = true := by simp; omega
            have hd2 : 0 < k := by omega
            clear hk0
            obtain ⟨v1, w1, hap1, ho1, hb1⟩ := app_str hO.out ⟨#[44, 32]⟩ (Nat.le_trans hbE0 hbw.size) (by rw [show (⟨#[44, 32]⟩ : ByteArray).size = 2 from rfl]; first | omega | (simp; omega))
            have HO1 := Lib.hid ho1
            have hbw1 := hbw.trans hb1
            clear ho1 hb1
            have ck := (hbw1.cell (p := ⟨ba, oa + k, none⟩) la).trans hca
            obtain ⟨v2, w2, hap2, ho2, hb2⟩ := app_str HO1.out x (Nat.le_trans hbE0 hbw1.size) (by first | omega | (simp; omega))
            have HO2 := Lib.hid ho2
            have hbw2 := hbw1.trans hb2
            clear ho2 hb2
            obtain ⟨v3, w3, hap3, ho3, hb3⟩ := app_str HO2.out ⟨#[58, 32]⟩ (Nat.le_trans hbE0 hbw2.size) (by rw [show (⟨#[58, 32]⟩ : ByteArray).size = 2 from rfl]; first | omega | (simp; omega))
            have HO3 := Lib.hid ho3
            have hbw3 := hbw2.trans hb3
            clear ho3 hb3
            have HPk := HP _ hbw3
            clear hO HP
            go_wp2_with (at_builtin; first | refine wpList_append_run _ rfl _ _ _ _ rfl _ _ _ rfl rfl _ hap1 ?_ | refine wpList_append_run _ rfl _ _ _ _ rfl _ _ _ rfl rfl _ hap2 ?_ | refine wpList_append_run _ rfl _ _ _ _ rfl _ _ _ rfl rfl _ hap3 ?_)
            refine HPk.out.mono ?_
            rintro e w' ⟨rfl, rfl⟩
            go_wp2_with fail
            refine (HV _).out.mono ?_
            rintro e wv ⟨rfl, hbv⟩
            have hbwv := hbw3.trans (hbv.mono (Nat.le_trans hbE0 hbw3.size))
            have HOv := Lib.hid (OB.below HO3.out hbv (Nat.le_refl _))
            obtain ⟨vz, wz, hapz, hoz, hbz⟩ := app_str HOv.out ⟨V.toArray⟩ (Nat.le_trans hbE0 hbwv.size) (by rw [HVs.out]; first | omega | (simp; omega))
            have HOz := Lib.hid hoz
            have hbwz := hbwv.trans hbz
            clear hoz hbz
            go_wp2_with (at_builtin; refine wpList_append_run _ rfl _ _ _ _ rfl _ _ _ rfl rfl _ hapz ?_)
            go_roundw
            case rel =>
              refine ⟨k + 1, vz, by omega, rfl, by go_num, Lib.hid ?_, hbwz⟩
              have h := HOz.out
              rw [show [123, 32] ++ seqT [44, 32] (kvN ks kinds nums) (k + 1) = L ++ [44, 32] ++ x.data.toList ++ [58, 32] ++ V by rw [← HL.out]; simp only [seqT]; rw [HKV.out, kvT_key _ hx0, if_neg HK0.out]; simp]
              exact h
            case measure => simp [intOf]; omega
      · obtain rfl : k = ks.length := by omega
        have hl : ([123, 32] ++ seqT [44, 32] (kvN ks kinds nums) ks.length).length ≤ 1000000000 := by simp only [List.length_append, List.length_cons, List.length_nil]; omega
        have hbE0 : base ≤ w.heap.size := by have := HB.out; omega
        have HOB : Hid (objT (kvN ks kinds nums) ks.length = [123, 32] ++ seqT [44, 32] (kvN ks kinds nums) ks.length ++ [32, 125]) := Lib.hid (by unfold objT; rw [if_neg h0])
        obtain ⟨vz, wz, hapz, hoz, hbz⟩ := app_str hO.out ⟨#[32, 125]⟩ (Nat.le_trans hbE0 hbw.size) (by rw [show (⟨#[32, 125]⟩ : ByteArray).size = 2 from rfl]; omega)
        have hcv := run_back hoz
        have hbwz := hbw.trans hbz
        clear hoz hbz hO hl hl0 hl1
        go_wp2_with (at_builtin; refine wpList_append_run _ rfl _ _ _ _ rfl _ _ _ rfl rfl _ hapz ?_)
        go_ret
        exact ⟨by rw [HOB.out]; rfl, hbwz.mono hbE⟩
end Go.Proofs.YtbdjddgihnmemaaDoor
