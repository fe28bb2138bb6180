/- The tables of math that Lgamma, sin and cos read, out of the row's cell 'laid'. -/
import Derived.Test.YtlemgjlnlegcgaaDoorBa54
import Derived.Lib.LaidTab
import Derived.Lib.LaidU8
namespace Go.Proofs.YtlemgjlnlegcgaaDoor
open Go.RowKit
open Go.Lib
set_option linter.unusedSimpArgs false

theorem trod_float {H : Type} {enc : TypeId × Value → H} {P : Program} {w : World} {base : Nat} {sp : Nat → Bool} {held : Bool} {fuel : Nat} {t : TypeId} {cs : List Value} {x : DataW H × List MemPlace} {k : FloatKind}
    (ht : P.underlying t = some (.float k)) (h : DataW.trod enc P w base sp held fuel t cs = some x) : ∃ n, cs = [.float k n] ∧ x = (.lit (.float k n), []) := by
  cases fuel with
  | zero => simp [DataW.trod] at h
  | succ n =>
    unfold DataW.trod at h
    rw [ht] at h
    split at h <;> simp_all
def floatData {H : Type} (zs : List Nat) : DataW H := .agg (zs.map fun z => .lit (.float .f64 z))
theorem cells_of_floats {H : Type} {enc : TypeId × Value → H} {P : Program} {w : World} {base : Nat} {sp : Nat → Bool} {held : Bool} {fuel : Nat} {t e : TypeId} {n : Nat} {cs : List Value} {zs : List Nat} {p : List MemPlace}
    (ht : P.underlying t = some (.array n e)) (he : P.underlying e = some (.float .f64)) (hce : P.cellsOf e = 1) (hct : P.cellsOf t = n)
    (h : DataW.trod enc P w base sp held fuel t cs = some (floatData zs, p)) : cs = zs.map fun z => Value.float .f64 z := by
  cases fuel with
  | zero => simp [DataW.trod] at h
  | succ fuel =>
    simp only [DataW.trod, ht, hce, hct, Nat.mul_one] at h
    split at h
    · rename_i hl
      obtain ⟨xs, hm, hx⟩ := Option.map_eq_some_iff.1 h
      have hxs : xs.map (·.1) = zs.map fun z => (DataW.lit (.float .f64 z) : DataW H) := by
        have := congrArg Prod.fst hx
        simpa [floatData] using this
      have hxl : xs.length = n := by simpa using mapM_length hm
      have hzl : zs.length = n := by
        have := congrArg List.length hxs
        simp at this
        omega
      apply List.ext_getElem?
      intro i
      by_cases hi : i < n
      · obtain ⟨b, hb, hf⟩ := mapM_at hm i i (by simp [hi])
        obtain ⟨z, hc, rfl⟩ := trod_float he hf
        have h1 : cs[i]? = some (.float .f64 z) := by
          have := congrArg (·[0]?) hc
          simpa [List.getElem?_take, List.getElem?_drop] using this
        have h2 : (xs.map (·.1))[i]? = some (DataW.lit (.float .f64 z) : DataW H) := by simp [hb]
        rw [hxs] at h2
        simp only [List.getElem?_map, Option.map_eq_some_iff, DataW.lit.injEq, Lit.float.injEq, true_and] at h2
        obtain ⟨z', hz', rfl⟩ := h2
        simp [h1, hz']
      · rw [List.getElem?_eq_none (by omega), List.getElem?_eq_none (by simp; omega)]
    · cases h
/-- Global g holds these numbers. -/
def FTab (g : Nat) (zs : List Nat) (w : World) : Prop := ∃ t z, w.heap[g]? = some (.cells (zs.map (Value.float .f64)).toArray t z)
theorem FTab.cell {g : Nat} {zs : List Nat} {w : World} (h : FTab g zs w) (i c : Nat) (hi : zs[i]? = some c) : w.cell? ⟨g, i, none⟩ = some (.float .f64 c) := by
  obtain ⟨t, z, h⟩ := h
  refine cell_of_block h ?_
  rw [List.getElem?_toArray, List.getElem?_map, hi]
  rfl
theorem ftab_of {l : List (String × DataW Unit)} {w : World} {name : String} {g : Nat} {t e : TypeId} {n : Nat} {zs : List Nat} (el : (l.filter fun x => x.2.handleName?.isSome) = []) (m : (name, floatData zs) ∈ l)
    (h : laidMetH Tryd.prog l w) (hg : Tryd.prog.globalNamed name = some g) (hty : (Tryd.prog.globals[g]?).map (·.type) = some t)
    (ht : Tryd.prog.underlying t = some (.array n e)) (he : Tryd.prog.underlying e = some (.float .f64)) (hce : Tryd.prog.cellsOf e = 1) (hct : Tryd.prog.cellsOf t = n) : FTab g zs w := by
  unfold laidMetH at h
  rw [el] at h
  obtain ⟨g', t', cs, fuel, p, hg', hty', hvar, hd⟩ := Lib.laidMet.reads h m
  obtain rfl := Option.some.inj (hg.symm.trans hg')
  obtain rfl := Option.some.inj (hty.symm.trans hty')
  have hc := cells_of_floats ht he hce hct hd
  unfold World.var? at hvar
  rw [hg] at hvar
  simp only [Option.bind_some] at hvar
  unfold FTab
  split at hvar
  · rename_i cs' t' z hh
    cases hvar
    refine ⟨t', z, ?_⟩
    rw [hh, ← hc]
  · cases hvar
def cosT : List Nat := [13666448263388469915, 4477121864728985349, 13732177093698800582, 4537941361668146421, 13787419979223748497, 4586165620538955083]
def sinT : List Nat := [4460209587652500685, 13716528389658582877, 4523617212962785441, 13774824197404483331, 4575957461383575504, 13818544856648471880]
def aT : List Nat := [4590228395698008264, 4599480669564178349, 4589517665429971623, 4581589235564434555, 4575164982564483048, 4568811493649781355, 4563143216008740701, 4557843786729364480, 4552280422768239949, 4547598271341525767, 4538063219164248658, 4541745596584974391]
def rT : List Nat := [4607182418800017408, 4608947853879192436, 4604677836871294172, 4595362590636105511, 4581031541704938613, 4560314476338981211, 4530263847980990784]
def sT : List Nat := [13813600432552784072, 4596913578117826680, 4599540328982355801, 4594440851763360503, 4583336332999498081, 4566129637262422585, 4539839448431978821]
def tT : List Nat := [4602387636645935266, 13817857465259574537, 4589321138371641755, 13808258184654468883, 4580836915846773228, 13800471404037139562, 4573683464413438788, 13794014384452342999, 4567356815629994261, 13787487198287567601, 4561265769268226281, 13781478925004955884, 4554458007677615095, 13777776956600978488, 4554825044790006772]
def uT : List Nat := [13813600432552784072, 4603875219004743167, 4609231207607680367, 4606981716134495312, 4597417307973683492, 4578867296057666313]
def vT : List Nat := [4607182418800017408, 4612712789461262748, 4611975351653570805, 4605104324179153071, 4592174453748890760, 4569564532599476065]
def wT : List Nat := [4601218545606032745, 4590669220166325563, 13791923578849996380, 4560459357641193654, 13782000896400418625, 4560853097493747153, 13788536193792492516]
/-- The tables, all of them. -/
def Tabs (w : World) : Prop :=
  FTab 1 aT w ∧ FTab 6 rT w ∧ FTab 5 sT w ∧ FTab 2 tT w ∧ FTab 3 uT w ∧ FTab 4 vT w ∧ FTab 7 wT w ∧ FTab 9 sinT w ∧ FTab 8 cosT w
theorem Tabs.a {w : World} (T : Tabs w) : FTab 1 aT w := T.1
theorem Tabs.r {w : World} (T : Tabs w) : FTab 6 rT w := T.2.1
theorem Tabs.s {w : World} (T : Tabs w) : FTab 5 sT w := T.2.2.1
theorem Tabs.t {w : World} (T : Tabs w) : FTab 2 tT w := T.2.2.2.1
theorem Tabs.u {w : World} (T : Tabs w) : FTab 3 uT w := T.2.2.2.2.1
theorem Tabs.v {w : World} (T : Tabs w) : FTab 4 vT w := T.2.2.2.2.2.1
theorem Tabs.ww {w : World} (T : Tabs w) : FTab 7 wT w := T.2.2.2.2.2.2.1
theorem Tabs.sin {w : World} (T : Tabs w) : FTab 9 sinT w := T.2.2.2.2.2.2.2.1
theorem Tabs.cos {w : World} (T : Tabs w) : FTab 8 cosT w := T.2.2.2.2.2.2.2.2
end Go.Proofs.YtlemgjlnlegcgaaDoor
