/- Regions of drawn order whose writing operations come in one forced order: an invariant for all of them. -/
import Derived.Test.YtdjlkehdjlaojaaNd48
import Derived.Test.YtdjlkehdjlaojaaProg
namespace Go.Proofs.Ytdjlkehdjlaojaa
open Go.RowKit
set_option linter.unusedVariables false

theorem put_same' {a : Act} {t : Nat} {v : Value} (h : t < a.tmps.size) : (a.put (some t) v).tmps[t]? = some v := by
  show (a.tmps.setIfInBounds t v)[t]? = _
  rw [Array.getElem?_setIfInBounds_self_of_lt h]
theorem put_ne' {a : Act} {t s : Nat} {v : Value} (h : t ≠ s) : (a.put (some t) v).tmps[s]? = a.tmps[s]? := by
  show (a.tmps.setIfInBounds t v)[s]? = _
  rw [Array.getElem?_setIfInBounds_ne h]
theorem getD_false' {listed : Array Bool} {i : Nat} (h : listed.getD i true = false) : listed.getD i false = false := by
  rw [Array.getD_eq_getD_getElem?] at h ⊢
  cases e : listed[i]? with
  | none => rfl
  | some b => rw [e] at h; exact h
theorem getD_tt' {listed : Array Bool} {i : Nat} (hi : i < listed.size) (h : listed.getD i true ≠ false) : listed.getD i false = true := by
  rw [Array.getD_eq_getD_getElem?] at h ⊢
  rw [Array.getElem?_eq_getElem hi] at h ⊢
  simpa using h
theorem set_self {listed : Array Bool} {i : Nat} (hi : i < listed.size) : (listed.setIfInBounds i true).getD i false = true := by
  rw [Array.getD_eq_getD_getElem?, Array.getElem?_setIfInBounds_self_of_lt hi]; rfl
theorem wpOp_call' {P : Program} {ops : Array Oper} {Q : Exit → Act → World → Prop} {i : Nat} {o : Oper} {f : FuncId} {args : Array Value} {a : Act} {w : World} {K : Act → World → Prop} (ho : ops[i]? = some o) (hg : o.guard = none) (hr : (execOp a.eval o).run P w = .ok (.enter f args) w) (hc : Calls P f args w (fun e w' => ∃ v, e = .returned v ∧ K (a.put o.dst v) w')) : wpOp P ops Q i K a w := by
  have hw : Region.wanted o (yielded ops a.tmps) = true := by unfold Region.wanted; rw [hg]
  unfold wpOp
  simp only [ho, hw, if_true]
  refine .inl ?_
  unfold Oper.wp
  rw [hr]
  simp only [Oper.upon]
  refine Calls.mono hc ?_
  rintro e w' ⟨v, rfl, h⟩
  exact h
/-- Where not all is done, something may come up: the edges lead back. -/
def edgesBack (ops : Array Oper) (N : Nat) : Bool := (List.range N).all fun i => match ops[i]? with | some o => o.after.all (fun e => !Region.binds .any e || decide (e.on < i)) | none => true
theorem all_listed {ops : Array Oper} {N : Nat} {listed : Array Bool} (hN : ops.size = N) (hb : edgesBack ops N = true) (hls : listed.size = N) (hr : Region.ready .any ops listed = []) : ∀ i, i < N → listed.getD i false = true := by
  intro i
  induction i using Nat.strongRecOn with
  | _ i ih =>
    intro hi
    apply getD_tt' (by omega)
    intro hf
    have hm : i ∈ Region.ready .any ops listed := by
      rw [mem_ready]
      have hlt : i < ops.size := by omega
      have h1 := List.all_eq_true.1 hb i (List.mem_range.2 hi)
      rw [Array.getElem?_eq_getElem hlt] at h1
      simp only [Array.all_eq_true_iff_forall_mem] at h1
      have h2 : ∀ e ∈ ops[i].after, Region.binds .any e = true → e.on < i := fun e he hb => by
        have := h1 e he
        rw [hb] at this
        simpa using this
      exact ⟨hf, ops[i], Array.getElem?_eq_getElem hlt, fun e he hb => ih e.on (h2 e he hb) (by have := h2 e he hb; omega)⟩
    rw [hr] at hm
    cases hm
section
variable {P : Program} {ops : Array Oper} {d0 N n : Nat} {tab : List Value} {c : List Nat} {Ws : Nat → World} {a0 : Act}
def InC (ops : Array Oper) (d0 N n : Nat) (tab : List Value) (c : List Nat) (Ws : Nat → World) (a0 : Act) (listed : Array Bool) (a : Act) (w : World) : Prop :=
  a.tmps.size = n ∧ a.defers = a0.defers ∧ (∀ s, s < d0 → a.tmps[s]? = a0.tmps[s]?) ∧ listed.size = N ∧ (∃ s, w = Ws s ∧ s ≤ c.length ∧ ∀ t i, c[t]? = some i → (listed.getD i false = true ↔ t < s)) ∧ (∀ j v, listed.getD j false = true → tab[j]? = some v → a.tmps[d0 + j]? = some v) ∧ ∀ i o, listed.getD i false = true → ops[i]? = some o → ∀ e ∈ o.after, Region.binds .any e = true → listed.getD e.on false = true
def StepC (P : Program) (ops : Array Oper) (d0 N n : Nat) (tab : List Value) (c : List Nat) (Ws : Nat → World) (a0 : Act) (i : Nat) : Prop := ∀ (Q : Exit → Act → World → Prop) (listed : Array Bool) (a : Act) (w : World), InC ops d0 N n tab c Ws a0 listed a w → i ∈ Region.ready .any ops listed → wpOp P ops Q i (fun a' w' => InC ops d0 N n tab c Ws a0 (listed.setIfInBounds i true) a' w') a w
/-- A value that is read off. -/
theorem inC_val {listed : Array Bool} {a : Act} {w : World} {i : Nat} {v : Value} (hI : InC ops d0 N n tab c Ws a0 listed a w) (hr : i ∈ Region.ready .any ops listed) (hi : i < N) (hn : d0 + i < n) (hc : c.contains i = false) (hv : tab[i]? = some v) : InC ops d0 N n tab c Ws a0 (listed.setIfInBounds i true) (a.put (some (d0 + i)) v) w := by
  obtain ⟨h1, h2, h3, h4, ⟨s, h5, h6, h7⟩, h8, h8c⟩ := hI
  refine ⟨?_, h2, ?_, ?_, ⟨s, h5, h6, ?_⟩, ?_, ?_⟩
  · show (a.tmps.setIfInBounds _ _).size = n
    rw [Array.size_setIfInBounds]; exact h1
  · intro t ht
    rw [put_ne' (by omega)]; exact h3 t ht
  · rw [Array.size_setIfInBounds]; exact h4
  · intro t j hj
    have hne : i ≠ j := by
      intro e
      subst e
      have : c.contains i = true := by rw [List.contains_iff_mem]; exact List.mem_of_getElem? hj
      rw [hc] at this
      cases this
    rw [getD_set_ne false hne]
    exact h7 t j hj
  · intro j u hj hu
    by_cases e : j = i
    · subst e
      rw [hv] at hu
      cases hu
      exact put_same' (by omega)
    · rw [getD_set_ne false (Ne.symm e)] at hj
      rw [put_ne' (by omega)]
      exact h8 j u hj hu
  · intro j o hj ho e he hbi
    by_cases ej : j = i
    · subst ej; exact getD_set_true (before hr ho he hbi)
    · rw [getD_set_ne false (Ne.symm ej)] at hj
      exact getD_set_true (h8c j o hj ho e he hbi)
/-- While the last writing operation waits for this one. -/
theorem inC_ahead {listed : Array Bool} {a : Act} {w : World} {t z i : Nat} {o : Oper} {e : Edge} (hI : InC ops d0 N n tab c Ws a0 listed a w) (hr : i ∈ Region.ready .any ops listed) (hz : c[t]? = some z) (ho : ops[z]? = some o) (he : e ∈ o.after) (hb : Region.binds .any e = true) (hei : e.on = i) : ∃ s, w = Ws s ∧ s ≤ t := by
  obtain ⟨h1, h2, h3, h4, ⟨s, h5, h6, h7⟩, h8, h8c⟩ := hI
  refine ⟨s, h5, ?_⟩
  rcases Nat.lt_or_ge t s with h | h
  · have h9 := h8c z o ((h7 t z hz).2 h) ho e he hb
    rw [hei, getD_false' (mem_ready.1 hr).1] at h9
    cases h9
  · exact h
/-- Which world it is as a writing operation comes up. -/
theorem inC_at {listed : Array Bool} {a : Act} {w : World} {t i : Nat} (hI : InC ops d0 N n tab c Ws a0 listed a w) (hr : i ∈ Region.ready .any ops listed) (ht : c[t]? = some i) (hp : ∀ u j, t = u + 1 → c[u]? = some j → listed.getD j false = true) : w = Ws t := by
  obtain ⟨h1, h2, h3, h4, ⟨s, h5, h6, h7⟩, h8, h8c⟩ := hI
  have h9 := getD_false' (mem_ready.1 hr).1
  have h10 : ¬ t < s := fun h => by rw [(h7 t i ht).2 h] at h9; cases h9
  have h11 : s = t := by
    cases t with
    | zero => omega
    | succ u =>
      have hu : u < c.length := by have := (List.getElem?_eq_some_iff.1 ht).1; omega
      have := (h7 u c[u] (List.getElem?_eq_getElem hu)).1 (hp u _ rfl (List.getElem?_eq_getElem hu))
      omega
  rw [h5, h11]
theorem inC_mem {listed : Array Bool} {a a' : Act} {t i : Nat} (hI : InC ops d0 N n tab c Ws a0 listed a (Ws t)) (hr : i ∈ Region.ready .any ops listed) (hi : i < N) (ht : c[t]? = some i) (hp : ∀ u j, t = u + 1 → c[u]? = some j → listed.getD j false = true) (hnd : c.Nodup)
    (hs : a'.tmps.size = n) (hd : a'.defers = a.defers) (hf : ∀ s, s ≠ d0 + i → a'.tmps[s]? = a.tmps[s]?) (hv : ∀ v, tab[i]? = some v → a'.tmps[d0 + i]? = some v) : InC ops d0 N n tab c Ws a0 (listed.setIfInBounds i true) a' (Ws (t + 1)) := by
  obtain ⟨h1, h2, h3, h4, ⟨s, h5, h6, h7⟩, h8, h8c⟩ := hI
  have h9 := getD_false' (mem_ready.1 hr).1
  have h10 : ¬ t < s := fun h => by rw [(h7 t i ht).2 h] at h9; cases h9
  have htl : t < c.length := (List.getElem?_eq_some_iff.1 ht).1
  have h11 : s = t := by
    cases t with
    | zero => omega
    | succ u =>
      have hu : u < c.length := by omega
      have := (h7 u c[u] (List.getElem?_eq_getElem hu)).1 (hp u _ rfl (List.getElem?_eq_getElem hu))
      omega
  refine ⟨hs, hd.trans h2, fun s hs => (hf s (by omega)).trans (h3 s hs), by rw [Array.size_setIfInBounds]; exact h4, ⟨t + 1, rfl, by omega, ?_⟩, ?_, ?_⟩
  · intro u j hj
    by_cases e : j = i
    · subst e
      have hut : u = t := by
        have h12 := (List.getElem?_eq_some_iff.1 hj).1
        exact (List.getElem?_inj h12 hnd).1 (hj.trans ht.symm)
      subst hut
      exact ⟨fun _ => by omega, fun _ => set_self (by omega)⟩
    · rw [getD_set_ne false (Ne.symm e), h7 u j hj]
      constructor
      · intro h; omega
      · intro h
        have : u ≠ t := fun h' => e (by subst h'; rw [ht] at hj; cases hj; rfl)
        omega
  · intro j u hj hu
    by_cases e : j = i
    · subst e; exact hv u hu
    · rw [getD_set_ne false (Ne.symm e)] at hj
      rw [hf _ (by omega)]
      exact h8 j u hj hu
  · intro j o hj ho e he hbi
    by_cases ej : j = i
    · subst ej; exact getD_set_true (before hr ho he hbi)
    · rw [getD_set_ne false (Ne.symm ej)] at hj
      exact getD_set_true (h8c j o hj ho e he hbi)
theorem inC_put {listed : Array Bool} {a : Act} {t i : Nat} {v : Value} (hI : InC ops d0 N n tab c Ws a0 listed a (Ws t)) (hr : i ∈ Region.ready .any ops listed) (hi : i < N) (hn : d0 + i < n) (ht : c[t]? = some i) (hp : ∀ u j, t = u + 1 → c[u]? = some j → listed.getD j false = true) (hnd : c.Nodup) (hv : tab[i]? = some v) : InC ops d0 N n tab c Ws a0 (listed.setIfInBounds i true) (a.put (some (d0 + i)) v) (Ws (t + 1)) :=
  inC_mem hI hr hi ht hp hnd (by show (a.tmps.setIfInBounds _ _).size = n; rw [Array.size_setIfInBounds]; exact hI.1) rfl (fun s hs => put_ne' (Ne.symm hs)) (fun u hu => by rw [hv] at hu; cases hu; exact put_same' (by have := hI.1; omega))
theorem inC_none {listed : Array Bool} {a : Act} {t i : Nat} {v : Value} (hI : InC ops d0 N n tab c Ws a0 listed a (Ws t)) (hr : i ∈ Region.ready .any ops listed) (hi : i < N) (ht : c[t]? = some i) (hp : ∀ u j, t = u + 1 → c[u]? = some j → listed.getD j false = true) (hnd : c.Nodup) (hv : tab[i]? = none) : InC ops d0 N n tab c Ws a0 (listed.setIfInBounds i true) (a.put none v) (Ws (t + 1)) :=
  inC_mem hI hr hi ht hp hnd hI.1 rfl (fun s hs => rfl) (fun u hu => by rw [hv] at hu; cases hu)
/-- The whole region. -/
theorem regionC (hN : ops.size = N) (hb : edgesBack ops N = true) (hcN : ∀ i ∈ c, i < N) (hstep : ∀ i, i < N → StepC P ops d0 N n tab c Ws a0 i) (hn : a0.tmps.size = n) (Q : Exit → Act → World → Prop)
    (hend : ∀ a : Act, a.tmps.size = n → a.defers = a0.defers → (∀ s, s < d0 → a.tmps[s]? = a0.tmps[s]?) → Q .normal a (Ws c.length)) : wpAny P .any ops Q N (Array.replicate N false) a0 (Ws 0) := by
  have hnone : ∀ j, (Array.replicate N false).getD j false = true → False := by
    intro j h
    rw [Array.getD_eq_getD_getElem?] at h
    by_cases hj : j < N
    · simp [hj] at h
    · simp [hj] at h
  refine wpAny_inv (fun listed a w => InC ops d0 N n tab c Ws a0 listed a w) ?_ ?_ N _ a0 (Ws 0) ⟨hn, rfl, fun _ _ => rfl, by simp, ⟨0, rfl, Nat.zero_le _, fun t i _ => ⟨fun h => (hnone i h).elim, fun h => by omega⟩⟩, fun j v h => (hnone j h).elim, fun i o h => (hnone i h).elim⟩ (by unfold toDo; exact Nat.le_trans List.countP_le_length (by simp))
  · intro listed a w i hI hr
    refine hstep i ?_ Q listed a w hI hr
    obtain ⟨_, o, ho, _⟩ := mem_ready.1 hr
    have := (Array.getElem?_eq_some_iff.1 ho).1
    omega
  · intro listed a w hI hr
    obtain ⟨h1, h2, h3, h4, ⟨s, h5, h6, h7⟩, h8, h8c⟩ := hI
    have hall := all_listed hN hb h4 hr
    have hs : s = c.length := by
      rcases Nat.lt_or_ge s c.length with h | h
      · have h9 := (h7 s c[s] (List.getElem?_eq_getElem h)).1 (hall _ (hcN _ (List.getElem_mem h)))
        omega
      · omega
    rw [h5, hs]
    exact hend a h1 h2 h3
end
end Go.Proofs.Ytdjlkehdjlaojaa
