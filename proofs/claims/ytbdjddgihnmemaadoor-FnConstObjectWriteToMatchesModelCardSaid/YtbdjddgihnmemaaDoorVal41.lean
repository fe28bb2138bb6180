/- Constant terms that hold an empty array or an empty object; zzFlagTerm; toString. -/
import Derived.Test.YtbdjddgihnmemaaDoorItoa41
import Derived.Deep.QuietTactic
import Derived.BigQuiet
namespace Go.Proofs.YtbdjddgihnmemaaDoor
open Go.RowKit

set_option maxHeartbeats 1000000 in
set_option maxRecDepth 100000 in
theorem prints_ctO {t o : Nat} {a n s nl tr fl : Value} {T : List UInt8} {w : World} (ht : Nd t 66 #[.pointer (some ⟨o, 0, none⟩), a, n, s, nl, tr, fl] w) (ho : Prints 31 o Any T w) : Prints 34 t Any T w := by
  intro B b pre w0 hp hb hB hB2 hT hok hlen
  have ht0 := ht.pres hp (by decide) (by decide)
  have c0 := ht0.cell 0 rfl
  have HC := Lib.hid (ho B b pre w0 hp hb hB hB2 hT trivial hlen)
  clear ht0 ht hp hok ho hT hlen hb hB hB2
  go_enter Tryd.func34, Tryd.ntmps34
  go_wp2_with fail
  refine HC.out.mono ?_
  rintro e w1 ⟨rfl, hb1, hk1⟩
  go_wp2_with fail
  go_end0
  exact ⟨rfl, hb1, hk1⟩
set_option maxHeartbeats 1000000 in
set_option maxRecDepth 100000 in
theorem prints_ctA {t o : Nat} {n s nl tr fl : Value} {T : List UInt8} {w : World} (ht : Nd t 66 #[.pointer none, .pointer (some ⟨o, 0, none⟩), n, s, nl, tr, fl] w) (ho : Prints 39 o Any T w) : Prints 34 t Any T w := by
  intro B b pre w0 hp hb hB hB2 hT hok hlen
  have ht0 := ht.pres hp (by decide) (by decide)
  have c0 := ht0.cell 0 rfl
  have c1 := ht0.cell 1 rfl
  have HC := Lib.hid (ho B b pre w0 hp hb hB hB2 hT trivial hlen)
  clear ht0 ht hp hok ho hT hlen hb hB hB2
  go_enter Tryd.func34, Tryd.ntmps34
  go_wp2_with fail
  refine HC.out.mono ?_
  rintro e w1 ⟨rfl, hb1, hk1⟩
  go_wp2_with fail
  go_end0
  exact ⟨rfl, hb1, hk1⟩
set_option maxHeartbeats 1000000 in
set_option maxRecDepth 100000 in
theorem prints_carr0 {f : Nat} {a : Option Addr} {c : Nat} {w : World} (hf : Nd f 69 #[.slice a 0 c] w) : Prints 39 f Any [91, 93] w := by
  intro B b pre w0 hp hb hB hB2 hT hok hlen
  have hf0 := hf.pres hp (by decide) (by decide)
  simp only [List.length_cons, List.length_nil] at hlen
  have HH := Lib.hid hf0
  have HB := Lib.hid hb
  clear hf0 hf hp hT hok
  go_enter Tryd.func39, Tryd.ntmps39
  go_wp2_with fail
  refine (wByte 91 hb (by omega) hB).mono ?_
  rintro e w2 ⟨rfl, hb2, hk12⟩
  have e1 := (HH.out.pres (hk12.pres HB.out) (by decide) (by decide)).cell 0 rfl
  clear hb
  go_wp2_with fail
  go_loopw [13] (fun vi wr => vi = .int .i64 0 ∧ wr = w2) (fun _ _ => 0)
  case atStart => exact ⟨rfl, rfl⟩
  case round =>
    obtain ⟨rfl, rfl⟩ := hrel
    go_wp2_with fail
    refine (wByte 93 hb2.is (by simp only [List.length_append, List.length_cons, List.length_nil]; omega) (Nat.le_trans hB hk12.size)).mono ?_
    rintro e w3 ⟨rfl, hb3, hk3⟩
    go_wp2_with fail
    go_end0
    exact ⟨rfl, by simpa [List.append_assoc] using hb3, hk12.trans hk3⟩

/-- A flagged term: its cells. -/
def Flag (obj arr num : Bool) (n : Int) (nl tr fl : Bool) (s : ByteArray) (w : World) (e : Ending) (w' : World) : Prop :=
  ∃ t o a : Nat, e = .returned (.pointer (some ⟨t, 0, none⟩)) ∧
    Nd t 66 #[if obj then .pointer (some ⟨o, 0, none⟩) else .pointer none, if arr then .pointer (some ⟨a, 0, none⟩) else .pointer none, .string (if num then ⟨(itoaL n).toArray⟩ else ⟨#[]⟩), .string s, .bool nl, .bool tr, .bool fl] w' ∧
    (obj = true → Nd o 43 #[.slice none 0 0] w') ∧ (arr = true → Nd a 69 #[.slice none 0 0] w') ∧ Below w.heap.size w w'
set_option maxHeartbeats 1000000 in
set_option maxRecDepth 100000 in
theorem flag_any (obj arr num : Bool) (n : Int) (nl tr fl : Bool) (s : ByteArray) (w : World) (h1 : -9223372036854775808 ≤ n) (h2 : n ≤ 9223372036854775807) :
    Calls Tryd.prog 17 #[.bool obj, .bool arr, .bool num, .int .i64 n, .bool nl, .bool tr, .bool fl, .string s] w (Flag obj arr num n nl tr fl s w) := by
  have HI := fun W => Lib.hid (itoa_any n W h1 h2)
  cases obj <;> cases arr <;> cases num
  case false.false.false =>
    go_enter Tryd.func17, Tryd.ntmps17
    go_wp2_with fail
    go_ret
    exact ⟨w.heap.size, 0, 0, rfl, (Nd.new _ _ _), nofun, nofun, ((Below.refl _ _).alloc (Nat.le_refl _) _)⟩
  case false.false.true =>
    obtain ⟨W, hW⟩ : ∃ W, W = (w.alloc (.cells #[.pointer none, .pointer none, .string ⟨#[]⟩, .string s, .bool nl, .bool tr, .bool fl] 66)) := ⟨_, rfl⟩
    have hN : Nd w.heap.size 66 #[.pointer none, .pointer none, .string ⟨#[]⟩, .string s, .bool nl, .bool tr, .bool fl] W := by rw [hW]; exact (Nd.new _ _ _)
    have hB : Below w.heap.size w W := by rw [hW]; exact ((Below.refl _ _).alloc (Nat.le_refl _) _)
    have HN := Lib.hid hN
    have hW' := hW.symm
    clear hW hN
    go_enter Tryd.func17, Tryd.ntmps17
    go_wp2_with fail
    refine (HI _).out.mono ?_
    rintro e w1 ⟨rfl, hb1⟩
    have k1 := HN.out.below hb1 HN.out.lt
    have c2 := k1.cell 2 rfl
    have f2 := k1.free 2
    have K1 := Lib.hid k1
    clear k1 hW'
    go_wp2_with fail
    go_ret
    exact ⟨w.heap.size, 0, 0, rfl, K1.out.set 2 _, nofun, nofun, (hB.trans (hb1.mono hB.size)).setCell (Nat.le_refl _) _⟩
  case false.true.false =>
    go_enter Tryd.func17, Tryd.ntmps17
    go_wp2_with fail
    go_ret
    exact ⟨w.heap.size, 0, w.heap.size + 1, rfl, ((Nd.new _ _ _).alloc _), nofun, fun _ => (Nd.newAt _ _ (by rw [size_alloc])), (((Below.refl _ _).alloc (Nat.le_refl _) _).alloc (by rw [size_alloc]; omega) _)⟩
  case false.true.true =>
    obtain ⟨W, hW⟩ : ∃ W, W = ((w.alloc (.cells #[.pointer none, .pointer (some ⟨w.heap.size + 1, 0, none⟩), .string ⟨#[]⟩, .string s, .bool nl, .bool tr, .bool fl] 66)).alloc (.cells #[.slice none 0 0] 69)) := ⟨_, rfl⟩
    have hN : Nd w.heap.size 66 #[.pointer none, .pointer (some ⟨w.heap.size + 1, 0, none⟩), .string ⟨#[]⟩, .string s, .bool nl, .bool tr, .bool fl] W := by rw [hW]; exact ((Nd.new _ _ _).alloc _)
    have hB : Below w.heap.size w W := by rw [hW]; exact (((Below.refl _ _).alloc (Nat.le_refl _) _).alloc (by rw [size_alloc]; omega) _)
    have hA : Nd (w.heap.size + 1) 69 #[.slice none 0 0] W := by rw [hW]; exact (Nd.newAt _ _ (by rw [size_alloc]))
    have HN := Lib.hid hN
    have HA := Lib.hid hA
    have hW' := hW.symm
    clear hW hN hA
    go_enter Tryd.func17, Tryd.ntmps17
    go_wp2_with fail
    refine (HI _).out.mono ?_
    rintro e w1 ⟨rfl, hb1⟩
    have k1 := HN.out.below hb1 HN.out.lt
    have c2 := k1.cell 2 rfl
    have f2 := k1.free 2
    have K1 := Lib.hid k1
    clear k1 hW'
    go_wp2_with fail
    go_ret
    exact ⟨w.heap.size, 0, w.heap.size + 1, rfl, K1.out.set 2 _, nofun, fun _ => (HA.out.below hb1 HA.out.lt).setNe (by omega) _, (hB.trans (hb1.mono hB.size)).setCell (Nat.le_refl _) _⟩
  case true.false.false =>
    go_enter Tryd.func17, Tryd.ntmps17
    go_wp2_with fail
    go_ret
    exact ⟨w.heap.size, w.heap.size + 1, 0, rfl, ((Nd.new _ _ _).alloc _), fun _ => (Nd.newAt _ _ (by rw [size_alloc])), nofun, (((Below.refl _ _).alloc (Nat.le_refl _) _).alloc (by rw [size_alloc]; omega) _)⟩
  case true.false.true =>
    obtain ⟨W, hW⟩ : ∃ W, W = ((w.alloc (.cells #[.pointer (some ⟨w.heap.size + 1, 0, none⟩), .pointer none, .string ⟨#[]⟩, .string s, .bool nl, .bool tr, .bool fl] 66)).alloc (.cells #[.slice none 0 0] 43)) := ⟨_, rfl⟩
    have hN : Nd w.heap.size 66 #[.pointer (some ⟨w.heap.size + 1, 0, none⟩), .pointer none, .string ⟨#[]⟩, .string s, .bool nl, .bool tr, .bool fl] W := by rw [hW]; exact ((Nd.new _ _ _).alloc _)
    have hB : Below w.heap.size w W := by rw [hW]; exact (((Below.refl _ _).alloc (Nat.le_refl _) _).alloc (by rw [size_alloc]; omega) _)
    have hO : Nd (w.heap.size + 1) 43 #[.slice none 0 0] W := by rw [hW]; exact (Nd.newAt _ _ (by rw [size_alloc]))
    have HN := Lib.hid hN
    have HO := Lib.hid hO
    have hW' := hW.symm
    clear hW hN hO
    go_enter Tryd.func17, Tryd.ntmps17
    go_wp2_with fail
    refine (HI _).out.mono ?_
    rintro e w1 ⟨rfl, hb1⟩
    have k1 := HN.out.below hb1 HN.out.lt
    have c2 := k1.cell 2 rfl
    have f2 := k1.free 2
    have K1 := Lib.hid k1
    clear k1 hW'
    go_wp2_with fail
    go_ret
    exact ⟨w.heap.size, w.heap.size + 1, 0, rfl, K1.out.set 2 _, fun _ => (HO.out.below hb1 HO.out.lt).setNe (by omega) _, nofun, (hB.trans (hb1.mono hB.size)).setCell (Nat.le_refl _) _⟩
  case true.true.false =>
    go_enter Tryd.func17, Tryd.ntmps17
    go_wp2_with fail
    go_ret
    exact ⟨w.heap.size, w.heap.size + 1, w.heap.size + 1 + 1, rfl, (((Nd.new _ _ _).alloc _).alloc _), fun _ => ((Nd.newAt _ _ (by rw [size_alloc])).alloc _), fun _ => (Nd.newAt _ _ (by rw [size_alloc, size_alloc])), ((((Below.refl _ _).alloc (Nat.le_refl _) _).alloc (by rw [size_alloc]; omega) _).alloc (by rw [size_alloc, size_alloc]; omega) _)⟩
  case true.true.true =>
    obtain ⟨W, hW⟩ : ∃ W, W = (((w.alloc (.cells #[.pointer (some ⟨w.heap.size + 1, 0, none⟩), .pointer (some ⟨w.heap.size + 1 + 1, 0, none⟩), .string ⟨#[]⟩, .string s, .bool nl, .bool tr, .bool fl] 66)).alloc (.cells #[.slice none 0 0] 43)).alloc (.cells #[.slice none 0 0] 69)) := ⟨_, rfl⟩
    have hN : Nd w.heap.size 66 #[.pointer (some ⟨w.heap.size + 1, 0, none⟩), .pointer (some ⟨w.heap.size + 1 + 1, 0, none⟩), .string ⟨#[]⟩, .string s, .bool nl, .bool tr, .bool fl] W := by rw [hW]; exact (((Nd.new _ _ _).alloc _).alloc _)
    have hB : Below w.heap.size w W := by rw [hW]; exact ((((Below.refl _ _).alloc (Nat.le_refl _) _).alloc (by rw [size_alloc]; omega) _).alloc (by rw [size_alloc, size_alloc]; omega) _)
    have hO : Nd (w.heap.size + 1) 43 #[.slice none 0 0] W := by rw [hW]; exact ((Nd.newAt _ _ (by rw [size_alloc])).alloc _)
    have hA : Nd (w.heap.size + 1 + 1) 69 #[.slice none 0 0] W := by rw [hW]; exact (Nd.newAt _ _ (by rw [size_alloc, size_alloc]))
    have HN := Lib.hid hN
    have HO := Lib.hid hO
    have HA := Lib.hid hA
    have hW' := hW.symm
    clear hW hN hO hA
    go_enter Tryd.func17, Tryd.ntmps17
    go_wp2_with fail
    refine (HI _).out.mono ?_
    rintro e w1 ⟨rfl, hb1⟩
    have k1 := HN.out.below hb1 HN.out.lt
    have c2 := k1.cell 2 rfl
    have f2 := k1.free 2
    have K1 := Lib.hid k1
    clear k1 hW'
    go_wp2_with fail
    go_ret
    exact ⟨w.heap.size, w.heap.size + 1, w.heap.size + 1 + 1, rfl, K1.out.set 2 _, fun _ => (HO.out.below hb1 HO.out.lt).setNe (by omega) _, fun _ => (HA.out.below hb1 HA.out.lt).setNe (by omega) _, (hB.trans (hb1.mono hB.size)).setCell (Nat.le_refl _) _⟩
end Go.Proofs.YtbdjddgihnmemaaDoor
