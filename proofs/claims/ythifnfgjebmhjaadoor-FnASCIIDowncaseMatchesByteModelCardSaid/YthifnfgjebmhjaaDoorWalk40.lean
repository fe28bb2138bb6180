/- ascii_downcase and ascii_upcase: what they answer. Condition: the tables of unicode/utf8 as laid; less than 2^45 bytes. -/
import Derived.Shelf.Strings.MapAny
import Derived.Test.YthifnfgjebmhjaaDoorMap40
import Derived.Test.YthifnfgjebmhjaaDoorKit
import Derived.Test.YthifnfgjebmhjaaDoorPlain40
import Derived.Outline
import Derived.Stop.Asserts
namespace Go.Proofs.YthifnfgjebmhjaaDoor
open Go.RowKit

def strOf (l : List UInt8) : ByteArray := ⟨l.toArray⟩
theorem strOf_data (l : List UInt8) : (strOf l).data.toList = l := rfl
theorem strOf_size (l : List UInt8) : (strOf l).size = l.length := by show l.toArray.size = _; simp
theorem strOf_self (s : ByteArray) : strOf s.data.toList = s := by cases s; rfl

theorem dn_clo (x : Nat) (hx : x ≤ 1114111) (w : World) :
    Calls Tryd.prog 13 #[.int .i32 (x : Int)] w fun e w' => e = .returned (.int .i32 (dnR x)) ∧ ∃ q, w' = w.drewN q := by
  unfold dnR
  by_cases h1 : 65 ≤ (x : Int)
  · by_cases h2 : (x : Int) ≤ 90
    · rw [if_pos ⟨h1, h2⟩]
      go_enter Tryd.func13, Tryd.ntmps13
      go_wp2_with fail
      go_ret
      exact ⟨rfl, 0, rfl⟩
    · rw [if_neg (fun h => h2 h.2)]
      go_enter Tryd.func13, Tryd.ntmps13
      go_wp2_with fail
      go_ret
      exact ⟨rfl, 0, rfl⟩
  · rw [if_neg (fun h => h1 h.1)]
    go_enter Tryd.func13, Tryd.ntmps13
    go_wp2_with fail
    go_ret
    exact ⟨rfl, 0, rfl⟩
theorem up_clo (x : Nat) (hx : x ≤ 1114111) (w : World) :
    Calls Tryd.prog 14 #[.int .i32 (x : Int)] w fun e w' => e = .returned (.int .i32 (upR x)) ∧ ∃ q, w' = w.drewN q := by
  unfold upR
  by_cases h1 : 97 ≤ (x : Int)
  · by_cases h2 : (x : Int) ≤ 122
    · rw [if_pos ⟨h1, h2⟩]
      go_enter Tryd.func14, Tryd.ntmps14
      go_wp2_with fail
      go_ret
      exact ⟨rfl, 0, rfl⟩
    · rw [if_neg (fun h => h2 h.2)]
      go_enter Tryd.func14, Tryd.ntmps14
      go_wp2_with fail
      go_ret
      exact ⟨rfl, 0, rfl⟩
  · rw [if_neg (fun h => h1 h.1)]
    go_enter Tryd.func14, Tryd.ntmps14
    go_wp2_with fail
    go_ret
    exact ⟨rfl, 0, rfl⟩
theorem dn_pays (w : World) : MapAtRunes Tryd.prog 13 #[] dnR w := fun W x hx _ => dn_clo x hx W
theorem up_pays (w : World) : MapAtRunes Tryd.prog 14 #[] upR w := fun W x hx _ => up_clo x hx W

theorem ta_str (s : ByteArray) (W : World) : Sem.run Tryd.prog (Instr.typeAssert (Value.iface 9 (.string s)) 20 9 true) W = .ok (.tuple #[.string s, .bool true]) W := by kernel_rfl

set_option maxRecDepth 100000 in
theorem down_any (s : ByteArray) (w : World) (hs : s.size < 35184372088832) (hT : Lib.Utf8Tabs 0 1 w) :
    Calls Tryd.prog 10 #[.iface 9 (.string s)] w fun e w' => e = .returned (.iface 9 (.string (strOf (Lib.mapD dnR s.data.toList)))) ∧ Below w.heap.size w w' := by
  have cM := Lib.hid (Tryd.strings_Map_runes 13 #[] (enters_of Tryd.func13 (by kernel_rfl) rfl) dnR s w hs (dn_pays w) (fun x hx => by have := fn_bound dn_ascii x hx; omega) hT)
  have h1 := ta_str
  unfold strOf
  generalize Lib.mapD dnR s.data.toList = OUT at cM ⊢
  clear hT
  go_enter Tryd.func10, Tryd.ntmps10
  go_wp2_with fail
  refine cM.out.mono ?_
  rintro e w' ⟨rfl, hb⟩
  go_wp2_with fail
  go_ret
  exact ⟨rfl, hb⟩
set_option maxRecDepth 100000 in
theorem upc_any (s : ByteArray) (w : World) (hs : s.size < 35184372088832) (hT : Lib.Utf8Tabs 0 1 w) :
    Calls Tryd.prog 11 #[.iface 9 (.string s)] w fun e w' => e = .returned (.iface 9 (.string (strOf (Lib.mapD upR s.data.toList)))) ∧ Below w.heap.size w w' := by
  have cM := Lib.hid (Tryd.strings_Map_runes 14 #[] (enters_of Tryd.func14 (by kernel_rfl) rfl) upR s w hs (up_pays w) (fun x hx => by have := fn_bound up_ascii x hx; omega) hT)
  have h1 := ta_str
  unfold strOf
  generalize Lib.mapD upR s.data.toList = OUT at cM ⊢
  clear hT
  go_enter Tryd.func11, Tryd.ntmps11
  go_wp2_with fail
  refine cM.out.mono ?_
  rintro e w' ⟨rfl, hb⟩
  go_wp2_with fail
  go_ret
  exact ⟨rfl, hb⟩
set_option maxRecDepth 100000 in
theorem zdown (s : ByteArray) (w : World) (hs : s.size < 35184372088832) (hT : Lib.Utf8Tabs 0 1 w) :
    Calls Tryd.prog 6 #[.string s] w fun e w' => e = .returned (.tuple #[.string (strOf (Lib.mapD dnR s.data.toList)), .bool true]) ∧ Below w.heap.size w w' := by
  have cM := Lib.hid (down_any s w hs hT)
  generalize strOf (Lib.mapD dnR s.data.toList) = OUT at cM ⊢
  have h1 := ta_str
  clear hT
  go_enter Tryd.func6, Tryd.ntmps6
  go_wp2_with fail
  refine cM.out.mono ?_
  rintro e w' ⟨rfl, hb⟩
  go_wp2_with fail
  go_ret2
  exact ⟨rfl, hb⟩
set_option maxRecDepth 100000 in
theorem zup (s : ByteArray) (w : World) (hs : s.size < 35184372088832) (hT : Lib.Utf8Tabs 0 1 w) :
    Calls Tryd.prog 7 #[.string s] w fun e w' => e = .returned (.tuple #[.string (strOf (Lib.mapD upR s.data.toList)), .bool true]) ∧ Below w.heap.size w w' := by
  have cM := Lib.hid (upc_any s w hs hT)
  generalize strOf (Lib.mapD upR s.data.toList) = OUT at cM ⊢
  have h1 := ta_str
  clear hT
  go_enter Tryd.func7, Tryd.ntmps7
  go_wp2_with fail
  refine cM.out.mono ?_
  rintro e w' ⟨rfl, hb⟩
  go_wp2_with fail
  go_ret2
  exact ⟨rfl, hb⟩
/-- 'zzBytes_..': the law's bound on its argument. -/
theorem zbytes1 (s : ByteArray) (w : World) (hm : s.size ≤ maxLen) :
    Calls Tryd.prog 5 #[.string s] w fun e w' => e = .returned (.bool (decide (s.size ≤ 1048576))) ∧ w = w' := by
  unfold maxLen at hm
  obtain ⟨b, hb⟩ : ∃ b, decide (s.size ≤ 1048576) = b := ⟨_, rfl⟩
  rw [hb]
  have HB := Lib.hid hb
  clear hb
  go_enter Tryd.func5, Tryd.ntmps5
  go_wp2_with fail
  all_goals (go_ret; exact ⟨ret_bool (by rw [← HB.out]; simp; omega), rfl⟩)
theorem zbytes2 (s : ByteArray) (w : World) (hm : s.size ≤ maxLen) :
    Calls Tryd.prog 8 #[.string s] w fun e w' => e = .returned (.bool (decide (s.size ≤ 1048576))) ∧ w = w' := by
  unfold maxLen at hm
  obtain ⟨b, hb⟩ : ∃ b, decide (s.size ≤ 1048576) = b := ⟨_, rfl⟩
  rw [hb]
  have HB := Lib.hid hb
  clear hb
  go_enter Tryd.func8, Tryd.ntmps8
  go_wp2_with fail
  all_goals (go_ret; exact ⟨ret_bool (by rw [← HB.out]; simp; omega), rfl⟩)
end Go.Proofs.YthifnfgjebmhjaaDoor
