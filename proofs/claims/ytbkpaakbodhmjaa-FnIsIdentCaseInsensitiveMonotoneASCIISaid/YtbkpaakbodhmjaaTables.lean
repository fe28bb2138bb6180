/- Plain laws on bytes: the tables that isNumber, isHex and isIdent answer. -/
import Derived.Test.YtbkpaakbodhmjaaBytes
namespace Go.Proofs.Ytbkpaakbodhmjaa

theorem all_bytes (P : Int → Bool) (h : (List.range 256).all (fun n => P (n : Int)) = true) (c : Int) (h0 : 0 ≤ c) (h1 : c ≤ 255) : P c = true := by
  obtain ⟨n, rfl⟩ := Int.eq_ofNat_of_zero_le h0
  rw [List.all_eq_true] at h
  exact h n (by rw [List.mem_range]; omega)

def digits : List UInt8 := [48, 49, 50, 51, 52, 53, 54, 55, 56, 57]
def hexDigits : List UInt8 := [48, 49, 50, 51, 52, 53, 54, 55, 56, 57, 97, 98, 99, 100, 101, 102, 65, 66, 67, 68, 69, 70]

theorem hex_table (c : Int) (h0 : 0 ≤ c) (h1 : c ≤ 255) : (hexB c == inB c hexDigits) = true :=
  all_bytes (fun c => hexB c == inB c hexDigits) (by decide +kernel) c h0 h1
theorem num_table (c : Int) (h0 : 0 ≤ c) (h1 : c ≤ 255) : (numB c == inB c digits) = true :=
  all_bytes (fun c => numB c == inB c digits) (by decide +kernel) c h0 h1

def letters : List UInt8 := [97, 98, 99, 100, 101, 102, 103, 104, 105, 106, 107, 108, 109, 110, 111, 112, 113, 114, 115, 116, 117, 118, 119, 120, 121, 122, 65, 66, 67, 68, 69, 70, 71, 72, 73, 74, 75, 76, 77, 78, 79, 80, 81, 82, 83, 84, 85, 86, 87, 88, 89, 90]
theorem num_hex (c : Int) (h0 : 0 ≤ c) (h1 : c ≤ 255) : (numB c == (hexB c && !identB c false)) = true :=
  all_bytes (fun c => numB c == (hexB c && !identB c false)) (by decide +kernel) c h0 h1
theorem ident_head (c : Int) (h0 : 0 ≤ c) (h1 : c ≤ 255) : (identB c false == (inB c letters || c == 95)) = true :=
  all_bytes (fun c => identB c false == (inB c letters || c == 95)) (by decide +kernel) c h0 h1
theorem ident_tail (c : Int) (h0 : 0 ≤ c) (h1 : c ≤ 255) : (identB c true == (inB c letters || c == 95 || inB c digits)) = true :=
  all_bytes (fun c => identB c true == (inB c letters || c == 95 || inB c digits)) (by decide +kernel) c h0 h1
theorem hex_lower (c : Int) (h0 : 0 ≤ c) (h1 : c ≤ 255) : hexB (lowerN c) = hexB c :=
  by simpa using all_bytes (fun c => hexB (lowerN c) == hexB c) (by decide +kernel) c h0 h1
theorem hex_upper (c : Int) (h0 : 0 ≤ c) (h1 : c ≤ 255) : hexB (upperN c) = hexB c :=
  by simpa using all_bytes (fun c => hexB (upperN c) == hexB c) (by decide +kernel) c h0 h1
theorem hex_ascii (c : Int) (h : 128 ≤ c) : hexB c = false := by unfold hexB numB; simp; omega
theorem ident_lower (c : Int) (t : Bool) (h0 : 0 ≤ c) (h1 : c ≤ 255) : identB (lowerN c) t = identB c t := by
  cases t
  · simpa using all_bytes (fun c => identB (lowerN c) false == identB c false) (by decide +kernel) c h0 h1
  · simpa using all_bytes (fun c => identB (lowerN c) true == identB c true) (by decide +kernel) c h0 h1
theorem ident_upper (c : Int) (t : Bool) (h0 : 0 ≤ c) (h1 : c ≤ 255) : identB (upperN c) t = identB c t := by
  cases t
  · simpa using all_bytes (fun c => identB (upperN c) false == identB c false) (by decide +kernel) c h0 h1
  · simpa using all_bytes (fun c => identB (upperN c) true == identB c true) (by decide +kernel) c h0 h1
theorem ident_ascii (c : Int) (t : Bool) (h : 128 ≤ c) : identB c t = false := by unfold identB lowB uppB numB; cases t <;> simp <;> omega
theorem ident_mono (c : Int) (h : identB c false = true) : identB c true = true := by unfold identB at *; simp_all

end Go.Proofs.Ytbkpaakbodhmjaa
