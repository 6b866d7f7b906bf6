import Derived.Test.YbulkaobwFmtErrorf
namespace Go.Proofs.YbulkaobwFmt
open Go.RowKit
set_option linter.unusedVariables false

/-- The names of the law's own table. -/
def five : List (List UInt8) := [[105, 110, 116], [98, 111, 111, 108], [115, 116, 114, 105, 110, 103], [116, 114, 117, 101], [102, 97, 108, 115, 101]]
def rest : List (List UInt8) := [[97, 110, 121], [98, 121, 116, 101], [99, 111, 109, 112, 97, 114, 97, 98, 108, 101], [99, 111, 109, 112, 108, 101, 120, 54, 52], [99, 111, 109, 112, 108, 101, 120, 49, 50, 56],
  [101, 114, 114, 111, 114], [102, 108, 111, 97, 116, 51, 50], [102, 108, 111, 97, 116, 54, 52], [105, 110, 116, 56], [105, 110, 116, 49, 54],
  [105, 110, 116, 51, 50], [105, 110, 116, 54, 52], [114, 117, 110, 101], [117, 105, 110, 116], [117, 105, 110, 116, 56],
  [117, 105, 110, 116, 49, 54], [117, 105, 110, 116, 51, 50], [117, 105, 110, 116, 54, 52], [117, 105, 110, 116, 112, 116, 114]]
def isB (s : ByteArray) : Bool := (five ++ rest).any (fun x => s.toList == x)

set_option maxHeartbeats 1000000 in
theorem ais_any (s : ByteArray) (w : World) :
    Calls Ybaf.prog 7 #[.string s] w fun e w' => e = .returned (.bool (isB s)) ∧ w = w' := by
  cases t0 : (s.toList == [105, 110, 116])
  rotate_left
  · go_enter Ybaf.func7, Ybaf.ntmps7
    go_wp2_with fail
    go_ret
    exact ⟨by simp [isB, five, rest, t0], rfl⟩
  cases t1 : (s.toList == [98, 111, 111, 108])
  rotate_left
  · go_enter Ybaf.func7, Ybaf.ntmps7
    go_wp2_with fail
    go_ret
    exact ⟨by simp [isB, five, rest, t1], rfl⟩
  cases t2 : (s.toList == [115, 116, 114, 105, 110, 103])
  rotate_left
  · go_enter Ybaf.func7, Ybaf.ntmps7
    go_wp2_with fail
    go_ret
    exact ⟨by simp [isB, five, rest, t2], rfl⟩
  cases t3 : (s.toList == [116, 114, 117, 101])
  rotate_left
  · go_enter Ybaf.func7, Ybaf.ntmps7
    go_wp2_with fail
    go_ret
    exact ⟨by simp [isB, five, rest, t3], rfl⟩
  cases t4 : (s.toList == [102, 97, 108, 115, 101])
  rotate_left
  · go_enter Ybaf.func7, Ybaf.ntmps7
    go_wp2_with fail
    go_ret
    exact ⟨by simp [isB, five, rest, t4], rfl⟩
  cases t5 : (s.toList == [97, 110, 121])
  rotate_left
  · go_enter Ybaf.func7, Ybaf.ntmps7
    go_wp2_with fail
    go_ret
    exact ⟨by simp [isB, five, rest, t5], rfl⟩
  cases t6 : (s.toList == [98, 121, 116, 101])
  rotate_left
  · go_enter Ybaf.func7, Ybaf.ntmps7
    go_wp2_with fail
    go_ret
    exact ⟨by simp [isB, five, rest, t6], rfl⟩
  cases t7 : (s.toList == [99, 111, 109, 112, 97, 114, 97, 98, 108, 101])
  rotate_left
  · go_enter Ybaf.func7, Ybaf.ntmps7
    go_wp2_with fail
    go_ret
    exact ⟨by simp [isB, five, rest, t7], rfl⟩
  cases t8 : (s.toList == [99, 111, 109, 112, 108, 101, 120, 54, 52])
  rotate_left
  · go_enter Ybaf.func7, Ybaf.ntmps7
    go_wp2_with fail
    go_ret
    exact ⟨by simp [isB, five, rest, t8], rfl⟩
  cases t9 : (s.toList == [99, 111, 109, 112, 108, 101, 120, 49, 50, 56])
  rotate_left
  · go_enter Ybaf.func7, Ybaf.ntmps7
    go_wp2_with fail
    go_ret
    exact ⟨by simp [isB, five, rest, t9], rfl⟩
  cases t10 : (s.toList == [101, 114, 114, 111, 114])
  rotate_left
  · go_enter Ybaf.func7, Ybaf.ntmps7
    go_wp2_with fail
    go_ret
    exact ⟨by simp [isB, five, rest, t10], rfl⟩
  cases t11 : (s.toList == [102, 108, 111, 97, 116, 51, 50])
  rotate_left
  · go_enter Ybaf.func7, Ybaf.ntmps7
    go_wp2_with fail
    go_ret
    exact ⟨by simp [isB, five, rest, t11], rfl⟩
  cases t12 : (s.toList == [102, 108, 111, 97, 116, 54, 52])
  rotate_left
  · go_enter Ybaf.func7, Ybaf.ntmps7
    go_wp2_with fail
    go_ret
    exact ⟨by simp [isB, five, rest, t12], rfl⟩
  cases t13 : (s.toList == [105, 110, 116, 56])
  rotate_left
  · go_enter Ybaf.func7, Ybaf.ntmps7
    go_wp2_with fail
    go_ret
    exact ⟨by simp [isB, five, rest, t13], rfl⟩
  cases t14 : (s.toList == [105, 110, 116, 49, 54])
  rotate_left
  · go_enter Ybaf.func7, Ybaf.ntmps7
    go_wp2_with fail
    go_ret
    exact ⟨by simp [isB, five, rest, t14], rfl⟩
  cases t15 : (s.toList == [105, 110, 116, 51, 50])
  rotate_left
  · go_enter Ybaf.func7, Ybaf.ntmps7
    go_wp2_with fail
    go_ret
    exact ⟨by simp [isB, five, rest, t15], rfl⟩
  cases t16 : (s.toList == [105, 110, 116, 54, 52])
  rotate_left
  · go_enter Ybaf.func7, Ybaf.ntmps7
    go_wp2_with fail
    go_ret
    exact ⟨by simp [isB, five, rest, t16], rfl⟩
  cases t17 : (s.toList == [114, 117, 110, 101])
  rotate_left
  · go_enter Ybaf.func7, Ybaf.ntmps7
    go_wp2_with fail
    go_ret
    exact ⟨by simp [isB, five, rest, t17], rfl⟩
  cases t18 : (s.toList == [117, 105, 110, 116])
  rotate_left
  · go_enter Ybaf.func7, Ybaf.ntmps7
    go_wp2_with fail
    go_ret
    exact ⟨by simp [isB, five, rest, t18], rfl⟩
  cases t19 : (s.toList == [117, 105, 110, 116, 56])
  rotate_left
  · go_enter Ybaf.func7, Ybaf.ntmps7
    go_wp2_with fail
    go_ret
    exact ⟨by simp [isB, five, rest, t19], rfl⟩
  cases t20 : (s.toList == [117, 105, 110, 116, 49, 54])
  rotate_left
  · go_enter Ybaf.func7, Ybaf.ntmps7
    go_wp2_with fail
    go_ret
    exact ⟨by simp [isB, five, rest, t20], rfl⟩
  cases t21 : (s.toList == [117, 105, 110, 116, 51, 50])
  rotate_left
  · go_enter Ybaf.func7, Ybaf.ntmps7
    go_wp2_with fail
    go_ret
    exact ⟨by simp [isB, five, rest, t21], rfl⟩
  cases t22 : (s.toList == [117, 105, 110, 116, 54, 52])
  rotate_left
  · go_enter Ybaf.func7, Ybaf.ntmps7
    go_wp2_with fail
    go_ret
    exact ⟨by simp [isB, five, rest, t22], rfl⟩
  cases t23 : (s.toList == [117, 105, 110, 116, 112, 116, 114])
  rotate_left
  · go_enter Ybaf.func7, Ybaf.ntmps7
    go_wp2_with fail
    go_ret
    exact ⟨by simp [isB, five, rest, t23], rfl⟩
  go_enter Ybaf.func7, Ybaf.ntmps7
  go_wp2_with fail
  go_ret
  exact ⟨by simp [isB, five, rest, t0, t1, t2, t3, t4, t5, t6, t7, t8, t9, t10, t11, t12, t13, t14, t15, t16, t17, t18, t19, t20, t21, t22, t23], rfl⟩

end Go.Proofs.YbulkaobwFmt
