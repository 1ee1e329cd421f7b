/-
  The walks of the laws' own bounds on total length.
-/
import Derived.Test.YoefvwDoorProg
import Derived.Test.YoefvwDoorBase
namespace Go.Proofs.YoefvwDoor
open Go.RowKit

set_option maxHeartbeats 400000 in
theorem bytes10_no (mk wid : Int) (ao : Option Addr) (n cap : Nat) (s : ByteArray) (w : World) (hn : 1048576 < n ∨ (n ≤ 1048576 ∧ 1048576 < s.size) ∨ (n ≤ 1048576 ∧ s.size ≤ 1048576 ∧ 1048576 < n + s.size)) :
    Calls Efvg.prog 10 #[.int .u16 mk, .int .i64 wid, .slice ao n cap, .string s] w fun e w' => e = .returned (.bool false) ∧ w = w' := by
  rcases hn with h | ⟨h, h2⟩ | ⟨h, h2, h3⟩
  all_goals
    go_enter Efvg.func10, Efvg.ntmps10
    go_wp2
    go_ret
    exact ⟨rfl, rfl⟩

set_option maxHeartbeats 400000 in
theorem bytes10_yes (mk wid : Int) (ao : Option Addr) (n cap : Nat) (s : ByteArray) (w : World) (h : n + s.size ≤ 1048576) :
    Calls Efvg.prog 10 #[.int .u16 mk, .int .i64 wid, .slice ao n cap, .string s] w fun e w' => e = .returned (.bool true) ∧ w = w' := by
  go_enter Efvg.func10, Efvg.ntmps10
  go_wp2
  go_ret
  exact ⟨rfl, rfl⟩

set_option maxHeartbeats 400000 in
theorem bytes24_no (ao : Option Addr) (n cap : Nat) (s : ByteArray) (wp : Bool) (wid : Int) (mi ze : Bool) (w : World) (hn : 1048576 < n ∨ (n ≤ 1048576 ∧ 1048576 < s.size) ∨ (n ≤ 1048576 ∧ s.size ≤ 1048576 ∧ 1048576 < n + s.size)) :
    Calls Efvg.prog 24 #[.slice ao n cap, .string s, .bool wp, .int .i64 wid, .bool mi, .bool ze] w fun e w' => e = .returned (.bool false) ∧ w = w' := by
  rcases hn with h | ⟨h, h2⟩ | ⟨h, h2, h3⟩
  all_goals
    go_enter Efvg.func24, Efvg.ntmps24
    go_wp2
    go_ret
    exact ⟨rfl, rfl⟩

set_option maxHeartbeats 400000 in
theorem bytes24_yes (ao : Option Addr) (n cap : Nat) (s : ByteArray) (wp : Bool) (wid : Int) (mi ze : Bool) (w : World) (h : n + s.size ≤ 1048576) :
    Calls Efvg.prog 24 #[.slice ao n cap, .string s, .bool wp, .int .i64 wid, .bool mi, .bool ze] w fun e w' => e = .returned (.bool true) ∧ w = w' := by
  go_enter Efvg.func24, Efvg.ntmps24
  go_wp2
  go_ret
  exact ⟨rfl, rfl⟩

set_option maxHeartbeats 400000 in
theorem bytes26_no (ao : Option Addr) (n cap : Nat) (s : ByteArray) (wp : Bool) (wid : Int) (mi ze : Bool) (w : World) (hn : 1048576 < n ∨ (n ≤ 1048576 ∧ 1048576 < s.size) ∨ (n ≤ 1048576 ∧ s.size ≤ 1048576 ∧ 1048576 < n + s.size)) :
    Calls Efvg.prog 26 #[.slice ao n cap, .string s, .bool wp, .int .i64 wid, .bool mi, .bool ze] w fun e w' => e = .returned (.bool false) ∧ w = w' := by
  rcases hn with h | ⟨h, h2⟩ | ⟨h, h2, h3⟩
  all_goals
    go_enter Efvg.func26, Efvg.ntmps26
    go_wp2
    go_ret
    exact ⟨rfl, rfl⟩

set_option maxHeartbeats 400000 in
theorem bytes26_yes (ao : Option Addr) (n cap : Nat) (s : ByteArray) (wp : Bool) (wid : Int) (mi ze : Bool) (w : World) (h : n + s.size ≤ 1048576) :
    Calls Efvg.prog 26 #[.slice ao n cap, .string s, .bool wp, .int .i64 wid, .bool mi, .bool ze] w fun e w' => e = .returned (.bool true) ∧ w = w' := by
  go_enter Efvg.func26, Efvg.ntmps26
  go_wp2
  go_ret
  exact ⟨rfl, rfl⟩

set_option maxHeartbeats 400000 in
theorem bytes28_no (ao : Option Addr) (n cap : Nat) (ap : Option Addr) (m cp : Nat) (wp : Bool) (wid : Int) (mi ze : Bool) (w : World) (hn : 1048576 < n ∨ (n ≤ 1048576 ∧ 1048576 < m) ∨ (n ≤ 1048576 ∧ m ≤ 1048576 ∧ 1048576 < n + m)) :
    Calls Efvg.prog 28 #[.slice ao n cap, .slice ap m cp, .bool wp, .int .i64 wid, .bool mi, .bool ze] w fun e w' => e = .returned (.bool false) ∧ w = w' := by
  rcases hn with h | ⟨h, h2⟩ | ⟨h, h2, h3⟩
  all_goals
    go_enter Efvg.func28, Efvg.ntmps28
    go_wp2
    go_ret
    exact ⟨rfl, rfl⟩

set_option maxHeartbeats 400000 in
theorem bytes28_yes (ao : Option Addr) (n cap : Nat) (ap : Option Addr) (m cp : Nat) (wp : Bool) (wid : Int) (mi ze : Bool) (w : World) (h : n + m ≤ 1048576) :
    Calls Efvg.prog 28 #[.slice ao n cap, .slice ap m cp, .bool wp, .int .i64 wid, .bool mi, .bool ze] w fun e w' => e = .returned (.bool true) ∧ w = w' := by
  go_enter Efvg.func28, Efvg.ntmps28
  go_wp2
  go_ret
  exact ⟨rfl, rfl⟩

set_option maxHeartbeats 400000 in
theorem bytes30_no (ao : Option Addr) (n cap : Nat) (ap : Option Addr) (m cp : Nat) (wp : Bool) (wid : Int) (mi ze : Bool) (w : World) (hn : 1048576 < n ∨ (n ≤ 1048576 ∧ 1048576 < m) ∨ (n ≤ 1048576 ∧ m ≤ 1048576 ∧ 1048576 < n + m)) :
    Calls Efvg.prog 30 #[.slice ao n cap, .slice ap m cp, .bool wp, .int .i64 wid, .bool mi, .bool ze] w fun e w' => e = .returned (.bool false) ∧ w = w' := by
  rcases hn with h | ⟨h, h2⟩ | ⟨h, h2, h3⟩
  all_goals
    go_enter Efvg.func30, Efvg.ntmps30
    go_wp2
    go_ret
    exact ⟨rfl, rfl⟩

set_option maxHeartbeats 400000 in
theorem bytes30_yes (ao : Option Addr) (n cap : Nat) (ap : Option Addr) (m cp : Nat) (wp : Bool) (wid : Int) (mi ze : Bool) (w : World) (h : n + m ≤ 1048576) :
    Calls Efvg.prog 30 #[.slice ao n cap, .slice ap m cp, .bool wp, .int .i64 wid, .bool mi, .bool ze] w fun e w' => e = .returned (.bool true) ∧ w = w' := by
  go_enter Efvg.func30, Efvg.ntmps30
  go_wp2
  go_ret
  exact ⟨rfl, rfl⟩

end Go.Proofs.YoefvwDoor
