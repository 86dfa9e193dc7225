/-
  The length guards of the laws of n025_9: each returns a bool and leaves the world alone. Conditions: the arguments read as slices.
-/
import Derived.Test.YtomfonilbenhbaaRows
import Derived.Test.YtomfonilbenhbaaKit
import Derived.WalkKit
import Derived.WalkSpells
import Derived.WalkLawsBesides
import Derived.Outline
import Derived.Deep.LoopGhost
namespace Go.Proofs.Ytomfonilbenhbaa
open Go.RowKit

def BoolAny (w : World) (e : Ending) (w' : World) : Prop := ∃ b : Bool, e = .returned (.bool b) ∧ w = w'

set_option maxRecDepth 100000 in
theorem zzRawPeekAfterSteps (A0 : Option Addr) (n0 c0 : Nat) (A1 : Option Addr) (n1 c1 : Nat) (z1 : List ByteArray) (A2 : Option Addr) (n2 c2 : Nat) (a3 : Int) (w : World) (hv : Strs w A1 n1 z1) (h0 : n0 ≤ maxLen) (h2 : n2 ≤ maxLen) :
    Calls Try.prog 43 #[.slice A0 n0 c0, .slice A1 n1 c1, .slice A2 n2 c2, .int .i64 a3] w (BoolAny w) := by
  have h1 := hv.2.1
  unfold maxLen at h0 h1 h2
  rcases hv.split with h0 | ⟨b, off, rfl, hc⟩
  all_goals
    go_enter Try.func43, Try.ntmps43
    go_wp2_with fail
    all_goals try (go_ret; exact ⟨_, rfl, rfl⟩)
    go_loopg [8, 9, 10] n1 (fun k u z i wr => ∃ j m : Nat, k = n1 - j ∧ j ≤ n1 ∧ m ≤ 1048576 ∧ z = .int .i64 m ∧ i = .int .i64 j ∧ wr = w ∧ u = .bool false)
    case atStart => first | exact ⟨0, n0 + n1, rfl, Nat.zero_le _, by omega, by go_num, rfl, rfl, rfl⟩ | exact ⟨0, 8 * n0 + 8 * n2 + 16 * n1, rfl, Nat.zero_le _, by omega, by go_num, rfl, rfl, rfl⟩
    case round =>
      obtain ⟨j, m, hk, hj, hm, rfl, rfl, rfl, rfl⟩ := hrel
      have KK := Lib.hid hk; clear hk
      by_cases hlt : j < n1
      · first
          | (exfalso; omega)
          | (have hcj := hc.out j hlt
             have hsj := hv.size j
             generalize z1.getD j ByteArray.empty = sj at hcj hsj
             go_wp2_with fail
             all_goals first
               | (go_ret; exact ⟨_, rfl, rfl⟩)
               | (go_roundg (n1 - (j + 1))
                  case measure => rw [KK.out]; omega
                  case rel => exact ⟨j + 1, m + sj.size, rfl, by omega, by omega, by go_num, by go_num, rfl, rfl⟩))
      · go_wp2_with fail
        all_goals (go_ret; exact ⟨_, rfl, rfl⟩)
set_option maxRecDepth 100000 in
theorem zzMakeCheckpointExact (A0 : Option Addr) (n0 c0 : Nat) (A1 : Option Addr) (n1 c1 : Nat) (z1 : List ByteArray) (A2 : Option Addr) (n2 c2 : Nat) (a3 : Int) (w : World) (hv : Strs w A1 n1 z1) (h0 : n0 ≤ maxLen) (h2 : n2 ≤ maxLen) :
    Calls Try.prog 49 #[.slice A0 n0 c0, .slice A1 n1 c1, .slice A2 n2 c2, .int .i64 a3] w (BoolAny w) := by
  have h1 := hv.2.1
  unfold maxLen at h0 h1 h2
  rcases hv.split with h0 | ⟨b, off, rfl, hc⟩
  all_goals
    go_enter Try.func49, Try.ntmps49
    go_wp2_with fail
    all_goals try (go_ret; exact ⟨_, rfl, rfl⟩)
    go_loopg [8, 9, 10] n1 (fun k u z i wr => ∃ j m : Nat, k = n1 - j ∧ j ≤ n1 ∧ m ≤ 1048576 ∧ z = .int .i64 m ∧ i = .int .i64 j ∧ wr = w ∧ u = .bool false)
    case atStart => first | exact ⟨0, n0 + n1, rfl, Nat.zero_le _, by omega, by go_num, rfl, rfl, rfl⟩ | exact ⟨0, 8 * n0 + 8 * n2 + 16 * n1, rfl, Nat.zero_le _, by omega, by go_num, rfl, rfl, rfl⟩
    case round =>
      obtain ⟨j, m, hk, hj, hm, rfl, rfl, rfl, rfl⟩ := hrel
      have KK := Lib.hid hk; clear hk
      by_cases hlt : j < n1
      · first
          | (exfalso; omega)
          | (have hcj := hc.out j hlt
             have hsj := hv.size j
             generalize z1.getD j ByteArray.empty = sj at hcj hsj
             go_wp2_with fail
             all_goals first
               | (go_ret; exact ⟨_, rfl, rfl⟩)
               | (go_roundg (n1 - (j + 1))
                  case measure => rw [KK.out]; omega
                  case rel => exact ⟨j + 1, m + sj.size, rfl, by omega, by omega, by go_num, by go_num, rfl, rfl⟩))
      · go_wp2_with fail
        all_goals (go_ret; exact ⟨_, rfl, rfl⟩)
set_option maxRecDepth 100000 in
theorem zzLoadCheckpointReplay (A0 : Option Addr) (n0 c0 : Nat) (A1 : Option Addr) (n1 c1 : Nat) (z1 : List ByteArray) (A2 : Option Addr) (n2 c2 : Nat) (a3 : Int) (a4 : Int) (w : World) (hv : Strs w A1 n1 z1) (h0 : n0 ≤ maxLen) (h2 : n2 ≤ maxLen) :
    Calls Try.prog 50 #[.slice A0 n0 c0, .slice A1 n1 c1, .slice A2 n2 c2, .int .i64 a3, .int .i64 a4] w (BoolAny w) := by
  have h1 := hv.2.1
  unfold maxLen at h0 h1 h2
  rcases hv.split with h0 | ⟨b, off, rfl, hc⟩
  all_goals
    go_enter Try.func50, Try.ntmps50
    go_wp2_with fail
    all_goals try (go_ret; exact ⟨_, rfl, rfl⟩)
    go_loopg [10, 11, 12] n1 (fun k u z i wr => ∃ j m : Nat, k = n1 - j ∧ j ≤ n1 ∧ m ≤ 1048576 ∧ z = .int .i64 m ∧ i = .int .i64 j ∧ wr = w ∧ u = .bool false)
    case atStart => first | exact ⟨0, n0 + n1, rfl, Nat.zero_le _, by omega, by go_num, rfl, rfl, rfl⟩ | exact ⟨0, 8 * n0 + 8 * n2 + 16 * n1, rfl, Nat.zero_le _, by omega, by go_num, rfl, rfl, rfl⟩
    case round =>
      obtain ⟨j, m, hk, hj, hm, rfl, rfl, rfl, rfl⟩ := hrel
      have KK := Lib.hid hk; clear hk
      by_cases hlt : j < n1
      · first
          | (exfalso; omega)
          | (have hcj := hc.out j hlt
             have hsj := hv.size j
             generalize z1.getD j ByteArray.empty = sj at hcj hsj
             go_wp2_with fail
             all_goals first
               | (go_ret; exact ⟨_, rfl, rfl⟩)
               | (go_roundg (n1 - (j + 1))
                  case measure => rw [KK.out]; omega
                  case rel => exact ⟨j + 1, m + sj.size, rfl, by omega, by omega, by go_num, by go_num, rfl, rfl⟩))
      · go_wp2_with fail
        all_goals (go_ret; exact ⟨_, rfl, rfl⟩)
set_option maxRecDepth 100000 in
theorem zzPeekAnyFastForward (A0 : Option Addr) (n0 c0 : Nat) (A1 : Option Addr) (n1 c1 : Nat) (z1 : List ByteArray) (A2 : Option Addr) (n2 c2 : Nat) (a3 : Int) (a4 : Int) (w : World) (hv : Strs w A1 n1 z1) (h0 : n0 ≤ maxLen) (h2 : n2 ≤ maxLen) :
    Calls Try.prog 51 #[.slice A0 n0 c0, .slice A1 n1 c1, .slice A2 n2 c2, .int .i64 a3, .int .i64 a4] w (BoolAny w) := by
  have h1 := hv.2.1
  unfold maxLen at h0 h1 h2
  rcases hv.split with h0 | ⟨b, off, rfl, hc⟩
  all_goals
    go_enter Try.func51, Try.ntmps51
    go_wp2_with fail
    all_goals try (go_ret; exact ⟨_, rfl, rfl⟩)
    go_loopg [10, 11, 12] n1 (fun k u z i wr => ∃ j m : Nat, k = n1 - j ∧ j ≤ n1 ∧ m ≤ 1048576 ∧ z = .int .i64 m ∧ i = .int .i64 j ∧ wr = w ∧ u = .bool false)
    case atStart => first | exact ⟨0, n0 + n1, rfl, Nat.zero_le _, by omega, by go_num, rfl, rfl, rfl⟩ | exact ⟨0, 8 * n0 + 8 * n2 + 16 * n1, rfl, Nat.zero_le _, by omega, by go_num, rfl, rfl, rfl⟩
    case round =>
      obtain ⟨j, m, hk, hj, hm, rfl, rfl, rfl, rfl⟩ := hrel
      have KK := Lib.hid hk; clear hk
      by_cases hlt : j < n1
      · first
          | (exfalso; omega)
          | (have hcj := hc.out j hlt
             have hsj := hv.size j
             generalize z1.getD j ByteArray.empty = sj at hcj hsj
             go_wp2_with fail
             all_goals first
               | (go_ret; exact ⟨_, rfl, rfl⟩)
               | (go_roundg (n1 - (j + 1))
                  case measure => rw [KK.out]; omega
                  case rel => exact ⟨j + 1, m + sj.size, rfl, by omega, by omega, by go_num, by go_num, rfl, rfl⟩))
      · go_wp2_with fail
        all_goals (go_ret; exact ⟨_, rfl, rfl⟩)
set_option maxRecDepth 100000 in
theorem zzRawPeekThenPeek (A0 : Option Addr) (n0 c0 : Nat) (A1 : Option Addr) (n1 c1 : Nat) (z1 : List ByteArray) (A2 : Option Addr) (n2 c2 : Nat) (a3 : Int) (w : World) (hv : Strs w A1 n1 z1) (h0 : n0 ≤ maxLen) (h2 : n2 ≤ maxLen) :
    Calls Try.prog 55 #[.slice A0 n0 c0, .slice A1 n1 c1, .slice A2 n2 c2, .int .i64 a3] w (BoolAny w) := by
  have h1 := hv.2.1
  unfold maxLen at h0 h1 h2
  rcases hv.split with h0 | ⟨b, off, rfl, hc⟩
  all_goals
    go_enter Try.func55, Try.ntmps55
    go_wp2_with fail
    all_goals try (go_ret; exact ⟨_, rfl, rfl⟩)
    go_loopg [8, 9, 10] n1 (fun k u z i wr => ∃ j m : Nat, k = n1 - j ∧ j ≤ n1 ∧ m ≤ 1048576 ∧ z = .int .i64 m ∧ i = .int .i64 j ∧ wr = w ∧ u = .bool false)
    case atStart => first | exact ⟨0, n0 + n1, rfl, Nat.zero_le _, by omega, by go_num, rfl, rfl, rfl⟩ | exact ⟨0, 8 * n0 + 8 * n2 + 16 * n1, rfl, Nat.zero_le _, by omega, by go_num, rfl, rfl, rfl⟩
    case round =>
      obtain ⟨j, m, hk, hj, hm, rfl, rfl, rfl, rfl⟩ := hrel
      have KK := Lib.hid hk; clear hk
      by_cases hlt : j < n1
      · first
          | (exfalso; omega)
          | (have hcj := hc.out j hlt
             have hsj := hv.size j
             generalize z1.getD j ByteArray.empty = sj at hcj hsj
             go_wp2_with fail
             all_goals first
               | (go_ret; exact ⟨_, rfl, rfl⟩)
               | (go_roundg (n1 - (j + 1))
                  case measure => rw [KK.out]; omega
                  case rel => exact ⟨j + 1, m + sj.size, rfl, by omega, by omega, by go_num, by go_num, rfl, rfl⟩))
      · go_wp2_with fail
        all_goals (go_ret; exact ⟨_, rfl, rfl⟩)
set_option maxRecDepth 100000 in
theorem zzMakeCheckpointSteps (A0 : Option Addr) (n0 c0 : Nat) (A1 : Option Addr) (n1 c1 : Nat) (z1 : List ByteArray) (A2 : Option Addr) (n2 c2 : Nat) (a3 : Int) (w : World) (hv : Strs w A1 n1 z1) (h0 : n0 ≤ maxLen) (h2 : n2 ≤ maxLen) :
    Calls Try.prog 56 #[.slice A0 n0 c0, .slice A1 n1 c1, .slice A2 n2 c2, .int .i64 a3] w (BoolAny w) := by
  have h1 := hv.2.1
  unfold maxLen at h0 h1 h2
  rcases hv.split with h0 | ⟨b, off, rfl, hc⟩
  all_goals
    go_enter Try.func56, Try.ntmps56
    go_wp2_with fail
    all_goals try (go_ret; exact ⟨_, rfl, rfl⟩)
    go_loopg [8, 9, 10] n1 (fun k u z i wr => ∃ j m : Nat, k = n1 - j ∧ j ≤ n1 ∧ m ≤ 1048576 ∧ z = .int .i64 m ∧ i = .int .i64 j ∧ wr = w ∧ u = .bool false)
    case atStart => first | exact ⟨0, n0 + n1, rfl, Nat.zero_le _, by omega, by go_num, rfl, rfl, rfl⟩ | exact ⟨0, 8 * n0 + 8 * n2 + 16 * n1, rfl, Nat.zero_le _, by omega, by go_num, rfl, rfl, rfl⟩
    case round =>
      obtain ⟨j, m, hk, hj, hm, rfl, rfl, rfl, rfl⟩ := hrel
      have KK := Lib.hid hk; clear hk
      by_cases hlt : j < n1
      · first
          | (exfalso; omega)
          | (have hcj := hc.out j hlt
             have hsj := hv.size j
             generalize z1.getD j ByteArray.empty = sj at hcj hsj
             go_wp2_with fail
             all_goals first
               | (go_ret; exact ⟨_, rfl, rfl⟩)
               | (go_roundg (n1 - (j + 1))
                  case measure => rw [KK.out]; omega
                  case rel => exact ⟨j + 1, m + sj.size, rfl, by omega, by omega, by go_num, by go_num, rfl, rfl⟩))
      · go_wp2_with fail
        all_goals (go_ret; exact ⟨_, rfl, rfl⟩)
set_option maxRecDepth 100000 in
theorem zzPeekAnyModel (A0 : Option Addr) (n0 c0 : Nat) (A1 : Option Addr) (n1 c1 : Nat) (z1 : List ByteArray) (A2 : Option Addr) (n2 c2 : Nat) (a3 : Int) (a4 : Int) (w : World) (hv : Strs w A1 n1 z1) (h0 : n0 ≤ maxLen) (h2 : n2 ≤ maxLen) :
    Calls Try.prog 57 #[.slice A0 n0 c0, .slice A1 n1 c1, .slice A2 n2 c2, .int .i64 a3, .int .i64 a4] w (BoolAny w) := by
  have h1 := hv.2.1
  unfold maxLen at h0 h1 h2
  rcases hv.split with h0 | ⟨b, off, rfl, hc⟩
  all_goals
    go_enter Try.func57, Try.ntmps57
    go_wp2_with fail
    all_goals try (go_ret; exact ⟨_, rfl, rfl⟩)
    go_loopg [10, 11, 12] n1 (fun k u z i wr => ∃ j m : Nat, k = n1 - j ∧ j ≤ n1 ∧ m ≤ 1048576 ∧ z = .int .i64 m ∧ i = .int .i64 j ∧ wr = w ∧ u = .bool false)
    case atStart => first | exact ⟨0, n0 + n1, rfl, Nat.zero_le _, by omega, by go_num, rfl, rfl, rfl⟩ | exact ⟨0, 8 * n0 + 8 * n2 + 16 * n1, rfl, Nat.zero_le _, by omega, by go_num, rfl, rfl, rfl⟩
    case round =>
      obtain ⟨j, m, hk, hj, hm, rfl, rfl, rfl, rfl⟩ := hrel
      have KK := Lib.hid hk; clear hk
      by_cases hlt : j < n1
      · first
          | (exfalso; omega)
          | (have hcj := hc.out j hlt
             have hsj := hv.size j
             generalize z1.getD j ByteArray.empty = sj at hcj hsj
             go_wp2_with fail
             all_goals first
               | (go_ret; exact ⟨_, rfl, rfl⟩)
               | (go_roundg (n1 - (j + 1))
                  case measure => rw [KK.out]; omega
                  case rel => exact ⟨j + 1, m + sj.size, rfl, by omega, by omega, by go_num, by go_num, rfl, rfl⟩))
      · go_wp2_with fail
        all_goals (go_ret; exact ⟨_, rfl, rfl⟩)
set_option maxRecDepth 100000 in
theorem zzLoadCheckpointLastWins (A0 : Option Addr) (n0 c0 : Nat) (A1 : Option Addr) (n1 c1 : Nat) (z1 : List ByteArray) (A2 : Option Addr) (n2 c2 : Nat) (a3 : Int) (a4 : Int) (w : World) (hv : Strs w A1 n1 z1) (h0 : n0 ≤ maxLen) (h2 : n2 ≤ maxLen) :
    Calls Try.prog 59 #[.slice A0 n0 c0, .slice A1 n1 c1, .slice A2 n2 c2, .int .i64 a3, .int .i64 a4] w (BoolAny w) := by
  have h1 := hv.2.1
  unfold maxLen at h0 h1 h2
  rcases hv.split with h0 | ⟨b, off, rfl, hc⟩
  all_goals
    go_enter Try.func59, Try.ntmps59
    go_wp2_with fail
    all_goals try (go_ret; exact ⟨_, rfl, rfl⟩)
    go_loopg [10, 11, 12] n1 (fun k u z i wr => ∃ j m : Nat, k = n1 - j ∧ j ≤ n1 ∧ m ≤ 1048576 ∧ z = .int .i64 m ∧ i = .int .i64 j ∧ wr = w ∧ u = .bool false)
    case atStart => first | exact ⟨0, n0 + n1, rfl, Nat.zero_le _, by omega, by go_num, rfl, rfl, rfl⟩ | exact ⟨0, 8 * n0 + 8 * n2 + 16 * n1, rfl, Nat.zero_le _, by omega, by go_num, rfl, rfl, rfl⟩
    case round =>
      obtain ⟨j, m, hk, hj, hm, rfl, rfl, rfl, rfl⟩ := hrel
      have KK := Lib.hid hk; clear hk
      by_cases hlt : j < n1
      · first
          | (exfalso; omega)
          | (have hcj := hc.out j hlt
             have hsj := hv.size j
             generalize z1.getD j ByteArray.empty = sj at hcj hsj
             go_wp2_with fail
             all_goals first
               | (go_ret; exact ⟨_, rfl, rfl⟩)
               | (go_roundg (n1 - (j + 1))
                  case measure => rw [KK.out]; omega
                  case rel => exact ⟨j + 1, m + sj.size, rfl, by omega, by omega, by go_num, by go_num, rfl, rfl⟩))
      · go_wp2_with fail
        all_goals (go_ret; exact ⟨_, rfl, rfl⟩)
set_option maxRecDepth 100000 in
theorem bytesOK_any (A0 : Option Addr) (n0 c0 : Nat) (A1 : Option Addr) (n1 c1 : Nat) (z1 : List ByteArray) (A2 : Option Addr) (n2 c2 : Nat) (w : World) (hv : Strs w A1 n1 z1) (h0 : n0 ≤ 65536) (h1 : n1 ≤ 65536) (h2 : n2 ≤ 65536) :
    Calls Try.prog 44 #[.slice A0 n0 c0, .slice A1 n1 c1, .slice A2 n2 c2] w (BoolAny w) := by
  rcases hv.split with h0 | ⟨b, off, rfl, hc⟩
  all_goals
    go_enter Try.func44, Try.ntmps44
    go_wp2_with fail
    all_goals try (go_ret; exact ⟨_, rfl, rfl⟩)
    go_loopg [6, 7, 8] n1 (fun k u z i wr => ∃ (j : Nat) (m : Int), k = n1 - j ∧ j ≤ n1 ∧ z = .int .i64 m ∧ i = .int .i64 j ∧ wr = w ∧ u = .bool false)
    case atStart => exact ⟨0, _, rfl, Nat.zero_le _, rfl, rfl, rfl, rfl⟩
    case round =>
      obtain ⟨j, m, hk, hj, rfl, rfl, rfl, rfl⟩ := hrel
      have KK := Lib.hid hk; clear hk
      by_cases hlt : j < n1
      · first
          | (exfalso; omega)
          | (have hcj := hc.out j hlt
             have hsj := hv.size j
             generalize z1.getD j ByteArray.empty = sj at hcj hsj
             go_wp2_with fail
             all_goals first
               | (go_ret; exact ⟨_, rfl, rfl⟩)
               | (go_roundg (n1 - (j + 1))
                  case measure => rw [KK.out]; omega
                  case rel => exact ⟨j + 1, _, rfl, by omega, rfl, by go_num, rfl, rfl⟩))
      · go_wp2_with fail
        all_goals (go_ret; exact ⟨_, rfl, rfl⟩)

end Go.Proofs.Ytomfonilbenhbaa
