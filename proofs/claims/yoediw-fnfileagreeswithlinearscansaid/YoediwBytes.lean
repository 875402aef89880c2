/-
  zzBytes of three laws (functions 14, 18, 20) and zzScriptBytes (function 15): some answer, the world as it was.
-/
import Derived.Test.YoediwModel
namespace Go.Proofs.Yoediw
open Go.RowKit

/-- It returns a bool. -/
def AnyBool (e : Ending) : Prop := ∃ r : Bool, e = .returned (.bool r)
/-- It returns an int. -/
def AnyInt (e : Ending) : Prop := ∃ r : Int, e = .returned (.int .i64 r)

set_option maxHeartbeats 400000 in
theorem bytes20 (a b c : Option Addr) (n m k ca cb cc : Nat) (w : World) (h1 : n ≤ maxLen) (h2 : m ≤ maxLen) (h3 : k ≤ maxLen) :
    Calls Edig.prog 20 #[.slice a n ca, .slice b m cb, .slice c k cc] w fun e w' => AnyBool e ∧ w' = w := by
  unfold maxLen at h1 h2 h3
  go_enter Edig.func20, Edig.ntmps20
  go_wp2
  all_goals
    go_ret
    exact ⟨⟨_, rfl⟩, rfl⟩

set_option maxHeartbeats 400000 in
theorem bytes14 (a b c : Option Addr) (n m k ca cb cc : Nat) (z : Nat → ByteArray) (w : World) (h1 : n ≤ maxLen) (h2 : m ≤ maxLen) (h3 : k ≤ maxLen) (hr : RowV w a n (fun j => .string (z j))) :
    Calls Edig.prog 14 #[.slice a n ca, .slice b m cb, .slice c k cc] w fun e w' => AnyBool e ∧ w' = w := by
  unfold maxLen at h1 h2 h3
  have HR := hideIt hr
  clear hr
  by_cases hn : 1048576 < n
  · go_enter Edig.func14, Edig.ntmps14
    go_wp2
    go_ret
    exact ⟨⟨_, rfl⟩, rfl⟩
  · go_enter Edig.func14, Edig.ntmps14
    go_wp2
    go_loop [7, 8] (fun t i => ∃ (x : Int) (j : Nat), 0 ≤ x ∧ x ≤ 1048576 ∧ j ≤ n ∧ t = .int .i64 x ∧ i = .int .i64 (j : Int)) (fun _ i => n - (intOf i).toNat)
    case atStart => exact ⟨n, 0, by omega, by omega, Nat.zero_le _, rfl, rfl⟩
    case round =>
      obtain ⟨x, j, x0, x1, hj, rfl, rfl⟩ := hrel
      by_cases hlt : j < n
      · obtain ⟨b1, off, e, hc⟩ := HR.out j hlt
        subst e
        by_cases hl1 : 1048576 < (z j).size
        · go_wp2
          go_ret
          exact ⟨⟨_, rfl⟩, rfl⟩
        · by_cases hl2 : 1048576 < x + ((z j).size : Int)
          · go_wp2
            go_ret
            exact ⟨⟨_, rfl⟩, rfl⟩
          · go_wp2
            go_round
            case rel => exact ⟨x + ((z j).size : Int), j + 1, by omega, by omega, by omega, by go_num, by go_num⟩
            case measure => simp [intOf]; omega
      · go_wp2
        all_goals
          go_ret
          exact ⟨⟨_, rfl⟩, rfl⟩

set_option maxHeartbeats 400000 in
theorem bytes18 (a b c d : Option Addr) (n m k p ca cb cc cd : Nat) (z : Nat → ByteArray) (w : World) (h1 : n ≤ maxLen) (h2 : m ≤ maxLen) (h3 : k ≤ maxLen) (h4 : p ≤ maxLen) (hr : RowV w a n (fun j => .string (z j))) :
    Calls Edig.prog 18 #[.slice a n ca, .slice b m cb, .slice c k cc, .slice d p cd] w fun e w' => AnyBool e ∧ w' = w := by
  unfold maxLen at h1 h2 h3 h4
  have HR := hideIt hr
  clear hr
  by_cases hn : 1048576 < n
  · go_enter Edig.func18, Edig.ntmps18
    go_wp2
    go_ret
    exact ⟨⟨_, rfl⟩, rfl⟩
  · go_enter Edig.func18, Edig.ntmps18
    go_wp2
    go_loop [9, 10] (fun t i => ∃ (x : Int) (j : Nat), 0 ≤ x ∧ x ≤ 1048576 ∧ j ≤ n ∧ t = .int .i64 x ∧ i = .int .i64 (j : Int)) (fun _ i => n - (intOf i).toNat)
    case atStart => exact ⟨n, 0, by omega, by omega, Nat.zero_le _, rfl, rfl⟩
    case round =>
      obtain ⟨x, j, x0, x1, hj, rfl, rfl⟩ := hrel
      by_cases hlt : j < n
      · obtain ⟨b1, off, e, hc⟩ := HR.out j hlt
        subst e
        by_cases hl1 : 1048576 < (z j).size
        · go_wp2
          go_ret
          exact ⟨⟨_, rfl⟩, rfl⟩
        · by_cases hl2 : 1048576 < x + ((z j).size : Int)
          · go_wp2
            go_ret
            exact ⟨⟨_, rfl⟩, rfl⟩
          · go_wp2
            go_round
            case rel => exact ⟨x + ((z j).size : Int), j + 1, by omega, by omega, by omega, by go_num, by go_num⟩
            case measure => simp [intOf]; omega
      · go_wp2
        all_goals
          go_ret
          exact ⟨⟨_, rfl⟩, rfl⟩

set_option maxHeartbeats 400000 in
theorem script15 (a b c : Option Addr) (n m k ca cb cc : Nat) (z : Nat → ByteArray) (w : World) (h1 : n ≤ 1048576) (h2 : m ≤ 1048576) (h3 : k ≤ 1048576) (hr : RowV w a n (fun j => .string (z j))) :
    Calls Edig.prog 15 #[.slice a n ca, .slice b m cb, .slice c k cc] w fun e w' => AnyInt e ∧ w' = w := by
  have HR := hideIt hr
  clear hr
  go_enter Edig.func15, Edig.ntmps15
  go_wp2
  go_loop [7, 8] (fun t i => ∃ (x : Int) (j : Nat), j ≤ n ∧ t = .int .i64 x ∧ i = .int .i64 (j : Int)) (fun _ i => n - (intOf i).toNat)
  case atStart => exact ⟨_, 0, Nat.zero_le _, rfl, rfl⟩
  case round =>
    obtain ⟨x, j, hj, rfl, rfl⟩ := hrel
    by_cases hlt : j < n
    · obtain ⟨b1, off, e, hc⟩ := HR.out j hlt
      subst e
      go_wp2
      · go_ret
        exact ⟨⟨_, rfl⟩, rfl⟩
      · go_round
        case rel => exact ⟨_, j + 1, by omega, rfl, by go_num⟩
        case measure => simp [intOf]; omega
    · go_wp2
      go_ret
      exact ⟨⟨_, rfl⟩, rfl⟩

end Go.Proofs.Yoediw
