/-
For FnReadAgain, part 10: W5u.
-/
import Derived.Test.YtdfolbmoohcblaaGreatDoorM09
set_option linter.all false
namespace Go.Proofs.YtdfolbmoohcblaaGreatDoor
set_option maxHeartbeats 4000000
set_option maxRecDepth 100000
open Go.RowKit
def UPost (w : World) (e : Ending) (w' : World) : Prop := (∃ r, e = .returned (.bool r)) /\ w = w'
def URel (s : ByteArray) (w : World) (n : Nat) (v3 v4 : Value) (wr : World) : Prop := ∃ (k : Nat) (c : Int), n = s.size - k /\ v4 = .int .i64 k /\ v3 = .int .i32 c /\ k <= s.size /\ wr = w
theorem retEq {m : Nat} {x y : Int} {a a' b c : Bool} {i i' : Int} (h : x = y /\ i = i') (hn : a' = a) : Ending.returned (.tuple #[.int .u64 m, .int .i64 x, .bool a, .bool b, .bool c, .int .i64 i, .bool true]) = .returned (.tuple #[.int .u64 m, .int .i64 y, .bool a', .bool b, .bool c, .int .i64 i', .bool true]) := by
 rw [h.1, h.2, hn]
theorem underscore_any (s : ByteArray) (w : World) (hs : s.size <= 1099511627776) : Calls Tryz.prog 155 #[.string s] w (UPost w) := by
 have hlow := fun c w => lower_any c w
 go_enter Tryz.func155, Tryz.ntmps155
 go_upto_region 3 with fail
 go_cut [18] from 6 (fun s18 wx => ∃ b, s18 = .bool b /\ (b = true -> 1 <= s.size) /\ wx = w)
 case first =>
  go_wp2_with (go_at_call 114; refine (hlow _ _).mono ?_; rintro e w' ⟨rfl, rfl⟩)
  all_goals (go_meet; exact ⟨_, rfl, by intro h; first | omega | (cases h), rfl⟩)
 case rest =>
  obtain ⟨b, rfl, hb, rfl⟩ := hcut
  go_upto_if 18 with fail
  go_cut [0] from 19 (fun s0 wx => ∃ S : ByteArray, s0 = .string S /\ S.size <= s.size /\ wx = wc)
  case first =>
   cases b
   ·go_wp2_with fail
    go_meet
    exact ⟨s, rfl, Nat.le_refl _, rfl⟩
   ·have hb := hb rfl
    go_wp2_with fail
    go_meet
    exact ⟨s.extract 1 s.size, rfl, by rw [ByteArray.size_extract]; omega, rfl⟩
  case rest =>
   obtain ⟨S, rfl, hS, rfl⟩ := hcut
   clear hb
   have hSs : S.size <= 1099511627776 := by omega
   clear hS hs
   go_upto_region 6 with fail
   go_cut [46] from 21 (fun s46 wx => ∃ b, s46 = .bool b /\ (b = true -> 2 <= S.size) /\ wx = wc)
   case first =>
    go_wp2_with (go_at_call 114; refine (hlow _ _).mono ?_; rintro e w' ⟨rfl, rfl⟩)
    all_goals (go_meet; exact ⟨_, rfl, by intro h; first | omega | (cases h), rfl⟩)
   case rest =>
    obtain ⟨b, rfl, hb, rfl⟩ := hcut
    go_upto_if 46 with fail
    go_cut [3, 4, 5] from 47 (fun s3 s4 s5 wx => ∃ (c : Int) (k : Nat) (h : Bool), s3 = .int .i32 c /\ s4 = .int .i64 k /\ s5 = .bool h /\ k <= S.size /\ wx = wc)
    case first =>
     cases b
     ·go_wp2_with fail
      go_meet
      exact ⟨_, 0, _, rfl, rfl, rfl, by omega, rfl⟩
     ·have hb := hb rfl
      go_wp2_with (go_at_call 114; refine (hlow _ _).mono ?_; rintro e w' ⟨rfl, rfl⟩)
      go_meet
      exact ⟨_, 2, _, rfl, rfl, rfl, by omega, rfl⟩
    case rest =>
     obtain ⟨c, k, h, rfl, rfl, rfl, hk, rfl⟩ := hcut
     clear hb
     go_wp2_with fail
     go_loopg [3, 4] (S.size - k) (fun n v3 v4 wr => URel S wc n v3 v4 wr)
     case atStart => exact ⟨k, c, rfl, rfl, rfl, hk, rfl⟩
     case round =>
      clear hk
      obtain ⟨k, c, hgk, rfl, rfl, hk, rfl⟩ := hrel
      by_cases hlt : k < S.size
      ·have hg0 : 0 < gk := by omega
       cases h
       all_goals
        go_wp2_with (go_at_call 114; refine (hlow _ _).mono ?_; rintro e w' ⟨rfl, rfl⟩)
       all_goals
        first
        | (go_returns; exact ⟨⟨_, rfl⟩, rfl⟩)
        | (go_roundg (gk - 1); (case measure => omega); (case rel => exact ⟨k + 1, _, by omega, rfl, rfl, by omega, rfl⟩))
      ·go_wp2_with fail
       all_goals (go_returns; exact ⟨⟨_, rfl⟩, rfl⟩)
end Go.Proofs.YtdfolbmoohcblaaGreatDoor
