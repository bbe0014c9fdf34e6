/-
For FnReadAgain, part 20: W6d W6e.
-/
import Derived.Test.YtdfolbmoohcblaaGreatDoorM19
set_option linter.all false
namespace Go.Proofs.YtdfolbmoohcblaaGreatDoor
set_option maxHeartbeats 1000000
set_option maxRecDepth 100000
open Go.RowKit
theorem drewN_add (w : World) (a b : Nat) : (w.drewN a).drewN b = w.drewN (a + b) := by simp [World.drewN, Nat.add_assoc]
def PilRel (D : Nat -> Nat) (nd : Nat) (l : List UInt8) (w : World) (n : Nat) (v : Value) (wr : World) : Prop :=
 ∃ i q : Nat, n = l.length - i /\ i <= l.length /\ v = .int .i64 i /\ pil D nd l 0 = pil D nd (l.drop i) i /\ wr = w.drewN q
theorem prefixLess_any (w : World) (g : Nat) (D : Nat -> Nat) (nd : Nat) (dp : Int) (neg tr : Bool) (s : ByteArray) (h : Dec w g D nd dp neg tr) (hn : nd <= 800) (hs : s.size <= 1000) :
  Calls Tryz.prog 151 #[.slice (some ⟨g, 0, none⟩) nd 800, .string s] w fun e w' => e = .returned (.bool (pil D nd (ls s) 0)) /\ ∃ n, w' = w.drewN n := by
 have hg := Lib.hid (fun k h => ls_getElem? s k h)
 have HD := Lib.hid h
 clear h
 go_enter Tryz.func151, Tryz.ntmps151
 go_wp2_with fail
 go_loopg [5] s.size (fun n v wr => PilRel D nd (ls s) w n v wr)
 case atStart => exact ⟨0, 0, rfl, Nat.zero_le _, rfl, by simp, rfl⟩
 case round =>
  obtain ⟨i, q, hgk, hi, rfl, hp, rfl⟩ := hrel
  rw [ls_length] at hgk hi
  have HP := Lib.hid hp
  clear hp
  by_cases hlt : i < s.size
  ·have hc := hg.out i hlt
   obtain ⟨hi', he⟩ := List.getElem?_eq_some_iff.1 hc
   have hstep : pil D nd ((ls s).drop i) i = if nd <= i then true else if D i = s[i].toNat then pil D nd ((ls s).drop (i + 1)) (i + 1) else decide (D i < s[i].toNat) := by
    rw [List.drop_eq_getElem_cons hi', he]; rfl
   have HS := Lib.hid hstep
   clear hstep hc he
   by_cases hnd : nd <= i
   ·have HR := Lib.hid (show pil D nd (ls s) 0 = true by rw [HP.out, HS.out, if_pos hnd])
    go_wp2_with fail
    go_returns
    exact ⟨by rw [HR.out]; rfl, q, rfl⟩
   ·have cd := HD.out.d i (by omega)
    by_cases hq : D i = s[i].toNat
    ·have b1 : ((D i : Int) != (s[i].toNat : Int)) = false := by rw [bne_eq_false_iff_eq]; omega
     have HR := Lib.hid (show pil D nd (ls s) 0 = pil D nd ((ls s).drop (i + 1)) (i + 1) by rw [HP.out, HS.out, if_neg hnd, if_pos hq])
     clear hq
     go_wp2_with fail
     go_quiet (fail)
     go_wp2_with fail
     go_roundg (gk - 1)
     case measure => omega
     case rel => exact ⟨i + 1, _, by rw [ls_length]; omega, by rw [ls_length]; omega, rfl, HR.out, rfl⟩
    ·have b1 : ((D i : Int) != (s[i].toNat : Int)) = true := by rw [bne_iff_ne]; omega
     have HR := Lib.hid (show pil D nd (ls s) 0 = decide (D i < s[i].toNat) by rw [HP.out, HS.out, if_neg hnd, if_neg hq])
     clear hq
     go_wp2_with fail
     go_quiet (fail)
     go_wp2_with fail
     go_quiet (fail)
     go_wp2_with fail
     go_returns
     refine ⟨by rw [HR.out]; rfl, ?_⟩
     exact ⟨_, by rw [drewN_add, drewN_add]⟩
  ·have HR := Lib.hid (show pil D nd (ls s) 0 = false by rw [HP.out, List.drop_eq_nil_of_le (by rw [ls_length]; omega)]; rfl)
   go_wp2_with fail
   go_returns
   exact ⟨by rw [HR.out]; rfl, q, rfl⟩
def RuPost (w : World) (e : Ending) (w' : World) : Prop := (∃ b, e = .returned (.bool b)) /\ w = w'
theorem roundUp_any (w : World) (g : Nat) (D : Nat -> Nat) (nd : Nat) (dp : Int) (neg tr : Bool) (r : Int) (h : Dec w g D nd dp neg tr) (hn : nd <= 800) (h1 : -100000 <= r) (h2 : r <= 100000) :
  Calls Tryz.prog 130 #[.pointer (some ⟨g, 0, none⟩), .int .i64 r] w (RuPost w) := by
 have cn := h.nd
 have ct := h.trc
 by_cases h0 : 0 <= r
 ·by_cases hlt : r < nd
  ·have cd := h.d r.toNat (by omega)
   by_cases hp : 0 < r
   ·have cd2 := h.d (r.toNat - 1) (by omega)
    clear h
    go_enter Tryz.func130, Tryz.ntmps130
    go_wp2_with fail
    all_goals (go_returns; exact ⟨⟨_, rfl⟩, rfl⟩)
   ·clear h
    go_enter Tryz.func130, Tryz.ntmps130
    go_wp2_with fail
    all_goals (go_returns; exact ⟨⟨_, rfl⟩, rfl⟩)
  ·clear h
   go_enter Tryz.func130, Tryz.ntmps130
   go_wp2_with fail
   all_goals (go_returns; exact ⟨⟨_, rfl⟩, rfl⟩)
 ·clear h
  go_enter Tryz.func130, Tryz.ntmps130
  go_wp2_with fail
  all_goals (go_returns; exact ⟨⟨_, rfl⟩, rfl⟩)
end Go.Proofs.YtdfolbmoohcblaaGreatDoor
