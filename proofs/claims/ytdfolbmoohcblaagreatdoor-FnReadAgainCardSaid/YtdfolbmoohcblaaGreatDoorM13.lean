/-
For FnReadAgain, part 13: W5g W5v.
-/
import Derived.Test.YtdfolbmoohcblaaGreatDoorM12
set_option linter.all false
namespace Go.Proofs.YtdfolbmoohcblaaGreatDoor
set_option maxHeartbeats 4000000
set_option maxRecDepth 100000
open Go.RowKit
def afterBlk (n : Nat) : Code -> Option Code
 | .seq a b => match a with
  | .block k _ => if k = n then some b else afterBlk n b
  | _ => match afterBlk n a with
   | some c => some (.seq c b)
   | none => afterBlk n b
 | .scope c => afterBlk n c
 | _ => none
def findBlk (n : Nat) : Code -> Option Code
 | .block k c => if k = n then some c else findBlk n c
 | .seq a b => match findBlk n a with
  | some c => some c
  | none => findBlk n b
 | .scope c => findBlk n c
 | .loop c => findBlk n c
 | .cond _ a b => match findBlk n a with
  | some c => some c
  | none => findBlk n b
 | _ => none
noncomputable def tailR : Code := (Tryz.f134.body.bind (afterBlk 1)).getD .skip
noncomputable def bodyE : Code := ((Tryz.f134.body.bind (findBlk 5)).bind firstLoop).getD .skip
def FE (s : ByteArray) (v2 v3 v4 v5 v6 v8 v10 v16 v17 v19 : Value) (us : Bool) (pos : Nat) (e : Int) (x : Nat -> Value) : Act := ⟨#[.string s, x 1, v2, v3, v4, v5, v6, .int .i64 pos, v8, .bool us, v10, x 11, x 12, x 13, x 14, x 15, v16, v17, x 18, v19, .int .i64 e, x 21, x 22, x 23, x 24, x 25, x 26, x 27, x 28, x 29, x 30, x 31, x 32, x 33, x 34, x 35, x 36, x 37, x 38, x 39, x 40, x 41, x 42, x 43, x 44, x 45, x 46, x 47, x 48, x 49, x 50, x 51, x 52, x 53, x 54, x 55, x 56, x 57, x 58, x 59, x 60, x 61, x 62, x 63, x 64, x 65, x 66, x 67, x 68, x 69, x 70, x 71, x 72, x 73, x 74, x 75, x 76, x 77, x 78, x 79, x 80, x 81, x 82, x 83, x 84, x 85, x 86, x 87, x 88, x 89, x 90, x 91, x 92, x 93, x 94, x 95, x 96, x 97, x 98, x 99, x 100, x 101, x 102, x 103, x 104, x 105, x 106, x 107, x 108, x 109, x 110, x 111, x 112, x 113, x 114, x 115, x 116, x 117, x 118, x 119, x 120, x 121, x 122, x 123, x 124, x 125, x 126, x 127, x 128, x 129, x 130, x 131, x 132, x 133, x 134, x 135, x 136, x 137, x 138, x 139, x 140, x 141, x 142, x 143, x 144, x 145, x 146, x 147, x 148, x 149, x 150, x 151, x 152, x 153, x 154, x 155, x 156, x 157, x 158, x 159, x 160, x 161, x 162, x 163, x 164, x 165, x 166, x 167, x 168, x 169, x 170, x 171, x 172, x 173, x 174, x 175, x 176, x 177, x 178, x 179, x 180, x 181, x 182, x 183, x 184, x 185, x 186, x 187, x 188, x 189, x 190, x 191, x 192, x 193, x 194, x 195, x 196, x 197, x 198, x 199, x 200, x 201, x 202, x 203, x 204, x 205, x 206, x 207, x 208, x 209, x 210, x 211, x 212, x 213, x 214, x 215, x 216, x 217, x 218, x 219, x 220, x 221, x 222, x 223, x 224, x 225, x 226, x 227, x 228, x 229, x 230, x 231, x 232, x 233, x 234, x 235, x 236, x 237, x 238, x 239, x 240, x 241, x 242, x 243, x 244, x 245, x 246, x 247, x 248, x 249, x 250, x 251, x 252], []⟩
theorem e_under (s : ByteArray) (hs : s.size <= 1099511627776) (v2 v3 v4 v5 v6 v8 v10 v16 v17 v19 : Value) (us : Bool) (pos : Nat) (e : Int) (x : Nat -> Value) (w : World) (K : Act -> World -> Prop) (Q : Exit -> Act -> World -> Prop) (c : UInt8) (hp : pos < s.size) (hcc : s[pos] = c) (he0 : 0 <= e) (he : e < 100000) (c95 : c = 95)
  (hK : ∀ x', K (FE s v2 v3 v4 v5 v6 v8 v10 v16 v17 v19 true (pos + 1) (e) x') w) :
  Code.wp Tryz.prog bodyE (Exit.then K Q) (FE s v2 v3 v4 v5 v6 v8 v10 v16 v17 v19 us pos e x) w := by
 conv => arg 2; whnf
 have b95 : ((s[pos].toNat : Int) == 95) = true := by rw [hcc]; exact int_eq' (n := 95) (by decide) c95
 have x1 : (s[pos].toNat : Int) = 95 := by rw [hcc, c95]; rfl
 have g4 : 48 <= (s[pos].toNat : Int) := by omega
 have g5 : ¬ (s[pos].toNat : Int) <= 57 := by omega
 clear hcc c95 x1
 unfold FE
 go_wp2_with fail
 all_goals (exact of_x (FE s v2 v3 v4 v5 v6 v8 v10 v16 v17 v19 true (pos + 1) (e)) hK _ rfl)
theorem e_dig (s : ByteArray) (hs : s.size <= 1099511627776) (v2 v3 v4 v5 v6 v8 v10 v16 v17 v19 : Value) (us : Bool) (pos : Nat) (e : Int) (x : Nat -> Value) (w : World) (K : Act -> World -> Prop) (Q : Exit -> Act -> World -> Prop) (c : UInt8) (hp : pos < s.size) (hcc : s[pos] = c) (he0 : 0 <= e) (he : e < 100000) (c95 : c ≠ 95) (d1 : 48 <= c.toNat) (d2 : c.toNat <= 57) (ht : e < 10000)
  (hK : ∀ x', K (FE s v2 v3 v4 v5 v6 v8 v10 v16 v17 v19 us (pos + 1) (e * 10 + (s[pos].toNat : Int) - 48) x') w) :
  Code.wp Tryz.prog bodyE (Exit.then K Q) (FE s v2 v3 v4 v5 v6 v8 v10 v16 v17 v19 us pos e x) w := by
 conv => arg 2; whnf
 have b95 : ((s[pos].toNat : Int) == 95) = false := by rw [hcc]; exact int_ne' (n := 95) (by decide) c95
 have hcn : (s[pos].toNat : Int) = c.toNat := by rw [hcc]
 have g1 : 48 <= (s[pos].toNat : Int) := by omega
 have g2 : (s[pos].toNat : Int) <= 57 := by omega
 clear hcc c95 hcn
 unfold FE
 go_wp2_with fail
 all_goals (exact of_x (FE s v2 v3 v4 v5 v6 v8 v10 v16 v17 v19 us (pos + 1) (e * 10 + (s[pos].toNat : Int) - 48)) hK _ rfl)
theorem e_big (s : ByteArray) (hs : s.size <= 1099511627776) (v2 v3 v4 v5 v6 v8 v10 v16 v17 v19 : Value) (us : Bool) (pos : Nat) (e : Int) (x : Nat -> Value) (w : World) (K : Act -> World -> Prop) (Q : Exit -> Act -> World -> Prop) (c : UInt8) (hp : pos < s.size) (hcc : s[pos] = c) (he0 : 0 <= e) (he : e < 100000) (c95 : c ≠ 95) (d1 : 48 <= c.toNat) (d2 : c.toNat <= 57) (ht : ¬ e < 10000)
  (hK : ∀ x', K (FE s v2 v3 v4 v5 v6 v8 v10 v16 v17 v19 us (pos + 1) (e) x') w) :
  Code.wp Tryz.prog bodyE (Exit.then K Q) (FE s v2 v3 v4 v5 v6 v8 v10 v16 v17 v19 us pos e x) w := by
 conv => arg 2; whnf
 have b95 : ((s[pos].toNat : Int) == 95) = false := by rw [hcc]; exact int_ne' (n := 95) (by decide) c95
 have hcn : (s[pos].toNat : Int) = c.toNat := by rw [hcc]
 have g1 : 48 <= (s[pos].toNat : Int) := by omega
 have g2 : (s[pos].toNat : Int) <= 57 := by omega
 clear hcc c95 hcn
 unfold FE
 go_wp2_with fail
 all_goals (exact of_x (FE s v2 v3 v4 v5 v6 v8 v10 v16 v17 v19 us (pos + 1) (e)) hK _ rfl)
theorem e_stop0 (s : ByteArray) (hs : s.size <= 1099511627776) (v2 v3 v4 v5 v6 v8 v10 v16 v17 v19 : Value) (us : Bool) (pos : Nat) (e : Int) (x : Nat -> Value) (w : World) (K : Act -> World -> Prop) (Q : Exit -> Act -> World -> Prop) (c : UInt8) (hp : pos < s.size) (hcc : s[pos] = c) (he0 : 0 <= e) (he : e < 100000) (c95 : c ≠ 95) (d1 : 48 <= c.toNat) (d2 : 57 < c.toNat)
  (hQ : ∀ x', Q (.exit 5) (FE s v2 v3 v4 v5 v6 v8 v10 v16 v17 v19 us pos e x') w) :
  Code.wp Tryz.prog bodyE (Exit.then K Q) (FE s v2 v3 v4 v5 v6 v8 v10 v16 v17 v19 us pos e x) w := by
 conv => arg 2; whnf
 have b95 : ((s[pos].toNat : Int) == 95) = false := by rw [hcc]; exact int_ne' (n := 95) (by decide) c95
 have hcn : (s[pos].toNat : Int) = c.toNat := by rw [hcc]
 have g1 : 48 <= (s[pos].toNat : Int) := by omega
 have g2 : ¬ (s[pos].toNat : Int) <= 57 := by omega
 clear hcc c95 hcn
 unfold FE
 go_wp2_with fail
 all_goals (exact of_xq (FE s v2 v3 v4 v5 v6 v8 v10 v16 v17 v19 us pos e) hQ _ rfl)
theorem e_stop1 (s : ByteArray) (hs : s.size <= 1099511627776) (v2 v3 v4 v5 v6 v8 v10 v16 v17 v19 : Value) (us : Bool) (pos : Nat) (e : Int) (x : Nat -> Value) (w : World) (K : Act -> World -> Prop) (Q : Exit -> Act -> World -> Prop) (c : UInt8) (hp : pos < s.size) (hcc : s[pos] = c) (he0 : 0 <= e) (he : e < 100000) (c95 : c ≠ 95) (d1 : c.toNat < 48)
  (hQ : ∀ x', Q (.exit 5) (FE s v2 v3 v4 v5 v6 v8 v10 v16 v17 v19 us pos e x') w) :
  Code.wp Tryz.prog bodyE (Exit.then K Q) (FE s v2 v3 v4 v5 v6 v8 v10 v16 v17 v19 us pos e x) w := by
 conv => arg 2; whnf
 have b95 : ((s[pos].toNat : Int) == 95) = false := by rw [hcc]; exact int_ne' (n := 95) (by decide) c95
 have hcn : (s[pos].toNat : Int) = c.toNat := by rw [hcc]
 have g1 : ¬ 48 <= (s[pos].toNat : Int) := by omega
 clear hcc c95 hcn
 unfold FE
 go_wp2_with fail
 all_goals (exact of_xq (FE s v2 v3 v4 v5 v6 v8 v10 v16 v17 v19 us pos e) hQ _ rfl)
theorem e_fin (s : ByteArray) (hs : s.size <= 1099511627776) (v2 v3 v4 v5 v6 v8 v10 v16 v17 v19 : Value) (us : Bool) (pos : Nat) (e : Int) (x : Nat -> Value) (w : World) (K : Act -> World -> Prop) (Q : Exit -> Act -> World -> Prop) (c : UInt8) (hp : ¬ pos < s.size) (he0 : 0 <= e) (he : e < 100000)
  (hQ : ∀ x', Q (.exit 5) (FE s v2 v3 v4 v5 v6 v8 v10 v16 v17 v19 us pos e x') w) :
  Code.wp Tryz.prog bodyE (Exit.then K Q) (FE s v2 v3 v4 v5 v6 v8 v10 v16 v17 v19 us pos e x) w := by
 conv => arg 2; whnf
 unfold FE
 go_wp2_with fail
 all_goals (exact of_xq (FE s v2 v3 v4 v5 v6 v8 v10 v16 v17 v19 us pos e) hQ _ rfl)
def IFE (s : ByteArray) (v2 v3 v4 v5 v6 v8 v10 v16 v17 v19 : Value) (us0 : Bool) (p0 : Nat) (w : World) (k : Nat) (a : Act) (w' : World) : Prop :=
 ∃ (pos e : Nat) (us : Bool) (x : Nat -> Value), k = (ls s).length - pos /\ EL us0 (ls s) p0 pos e us /\ FE s v2 v3 v4 v5 v6 v8 v10 v16 v17 v19 us pos e x = a /\ w = w'
theorem loop_FE (s : ByteArray) (hs : s.size <= 1099511627776) (v2 v3 v4 v5 v6 v8 v10 v16 v17 v19 : Value) (us0 : Bool) (p0 : Nat) (hp0 : p0 <= s.size) (x : Nat -> Value) (w : World) (Q : Exit -> Act -> World -> Prop)
  (hexit : ∀ pos e us x', ELe us0 (ls s) p0 pos e us -> Q (.exit 5) (FE s v2 v3 v4 v5 v6 v8 v10 v16 v17 v19 us pos (e : Nat) x') w) :
  Code.wp Tryz.prog (Code.loop bodyE) Q (FE s v2 v3 v4 v5 v6 v8 v10 v16 v17 v19 us0 p0 0 x) w := by
 refine wp_loop_ghost (IFE s v2 v3 v4 v5 v6 v8 v10 v16 v17 v19 us0 p0 w) (s.size - p0) ⟨p0, 0, us0, x, rfl, EL.start _ _ _ hp0, rfl, rfl⟩ ?_
 rintro k a w' ⟨pos, e, us, x, hk, hL, rfl, rfl⟩
 have hpl := hL.pl
 have he := hL.e
 rw [ls_length] at hpl hk
 by_cases hp : pos < s.size
 ·have hc := ls_getElem? s pos hp
  obtain ⟨c, hcc⟩ : ∃ c, s[pos] = c := ⟨_, rfl⟩
  rw [hcc] at hc
  by_cases c95 : c = 95
  ·exact e_under s hs v2 v3 v4 v5 v6 v8 v10 v16 v17 v19 us pos e x w _ Q c hp hcc (by omega) (by omega) c95 (fun x' => ⟨k - 1, by omega, pos + 1, e, true, x', by rw [ls_length]; omega, hL.under hc c95, rfl, rfl⟩)
  by_cases cD : isD c = true
  ·have hd := (isD_iff c).1 cD
   by_cases ht : e < 10000
   ·exact e_dig s hs v2 v3 v4 v5 v6 v8 v10 v16 v17 v19 us pos e x w _ Q c hp hcc (by omega) (by omega) c95 hd.1 hd.2 (by omega) (fun x' => ⟨k - 1, by omega, pos + 1, _, us, x', by rw [ls_length]; omega, hL.digit hc c95 cD, by rw [if_pos ht, hcc, show ((e * 10 + (c.toNat - 48) : Nat) : Int) = (e : Int) * 10 + (c.toNat : Int) - 48 from by omega], rfl⟩)
   ·exact e_big s hs v2 v3 v4 v5 v6 v8 v10 v16 v17 v19 us pos e x w _ Q c hp hcc (by omega) (by omega) c95 hd.1 hd.2 (by omega) (fun x' => ⟨k - 1, by omega, pos + 1, _, us, x', by rw [ls_length]; omega, hL.digit hc c95 cD, by rw [if_neg ht], rfl⟩)
  ·have hd : ¬ (48 <= c.toNat /\ c.toNat <= 57) := fun h => cD ((isD_iff c).2 h)
   by_cases d1 : 48 <= c.toNat
   ·exact e_stop0 s hs v2 v3 v4 v5 v6 v8 v10 v16 v17 v19 us pos e x w _ Q c hp hcc (by omega) (by omega) c95 d1 (by omega) (fun x' => hexit _ _ _ x' (hL.stop hc c95 cD))
   ·exact e_stop1 s hs v2 v3 v4 v5 v6 v8 v10 v16 v17 v19 us pos e x w _ Q c hp hcc (by omega) (by omega) c95 (by omega) (fun x' => hexit _ _ _ x' (hL.stop hc c95 cD))
 ·exact e_fin s hs v2 v3 v4 v5 v6 v8 v10 v16 v17 v19 us pos e x w _ Q 0 hp (by omega) (by omega) (fun x' => hexit _ _ _ x' (hL.fin (by rw [ls_length]; omega)))
theorem FE_loop (s : ByteArray) (hs : s.size <= 1099511627776) (v2 v3 v4 v5 v6 v8 v10 v16 v17 v19 : Value) (us0 : Bool) (p0 : Nat) (hp0 : p0 <= s.size) (w : World) (Q : Exit -> Act -> World -> Prop) (L : List Value)
  (h : FE s v2 v3 v4 v5 v6 v8 v10 v16 v17 v19 us0 p0 0 (fun k => L.getD k undef) = ⟨L.toArray, []⟩)
  (hexit : ∀ pos e us x', ELe us0 (ls s) p0 pos e us -> Q (.exit 5) (FE s v2 v3 v4 v5 v6 v8 v10 v16 v17 v19 us pos (e : Nat) x') w) :
  Code.wp Tryz.prog (Code.loop bodyE) Q ⟨L.toArray, []⟩ w := h ▸ loop_FE s hs v2 v3 v4 v5 v6 v8 v10 v16 v17 v19 us0 p0 hp0 _ w Q hexit
def RSl (a : Act) (m : Nat) (x : Int) (n t h : Bool) (i : Int) (ok : Bool) : Prop :=
 a.tmps.getD 2 undef = .int .u64 m /\ a.tmps.getD 3 undef = .int .i64 x /\ a.tmps.getD 4 undef = .bool n /\ a.tmps.getD 5 undef = .bool t /\ a.tmps.getD 6 undef = .bool h /\ a.tmps.getD 7 undef = .int .i64 i /\ (a.tmps.getD 8 undef, a.defers) = (Value.bool ok, [])
def RBad (a : Act) : Prop := ∃ (m : Nat) (x : Int) (n t h : Bool) (i : Int), RSl a m x n t h i false
theorem rsl_eq {a : Act} {m : Nat} {x y : Int} {n t h : Bool} {i j : Int} {ok : Bool} (hh : RSl a m x n t h i ok) (h1 : x = y) (h2 : i = j) : RSl a m y n t h j ok := h1 ▸ h2 ▸ hh
end Go.Proofs.YtdfolbmoohcblaaGreatDoor
