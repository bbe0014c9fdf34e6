/-
For FnReadAgain, part 32: W13b W14 W15.
-/
import Derived.Test.YtdfolbmoohcblaaGreatDoorM31
import Derived.Lib.SlBytesConst
import Derived.Test.YtdfolbmoohcblaaGreatDoorM27
import Derived.Lib.ItoaLen
import Derived.Deep.AppendLies
set_option linter.all false
namespace Go.Proofs.YtdfolbmoohcblaaGreatDoor
set_option maxHeartbeats 8000000
set_option maxRecDepth 100000
open Go.RowKit
theorem up20_len (l : List UInt8) : (up20 l).length = 20 := by unfold up20; simp; omega
theorem up20_pre {l : List UInt8} {n : Nat} {p : List UInt8} (h : ((up20 l).take n == p) = true) (hp : p.length = n) (h0 : (0 : UInt8) ∉ p) (hn : n <= 20) : n <= l.length := by
 rw [beq_iff_eq] at h
 apply Decidable.byContradiction
 intro hlt
 apply h0
 have : (up20 l)[l.length]? = some 0 := by
  unfold up20
  rw [List.getElem?_append_right (by rw [List.length_map, List.length_take]; omega), List.getElem?_replicate, if_pos (by rw [List.length_map, List.length_take]; omega)]
 rw [<- h]
 have h2 : ((up20 l).take n)[l.length]? = some 0 := by rw [List.getElem?_take, if_pos (by omega)]; exact this
 exact List.mem_of_getElem? h2
theorem bytes_new_marked (w : World) (xs : List UInt8) (mk : Nat × Nat) : Bytes (w.alloc (Obj.cells (cel xs).toArray 5 mk)) w.heap.size xs := by
 intro i c hi
 have h : (w.alloc (Obj.cells (cel xs).toArray 5 mk)).heap[w.heap.size]? = some (Obj.cells (cel xs).toArray 5 mk) := heap_alloc_new w _
 have h2 : (cel xs).toArray[i]? = some (.int .u8 c.toNat) := by simp [cel, hi]
 unfold World.cell?
 rw [h]; simpa using h2
theorem pre_any {w : World} {b : Nat} {U : List UInt8} (hB : Bytes w b U) (hU : U.length = 20) (ys : List UInt8) (n : Nat) (cs : Array Value) (hcs : cs = (cel ys).toArray) (hn : n = ys.length) (h20 : n <= 20) :
  Calls Tryz.prog 22 #[.slice (some ⟨b, 0, none⟩) 20 20, .slice (some ⟨w.heap.size, 0, none⟩) n n] (w.alloc (Obj.cells cs 5 (n, n + 1))) fun e w' => e = .returned (.bool (U.take n == ys)) /\ w.alloc (Obj.cells cs 5 (n, n + 1)) = w' := by
 subst hcs
 exact HasPrefix_any b w.heap.size 20 n 20 n U ys _ (hB.below ((Below.refl _ _).alloc (Nat.le_refl _) _)) (bytes_new_marked w ys _) hU.symm hn h20 (Nat.le_refl _)
theorem unmarshal_step (s : ByteArray) (w : World) (hs : s.size <= 1099511627776) (hre : RE w)
  (hU : ∀ (p : ByteArray) (w1 : World), p.size < s.size -> RE w1 -> Calls Tryz.prog 10 #[.string p] w1 (GPost (ls p) w1)) :
  Calls Tryz.prog 10 #[.string s] w (GPost (ls s) w) := by
 obtain ⟨q, hq⟩ : ∃ q, bs (trim (ls s)) = q := ⟨_, rfl⟩
 have hql : ls q = trim (ls s) := by rw [<- hq, ls_bs]
 have hqs : q.size <= s.size := by rw [<- ls_length q, hql]; exact trim_len _
 have htrim := trimSpace_any s w hs
 rw [hq] at htrim
 have hup := upperPrefix_any q w (by omega)
 rw [hql] at hup
 obtain ⟨U, hUe⟩ : ∃ U, up20 (trim (ls s)) = U := ⟨_, rfl⟩
 have hU20 : U.length = 20 := by rw [<- hUe]; exact up20_len _
 unfold UpPost at hup
 rw [hUe] at hup
 obtain ⟨b0, hb0⟩ : ∃ b, (U.take 5 == [80, 79, 73, 78, 84]) = b := ⟨_, rfl⟩
 obtain ⟨b1, hb1⟩ : ∃ b, (U.take 10 == [76, 73, 78, 69, 83, 84, 82, 73, 78, 71]) = b := ⟨_, rfl⟩
 obtain ⟨b2, hb2⟩ : ∃ b, (U.take 7 == [80, 79, 76, 89, 71, 79, 78]) = b := ⟨_, rfl⟩
 obtain ⟨b3, hb3⟩ : ∃ b, (U.take 10 == [77, 85, 76, 84, 73, 80, 79, 73, 78, 84]) = b := ⟨_, rfl⟩
 obtain ⟨b4, hb4⟩ : ∃ b, (U.take 15 == [77, 85, 76, 84, 73, 76, 73, 78, 69, 83, 84, 82, 73, 78, 71]) = b := ⟨_, rfl⟩
 obtain ⟨b5, hb5⟩ : ∃ b, (U.take 12 == [77, 85, 76, 84, 73, 80, 79, 76, 89, 71, 79, 78]) = b := ⟨_, rfl⟩
 obtain ⟨b6, hb6⟩ : ∃ b, (U.take 18 == [71, 69, 79, 77, 69, 84, 82, 89, 67, 79, 76, 76, 69, 67, 84, 73, 79, 78]) = b := ⟨_, rfl⟩
 have hk : kindOf (trim (ls s)) = if b0 then 0 else if b1 then 1 else if b2 then 2 else if b3 then 3 else if b4 then 4 else if b5 then 5 else if b6 then 6 else 7 := by
  unfold kindOf; simp only [hUe, hb0, hb1, hb2, hb3, hb4, hb5, hb6]
 have hn : (b0 = true -> 5 <= q.size) /\ (b1 = true -> 10 <= q.size) /\ (b2 = true -> 7 <= q.size) /\ (b3 = true -> 10 <= q.size) /\ (b4 = true -> 15 <= q.size) /\ (b5 = true -> 12 <= q.size) /\ (b6 = true -> 18 <= q.size) := by
  rw [<- ls_length q, hql]
  refine ⟨?_, ?_, ?_, ?_, ?_, ?_, ?_⟩
  ·intro h; rw [h, <- hUe] at hb0; exact up20_pre hb0 rfl (by decide) (by omega)
  ·intro h; rw [h, <- hUe] at hb1; exact up20_pre hb1 rfl (by decide) (by omega)
  ·intro h; rw [h, <- hUe] at hb2; exact up20_pre hb2 rfl (by decide) (by omega)
  ·intro h; rw [h, <- hUe] at hb3; exact up20_pre hb3 rfl (by decide) (by omega)
  ·intro h; rw [h, <- hUe] at hb4; exact up20_pre hb4 rfl (by decide) (by omega)
  ·intro h; rw [h, <- hUe] at hb5; exact up20_pre hb5 rfl (by decide) (by omega)
  ·intro h; rw [h, <- hUe] at hb6; exact up20_pre hb6 rfl (by decide) (by omega)
 have H := Lib.hid (And.intro htrim (And.intro hup (And.intro hk (And.intro hql (And.intro hre hU)))))
 have HB := Lib.hid (And.intro hb0 (And.intro hb1 (And.intro hb2 (And.intro hb3 (And.intro hb4 (And.intro hb5 hb6))))))
 have hcv := fun (w : World) (C : Array Value) (n c : Nat) => Lib.run_convert_bytes_const (P := Tryz.prog) w 66 5 C n c Tryz.underlying66 Tryz.underlying5
 clear htrim hup hk hql hre hU hq hUe hb0 hb1 hb2 hb3 hb4 hb5 hb6
 go_enter Tryz.func10, Tryz.ntmps10
 go_wp2_with fail
 refine H.out.1.mono ?_
 rintro e w' ⟨rfl, rfl⟩
 go_wp2_with fail
 refine H.out.2.1.mono ?_
 rintro e w1 ⟨pb, rfl, hby, hbel⟩
 have HW : Hid (Below w.heap.size w w1 /\ Bytes w1 pb U) := ⟨hbel, hby⟩
 clear hby hbel
 go_wp2_with fail
 refine (pre_any HW.out.2 hU20 [80, 79, 73, 78, 84] 5 #[.int .u8 80, .int .u8 79, .int .u8 73, .int .u8 78, .int .u8 84] rfl rfl (by omega)).mono ?_
 rintro e w2 ⟨rfl, hw⟩
 rw [HB.out.1]
 have HW1 : Hid (Below w.heap.size w w2 /\ Bytes w2 pb U) := by
  rw [<- hw]
  exact ⟨below_alloc HW.out.1 _, HW.out.2.below ((Below.refl _ _).alloc (Nat.le_refl _) _)⟩
 clear hw
 cases b0
 case' true =>
  have hbe : Below w.heap.size w w2 := HW1.out.1
  have hkk : kindOf (trim (ls s)) = 0 := by rw [H.out.2.2.1]; rfl
  have hc := uPoint_any q _ (by omega) (hn.1 rfl) (H.out.2.2.2.2.1.below hbe)
  have HC := Lib.hid (And.intro hc (And.intro hbe hkk))
  clear hc hbe hkk
  go_wp2_with fail
  refine HC.out.1.mono ?_
  rintro e w9 ⟨hb9, ⟨p, rfl, hok⟩ | ⟨p, t, u, rfl, hbad⟩⟩
  ·have HE := Lib.hid (And.intro hb9 hok)
   clear hb9 hok
   go_wp2_with fail
   go_returns
   exact ⟨HC.out.2.1.trans (HE.out.1.mono HC.out.2.1.size), .inl ⟨_, .point p, rfl, rfl, HC.out.2.2, by rw [<- H.out.2.2.2.1]; exact HE.out.2⟩⟩
  ·have HE := Lib.hid (And.intro hb9 hbad)
   clear hb9 hbad
   go_wp2_with fail
   go_returns
   exact ⟨HC.out.2.1.trans (HE.out.1.mono HC.out.2.1.size), .inr ⟨t, u, rfl, .point _ HC.out.2.2 (by rw [<- H.out.2.2.2.1]; exact HE.out.2)⟩⟩
 go_wp2_with fail
 refine (pre_any HW1.out.2 hU20 [76, 73, 78, 69, 83, 84, 82, 73, 78, 71] 10 #[.int .u8 76, .int .u8 73, .int .u8 78, .int .u8 69, .int .u8 83, .int .u8 84, .int .u8 82, .int .u8 73, .int .u8 78, .int .u8 71] rfl rfl (by omega)).mono ?_
 rintro e w3 ⟨rfl, hw⟩
 rw [HB.out.2.1]
 have HW2 : Hid (Below w.heap.size w w3 /\ Bytes w3 pb U) := by
  rw [<- hw]
  exact ⟨below_alloc HW1.out.1 _, HW1.out.2.below ((Below.refl _ _).alloc (Nat.le_refl _) _)⟩
 clear hw
 cases b1
 case' true =>
  have hbe : Below w.heap.size w w3 := HW2.out.1
  have hkk : kindOf (trim (ls s)) = 1 := by rw [H.out.2.2.1]; rfl
  have hc := uLine_any q _ (by omega) (hn.2.1 rfl) (H.out.2.2.2.2.1.below hbe)
  have HC := Lib.hid (And.intro hc (And.intro hbe hkk))
  clear hc hbe hkk
  go_wp2_with fail
  refine HC.out.1.mono ?_
  rintro e w9 ⟨hb9, ⟨v, xs, rfl, hrep, hok⟩ | ⟨v, t, u, rfl, hbad⟩⟩
  ·have HE := Lib.hid (And.intro hb9 (And.intro hrep hok))
   clear hb9 hrep hok
   go_wp2_with fail
   go_returns
   exact ⟨HC.out.2.1.trans (HE.out.1.mono HC.out.2.1.size), .inl ⟨_, .line xs, rfl, ⟨v, rfl, owns_mono HE.out.2.1 HC.out.2.1.size⟩, HC.out.2.2, by rw [<- H.out.2.2.2.1]; exact HE.out.2.2⟩⟩
  ·have HE := Lib.hid (And.intro hb9 hbad)
   clear hb9 hbad
   go_wp2_with fail
   go_returns
   exact ⟨HC.out.2.1.trans (HE.out.1.mono HC.out.2.1.size), .inr ⟨t, u, rfl, .line _ HC.out.2.2 (by rw [<- H.out.2.2.2.1]; exact HE.out.2)⟩⟩
 go_wp2_with fail
 refine (pre_any HW2.out.2 hU20 [80, 79, 76, 89, 71, 79, 78] 7 #[.int .u8 80, .int .u8 79, .int .u8 76, .int .u8 89, .int .u8 71, .int .u8 79, .int .u8 78] rfl rfl (by omega)).mono ?_
 rintro e w4 ⟨rfl, hw⟩
 rw [HB.out.2.2.1]
 have HW3 : Hid (Below w.heap.size w w4 /\ Bytes w4 pb U) := by
  rw [<- hw]
  exact ⟨below_alloc HW2.out.1 _, HW2.out.2.below ((Below.refl _ _).alloc (Nat.le_refl _) _)⟩
 clear hw
 cases b2
 case' true =>
  have hbe : Below w.heap.size w w4 := HW3.out.1
  have hkk : kindOf (trim (ls s)) = 2 := by rw [H.out.2.2.1]; rfl
  have hc := uPoly_any q _ (by omega) (hn.2.2.1 rfl) (H.out.2.2.2.2.1.below hbe)
  have HC := Lib.hid (And.intro hc (And.intro hbe hkk))
  clear hc hbe hkk
  go_wp2_with fail
  refine HC.out.1.mono ?_
  rintro e w9 ⟨hb9, ⟨v, xs, rfl, hrep, hok⟩ | ⟨v, t, u, rfl, hbad⟩⟩
  ·have HE := Lib.hid (And.intro hb9 (And.intro hrep hok))
   clear hb9 hrep hok
   go_wp2_with fail
   go_returns
   exact ⟨HC.out.2.1.trans (HE.out.1.mono HC.out.2.1.size), .inl ⟨_, .poly xs, rfl, ⟨v, rfl, Rws.mono HE.out.2.1 HC.out.2.1.size⟩, HC.out.2.2, by rw [<- H.out.2.2.2.1]; exact HE.out.2.2⟩⟩
  ·have HE := Lib.hid (And.intro hb9 hbad)
   clear hb9 hbad
   go_wp2_with fail
   go_returns
   exact ⟨HC.out.2.1.trans (HE.out.1.mono HC.out.2.1.size), .inr ⟨t, u, rfl, .poly _ HC.out.2.2 (by rw [<- H.out.2.2.2.1]; exact HE.out.2)⟩⟩
 go_wp2_with fail
 refine (pre_any HW3.out.2 hU20 [77, 85, 76, 84, 73, 80, 79, 73, 78, 84] 10 #[.int .u8 77, .int .u8 85, .int .u8 76, .int .u8 84, .int .u8 73, .int .u8 80, .int .u8 79, .int .u8 73, .int .u8 78, .int .u8 84] rfl rfl (by omega)).mono ?_
 rintro e w5 ⟨rfl, hw⟩
 rw [HB.out.2.2.2.1]
 have HW4 : Hid (Below w.heap.size w w5 /\ Bytes w5 pb U) := by
  rw [<- hw]
  exact ⟨below_alloc HW3.out.1 _, HW3.out.2.below ((Below.refl _ _).alloc (Nat.le_refl _) _)⟩
 clear hw
 cases b3
 case' true =>
  have hbe : Below w.heap.size w w5 := HW4.out.1
  have hkk : kindOf (trim (ls s)) = 3 := by rw [H.out.2.2.1]; rfl
  have hc := uMPoint_any q _ (by omega) (hn.2.2.2.1 rfl) (H.out.2.2.2.2.1.below hbe)
  have HC := Lib.hid (And.intro hc (And.intro hbe hkk))
  clear hc hbe hkk
  go_wp2_with fail
  refine HC.out.1.mono ?_
  rintro e w9 ⟨hb9, ⟨v, xs, rfl, hrep, hok⟩ | ⟨v, t, u, rfl, hbad⟩⟩
  ·have HE := Lib.hid (And.intro hb9 (And.intro hrep hok))
   clear hb9 hrep hok
   go_wp2_with fail
   go_returns
   exact ⟨HC.out.2.1.trans (HE.out.1.mono HC.out.2.1.size), .inl ⟨_, .mpoint xs, rfl, ⟨v, rfl, owns_mono HE.out.2.1 HC.out.2.1.size⟩, HC.out.2.2, by rw [<- H.out.2.2.2.1]; exact HE.out.2.2⟩⟩
  ·have HE := Lib.hid (And.intro hb9 hbad)
   clear hb9 hbad
   go_wp2_with fail
   go_returns
   exact ⟨HC.out.2.1.trans (HE.out.1.mono HC.out.2.1.size), .inr ⟨t, u, rfl, .mpoint _ HC.out.2.2 (by rw [<- H.out.2.2.2.1]; exact HE.out.2)⟩⟩
 go_wp2_with fail
 refine (pre_any HW4.out.2 hU20 [77, 85, 76, 84, 73, 76, 73, 78, 69, 83, 84, 82, 73, 78, 71] 15 #[.int .u8 77, .int .u8 85, .int .u8 76, .int .u8 84, .int .u8 73, .int .u8 76, .int .u8 73, .int .u8 78, .int .u8 69, .int .u8 83, .int .u8 84, .int .u8 82, .int .u8 73, .int .u8 78, .int .u8 71] rfl rfl (by omega)).mono ?_
 rintro e w6 ⟨rfl, hw⟩
 rw [HB.out.2.2.2.2.1]
 have HW5 : Hid (Below w.heap.size w w6 /\ Bytes w6 pb U) := by
  rw [<- hw]
  exact ⟨below_alloc HW4.out.1 _, HW4.out.2.below ((Below.refl _ _).alloc (Nat.le_refl _) _)⟩
 clear hw
 cases b4
 case' true =>
  have hbe : Below w.heap.size w w6 := HW5.out.1
  have hkk : kindOf (trim (ls s)) = 4 := by rw [H.out.2.2.1]; rfl
  have hc := uMLine_any q _ (by omega) (hn.2.2.2.2.1 rfl) (H.out.2.2.2.2.1.below hbe)
  have HC := Lib.hid (And.intro hc (And.intro hbe hkk))
  clear hc hbe hkk
  go_wp2_with fail
  refine HC.out.1.mono ?_
  rintro e w9 ⟨hb9, ⟨v, xs, rfl, hrep, hok⟩ | ⟨v, t, u, rfl, hbad⟩⟩
  ·have HE := Lib.hid (And.intro hb9 (And.intro hrep hok))
   clear hb9 hrep hok
   go_wp2_with fail
   go_returns
   exact ⟨HC.out.2.1.trans (HE.out.1.mono HC.out.2.1.size), .inl ⟨_, .mline xs, rfl, ⟨v, rfl, Rws.mono HE.out.2.1 HC.out.2.1.size⟩, HC.out.2.2, by rw [<- H.out.2.2.2.1]; exact HE.out.2.2⟩⟩
  ·have HE := Lib.hid (And.intro hb9 hbad)
   clear hb9 hbad
   go_wp2_with fail
   go_returns
   exact ⟨HC.out.2.1.trans (HE.out.1.mono HC.out.2.1.size), .inr ⟨t, u, rfl, .mline _ HC.out.2.2 (by rw [<- H.out.2.2.2.1]; exact HE.out.2)⟩⟩
 go_wp2_with fail
 refine (pre_any HW5.out.2 hU20 [77, 85, 76, 84, 73, 80, 79, 76, 89, 71, 79, 78] 12 #[.int .u8 77, .int .u8 85, .int .u8 76, .int .u8 84, .int .u8 73, .int .u8 80, .int .u8 79, .int .u8 76, .int .u8 89, .int .u8 71, .int .u8 79, .int .u8 78] rfl rfl (by omega)).mono ?_
 rintro e w7 ⟨rfl, hw⟩
 rw [HB.out.2.2.2.2.2.1]
 have HW6 : Hid (Below w.heap.size w w7 /\ Bytes w7 pb U) := by
  rw [<- hw]
  exact ⟨below_alloc HW5.out.1 _, HW5.out.2.below ((Below.refl _ _).alloc (Nat.le_refl _) _)⟩
 clear hw
 cases b5
 case' true =>
  have hbe : Below w.heap.size w w7 := HW6.out.1
  have hkk : kindOf (trim (ls s)) = 5 := by rw [H.out.2.2.1]; rfl
  have hc := uMPoly_any q _ (by omega) (hn.2.2.2.2.2.1 rfl) (H.out.2.2.2.2.1.below hbe)
  have HC := Lib.hid (And.intro hc (And.intro hbe hkk))
  clear hc hbe hkk
  go_wp2_with fail
  refine HC.out.1.mono ?_
  rintro e w9 ⟨hb9, ⟨v, xs, rfl, hrep, hok⟩ | ⟨v, t, u, rfl, hbad⟩⟩
  ·have HE := Lib.hid (And.intro hb9 (And.intro hrep hok))
   clear hb9 hrep hok
   go_wp2_with fail
   go_returns
   exact ⟨HC.out.2.1.trans (HE.out.1.mono HC.out.2.1.size), .inl ⟨_, .mpoly xs, rfl, ⟨v, rfl, Pls.mono HE.out.2.1 HC.out.2.1.size⟩, HC.out.2.2, by rw [<- H.out.2.2.2.1]; exact HE.out.2.2⟩⟩
  ·have HE := Lib.hid (And.intro hb9 hbad)
   clear hb9 hbad
   go_wp2_with fail
   go_returns
   exact ⟨HC.out.2.1.trans (HE.out.1.mono HC.out.2.1.size), .inr ⟨t, u, rfl, .mpoly _ HC.out.2.2 (by rw [<- H.out.2.2.2.1]; exact HE.out.2)⟩⟩
 go_wp2_with fail
 refine (pre_any HW6.out.2 hU20 [71, 69, 79, 77, 69, 84, 82, 89, 67, 79, 76, 76, 69, 67, 84, 73, 79, 78] 18 #[.int .u8 71, .int .u8 69, .int .u8 79, .int .u8 77, .int .u8 69, .int .u8 84, .int .u8 82, .int .u8 89, .int .u8 67, .int .u8 79, .int .u8 76, .int .u8 76, .int .u8 69, .int .u8 67, .int .u8 84, .int .u8 73, .int .u8 79, .int .u8 78] rfl rfl (by omega)).mono ?_
 rintro e w8 ⟨rfl, hw⟩
 rw [HB.out.2.2.2.2.2.2]
 have HW7 : Hid (Below w.heap.size w w8 /\ Bytes w8 pb U) := by
  rw [<- hw]
  exact ⟨below_alloc HW6.out.1 _, HW6.out.2.below ((Below.refl _ _).alloc (Nat.le_refl _) _)⟩
 clear hw
 cases b6
 case' true =>
  have hbe : Below w.heap.size w w8 := HW7.out.1
  have hkk : kindOf (trim (ls s)) = 6 := by rw [H.out.2.2.1]; rfl
  have hc := uColl_any q _ (by omega) (hn.2.2.2.2.2.2 rfl) (H.out.2.2.2.2.1.below hbe) (fun p w1 hp hr => H.out.2.2.2.2.2 p w1 (by omega) hr)
  have HC := Lib.hid (And.intro hc (And.intro hbe hkk))
  clear hc hbe hkk
  go_wp2_with fail
  refine HC.out.1.mono ?_
  rintro e w9 ⟨hb9, ⟨v, gs, rfl, ⟨vs, hown, hreps⟩, hok⟩ | ⟨v, t, u, rfl, hfo, hbad⟩⟩
  ·have HE := Lib.hid (And.intro hb9 (And.intro hown (And.intro hreps hok)))
   clear hb9 hown hreps hok
   go_wp2_with fail
   go_returns
   exact ⟨HC.out.2.1.trans (HE.out.1.mono HC.out.2.1.size), .inl ⟨_, .coll gs, rfl, ⟨v, vs, rfl, owns_mono HE.out.2.1 HC.out.2.1.size, GReps.mono HC.out.2.1.size gs vs HE.out.2.2.1⟩, HC.out.2.2, by rw [<- H.out.2.2.2.1]; exact HE.out.2.2.2⟩⟩
  ·have HE := Lib.hid (And.intro hb9 (And.intro hfo hbad))
   clear hb9 hfo hbad
   go_wp2_with fail
   go_returns
   refine ⟨HC.out.2.1.trans (HE.out.1.mono HC.out.2.1.size), .inr ⟨t, u, rfl, ?_⟩⟩
   obtain ⟨-, hfo, hbad⟩ := HE.out
   rw [H.out.2.2.2.1] at hfo hbad
   rcases hbad with h | ⟨r, m, h1, h2, h3⟩
   ·exact .coll _ HC.out.2.2 hfo h
   ·exact .member _ r m HC.out.2.2 hfo h1 h2 h3
 have hkk : Hid (kindOf (trim (ls s)) = 7) := by show _ = _; rw [H.out.2.2.1]; rfl
 obtain ⟨tN, vN, hN⟩ := (H.out.2.2.2.2.1.below HW7.out.1).env.unsup
 go_wp2_with fail
 go_quiet (fail)
 go_wp2_with fail
 go_returns
 exact ⟨HW7.out.1.trans ⟨rfl, rfl, rfl, Nat.le_refl _, fun _ _ => rfl⟩, .inr ⟨tN, vN, rfl, .kind _ hkk.out⟩⟩
theorem unmarshal_any : ∀ (n : Nat) (s : ByteArray) (w : World), s.size <= n -> s.size <= 1099511627776 -> RE w -> Calls Tryz.prog 10 #[.string s] w (GPost (ls s) w) := by
 intro n
 induction n with
 | zero => intro s w h0 hs hre; exact unmarshal_step s w hs hre (fun p w1 hp _ => by omega)
 | succ n ih => intro s w h0 hs hre; exact unmarshal_step s w hs hre (fun p w1 hp hr => ih p w1 (by omega) (by omega) hr)
end Go.Proofs.YtdfolbmoohcblaaGreatDoor
namespace Go.Proofs.YtdfolbmoohcblaaGreatDoor
set_option maxHeartbeats 2000000
set_option maxRecDepth 100000
open Go.RowKit Go.Sort Go.Lib
def bcell (b : UInt8) : Value := Value.int .u8 (b.toNat : Int)
def nzd (l : List UInt8) : Nat := (l.reverse.dropWhile (· == 48)).length
theorem nzd_le (l : List UInt8) : nzd l <= l.length := by
 unfold nzd
 have := (List.dropWhile_sublist (fun c : UInt8 => c == 48) (l := l.reverse)).length_le
 rw [List.length_reverse] at this; exact this
theorem nzd_zero {l : List UInt8} {k : Nat} (h : l[k]? = some 48) : nzd (l.take (k + 1)) = nzd (l.take k) := by
 obtain ⟨hi, he⟩ := List.getElem?_eq_some_iff.1 h
 unfold nzd
 rw [List.take_succ_eq_append_getElem hi, he, List.reverse_append]; simp
theorem nzd_other {l : List UInt8} {k : Nat} {c : UInt8} (h : l[k]? = some c) (hc : c ≠ 48) : nzd (l.take (k + 1)) = k + 1 := by
 obtain ⟨hi, he⟩ := List.getElem?_eq_some_iff.1 h
 unfold nzd
 rw [List.take_succ_eq_append_getElem hi, he, List.reverse_append, List.reverse_singleton, List.singleton_append, List.dropWhile_cons, if_neg (by simpa using hc)]
 simp; omega
theorem putRow_at (w : World) (b off : Nat) (d : Array UInt8) : At b w (putRow bcell w b off d) := by
 refine ⟨⟨rfl, rfl, rfl, ?_, ?_⟩, ?_⟩
 ·show w.heap.size <= (w.heap.modify b _).size
  simp
 ·intro k hk
  show (w.heap.modify b _)[k]? = w.heap[k]?
  rw [Array.getElem?_modify, if_neg (by omega)]
 ·show (w.heap.modify b _).size = w.heap.size
  simp
theorem bytes_putRow {w : World} {b : Nat} {d0 d : Array UInt8} {l : List UInt8} (h : Holds bcell w b 0 d0) (hs : d.size = d0.size) (hl : l.length = d.size) (hd : ∀ j (hj : j < l.length), l[j] = d[j]!) (n : Nat) : Bytes ((putRow bcell w b 0 d).drewN n) b l := by
 intro i c hi
 obtain ⟨hlt, he⟩ := List.getElem?_eq_some_iff.1 hi
 have h1 := (holds_putRow bcell w b 0 d0 d h hs i (by omega)).1
 rw [Nat.zero_add, <- hd i hlt, he] at h1
 exact h1
theorem holds_less {w : World} {b n m : Nat} (h : Holds bcell w b 0 (Array.replicate m 0)) (hn : n <= m) : Holds bcell w b 0 (Array.replicate n 0) := by
 intro j hj
 rw [Array.size_replicate] at hj
 have h1 := h j (by rw [Array.size_replicate]; omega)
 rw [getElem!_pos _ j (by rw [Array.size_replicate]; omega), Array.getElem_replicate] at h1 ⊢
 exact h1
def SdRel (L : List UInt8) (wc : World) (v : Value) (wr : World) : Prop := ∃ k : Nat, k <= L.length /\ v = .int .i64 k /\ Hid (nzd L = nzd (L.take k)) /\ wr = wc
def SdPost (b d : Nat) (p : Int) (w : World) (e : Ending) (w' : World) : Prop :=
 e = .returned (.tuple #[.int .i64 (nDigits d + p), .int .i64 (nzd (decDigits d))]) /\ At b w w' /\ Bytes w' b (decDigits d)
theorem setDigits_any (b d : Nat) (p : Int) (w : World) (h1 : 1 <= d) (h2 : d < 18446744073709551616) (hp1 : -1000 <= p) (hp2 : p <= 1000) (hH : Holds bcell w b 0 (Array.replicate 32 0)) :
  Calls Tryz.prog 98 #[.slice (some ⟨b, 0, none⟩) 32 32, .int .u64 d, .int .i64 p, .int .i64 (nDigits d)] w (SdPost b d p w) := by
 have hn1 := nDigits_pos d
 have hn2 := nDigits_le20 d h2
 have hf := Tryz.internal_strconv_formatBase10 b 0 32 d (Array.replicate (nDigits d) 0) w (holds_less hH (by omega)) (by rw [Array.size_replicate]; exact lt_pow_nDigits d) h2 (by rw [Array.size_replicate]; omega)
 rw [Array.size_replicate] at hf
 have hlen := decDigits_length d
 unfold SdPost
 have HF := Lib.hid (And.intro hf (And.intro hH (fun v' dk (h : FmtInv (nDigits d) d 0 v' dk) => row_is_numeral h)))
 clear hf hH
 generalize decDigits d = L at hlen HF ⊢
 generalize nDigits d = n at hn1 hn2 hlen HF ⊢
 go_enter Tryz.func98, Tryz.ntmps98
 go_wp2_with fail
 refine HF.out.1.mono ?_
 rintro e w1 ⟨rfl, q, v', dk, hw1, hinv⟩
 have hby : Bytes w1 b L := by
  rw [hw1]
  exact bytes_putRow (holds_less HF.out.2.1 (show n <= 32 by omega)) (by rw [hinv.size, Array.size_replicate]) (by rw [hinv.size, hlen]) (HF.out.2.2 v' dk hinv) q
 have hat : At b w w1 := by rw [hw1]; exact (putRow_at w b 0 dk).trans (At.drewN b _ q)
 have HB := Lib.hid (And.intro hby hat)
 clear hby hat hw1 hinv HF
 go_wp2_with fail
 go_loopw [3] (fun v wr => SdRel L w1 v wr) (fun v _ => (RowKit.intOf v).toNat)
 case atStart => exact ⟨L.length, Nat.le_refl _, by rw [hlen], by show _ = _; rw [List.take_length], rfl⟩
 case round =>
  obtain ⟨k, hk, rfl, hz, rfl⟩ := hrel
  by_cases h0 : k = 0
  ·subst h0
   go_wp2_with fail
   go_returns
   refine ⟨?_, HB.out.2, HB.out.1⟩
   have := hz.out
   rw [this]; rfl
  ·obtain ⟨j, rfl⟩ : ∃ j, k = j + 1 := ⟨k - 1, by omega⟩
   obtain ⟨c, hc⟩ : ∃ c, L[j]? = some c := ⟨_, List.getElem?_eq_getElem (by omega)⟩
   have hcell := HB.out.1 j c hc
   have hj1 : ((j : Int) + 1) - 1 = (j : Nat) := by omega
   have HC := Lib.hid (And.intro hc hj1)
   clear hc
   by_cases h48 : c = 48
   ·subst h48
    have hz2 := nzd_zero HC.out.1
    have HZ := Lib.hid hz2
    clear hz2
    go_wp2_with fail
    go_round
    case rel => exact ⟨j, by omega, by go_num, by show _ = _; rw [<- HZ.out]; exact hz.out, rfl⟩
    case measure => simp [RowKit.intOf]
   ·have hz2 := nzd_other HC.out.1 h48
    have hne : ((c.toNat : Int) == 48) = false := by
     rw [beq_eq_false_iff_ne]; intro h; apply h48; rw [<- UInt8.toNat_inj]; simp; omega
    have HZ := Lib.hid hz2
    clear hz2
    go_wp2_with fail
    go_returns
    refine ⟨?_, HB.out.2, HB.out.1⟩
    have := hz.out
    rw [this, HZ.out]; rfl
end Go.Proofs.YtdfolbmoohcblaaGreatDoor
namespace Go.Proofs.YtdfolbmoohcblaaGreatDoor
open Go.RowKit
structure DS (W0 : World) (B sb : Nat) (S : List UInt8) (w : World) (v : Value) (L : List UInt8) : Prop where
 own : w.ownsRow B 5 1 v L.length (cel L)
 ne : v.ownBlock ≠ some sb
 lt : sb < w.heap.size
 hby : Bytes w sb S
 below : Below B W0 w
theorem ownBlock_old {w : World} {B e size n : Nat} {v : Value} {xs : List Value} (h : w.ownsRow B e size v n xs) : ∀ g, v.ownBlock = some g -> B <= g := by
 intro g hg
 rcases h.2 with ⟨rfl, _⟩ | ⟨g', cap, cur, rfl, hb, _⟩
 ·cases hg
 ·have : g' = g := by simpa [Value.ownBlock] using hg
  omega
theorem DS.alloc {W0 : World} {B sb : Nat} {S : List UInt8} {w : World} {v : Value} {L : List UInt8} (h : DS W0 B sb S w v L) (hB : B <= w.heap.size) (o : Obj) : DS W0 B sb S (w.alloc o) v L :=
 ⟨h.own.alloc _, h.ne, by have := h.lt; show sb < (w.heap.push o).size; simp; omega, h.hby.below ((Below.refl _ _).alloc (Nat.le_refl _) _), h.below.alloc hB o⟩
theorem news_new (w : World) (news : List UInt8) (cs : Array Value) (h : cs = (cel news).toArray) : ∀ j c, news[j]? = some c -> (w.alloc (Obj.cells cs 5)).cell? ⟨w.heap.size, 0 + j, none⟩ = some (.int .u8 c.toNat) := by
 subst h
 intro j c hj
 rw [Nat.zero_add]
 exact bytes_new w news j c hj
theorem info5 : (Tryz.prog.info? 5).map (fun i => (i.zero, i.size, i.bytes)) = some (some (.int .u8 0), 1, 1) := by kernel_rfl
theorem cel_append (a b : List UInt8) : cel (a ++ b) = cel a ++ cel b := by unfold cel; simp
theorem ds_app {ops : Array Oper} {rest : List Oper} {o : Oper} {a : Act} {Q : Exit -> Act -> World -> Prop} (hgd : o.guard = none) (s x : Operand)
  (ho : o.op = .call { callee := .builtin .append, args := #[s, x], argTypes := #[66, 66] })
  {W0 : World} {B sb : Nat} {S : List UInt8} {w : World} {v : Value} {L : List UInt8} (h : DS W0 B sb S w v L) (hs : a.eval s = v)
  (g off m c : Nat) (news : List UInt8) (hx : a.eval x = .slice (some ⟨g, off, none⟩) m c) (hm : m = news.length) (h0 : 0 < m)
  (hn : ∀ j c, news[j]? = some c -> w.cell? ⟨g, off + j, none⟩ = some (.int .u8 c.toNat)) (hbd : L.length + m <= 100000) (hB : B <= w.heap.size)
  (K : ∀ g' c' w', DS W0 B sb S w' (.slice (some ⟨g', 0, none⟩) (L ++ news).length c') (L ++ news) -> B <= w'.heap.size -> wpList Tryz.prog ops Q rest (a.put o.dst (.slice (some ⟨g', 0, none⟩) (L ++ news).length c')) w') : wpList Tryz.prog ops Q (o :: rest) a w := by
 obtain ⟨i0, hi, hz0, hz1, hz2⟩ := info_parts info5
 refine wpList_append_lies w hgd s x 66 ho B 5 i0 (.int .u8 0) 1 1 Tryz.underlying66 hi hz0 hz1 hz2 rfl (by decide) v L.length (cel L) hs h.own ⟨g, off, none⟩ m c (cel news) hx (by rw [hm]; simp [cel]) ?_ ?_ h0 (by unfold maxLen; omega) (by omega) hB _ rfl ?_
 ·intro j u hu
  unfold cel at hu
  rw [List.getElem?_map] at hu
  obtain ⟨c, hc, rfl⟩ := Option.map_eq_some_iff.1 hu
  rw [Lib.add_plain]
  exact hn j c hc
 ·intro u hu
  obtain ⟨c, -, rfl⟩ := List.mem_map.1 hu
  rfl
 ·intro g' c' w' hown hgr hat hlt
  have hl : (L ++ news).length = L.length + m := by rw [List.length_append, hm]
  have hsz := hgr.size
  refine hl ▸ K g' c' w' ⟨?_, ?_, ?_, ?_, ?_⟩ (by omega)
  ·rw [hl, cel_append]; exact hown
  ·intro he
   have he' : g' = sb := by simpa [Value.ownBlock] using he
   have hlt := h.lt
   rcases hat with h1 | h1
   ·exact h.ne (by rw [h1, he'])
   ·omega
  ·have := h.lt; omega
  ·intro i c hc
   rw [World.grownBy.cell_far hgr ⟨sb, i, none⟩ h.lt (fun e => h.ne e.symm)]
   exact h.hby i c hc
  ·refine h.below.trans ⟨hgr.os, hgr.tape, hgr.output, hgr.size, fun k hk => hgr.block k (by omega) (fun e => ?_)⟩
   have := ownBlock_old h.own k e.symm
   omega
end Go.Proofs.YtdfolbmoohcblaaGreatDoor
