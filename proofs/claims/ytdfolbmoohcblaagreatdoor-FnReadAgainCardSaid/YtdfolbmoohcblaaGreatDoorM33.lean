/-
For FnReadAgain, part 33: W15a.
-/
import Derived.Test.YtdfolbmoohcblaaGreatDoorM32
import Derived.Deep.DeepCutAuto
import Derived.Deep.LoopGhost
import Derived.Deep.CutBlock
set_option linter.all false
namespace Go.Proofs.YtdfolbmoohcblaaGreatDoor
set_option maxHeartbeats 4000000
set_option maxRecDepth 100000
open Go.RowKit
def sgnB (neg : Bool) : List UInt8 := if neg then [45] else []
def expo (x : Int) : List UInt8 :=
 (if x < 0 then 45 else 43) :: (let n := x.natAbs; if n < 10 then [48, UInt8.ofNat (48 + n)] else if n < 100 then [UInt8.ofNat (48 + n / 10), UInt8.ofNat (48 + n % 10)] else [UInt8.ofNat (48 + n / 100), UInt8.ofNat (48 + n / 10 % 10), UInt8.ofNat (48 + n % 10)])
def fmtE (neg : Bool) (S : List UInt8) (nd : Nat) (dp : Int) : List UInt8 :=
 sgnB neg ++ S.take 1 ++ (if 1 < nd then 46 :: (S.take nd).drop 1 else []) ++ [101] ++ expo (dp - 1)
def EfgPost (W0 : World) (B sb : Nat) (S L : List UInt8) (r : List UInt8) (e : Ending) (w' : World) : Prop :=
 ∃ g c, e = .returned (.slice (some ⟨g, 0, none⟩) (L ++ r).length c) /\ DS W0 B sb S w' (.slice (some ⟨g, 0, none⟩) (L ++ r).length c) (L ++ r)
theorem tail_cells {w : World} {sb : Nat} {S : List UInt8} {nd k : Nat} (h : Bytes w sb S) : ∀ j c, ((S.take nd).drop k)[j]? = some c -> w.cell? ⟨sb, k + j, none⟩ = some (.int .u8 c.toNat) := by
 intro j c hj
 rw [List.getElem?_drop, List.getElem?_take] at hj
 split at hj
 ·exact h (k + j) c hj
 ·cases hj
theorem efg_fin {W0 : World} {B sb : Nat} {S L L' r : List UInt8} {w : World} {g n c : Nat} (h : DS W0 B sb S w (.slice (some ⟨g, 0, none⟩) n c) L') (he : L' = L ++ r) : EfgPost W0 B sb S L r (.returned (.slice (some ⟨g, 0, none⟩) n c)) w := by
 subst he
 have hn : n = (L ++ r).length := by
  rcases h.own.2 with ⟨h1, _⟩ | ⟨g', cap, cur, h1, _⟩
  ·cases h1
  ·exact (Value.slice.inj h1).2.1
 subst hn
 exact ⟨g, c, rfl, h⟩
def expoD (n : Nat) : List UInt8 := if n < 10 then [48, UInt8.ofNat (48 + n)] else if n < 100 then [UInt8.ofNat (48 + n / 10), UInt8.ofNat (48 + n % 10)] else [UInt8.ofNat (48 + n / 100), UInt8.ofNat (48 + n / 10 % 10), UInt8.ofNat (48 + n % 10)]
theorem expo1 {n : Nat} (h : n < 10) : expoD n = [48, UInt8.ofNat (48 + n)] := by unfold expoD; rw [if_pos h]
theorem expo2 {n : Nat} (h : 10 <= n /\ n < 100) : expoD n = [UInt8.ofNat (48 + n / 10), UInt8.ofNat (48 + n % 10)] := by unfold expoD; rw [if_neg (by omega), if_pos h.2]
theorem expo3 {n : Nat} (h : 100 <= n) : expoD n = [UInt8.ofNat (48 + n / 100), UInt8.ofNat (48 + n / 10 % 10), UInt8.ofNat (48 + n % 10)] := by unfold expoD; rw [if_neg (by omega), if_neg (by omega)]
theorem fmtE_m {neg : Bool} {S : List UInt8} {nd x : Nat} {dp : Int} (h : dp = 1 - (x : Int)) (h0 : 0 < x) : fmtE neg S nd dp = sgnB neg ++ S.take 1 ++ (if 1 < nd then 46 :: (S.take nd).drop 1 else []) ++ [101] ++ 45 :: expoD x := by
 subst h
 unfold fmtE expo expoD
 rw [if_pos (show (1 : Int) - x - 1 < 0 by omega), show ((1 : Int) - x - 1).natAbs = x by omega]
theorem fmtE_p {neg : Bool} {S : List UInt8} {nd x : Nat} {dp : Int} (h : dp = 1 + (x : Int)) (_h0 : 0 < x) : fmtE neg S nd dp = sgnB neg ++ S.take 1 ++ (if 1 < nd then 46 :: (S.take nd).drop 1 else []) ++ [101] ++ 43 :: expoD x := by
 subst h
 unfold fmtE expo expoD
 rw [if_neg (show ¬ (1 : Int) + x - 1 < 0 by omega), show ((1 : Int) + x - 1).natAbs = x by omega]
theorem take_one {S : List UInt8} {c : UInt8} (h : S[0]? = some c) : S.take 1 = [c] := by
 cases S with
 | nil => cases h
 | cons a t => cases h; rfl
theorem fmtEFG_enmm (W0 : World) (B : Nat) (v : Value) (sb nd : Nat) (dp : Int) (S L : List UInt8) (w : World) (h1 : 1 < nd) (h2 : nd <= 20) (hS : nd <= S.length) (hp1 : -1000 <= dp) (hp2 : dp <= 1000) (he : dp - 1 < -4)
  (hL : L.length <= 1000) (hB : B <= w.heap.size) (h : DS W0 B sb S w v L) :
  Calls Tryz.prog 95 #[v, .bool true, .slice (some ⟨sb, 0, none⟩) 32 32, .int .i64 dp, .int .i64 nd, .int .i64 nd, .int .u8 103, .bool true] w (EfgPost W0 B sb S L (fmtE true S nd dp)) := by
 obtain ⟨c0, hc0⟩ : ∃ c, S[0]? = some c := ⟨_, List.getElem?_eq_getElem (by omega)⟩
 obtain ⟨Q, hQ⟩ : ∃ Q, EfgPost W0 B sb S L (fmtE true S nd dp) = Q := ⟨_, rfl⟩
 rw [hQ]
 have H := Lib.hid (And.intro h (And.intro hc0 hQ))
 clear h hc0 hQ
 go_enter Tryz.func95, Tryz.ntmps95
 go_wp2_with (at_builtin; refine ds_app rfl _ _ rfl (H.out.1.alloc hB _) rfl w.heap.size 0 1 1 [45] rfl rfl (by omega) (news_new w [45] _ rfl) (by simp; omega) (by simp; omega) ?_)
 intro g1 n1 w1 hd1 hB1
 have HD1 := Lib.hid hd1
 clear hd1
 have hcell := HD1.out.hby 0 c0 H.out.2.1
 go_wp2_with (at_builtin; refine ds_app rfl _ _ rfl (HD1.out.alloc hB1 _) rfl w1.heap.size 0 1 1 [c0] rfl rfl (by omega) (news_new w1 [c0] _ rfl) (by simp; omega) (by simp; omega) ?_)
 intro g2 n2 w2 hd2 hB2
 have HD2 := Lib.hid hd2
 clear hd2
 clear hcell
 go_wp2_with (at_builtin; refine ds_app rfl _ _ rfl (HD2.out.alloc hB2 _) rfl w2.heap.size 0 1 1 [46] rfl rfl (by omega) (news_new w2 [46] _ rfl) (by simp; omega) (by simp; omega) ?_)
 intro g3 n3 w3 hd3 hB3
 have HD3 := Lib.hid hd3
 clear hd3
 go_wp2_with (at_builtin; refine ds_app rfl _ _ rfl HD3.out rfl sb 1 (nd - 1) 31 ((S.take nd).drop 1) rfl (by simp; omega) (by omega) (tail_cells HD3.out.hby) (by simp; omega) (by omega) ?_)
 intro g4 n4 w4 hd4 hB4
 have HD4 := Lib.hid hd4
 clear hd4
 go_wp2_with fail
 go_loopg [0, 114] 0 (fun n v0 v114 wr => v0 = .slice (some ⟨g4, 0, none⟩) (L.length + (nd - 1 + 1 + 1 + 1)) n4 /\ v114 = .int .i64 0 /\ w4 = wr)
 case atStart => exact ⟨rfl, rfl, rfl⟩
 case round =>
  obtain ⟨rfl, rfl, rfl⟩ := hrel
  go_wp2_with (at_builtin; refine ds_app rfl _ _ rfl (HD4.out.alloc hB4 _) rfl w4.heap.size 0 1 1 [101] rfl rfl (by omega) (news_new w4 [101] _ rfl) (by simp; omega) (by simp; omega) ?_)
  intro g5 n5 w5 hd5 hB5
  have HD5 := Lib.hid hd5
  clear hd5
  go_wp2_with (at_builtin; refine ds_app rfl _ _ rfl (HD5.out.alloc hB5 _) rfl w5.heap.size 0 1 1 [45] rfl rfl (by omega) (news_new w5 [45] _ rfl) (by simp; omega) (by simp; omega) ?_)
  intro g6 n6 w6 hd6 hB6
  have HD6 := Lib.hid hd6
  clear hd6
  obtain ⟨x, hx⟩ : ∃ x : Nat, dp = 1 - (x : Int) := ⟨_, (show dp = 1 - ((1 - dp).toNat : Int) by omega)⟩
  have hx5 : 5 <= x := by omega
  have hx9 : x <= 1001 := by omega
  rw [show -(dp - 1) = (x : Int) from by omega]
  have HX := Lib.hid hx
  clear hx he hp1 hp2
  by_cases h10 : x < 10
  ·go_wp2_with (at_builtin; refine ds_app rfl _ _ rfl (HD6.out.alloc hB6 _) rfl w6.heap.size 0 2 2 [48, UInt8.ofNat (48 + x)] rfl rfl (by omega) (news_new w6 [48, UInt8.ofNat (48 + x)] _ (by simp [cel]; omega)) (by simp; omega) (by simp; omega) ?_)
   intro g7 n7 w7 hd7 hB7
   have HD7 := Lib.hid hd7
   clear hd7
   go_wp2_with fail
   rw [<- H.out.2.2]
   refine efg_fin HD7.out ?_
   rw [fmtE_m HX.out (by omega), expo1 (by omega), take_one H.out.2.1, if_pos h1]; simp [sgnB]
  ·by_cases h100 : x < 100
   ·go_wp2_with (at_builtin; refine ds_app rfl _ _ rfl (HD6.out.alloc hB6 _) rfl w6.heap.size 0 2 2 [UInt8.ofNat (48 + x / 10), UInt8.ofNat (48 + x % 10)] rfl rfl (by omega) (news_new w6 [UInt8.ofNat (48 + x / 10), UInt8.ofNat (48 + x % 10)] _ (by simp [cel]; omega)) (by simp; omega) (by simp; omega) ?_)
    intro g7 n7 w7 hd7 hB7
    have HD7 := Lib.hid hd7
    clear hd7
    go_wp2_with fail
    rw [<- H.out.2.2]
    refine efg_fin HD7.out ?_
    rw [fmtE_m HX.out (by omega), expo2 (by omega), take_one H.out.2.1, if_pos h1]; simp [sgnB]
   ·go_wp2_with (at_builtin; refine ds_app rfl _ _ rfl (HD6.out.alloc hB6 _) rfl w6.heap.size 0 3 3 [UInt8.ofNat (48 + x / 100), UInt8.ofNat (48 + x / 10 % 10), UInt8.ofNat (48 + x % 10)] rfl rfl (by omega) (news_new w6 [UInt8.ofNat (48 + x / 100), UInt8.ofNat (48 + x / 10 % 10), UInt8.ofNat (48 + x % 10)] _ (by simp [cel]; omega)) (by simp; omega) (by simp; omega) ?_)
    intro g7 n7 w7 hd7 hB7
    have HD7 := Lib.hid hd7
    clear hd7
    go_wp2_with fail
    rw [<- H.out.2.2]
    refine efg_fin HD7.out ?_
    rw [fmtE_m HX.out (by omega), expo3 (by omega), take_one H.out.2.1, if_pos h1]; simp [sgnB]
theorem fmtEFG_enmp (W0 : World) (B : Nat) (v : Value) (sb nd : Nat) (dp : Int) (S L : List UInt8) (w : World) (h1 : 1 < nd) (h2 : nd <= 20) (hS : nd <= S.length) (hp1 : -1000 <= dp) (hp2 : dp <= 1000) (he : 6 <= dp - 1)
  (hL : L.length <= 1000) (hB : B <= w.heap.size) (h : DS W0 B sb S w v L) :
  Calls Tryz.prog 95 #[v, .bool true, .slice (some ⟨sb, 0, none⟩) 32 32, .int .i64 dp, .int .i64 nd, .int .i64 nd, .int .u8 103, .bool true] w (EfgPost W0 B sb S L (fmtE true S nd dp)) := by
 obtain ⟨c0, hc0⟩ : ∃ c, S[0]? = some c := ⟨_, List.getElem?_eq_getElem (by omega)⟩
 obtain ⟨Q, hQ⟩ : ∃ Q, EfgPost W0 B sb S L (fmtE true S nd dp) = Q := ⟨_, rfl⟩
 rw [hQ]
 have H := Lib.hid (And.intro h (And.intro hc0 hQ))
 clear h hc0 hQ
 go_enter Tryz.func95, Tryz.ntmps95
 go_wp2_with (at_builtin; refine ds_app rfl _ _ rfl (H.out.1.alloc hB _) rfl w.heap.size 0 1 1 [45] rfl rfl (by omega) (news_new w [45] _ rfl) (by simp; omega) (by simp; omega) ?_)
 intro g1 n1 w1 hd1 hB1
 have HD1 := Lib.hid hd1
 clear hd1
 have hcell := HD1.out.hby 0 c0 H.out.2.1
 go_wp2_with (at_builtin; refine ds_app rfl _ _ rfl (HD1.out.alloc hB1 _) rfl w1.heap.size 0 1 1 [c0] rfl rfl (by omega) (news_new w1 [c0] _ rfl) (by simp; omega) (by simp; omega) ?_)
 intro g2 n2 w2 hd2 hB2
 have HD2 := Lib.hid hd2
 clear hd2
 clear hcell
 go_wp2_with (at_builtin; refine ds_app rfl _ _ rfl (HD2.out.alloc hB2 _) rfl w2.heap.size 0 1 1 [46] rfl rfl (by omega) (news_new w2 [46] _ rfl) (by simp; omega) (by simp; omega) ?_)
 intro g3 n3 w3 hd3 hB3
 have HD3 := Lib.hid hd3
 clear hd3
 go_wp2_with (at_builtin; refine ds_app rfl _ _ rfl HD3.out rfl sb 1 (nd - 1) 31 ((S.take nd).drop 1) rfl (by simp; omega) (by omega) (tail_cells HD3.out.hby) (by simp; omega) (by omega) ?_)
 intro g4 n4 w4 hd4 hB4
 have HD4 := Lib.hid hd4
 clear hd4
 go_wp2_with fail
 go_loopg [0, 114] 0 (fun n v0 v114 wr => v0 = .slice (some ⟨g4, 0, none⟩) (L.length + (nd - 1 + 1 + 1 + 1)) n4 /\ v114 = .int .i64 0 /\ w4 = wr)
 case atStart => exact ⟨rfl, rfl, rfl⟩
 case round =>
  obtain ⟨rfl, rfl, rfl⟩ := hrel
  go_wp2_with (at_builtin; refine ds_app rfl _ _ rfl (HD4.out.alloc hB4 _) rfl w4.heap.size 0 1 1 [101] rfl rfl (by omega) (news_new w4 [101] _ rfl) (by simp; omega) (by simp; omega) ?_)
  intro g5 n5 w5 hd5 hB5
  have HD5 := Lib.hid hd5
  clear hd5
  go_wp2_with (at_builtin; refine ds_app rfl _ _ rfl (HD5.out.alloc hB5 _) rfl w5.heap.size 0 1 1 [43] rfl rfl (by omega) (news_new w5 [43] _ rfl) (by simp; omega) (by simp; omega) ?_)
  intro g6 n6 w6 hd6 hB6
  have HD6 := Lib.hid hd6
  clear hd6
  obtain ⟨x, hx⟩ : ∃ x : Nat, dp = 1 + (x : Int) := ⟨_, (show dp = 1 + ((dp - 1).toNat : Int) by omega)⟩
  have hx5 : 5 <= x := by omega
  have hx9 : x <= 1001 := by omega
  rw [show dp - 1 = (x : Int) from by omega]
  have HX := Lib.hid hx
  clear hx he hp1 hp2
  by_cases h10 : x < 10
  ·go_wp2_with (at_builtin; refine ds_app rfl _ _ rfl (HD6.out.alloc hB6 _) rfl w6.heap.size 0 2 2 [48, UInt8.ofNat (48 + x)] rfl rfl (by omega) (news_new w6 [48, UInt8.ofNat (48 + x)] _ (by simp [cel]; omega)) (by simp; omega) (by simp; omega) ?_)
   intro g7 n7 w7 hd7 hB7
   have HD7 := Lib.hid hd7
   clear hd7
   go_wp2_with fail
   rw [<- H.out.2.2]
   refine efg_fin HD7.out ?_
   rw [fmtE_p HX.out (by omega), expo1 (by omega), take_one H.out.2.1, if_pos h1]; simp [sgnB]
  ·by_cases h100 : x < 100
   ·go_wp2_with (at_builtin; refine ds_app rfl _ _ rfl (HD6.out.alloc hB6 _) rfl w6.heap.size 0 2 2 [UInt8.ofNat (48 + x / 10), UInt8.ofNat (48 + x % 10)] rfl rfl (by omega) (news_new w6 [UInt8.ofNat (48 + x / 10), UInt8.ofNat (48 + x % 10)] _ (by simp [cel]; omega)) (by simp; omega) (by simp; omega) ?_)
    intro g7 n7 w7 hd7 hB7
    have HD7 := Lib.hid hd7
    clear hd7
    go_wp2_with fail
    rw [<- H.out.2.2]
    refine efg_fin HD7.out ?_
    rw [fmtE_p HX.out (by omega), expo2 (by omega), take_one H.out.2.1, if_pos h1]; simp [sgnB]
   ·go_wp2_with (at_builtin; refine ds_app rfl _ _ rfl (HD6.out.alloc hB6 _) rfl w6.heap.size 0 3 3 [UInt8.ofNat (48 + x / 100), UInt8.ofNat (48 + x / 10 % 10), UInt8.ofNat (48 + x % 10)] rfl rfl (by omega) (news_new w6 [UInt8.ofNat (48 + x / 100), UInt8.ofNat (48 + x / 10 % 10), UInt8.ofNat (48 + x % 10)] _ (by simp [cel]; omega)) (by simp; omega) (by simp; omega) ?_)
    intro g7 n7 w7 hd7 hB7
    have HD7 := Lib.hid hd7
    clear hd7
    go_wp2_with fail
    rw [<- H.out.2.2]
    refine efg_fin HD7.out ?_
    rw [fmtE_p HX.out (by omega), expo3 (by omega), take_one H.out.2.1, if_pos h1]; simp [sgnB]
theorem fmtEFG_enom (W0 : World) (B : Nat) (v : Value) (sb : Nat) (dp : Int) (S L : List UInt8) (w : World) (hS : 1 <= S.length) (hp1 : -1000 <= dp) (hp2 : dp <= 1000) (he : dp - 1 < -4)
  (hL : L.length <= 1000) (hB : B <= w.heap.size) (h : DS W0 B sb S w v L) :
  Calls Tryz.prog 95 #[v, .bool true, .slice (some ⟨sb, 0, none⟩) 32 32, .int .i64 dp, .int .i64 1, .int .i64 1, .int .u8 103, .bool true] w (EfgPost W0 B sb S L (fmtE true S 1 dp)) := by
 obtain ⟨c0, hc0⟩ : ∃ c, S[0]? = some c := ⟨_, List.getElem?_eq_getElem (by omega)⟩
 obtain ⟨Q, hQ⟩ : ∃ Q, EfgPost W0 B sb S L (fmtE true S 1 dp) = Q := ⟨_, rfl⟩
 rw [hQ]
 have H := Lib.hid (And.intro h (And.intro hc0 hQ))
 clear h hc0 hQ
 go_enter Tryz.func95, Tryz.ntmps95
 go_wp2_with (at_builtin; refine ds_app rfl _ _ rfl (H.out.1.alloc hB _) rfl w.heap.size 0 1 1 [45] rfl rfl (by omega) (news_new w [45] _ rfl) (by simp; omega) (by simp; omega) ?_)
 intro g1 n1 w1 hd1 hB1
 have HD1 := Lib.hid hd1
 clear hd1
 have hcell := HD1.out.hby 0 c0 H.out.2.1
 go_wp2_with (at_builtin; refine ds_app rfl _ _ rfl (HD1.out.alloc hB1 _) rfl w1.heap.size 0 1 1 [c0] rfl rfl (by omega) (news_new w1 [c0] _ rfl) (by simp; omega) (by simp; omega) ?_)
 intro g2 n2 w2 hd2 hB2
 have HD2 := Lib.hid hd2
 clear hd2
 clear hcell
 go_wp2_with (at_builtin; refine ds_app rfl _ _ rfl (HD2.out.alloc hB2 _) rfl w2.heap.size 0 1 1 [101] rfl rfl (by omega) (news_new w2 [101] _ rfl) (by simp; omega) (by simp; omega) ?_)
 intro g3 n3 w3 hd3 hB3
 have HD3 := Lib.hid hd3
 clear hd3
 go_wp2_with (at_builtin; refine ds_app rfl _ _ rfl (HD3.out.alloc hB3 _) rfl w3.heap.size 0 1 1 [45] rfl rfl (by omega) (news_new w3 [45] _ rfl) (by simp; omega) (by simp; omega) ?_)
 intro g4 n4 w4 hd4 hB4
 have HD4 := Lib.hid hd4
 clear hd4
 obtain ⟨x, hx⟩ : ∃ x : Nat, dp = 1 - (x : Int) := ⟨_, (show dp = 1 - ((1 - dp).toNat : Int) by omega)⟩
 have hx5 : 5 <= x := by omega
 have hx9 : x <= 1001 := by omega
 rw [show -(dp - 1) = (x : Int) from by omega]
 have HX := Lib.hid hx
 clear hx he hp1 hp2
 by_cases h10 : x < 10
 ·go_wp2_with (at_builtin; refine ds_app rfl _ _ rfl (HD4.out.alloc hB4 _) rfl w4.heap.size 0 2 2 [48, UInt8.ofNat (48 + x)] rfl rfl (by omega) (news_new w4 [48, UInt8.ofNat (48 + x)] _ (by simp [cel]; omega)) (by simp; omega) (by simp; omega) ?_)
  intro g5 n5 w5 hd5 hB5
  have HD5 := Lib.hid hd5
  clear hd5
  go_wp2_with fail
  rw [<- H.out.2.2]
  refine efg_fin HD5.out ?_
  rw [fmtE_m HX.out (by omega), expo1 (by omega), take_one H.out.2.1, if_neg (by decide)]; simp [sgnB]
 ·by_cases h100 : x < 100
  ·go_wp2_with (at_builtin; refine ds_app rfl _ _ rfl (HD4.out.alloc hB4 _) rfl w4.heap.size 0 2 2 [UInt8.ofNat (48 + x / 10), UInt8.ofNat (48 + x % 10)] rfl rfl (by omega) (news_new w4 [UInt8.ofNat (48 + x / 10), UInt8.ofNat (48 + x % 10)] _ (by simp [cel]; omega)) (by simp; omega) (by simp; omega) ?_)
   intro g5 n5 w5 hd5 hB5
   have HD5 := Lib.hid hd5
   clear hd5
   go_wp2_with fail
   rw [<- H.out.2.2]
   refine efg_fin HD5.out ?_
   rw [fmtE_m HX.out (by omega), expo2 (by omega), take_one H.out.2.1, if_neg (by decide)]; simp [sgnB]
  ·go_wp2_with (at_builtin; refine ds_app rfl _ _ rfl (HD4.out.alloc hB4 _) rfl w4.heap.size 0 3 3 [UInt8.ofNat (48 + x / 100), UInt8.ofNat (48 + x / 10 % 10), UInt8.ofNat (48 + x % 10)] rfl rfl (by omega) (news_new w4 [UInt8.ofNat (48 + x / 100), UInt8.ofNat (48 + x / 10 % 10), UInt8.ofNat (48 + x % 10)] _ (by simp [cel]; omega)) (by simp; omega) (by simp; omega) ?_)
   intro g5 n5 w5 hd5 hB5
   have HD5 := Lib.hid hd5
   clear hd5
   go_wp2_with fail
   rw [<- H.out.2.2]
   refine efg_fin HD5.out ?_
   rw [fmtE_m HX.out (by omega), expo3 (by omega), take_one H.out.2.1, if_neg (by decide)]; simp [sgnB]
theorem fmtEFG_enop (W0 : World) (B : Nat) (v : Value) (sb : Nat) (dp : Int) (S L : List UInt8) (w : World) (hS : 1 <= S.length) (hp1 : -1000 <= dp) (hp2 : dp <= 1000) (he : 6 <= dp - 1)
  (hL : L.length <= 1000) (hB : B <= w.heap.size) (h : DS W0 B sb S w v L) :
  Calls Tryz.prog 95 #[v, .bool true, .slice (some ⟨sb, 0, none⟩) 32 32, .int .i64 dp, .int .i64 1, .int .i64 1, .int .u8 103, .bool true] w (EfgPost W0 B sb S L (fmtE true S 1 dp)) := by
 obtain ⟨c0, hc0⟩ : ∃ c, S[0]? = some c := ⟨_, List.getElem?_eq_getElem (by omega)⟩
 obtain ⟨Q, hQ⟩ : ∃ Q, EfgPost W0 B sb S L (fmtE true S 1 dp) = Q := ⟨_, rfl⟩
 rw [hQ]
 have H := Lib.hid (And.intro h (And.intro hc0 hQ))
 clear h hc0 hQ
 go_enter Tryz.func95, Tryz.ntmps95
 go_wp2_with (at_builtin; refine ds_app rfl _ _ rfl (H.out.1.alloc hB _) rfl w.heap.size 0 1 1 [45] rfl rfl (by omega) (news_new w [45] _ rfl) (by simp; omega) (by simp; omega) ?_)
 intro g1 n1 w1 hd1 hB1
 have HD1 := Lib.hid hd1
 clear hd1
 have hcell := HD1.out.hby 0 c0 H.out.2.1
 go_wp2_with (at_builtin; refine ds_app rfl _ _ rfl (HD1.out.alloc hB1 _) rfl w1.heap.size 0 1 1 [c0] rfl rfl (by omega) (news_new w1 [c0] _ rfl) (by simp; omega) (by simp; omega) ?_)
 intro g2 n2 w2 hd2 hB2
 have HD2 := Lib.hid hd2
 clear hd2
 clear hcell
 go_wp2_with (at_builtin; refine ds_app rfl _ _ rfl (HD2.out.alloc hB2 _) rfl w2.heap.size 0 1 1 [101] rfl rfl (by omega) (news_new w2 [101] _ rfl) (by simp; omega) (by simp; omega) ?_)
 intro g3 n3 w3 hd3 hB3
 have HD3 := Lib.hid hd3
 clear hd3
 go_wp2_with (at_builtin; refine ds_app rfl _ _ rfl (HD3.out.alloc hB3 _) rfl w3.heap.size 0 1 1 [43] rfl rfl (by omega) (news_new w3 [43] _ rfl) (by simp; omega) (by simp; omega) ?_)
 intro g4 n4 w4 hd4 hB4
 have HD4 := Lib.hid hd4
 clear hd4
 obtain ⟨x, hx⟩ : ∃ x : Nat, dp = 1 + (x : Int) := ⟨_, (show dp = 1 + ((dp - 1).toNat : Int) by omega)⟩
 have hx5 : 5 <= x := by omega
 have hx9 : x <= 1001 := by omega
 rw [show dp - 1 = (x : Int) from by omega]
 have HX := Lib.hid hx
 clear hx he hp1 hp2
 by_cases h10 : x < 10
 ·go_wp2_with (at_builtin; refine ds_app rfl _ _ rfl (HD4.out.alloc hB4 _) rfl w4.heap.size 0 2 2 [48, UInt8.ofNat (48 + x)] rfl rfl (by omega) (news_new w4 [48, UInt8.ofNat (48 + x)] _ (by simp [cel]; omega)) (by simp; omega) (by simp; omega) ?_)
  intro g5 n5 w5 hd5 hB5
  have HD5 := Lib.hid hd5
  clear hd5
  go_wp2_with fail
  rw [<- H.out.2.2]
  refine efg_fin HD5.out ?_
  rw [fmtE_p HX.out (by omega), expo1 (by omega), take_one H.out.2.1, if_neg (by decide)]; simp [sgnB]
 ·by_cases h100 : x < 100
  ·go_wp2_with (at_builtin; refine ds_app rfl _ _ rfl (HD4.out.alloc hB4 _) rfl w4.heap.size 0 2 2 [UInt8.ofNat (48 + x / 10), UInt8.ofNat (48 + x % 10)] rfl rfl (by omega) (news_new w4 [UInt8.ofNat (48 + x / 10), UInt8.ofNat (48 + x % 10)] _ (by simp [cel]; omega)) (by simp; omega) (by simp; omega) ?_)
   intro g5 n5 w5 hd5 hB5
   have HD5 := Lib.hid hd5
   clear hd5
   go_wp2_with fail
   rw [<- H.out.2.2]
   refine efg_fin HD5.out ?_
   rw [fmtE_p HX.out (by omega), expo2 (by omega), take_one H.out.2.1, if_neg (by decide)]; simp [sgnB]
  ·go_wp2_with (at_builtin; refine ds_app rfl _ _ rfl (HD4.out.alloc hB4 _) rfl w4.heap.size 0 3 3 [UInt8.ofNat (48 + x / 100), UInt8.ofNat (48 + x / 10 % 10), UInt8.ofNat (48 + x % 10)] rfl rfl (by omega) (news_new w4 [UInt8.ofNat (48 + x / 100), UInt8.ofNat (48 + x / 10 % 10), UInt8.ofNat (48 + x % 10)] _ (by simp [cel]; omega)) (by simp; omega) (by simp; omega) ?_)
   intro g5 n5 w5 hd5 hB5
   have HD5 := Lib.hid hd5
   clear hd5
   go_wp2_with fail
   rw [<- H.out.2.2]
   refine efg_fin HD5.out ?_
   rw [fmtE_p HX.out (by omega), expo3 (by omega), take_one H.out.2.1, if_neg (by decide)]; simp [sgnB]
theorem fmtEFG_epmm (W0 : World) (B : Nat) (v : Value) (sb nd : Nat) (dp : Int) (S L : List UInt8) (w : World) (h1 : 1 < nd) (h2 : nd <= 20) (hS : nd <= S.length) (hp1 : -1000 <= dp) (hp2 : dp <= 1000) (he : dp - 1 < -4)
  (hL : L.length <= 1000) (hB : B <= w.heap.size) (h : DS W0 B sb S w v L) :
  Calls Tryz.prog 95 #[v, .bool false, .slice (some ⟨sb, 0, none⟩) 32 32, .int .i64 dp, .int .i64 nd, .int .i64 nd, .int .u8 103, .bool true] w (EfgPost W0 B sb S L (fmtE false S nd dp)) := by
 obtain ⟨c0, hc0⟩ : ∃ c, S[0]? = some c := ⟨_, List.getElem?_eq_getElem (by omega)⟩
 obtain ⟨Q, hQ⟩ : ∃ Q, EfgPost W0 B sb S L (fmtE false S nd dp) = Q := ⟨_, rfl⟩
 rw [hQ]
 have H := Lib.hid (And.intro h (And.intro hc0 hQ))
 clear h hc0 hQ
 go_enter Tryz.func95, Tryz.ntmps95
 have hcell := H.out.1.hby 0 c0 H.out.2.1
 go_wp2_with (at_builtin; refine ds_app rfl _ _ rfl (H.out.1.alloc hB _) rfl w.heap.size 0 1 1 [c0] rfl rfl (by omega) (news_new w [c0] _ rfl) (by simp; omega) (by simp; omega) ?_)
 intro g1 n1 w1 hd1 hB1
 have HD1 := Lib.hid hd1
 clear hd1
 clear hcell
 go_wp2_with (at_builtin; refine ds_app rfl _ _ rfl (HD1.out.alloc hB1 _) rfl w1.heap.size 0 1 1 [46] rfl rfl (by omega) (news_new w1 [46] _ rfl) (by simp; omega) (by simp; omega) ?_)
 intro g2 n2 w2 hd2 hB2
 have HD2 := Lib.hid hd2
 clear hd2
 go_wp2_with (at_builtin; refine ds_app rfl _ _ rfl HD2.out rfl sb 1 (nd - 1) 31 ((S.take nd).drop 1) rfl (by simp; omega) (by omega) (tail_cells HD2.out.hby) (by simp; omega) (by omega) ?_)
 intro g3 n3 w3 hd3 hB3
 have HD3 := Lib.hid hd3
 clear hd3
 go_wp2_with fail
 go_loopg [0, 114] 0 (fun n v0 v114 wr => v0 = .slice (some ⟨g3, 0, none⟩) (L.length + (nd - 1 + 1 + 1)) n3 /\ v114 = .int .i64 0 /\ w3 = wr)
 case atStart => exact ⟨rfl, rfl, rfl⟩
 case round =>
  obtain ⟨rfl, rfl, rfl⟩ := hrel
  go_wp2_with (at_builtin; refine ds_app rfl _ _ rfl (HD3.out.alloc hB3 _) rfl w3.heap.size 0 1 1 [101] rfl rfl (by omega) (news_new w3 [101] _ rfl) (by simp; omega) (by simp; omega) ?_)
  intro g4 n4 w4 hd4 hB4
  have HD4 := Lib.hid hd4
  clear hd4
  go_wp2_with (at_builtin; refine ds_app rfl _ _ rfl (HD4.out.alloc hB4 _) rfl w4.heap.size 0 1 1 [45] rfl rfl (by omega) (news_new w4 [45] _ rfl) (by simp; omega) (by simp; omega) ?_)
  intro g5 n5 w5 hd5 hB5
  have HD5 := Lib.hid hd5
  clear hd5
  obtain ⟨x, hx⟩ : ∃ x : Nat, dp = 1 - (x : Int) := ⟨_, (show dp = 1 - ((1 - dp).toNat : Int) by omega)⟩
  have hx5 : 5 <= x := by omega
  have hx9 : x <= 1001 := by omega
  rw [show -(dp - 1) = (x : Int) from by omega]
  have HX := Lib.hid hx
  clear hx he hp1 hp2
  by_cases h10 : x < 10
  ·go_wp2_with (at_builtin; refine ds_app rfl _ _ rfl (HD5.out.alloc hB5 _) rfl w5.heap.size 0 2 2 [48, UInt8.ofNat (48 + x)] rfl rfl (by omega) (news_new w5 [48, UInt8.ofNat (48 + x)] _ (by simp [cel]; omega)) (by simp; omega) (by simp; omega) ?_)
   intro g6 n6 w6 hd6 hB6
   have HD6 := Lib.hid hd6
   clear hd6
   go_wp2_with fail
   rw [<- H.out.2.2]
   refine efg_fin HD6.out ?_
   rw [fmtE_m HX.out (by omega), expo1 (by omega), take_one H.out.2.1, if_pos h1]; simp [sgnB]
  ·by_cases h100 : x < 100
   ·go_wp2_with (at_builtin; refine ds_app rfl _ _ rfl (HD5.out.alloc hB5 _) rfl w5.heap.size 0 2 2 [UInt8.ofNat (48 + x / 10), UInt8.ofNat (48 + x % 10)] rfl rfl (by omega) (news_new w5 [UInt8.ofNat (48 + x / 10), UInt8.ofNat (48 + x % 10)] _ (by simp [cel]; omega)) (by simp; omega) (by simp; omega) ?_)
    intro g6 n6 w6 hd6 hB6
    have HD6 := Lib.hid hd6
    clear hd6
    go_wp2_with fail
    rw [<- H.out.2.2]
    refine efg_fin HD6.out ?_
    rw [fmtE_m HX.out (by omega), expo2 (by omega), take_one H.out.2.1, if_pos h1]; simp [sgnB]
   ·go_wp2_with (at_builtin; refine ds_app rfl _ _ rfl (HD5.out.alloc hB5 _) rfl w5.heap.size 0 3 3 [UInt8.ofNat (48 + x / 100), UInt8.ofNat (48 + x / 10 % 10), UInt8.ofNat (48 + x % 10)] rfl rfl (by omega) (news_new w5 [UInt8.ofNat (48 + x / 100), UInt8.ofNat (48 + x / 10 % 10), UInt8.ofNat (48 + x % 10)] _ (by simp [cel]; omega)) (by simp; omega) (by simp; omega) ?_)
    intro g6 n6 w6 hd6 hB6
    have HD6 := Lib.hid hd6
    clear hd6
    go_wp2_with fail
    rw [<- H.out.2.2]
    refine efg_fin HD6.out ?_
    rw [fmtE_m HX.out (by omega), expo3 (by omega), take_one H.out.2.1, if_pos h1]; simp [sgnB]
theorem fmtEFG_epmp (W0 : World) (B : Nat) (v : Value) (sb nd : Nat) (dp : Int) (S L : List UInt8) (w : World) (h1 : 1 < nd) (h2 : nd <= 20) (hS : nd <= S.length) (hp1 : -1000 <= dp) (hp2 : dp <= 1000) (he : 6 <= dp - 1)
  (hL : L.length <= 1000) (hB : B <= w.heap.size) (h : DS W0 B sb S w v L) :
  Calls Tryz.prog 95 #[v, .bool false, .slice (some ⟨sb, 0, none⟩) 32 32, .int .i64 dp, .int .i64 nd, .int .i64 nd, .int .u8 103, .bool true] w (EfgPost W0 B sb S L (fmtE false S nd dp)) := by
 obtain ⟨c0, hc0⟩ : ∃ c, S[0]? = some c := ⟨_, List.getElem?_eq_getElem (by omega)⟩
 obtain ⟨Q, hQ⟩ : ∃ Q, EfgPost W0 B sb S L (fmtE false S nd dp) = Q := ⟨_, rfl⟩
 rw [hQ]
 have H := Lib.hid (And.intro h (And.intro hc0 hQ))
 clear h hc0 hQ
 go_enter Tryz.func95, Tryz.ntmps95
 have hcell := H.out.1.hby 0 c0 H.out.2.1
 go_wp2_with (at_builtin; refine ds_app rfl _ _ rfl (H.out.1.alloc hB _) rfl w.heap.size 0 1 1 [c0] rfl rfl (by omega) (news_new w [c0] _ rfl) (by simp; omega) (by simp; omega) ?_)
 intro g1 n1 w1 hd1 hB1
 have HD1 := Lib.hid hd1
 clear hd1
 clear hcell
 go_wp2_with (at_builtin; refine ds_app rfl _ _ rfl (HD1.out.alloc hB1 _) rfl w1.heap.size 0 1 1 [46] rfl rfl (by omega) (news_new w1 [46] _ rfl) (by simp; omega) (by simp; omega) ?_)
 intro g2 n2 w2 hd2 hB2
 have HD2 := Lib.hid hd2
 clear hd2
 go_wp2_with (at_builtin; refine ds_app rfl _ _ rfl HD2.out rfl sb 1 (nd - 1) 31 ((S.take nd).drop 1) rfl (by simp; omega) (by omega) (tail_cells HD2.out.hby) (by simp; omega) (by omega) ?_)
 intro g3 n3 w3 hd3 hB3
 have HD3 := Lib.hid hd3
 clear hd3
 go_wp2_with fail
 go_loopg [0, 114] 0 (fun n v0 v114 wr => v0 = .slice (some ⟨g3, 0, none⟩) (L.length + (nd - 1 + 1 + 1)) n3 /\ v114 = .int .i64 0 /\ w3 = wr)
 case atStart => exact ⟨rfl, rfl, rfl⟩
 case round =>
  obtain ⟨rfl, rfl, rfl⟩ := hrel
  go_wp2_with (at_builtin; refine ds_app rfl _ _ rfl (HD3.out.alloc hB3 _) rfl w3.heap.size 0 1 1 [101] rfl rfl (by omega) (news_new w3 [101] _ rfl) (by simp; omega) (by simp; omega) ?_)
  intro g4 n4 w4 hd4 hB4
  have HD4 := Lib.hid hd4
  clear hd4
  go_wp2_with (at_builtin; refine ds_app rfl _ _ rfl (HD4.out.alloc hB4 _) rfl w4.heap.size 0 1 1 [43] rfl rfl (by omega) (news_new w4 [43] _ rfl) (by simp; omega) (by simp; omega) ?_)
  intro g5 n5 w5 hd5 hB5
  have HD5 := Lib.hid hd5
  clear hd5
  obtain ⟨x, hx⟩ : ∃ x : Nat, dp = 1 + (x : Int) := ⟨_, (show dp = 1 + ((dp - 1).toNat : Int) by omega)⟩
  have hx5 : 5 <= x := by omega
  have hx9 : x <= 1001 := by omega
  rw [show dp - 1 = (x : Int) from by omega]
  have HX := Lib.hid hx
  clear hx he hp1 hp2
  by_cases h10 : x < 10
  ·go_wp2_with (at_builtin; refine ds_app rfl _ _ rfl (HD5.out.alloc hB5 _) rfl w5.heap.size 0 2 2 [48, UInt8.ofNat (48 + x)] rfl rfl (by omega) (news_new w5 [48, UInt8.ofNat (48 + x)] _ (by simp [cel]; omega)) (by simp; omega) (by simp; omega) ?_)
   intro g6 n6 w6 hd6 hB6
   have HD6 := Lib.hid hd6
   clear hd6
   go_wp2_with fail
   rw [<- H.out.2.2]
   refine efg_fin HD6.out ?_
   rw [fmtE_p HX.out (by omega), expo1 (by omega), take_one H.out.2.1, if_pos h1]; simp [sgnB]
  ·by_cases h100 : x < 100
   ·go_wp2_with (at_builtin; refine ds_app rfl _ _ rfl (HD5.out.alloc hB5 _) rfl w5.heap.size 0 2 2 [UInt8.ofNat (48 + x / 10), UInt8.ofNat (48 + x % 10)] rfl rfl (by omega) (news_new w5 [UInt8.ofNat (48 + x / 10), UInt8.ofNat (48 + x % 10)] _ (by simp [cel]; omega)) (by simp; omega) (by simp; omega) ?_)
    intro g6 n6 w6 hd6 hB6
    have HD6 := Lib.hid hd6
    clear hd6
    go_wp2_with fail
    rw [<- H.out.2.2]
    refine efg_fin HD6.out ?_
    rw [fmtE_p HX.out (by omega), expo2 (by omega), take_one H.out.2.1, if_pos h1]; simp [sgnB]
   ·go_wp2_with (at_builtin; refine ds_app rfl _ _ rfl (HD5.out.alloc hB5 _) rfl w5.heap.size 0 3 3 [UInt8.ofNat (48 + x / 100), UInt8.ofNat (48 + x / 10 % 10), UInt8.ofNat (48 + x % 10)] rfl rfl (by omega) (news_new w5 [UInt8.ofNat (48 + x / 100), UInt8.ofNat (48 + x / 10 % 10), UInt8.ofNat (48 + x % 10)] _ (by simp [cel]; omega)) (by simp; omega) (by simp; omega) ?_)
    intro g6 n6 w6 hd6 hB6
    have HD6 := Lib.hid hd6
    clear hd6
    go_wp2_with fail
    rw [<- H.out.2.2]
    refine efg_fin HD6.out ?_
    rw [fmtE_p HX.out (by omega), expo3 (by omega), take_one H.out.2.1, if_pos h1]; simp [sgnB]
theorem fmtEFG_epom (W0 : World) (B : Nat) (v : Value) (sb : Nat) (dp : Int) (S L : List UInt8) (w : World) (hS : 1 <= S.length) (hp1 : -1000 <= dp) (hp2 : dp <= 1000) (he : dp - 1 < -4)
  (hL : L.length <= 1000) (hB : B <= w.heap.size) (h : DS W0 B sb S w v L) :
  Calls Tryz.prog 95 #[v, .bool false, .slice (some ⟨sb, 0, none⟩) 32 32, .int .i64 dp, .int .i64 1, .int .i64 1, .int .u8 103, .bool true] w (EfgPost W0 B sb S L (fmtE false S 1 dp)) := by
 obtain ⟨c0, hc0⟩ : ∃ c, S[0]? = some c := ⟨_, List.getElem?_eq_getElem (by omega)⟩
 obtain ⟨Q, hQ⟩ : ∃ Q, EfgPost W0 B sb S L (fmtE false S 1 dp) = Q := ⟨_, rfl⟩
 rw [hQ]
 have H := Lib.hid (And.intro h (And.intro hc0 hQ))
 clear h hc0 hQ
 go_enter Tryz.func95, Tryz.ntmps95
 have hcell := H.out.1.hby 0 c0 H.out.2.1
 go_wp2_with (at_builtin; refine ds_app rfl _ _ rfl (H.out.1.alloc hB _) rfl w.heap.size 0 1 1 [c0] rfl rfl (by omega) (news_new w [c0] _ rfl) (by simp; omega) (by simp; omega) ?_)
 intro g1 n1 w1 hd1 hB1
 have HD1 := Lib.hid hd1
 clear hd1
 clear hcell
 go_wp2_with (at_builtin; refine ds_app rfl _ _ rfl (HD1.out.alloc hB1 _) rfl w1.heap.size 0 1 1 [101] rfl rfl (by omega) (news_new w1 [101] _ rfl) (by simp; omega) (by simp; omega) ?_)
 intro g2 n2 w2 hd2 hB2
 have HD2 := Lib.hid hd2
 clear hd2
 go_wp2_with (at_builtin; refine ds_app rfl _ _ rfl (HD2.out.alloc hB2 _) rfl w2.heap.size 0 1 1 [45] rfl rfl (by omega) (news_new w2 [45] _ rfl) (by simp; omega) (by simp; omega) ?_)
 intro g3 n3 w3 hd3 hB3
 have HD3 := Lib.hid hd3
 clear hd3
 obtain ⟨x, hx⟩ : ∃ x : Nat, dp = 1 - (x : Int) := ⟨_, (show dp = 1 - ((1 - dp).toNat : Int) by omega)⟩
 have hx5 : 5 <= x := by omega
 have hx9 : x <= 1001 := by omega
 rw [show -(dp - 1) = (x : Int) from by omega]
 have HX := Lib.hid hx
 clear hx he hp1 hp2
 by_cases h10 : x < 10
 ·go_wp2_with (at_builtin; refine ds_app rfl _ _ rfl (HD3.out.alloc hB3 _) rfl w3.heap.size 0 2 2 [48, UInt8.ofNat (48 + x)] rfl rfl (by omega) (news_new w3 [48, UInt8.ofNat (48 + x)] _ (by simp [cel]; omega)) (by simp; omega) (by simp; omega) ?_)
  intro g4 n4 w4 hd4 hB4
  have HD4 := Lib.hid hd4
  clear hd4
  go_wp2_with fail
  rw [<- H.out.2.2]
  refine efg_fin HD4.out ?_
  rw [fmtE_m HX.out (by omega), expo1 (by omega), take_one H.out.2.1, if_neg (by decide)]; simp [sgnB]
 ·by_cases h100 : x < 100
  ·go_wp2_with (at_builtin; refine ds_app rfl _ _ rfl (HD3.out.alloc hB3 _) rfl w3.heap.size 0 2 2 [UInt8.ofNat (48 + x / 10), UInt8.ofNat (48 + x % 10)] rfl rfl (by omega) (news_new w3 [UInt8.ofNat (48 + x / 10), UInt8.ofNat (48 + x % 10)] _ (by simp [cel]; omega)) (by simp; omega) (by simp; omega) ?_)
   intro g4 n4 w4 hd4 hB4
   have HD4 := Lib.hid hd4
   clear hd4
   go_wp2_with fail
   rw [<- H.out.2.2]
   refine efg_fin HD4.out ?_
   rw [fmtE_m HX.out (by omega), expo2 (by omega), take_one H.out.2.1, if_neg (by decide)]; simp [sgnB]
  ·go_wp2_with (at_builtin; refine ds_app rfl _ _ rfl (HD3.out.alloc hB3 _) rfl w3.heap.size 0 3 3 [UInt8.ofNat (48 + x / 100), UInt8.ofNat (48 + x / 10 % 10), UInt8.ofNat (48 + x % 10)] rfl rfl (by omega) (news_new w3 [UInt8.ofNat (48 + x / 100), UInt8.ofNat (48 + x / 10 % 10), UInt8.ofNat (48 + x % 10)] _ (by simp [cel]; omega)) (by simp; omega) (by simp; omega) ?_)
   intro g4 n4 w4 hd4 hB4
   have HD4 := Lib.hid hd4
   clear hd4
   go_wp2_with fail
   rw [<- H.out.2.2]
   refine efg_fin HD4.out ?_
   rw [fmtE_m HX.out (by omega), expo3 (by omega), take_one H.out.2.1, if_neg (by decide)]; simp [sgnB]
theorem fmtEFG_epop (W0 : World) (B : Nat) (v : Value) (sb : Nat) (dp : Int) (S L : List UInt8) (w : World) (hS : 1 <= S.length) (hp1 : -1000 <= dp) (hp2 : dp <= 1000) (he : 6 <= dp - 1)
  (hL : L.length <= 1000) (hB : B <= w.heap.size) (h : DS W0 B sb S w v L) :
  Calls Tryz.prog 95 #[v, .bool false, .slice (some ⟨sb, 0, none⟩) 32 32, .int .i64 dp, .int .i64 1, .int .i64 1, .int .u8 103, .bool true] w (EfgPost W0 B sb S L (fmtE false S 1 dp)) := by
 obtain ⟨c0, hc0⟩ : ∃ c, S[0]? = some c := ⟨_, List.getElem?_eq_getElem (by omega)⟩
 obtain ⟨Q, hQ⟩ : ∃ Q, EfgPost W0 B sb S L (fmtE false S 1 dp) = Q := ⟨_, rfl⟩
 rw [hQ]
 have H := Lib.hid (And.intro h (And.intro hc0 hQ))
 clear h hc0 hQ
 go_enter Tryz.func95, Tryz.ntmps95
 have hcell := H.out.1.hby 0 c0 H.out.2.1
 go_wp2_with (at_builtin; refine ds_app rfl _ _ rfl (H.out.1.alloc hB _) rfl w.heap.size 0 1 1 [c0] rfl rfl (by omega) (news_new w [c0] _ rfl) (by simp; omega) (by simp; omega) ?_)
 intro g1 n1 w1 hd1 hB1
 have HD1 := Lib.hid hd1
 clear hd1
 clear hcell
 go_wp2_with (at_builtin; refine ds_app rfl _ _ rfl (HD1.out.alloc hB1 _) rfl w1.heap.size 0 1 1 [101] rfl rfl (by omega) (news_new w1 [101] _ rfl) (by simp; omega) (by simp; omega) ?_)
 intro g2 n2 w2 hd2 hB2
 have HD2 := Lib.hid hd2
 clear hd2
 go_wp2_with (at_builtin; refine ds_app rfl _ _ rfl (HD2.out.alloc hB2 _) rfl w2.heap.size 0 1 1 [43] rfl rfl (by omega) (news_new w2 [43] _ rfl) (by simp; omega) (by simp; omega) ?_)
 intro g3 n3 w3 hd3 hB3
 have HD3 := Lib.hid hd3
 clear hd3
 obtain ⟨x, hx⟩ : ∃ x : Nat, dp = 1 + (x : Int) := ⟨_, (show dp = 1 + ((dp - 1).toNat : Int) by omega)⟩
 have hx5 : 5 <= x := by omega
 have hx9 : x <= 1001 := by omega
 rw [show dp - 1 = (x : Int) from by omega]
 have HX := Lib.hid hx
 clear hx he hp1 hp2
 by_cases h10 : x < 10
 ·go_wp2_with (at_builtin; refine ds_app rfl _ _ rfl (HD3.out.alloc hB3 _) rfl w3.heap.size 0 2 2 [48, UInt8.ofNat (48 + x)] rfl rfl (by omega) (news_new w3 [48, UInt8.ofNat (48 + x)] _ (by simp [cel]; omega)) (by simp; omega) (by simp; omega) ?_)
  intro g4 n4 w4 hd4 hB4
  have HD4 := Lib.hid hd4
  clear hd4
  go_wp2_with fail
  rw [<- H.out.2.2]
  refine efg_fin HD4.out ?_
  rw [fmtE_p HX.out (by omega), expo1 (by omega), take_one H.out.2.1, if_neg (by decide)]; simp [sgnB]
 ·by_cases h100 : x < 100
  ·go_wp2_with (at_builtin; refine ds_app rfl _ _ rfl (HD3.out.alloc hB3 _) rfl w3.heap.size 0 2 2 [UInt8.ofNat (48 + x / 10), UInt8.ofNat (48 + x % 10)] rfl rfl (by omega) (news_new w3 [UInt8.ofNat (48 + x / 10), UInt8.ofNat (48 + x % 10)] _ (by simp [cel]; omega)) (by simp; omega) (by simp; omega) ?_)
   intro g4 n4 w4 hd4 hB4
   have HD4 := Lib.hid hd4
   clear hd4
   go_wp2_with fail
   rw [<- H.out.2.2]
   refine efg_fin HD4.out ?_
   rw [fmtE_p HX.out (by omega), expo2 (by omega), take_one H.out.2.1, if_neg (by decide)]; simp [sgnB]
  ·go_wp2_with (at_builtin; refine ds_app rfl _ _ rfl (HD3.out.alloc hB3 _) rfl w3.heap.size 0 3 3 [UInt8.ofNat (48 + x / 100), UInt8.ofNat (48 + x / 10 % 10), UInt8.ofNat (48 + x % 10)] rfl rfl (by omega) (news_new w3 [UInt8.ofNat (48 + x / 100), UInt8.ofNat (48 + x / 10 % 10), UInt8.ofNat (48 + x % 10)] _ (by simp [cel]; omega)) (by simp; omega) (by simp; omega) ?_)
   intro g4 n4 w4 hd4 hB4
   have HD4 := Lib.hid hd4
   clear hd4
   go_wp2_with fail
   rw [<- H.out.2.2]
   refine efg_fin HD4.out ?_
   rw [fmtE_p HX.out (by omega), expo3 (by omega), take_one H.out.2.1, if_neg (by decide)]; simp [sgnB]
theorem fmtEFG_e (W0 : World) (B : Nat) (v : Value) (neg : Bool) (sb nd : Nat) (dp : Int) (S L : List UInt8) (w : World) (h1 : 1 <= nd) (h2 : nd <= 20) (hS : nd <= S.length) (hp1 : -1000 <= dp) (hp2 : dp <= 1000) (he : dp - 1 < -4 \/ 6 <= dp - 1)
  (hL : L.length <= 1000) (hB : B <= w.heap.size) (h : DS W0 B sb S w v L) :
  Calls Tryz.prog 95 #[v, .bool neg, .slice (some ⟨sb, 0, none⟩) 32 32, .int .i64 dp, .int .i64 nd, .int .i64 nd, .int .u8 103, .bool true] w (EfgPost W0 B sb S L (fmtE neg S nd dp)) := by
 by_cases hn : nd = 1
 ·subst hn
  rcases he with he | he
  ·cases neg
   ·exact fmtEFG_epom W0 B v sb dp S L w hS hp1 hp2 he hL hB h
   ·exact fmtEFG_enom W0 B v sb dp S L w hS hp1 hp2 he hL hB h
  ·cases neg
   ·exact fmtEFG_epop W0 B v sb dp S L w hS hp1 hp2 he hL hB h
   ·exact fmtEFG_enop W0 B v sb dp S L w hS hp1 hp2 he hL hB h
 ·rcases he with he | he
  ·cases neg
   ·exact fmtEFG_epmm W0 B v sb nd dp S L w (by omega) h2 hS hp1 hp2 he hL hB h
   ·exact fmtEFG_enmm W0 B v sb nd dp S L w (by omega) h2 hS hp1 hp2 he hL hB h
  ·cases neg
   ·exact fmtEFG_epmp W0 B v sb nd dp S L w (by omega) h2 hS hp1 hp2 he hL hB h
   ·exact fmtEFG_enmp W0 B v sb nd dp S L w (by omega) h2 hS hp1 hp2 he hL hB h
end Go.Proofs.YtdfolbmoohcblaaGreatDoor
