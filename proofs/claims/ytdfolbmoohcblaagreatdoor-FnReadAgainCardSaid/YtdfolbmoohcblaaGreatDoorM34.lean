/-
For FnReadAgain, part 34: W15b.
-/
import Derived.Test.YtdfolbmoohcblaaGreatDoorM33
set_option linter.all false
namespace Go.Proofs.YtdfolbmoohcblaaGreatDoor
set_option maxHeartbeats 4000000
set_option maxRecDepth 100000
open Go.RowKit
def fmtF (neg : Bool) (S : List UInt8) (nd : Nat) (dp : Int) : List UInt8 :=
 sgnB neg ++ (if 0 < dp then S.take (min nd dp.toNat) ++ List.replicate (dp.toNat - nd) 48 else [48]) ++ (if dp < nd then 46 :: (List.replicate (-dp).toNat 48 ++ (S.take nd).drop dp.toNat) else [])
theorem fmtF_m {neg : Bool} {S : List UInt8} {nd d : Nat} (hz : 0 < d) (hm : d < nd) : fmtF neg S nd (d : Int) = sgnB neg ++ S.take d ++ [46] ++ (S.drop d).take (nd - d) := by
 unfold fmtF
 rw [if_pos (by omega), if_pos (by omega), Int.toNat_natCast, show min nd d = d from by omega, show d - nd = 0 from by omega, show (-(d : Int)).toNat = 0 from by omega, List.drop_take]
 simp
theorem fmtF_b {neg : Bool} {S : List UInt8} {nd d : Nat} (hz : 0 < d) (hm : nd <= d) : fmtF neg S nd (d : Int) = sgnB neg ++ S.take nd ++ List.replicate (d - nd) 48 := by
 unfold fmtF
 rw [if_pos (by omega), if_neg (by omega), Int.toNat_natCast, show min nd d = nd from by omega]
 simp
theorem fmtF_z {neg : Bool} {S : List UInt8} {nd d : Nat} (h : 1 <= nd) : fmtF neg S nd (-(d : Int)) = sgnB neg ++ [48] ++ [46] ++ List.replicate d 48 ++ S.take nd := by
 unfold fmtF
 rw [if_neg (by omega), if_pos (by omega), show (- -(d : Int)).toNat = d from by omega, show (-(d : Int)).toNat = 0 from by omega]
 simp
theorem efg_fin2 {W0 : World} {B sb : Nat} {S L L' r : List UInt8} {w : World} {v : Value} (h : DS W0 B sb S w v L') (he : L' = L ++ r) (h0 : 0 < L'.length) : EfgPost W0 B sb S L r (.returned v) w := by
 obtain ⟨g, c, rfl, -, -⟩ := h.own.form h0
 exact efg_fin h he
def FRel (W0 : World) (B sb : Nat) (S : List UInt8) (Lk : Nat -> List UInt8) (m n : Nat) (v0 vi : Value) (wr : World) : Prop :=
 ∃ k : Nat, k + n = m /\ vi = .int .i64 k /\ B <= wr.heap.size /\ Hid (DS W0 B sb S wr v0 (Lk k))
theorem DS.cast {W0 : World} {B sb : Nat} {S L L' : List UInt8} {w : World} {v : Value} (h : DS W0 B sb S w v L) (e : L = L') : DS W0 B sb S w v L' := e ▸ h
theorem take_snoc {S : List UInt8} {k : Nat} {c : UInt8} (h : S[k]? = some c) : S.take (k + 1) = S.take k ++ [c] := by
 obtain ⟨hi, rfl⟩ := List.getElem?_eq_some_iff.1 h
 rw [List.take_succ_eq_append_getElem hi]
theorem drop_snoc {S : List UInt8} {o k : Nat} {c : UInt8} (h : S[o + k]? = some c) : (S.drop o).take (k + 1) = (S.drop o).take k ++ [c] := by
 apply take_snoc
 rw [List.getElem?_drop]; exact h
theorem fmtEFG_fnz (W0 : World) (B : Nat) (v : Value) (sb nd d : Nat) (S L : List UInt8) (w : World) (h1 : 1 <= nd) (h2 : nd <= 20) (hS : nd <= S.length) (hlo : d <= 3)
  (hL : L.length <= 1000) (hB : B <= w.heap.size) (h : DS W0 B sb S w v L) :
  Calls Tryz.prog 95 #[v, .bool true, .slice (some ⟨sb, 0, none⟩) 32 32, .int .i64 (-(d : Int)), .int .i64 nd, .int .i64 nd, .int .u8 103, .bool true] w (EfgPost W0 B sb S L (fmtF true S nd ((-(d : Int))))) := by
 obtain ⟨Q, hQ⟩ : ∃ Q, EfgPost W0 B sb S L (fmtF true S nd ((-(d : Int)))) = Q := ⟨_, rfl⟩
 rw [hQ]
 have H := Lib.hid (And.intro h hQ)
 clear h hQ
 go_enter Tryz.func95, Tryz.ntmps95
 go_wp2_with (at_builtin; refine ds_app rfl _ _ rfl (H.out.1.alloc hB _) rfl w.heap.size 0 1 1 [45] rfl rfl (by omega) (news_new w [45] _ rfl) (by simp; omega) (by simp; omega) ?_)
 intro g1 n1 w1 hd1 hB1
 have HD1 := Lib.hid hd1
 clear hd1
 go_wp2_with (at_builtin; refine ds_app rfl _ _ rfl (HD1.out.alloc hB1 _) rfl w1.heap.size 0 1 1 [48] rfl rfl (by omega) (news_new w1 [48] _ rfl) (by simp; omega) (by simp; omega) ?_)
 intro g2 n2 w2 hd2 hB2
 have HD2 := Lib.hid hd2
 clear hd2
 go_wp2_with (at_builtin; refine ds_app rfl _ _ rfl (HD2.out.alloc hB2 _) rfl w2.heap.size 0 1 1 [46] rfl rfl (by omega) (news_new w2 [46] _ rfl) (by simp; omega) (by simp; omega) ?_)
 intro g3 n3 w3 hd3 hB3
 have HD3 := Lib.hid hd3
 clear hd3
 go_wp2_with fail
 obtain ⟨r, hr⟩ : ∃ r : Nat, r = nd + d := ⟨nd + d, rfl⟩
 rw [show max ((nd : Int) + (d : Int)) 0 = (r : Int) from by omega]
 rw [show min (r : Int) (d : Int) = (d : Int) from by omega]
 rw [show (r : Int) - d = nd from by omega, show -(d : Int) + d = 0 from by omega]
 rw [show (nd : Int) - 0 = nd from by omega, show max 0 (nd : Int) = nd from by omega, show min (nd : Int) nd = nd from by omega, show (nd : Int) - nd = 0 from by omega, show max (0 : Int) 0 = 0 from by omega]
 have HR := Lib.hid hr
 clear hr
 go_wp2_with fail
 go_loopg [0, 240] d (fun n v0 vi wr => FRel W0 B sb S (fun k => L ++ [45] ++ [48] ++ [46] ++ List.replicate k 48) d n v0 vi wr)
 case atStart => exact ⟨0, by omega, rfl, hB3, Lib.hid (HD3.out.cast (by simp))⟩
 case round =>
  obtain ⟨k, hk, rfl, hB11, HD11⟩ := hrel
  rename World => w11
  by_cases hlt : k < d
  ·go_wp2_with (at_builtin; refine ds_app rfl _ _ rfl (HD11.out.alloc hB11 _) rfl w11.heap.size 0 1 1 [48] rfl rfl (by omega) (news_new w11 [48] _ rfl) (by simp; omega) (by simp; omega) ?_)
   intro g99 n99 w99 hd99 hB99
   have HD99 := Lib.hid hd99
   clear hd99
   go_wp2_with fail
   go_roundg (gk - 1)
   case rel => exact ⟨k + 1, by omega, by go_num, hB99, Lib.hid (HD99.out.cast (by simp [List.replicate_succ']))⟩
   case measure => omega
  ·obtain rfl : d = k := by omega
   go_wp2_with fail
   go_loopg [0, 30, 247] nd (fun n v0 _ vi wr => FRel W0 B sb S (fun k => L ++ [45] ++ [48] ++ [46] ++ List.replicate d 48 ++ S.take k) nd n v0 vi wr)
   case atStart => exact ⟨0, by omega, rfl, hB11, Lib.hid (HD11.out.cast (by simp))⟩
   case round =>
    obtain ⟨k, hk, rfl, hB12, HD12⟩ := hrel
    rename World => w12
    by_cases hlt : k < nd
    ·obtain ⟨c, hc⟩ : ∃ c, S[k]? = some c := ⟨_, List.getElem?_eq_getElem (by omega)⟩
     have hcell := HD12.out.hby k c hc
     have HC := Lib.hid hc
     clear hc
     go_wp2_with (at_builtin; refine ds_app rfl _ _ rfl (HD12.out.alloc hB12 _) rfl w12.heap.size 0 1 1 [c] rfl rfl (by omega) (news_new w12 [c] _ rfl) (by simp; omega) (by simp; omega) ?_)
     intro g99 n99 w99 hd99 hB99
     have HD99 := Lib.hid hd99
     clear hd99
     go_wp2_with fail
     go_roundg (gk - 1)
     case rel => exact ⟨k + 1, by omega, by go_num, hB99, Lib.hid (HD99.out.cast (by simp [take_snoc HC.out]))⟩
     case measure => omega
    ·obtain rfl : nd = k := by omega
     go_wp2_with fail
     go_loopg [0, 261] (0 : Nat) (fun n v0 vi wr => FRel W0 B sb S (fun k => L ++ [45] ++ [48] ++ [46] ++ List.replicate d 48 ++ S.take nd ++ List.replicate k 48) (0 : Nat) n v0 vi wr)
     case atStart => exact ⟨0, by omega, rfl, hB12, Lib.hid (HD12.out.cast (by simp))⟩
     case round =>
      obtain ⟨k, hk, rfl, hB13, HD13⟩ := hrel
      rename World => w13
      by_cases hlt : k < (0 : Nat)
      ·omega
      ·obtain rfl : (0 : Nat) = k := by omega
       go_wp2_with fail
       rw [<- H.out.2]
       refine efg_fin2 HD13.out ?_ (by simp; omega)
       rw [fmtF_z h1]; simp [sgnB]
theorem fmtEFG_fnm (W0 : World) (B : Nat) (v : Value) (sb nd d : Nat) (S L : List UInt8) (w : World) (h1 : 1 <= nd) (h2 : nd <= 20) (hS : nd <= S.length) (hz : 0 < d) (hm : d < nd) (hhi : d <= 6)
  (hL : L.length <= 1000) (hB : B <= w.heap.size) (h : DS W0 B sb S w v L) :
  Calls Tryz.prog 95 #[v, .bool true, .slice (some ⟨sb, 0, none⟩) 32 32, .int .i64 (d : Int), .int .i64 nd, .int .i64 nd, .int .u8 103, .bool true] w (EfgPost W0 B sb S L (fmtF true S nd ((d : Int)))) := by
 obtain ⟨Q, hQ⟩ : ∃ Q, EfgPost W0 B sb S L (fmtF true S nd ((d : Int))) = Q := ⟨_, rfl⟩
 rw [hQ]
 have H := Lib.hid (And.intro h hQ)
 clear h hQ
 go_enter Tryz.func95, Tryz.ntmps95
 go_wp2_with (at_builtin; refine ds_app rfl _ _ rfl (H.out.1.alloc hB _) rfl w.heap.size 0 1 1 [45] rfl rfl (by omega) (news_new w [45] _ rfl) (by simp; omega) (by simp; omega) ?_)
 intro g1 n1 w1 hd1 hB1
 have HD1 := Lib.hid hd1
 clear hd1
 go_wp2_with fail
 go_loopg [0, 25, 191] d (fun n v0 _ vi wr => FRel W0 B sb S (fun k => L ++ [45] ++ S.take k) d n v0 vi wr)
 case atStart => exact ⟨0, by omega, rfl, hB1, Lib.hid (HD1.out.cast (by simp))⟩
 case round =>
  obtain ⟨k, hk, rfl, hB8, HD8⟩ := hrel
  rename World => w8
  by_cases hlt : k < d
  ·obtain ⟨c, hc⟩ : ∃ c, S[k]? = some c := ⟨_, List.getElem?_eq_getElem (by omega)⟩
   have hcell := HD8.out.hby k c hc
   have HC := Lib.hid hc
   clear hc
   go_wp2_with (at_builtin; refine ds_app rfl _ _ rfl (HD8.out.alloc hB8 _) rfl w8.heap.size 0 1 1 [c] rfl rfl (by omega) (news_new w8 [c] _ rfl) (by simp; omega) (by simp; omega) ?_)
   intro g99 n99 w99 hd99 hB99
   have HD99 := Lib.hid hd99
   clear hd99
   go_wp2_with fail
   go_roundg (gk - 1)
   case rel => exact ⟨k + 1, by omega, by go_num, hB99, Lib.hid (HD99.out.cast (by simp [take_snoc HC.out]))⟩
   case measure => omega
  ·obtain rfl : d = k := by omega
   go_wp2_with fail
   go_loopg [0, 203] (0 : Nat) (fun n v0 vi wr => FRel W0 B sb S (fun k => L ++ [45] ++ S.take d ++ List.replicate k 48) (0 : Nat) n v0 vi wr)
   case atStart => exact ⟨0, by omega, rfl, hB8, Lib.hid (HD8.out.cast (by simp))⟩
   case round =>
    obtain ⟨k, hk, rfl, hB9, HD9⟩ := hrel
    rename World => w9
    by_cases hlt : k < (0 : Nat)
    ·omega
    ·obtain rfl : (0 : Nat) = k := by omega
     go_wp2_with (at_builtin; refine ds_app rfl _ _ rfl (HD9.out.alloc hB9 _) rfl w9.heap.size 0 1 1 [46] rfl rfl (by omega) (news_new w9 [46] _ rfl) (by simp; omega) (by simp; omega) ?_)
     intro g10 n10 w10 hd10 hB10
     have HD10 := Lib.hid hd10
     clear hd10
     go_wp2_with fail
     obtain ⟨r, hr⟩ : ∃ r : Nat, nd = d + r := ⟨nd - d, by omega⟩
     rw [show max ((nd : Int) - (d : Int)) 0 = (r : Int) from by omega]
     rw [show min (r : Int) (max 0 (-(d : Int))) = 0 from by omega]
     rw [show (r : Int) - 0 = r from by omega, show (d : Int) + 0 = d from by omega]
     rw [show min (r : Int) (max 0 ((nd : Int) - (d : Int))) = r from by omega]
     rw [show max 0 ((r : Int) - r) = 0 from by omega]
     go_wp2_with fail
     go_loopg [0, 240] (0 : Nat) (fun n v0 vi wr => FRel W0 B sb S (fun k => L ++ [45] ++ S.take d ++ [46] ++ List.replicate k 48) (0 : Nat) n v0 vi wr)
     case atStart => exact ⟨0, by omega, rfl, hB10, Lib.hid (HD10.out.cast (by simp))⟩
     case round =>
      obtain ⟨k, hk, rfl, hB11, HD11⟩ := hrel
      rename World => w11
      by_cases hlt : k < (0 : Nat)
      ·omega
      ·obtain rfl : (0 : Nat) = k := by omega
       go_wp2_with fail
       go_loopg [0, 30, 247] r (fun n v0 _ vi wr => FRel W0 B sb S (fun k => L ++ [45] ++ S.take d ++ [46] ++ (S.drop d).take k) r n v0 vi wr)
       case atStart => exact ⟨0, by omega, rfl, hB11, Lib.hid (HD11.out.cast (by simp))⟩
       case round =>
        obtain ⟨k, hk, rfl, hB12, HD12⟩ := hrel
        rename World => w12
        by_cases hlt : k < r
        ·obtain ⟨c, hc⟩ : ∃ c, S[(d + k)]? = some c := ⟨_, List.getElem?_eq_getElem (by omega)⟩
         have hcell := HD12.out.hby (d + k) c hc
         have HC := Lib.hid hc
         clear hc
         go_wp2_with (at_builtin; refine ds_app rfl _ _ rfl (HD12.out.alloc hB12 _) rfl w12.heap.size 0 1 1 [c] rfl rfl (by omega) (news_new w12 [c] _ rfl) (by simp; omega) (by simp; omega) ?_)
         intro g99 n99 w99 hd99 hB99
         have HD99 := Lib.hid hd99
         clear hd99
         go_wp2_with fail
         go_roundg (gk - 1)
         case rel => exact ⟨k + 1, by omega, by go_num, hB99, Lib.hid (HD99.out.cast (by simp [drop_snoc HC.out]))⟩
         case measure => omega
        ·obtain rfl : r = k := by omega
         go_wp2_with fail
         go_loopg [0, 261] (0 : Nat) (fun n v0 vi wr => FRel W0 B sb S (fun k => L ++ [45] ++ S.take d ++ [46] ++ (S.drop d).take r ++ List.replicate k 48) (0 : Nat) n v0 vi wr)
         case atStart => exact ⟨0, by omega, rfl, hB12, Lib.hid (HD12.out.cast (by simp))⟩
         case round =>
          obtain ⟨k, hk, rfl, hB13, HD13⟩ := hrel
          rename World => w13
          by_cases hlt : k < (0 : Nat)
          ·omega
          ·obtain rfl : (0 : Nat) = k := by omega
           go_wp2_with fail
           rw [<- H.out.2]
           refine efg_fin2 HD13.out ?_ (by simp; omega)
           rw [fmtF_m hz hm, show nd - d = r from by omega]; simp [sgnB]
theorem fmtEFG_fnb (W0 : World) (B : Nat) (v : Value) (sb nd d : Nat) (S L : List UInt8) (w : World) (h1 : 1 <= nd) (h2 : nd <= 20) (hS : nd <= S.length) (hz : 0 < d) (hm : nd <= d) (hhi : d <= 6)
  (hL : L.length <= 1000) (hB : B <= w.heap.size) (h : DS W0 B sb S w v L) :
  Calls Tryz.prog 95 #[v, .bool true, .slice (some ⟨sb, 0, none⟩) 32 32, .int .i64 (d : Int), .int .i64 nd, .int .i64 nd, .int .u8 103, .bool true] w (EfgPost W0 B sb S L (fmtF true S nd ((d : Int)))) := by
 obtain ⟨Q, hQ⟩ : ∃ Q, EfgPost W0 B sb S L (fmtF true S nd ((d : Int))) = Q := ⟨_, rfl⟩
 rw [hQ]
 have H := Lib.hid (And.intro h hQ)
 clear h hQ
 have hfd : decide (d < nd) = false := by simp; omega
 go_enter Tryz.func95, Tryz.ntmps95
 go_wp2_with (at_builtin; refine ds_app rfl _ _ rfl (H.out.1.alloc hB _) rfl w.heap.size 0 1 1 [45] rfl rfl (by omega) (news_new w [45] _ rfl) (by simp; omega) (by simp; omega) ?_)
 intro g1 n1 w1 hd1 hB1
 have HD1 := Lib.hid hd1
 clear hd1
 go_wp2_with fail
 go_loopg [0, 25, 191] nd (fun n v0 _ vi wr => FRel W0 B sb S (fun k => L ++ [45] ++ S.take k) nd n v0 vi wr)
 case atStart => exact ⟨0, by omega, rfl, hB1, Lib.hid (HD1.out.cast (by simp))⟩
 case round =>
  obtain ⟨k, hk, rfl, hB8, HD8⟩ := hrel
  rename World => w8
  by_cases hlt : k < nd
  ·obtain ⟨c, hc⟩ : ∃ c, S[k]? = some c := ⟨_, List.getElem?_eq_getElem (by omega)⟩
   have hcell := HD8.out.hby k c hc
   have HC := Lib.hid hc
   clear hc
   go_wp2_with (at_builtin; refine ds_app rfl _ _ rfl (HD8.out.alloc hB8 _) rfl w8.heap.size 0 1 1 [c] rfl rfl (by omega) (news_new w8 [c] _ rfl) (by simp; omega) (by simp; omega) ?_)
   intro g99 n99 w99 hd99 hB99
   have HD99 := Lib.hid hd99
   clear hd99
   go_wp2_with fail
   go_roundg (gk - 1)
   case rel => exact ⟨k + 1, by omega, by go_num, hB99, Lib.hid (HD99.out.cast (by simp [take_snoc HC.out]))⟩
   case measure => omega
  ·obtain rfl : nd = k := by omega
   go_wp2_with fail
   go_loopg [0, 203] (d - nd) (fun n v0 vi wr => FRel W0 B sb S (fun k => L ++ [45] ++ S.take nd ++ List.replicate k 48) (d - nd) n v0 vi wr)
   case atStart => exact ⟨0, by omega, rfl, hB8, Lib.hid (HD8.out.cast (by simp))⟩
   case round =>
    obtain ⟨k, hk, rfl, hB9, HD9⟩ := hrel
    rename World => w9
    by_cases hlt : k < (d - nd)
    ·go_wp2_with (at_builtin; refine ds_app rfl _ _ rfl (HD9.out.alloc hB9 _) rfl w9.heap.size 0 1 1 [48] rfl rfl (by omega) (news_new w9 [48] _ rfl) (by simp; omega) (by simp; omega) ?_)
     intro g99 n99 w99 hd99 hB99
     have HD99 := Lib.hid hd99
     clear hd99
     go_wp2_with fail
     go_roundg (gk - 1)
     case rel => exact ⟨k + 1, by omega, by go_num, hB99, Lib.hid (HD99.out.cast (by simp [List.replicate_succ']))⟩
     case measure => omega
    ·obtain rfl : (d - nd) = k := by omega
     go_wp2_with fail
     rw [<- H.out.2]
     refine efg_fin2 HD9.out ?_ (by simp; omega)
     rw [fmtF_b hz hm]; simp [sgnB]
theorem fmtEFG_fpz (W0 : World) (B : Nat) (v : Value) (sb nd d : Nat) (S L : List UInt8) (w : World) (h1 : 1 <= nd) (h2 : nd <= 20) (hS : nd <= S.length) (hlo : d <= 3)
  (hL : L.length <= 1000) (hB : B <= w.heap.size) (h : DS W0 B sb S w v L) :
  Calls Tryz.prog 95 #[v, .bool false, .slice (some ⟨sb, 0, none⟩) 32 32, .int .i64 (-(d : Int)), .int .i64 nd, .int .i64 nd, .int .u8 103, .bool true] w (EfgPost W0 B sb S L (fmtF false S nd ((-(d : Int))))) := by
 obtain ⟨Q, hQ⟩ : ∃ Q, EfgPost W0 B sb S L (fmtF false S nd ((-(d : Int)))) = Q := ⟨_, rfl⟩
 rw [hQ]
 have H := Lib.hid (And.intro h hQ)
 clear h hQ
 go_enter Tryz.func95, Tryz.ntmps95
 go_wp2_with (at_builtin; refine ds_app rfl _ _ rfl (H.out.1.alloc hB _) rfl w.heap.size 0 1 1 [48] rfl rfl (by omega) (news_new w [48] _ rfl) (by simp; omega) (by simp; omega) ?_)
 intro g1 n1 w1 hd1 hB1
 have HD1 := Lib.hid hd1
 clear hd1
 go_wp2_with (at_builtin; refine ds_app rfl _ _ rfl (HD1.out.alloc hB1 _) rfl w1.heap.size 0 1 1 [46] rfl rfl (by omega) (news_new w1 [46] _ rfl) (by simp; omega) (by simp; omega) ?_)
 intro g2 n2 w2 hd2 hB2
 have HD2 := Lib.hid hd2
 clear hd2
 go_wp2_with fail
 obtain ⟨r, hr⟩ : ∃ r : Nat, r = nd + d := ⟨nd + d, rfl⟩
 rw [show max ((nd : Int) + (d : Int)) 0 = (r : Int) from by omega]
 rw [show min (r : Int) (d : Int) = (d : Int) from by omega]
 rw [show (r : Int) - d = nd from by omega, show -(d : Int) + d = 0 from by omega]
 rw [show (nd : Int) - 0 = nd from by omega, show max 0 (nd : Int) = nd from by omega, show min (nd : Int) nd = nd from by omega, show (nd : Int) - nd = 0 from by omega, show max (0 : Int) 0 = 0 from by omega]
 have HR := Lib.hid hr
 clear hr
 go_wp2_with fail
 go_loopg [0, 240] d (fun n v0 vi wr => FRel W0 B sb S (fun k => L ++ [48] ++ [46] ++ List.replicate k 48) d n v0 vi wr)
 case atStart => exact ⟨0, by omega, rfl, hB2, Lib.hid (HD2.out.cast (by simp))⟩
 case round =>
  obtain ⟨k, hk, rfl, hB11, HD11⟩ := hrel
  rename World => w11
  by_cases hlt : k < d
  ·go_wp2_with (at_builtin; refine ds_app rfl _ _ rfl (HD11.out.alloc hB11 _) rfl w11.heap.size 0 1 1 [48] rfl rfl (by omega) (news_new w11 [48] _ rfl) (by simp; omega) (by simp; omega) ?_)
   intro g99 n99 w99 hd99 hB99
   have HD99 := Lib.hid hd99
   clear hd99
   go_wp2_with fail
   go_roundg (gk - 1)
   case rel => exact ⟨k + 1, by omega, by go_num, hB99, Lib.hid (HD99.out.cast (by simp [List.replicate_succ']))⟩
   case measure => omega
  ·obtain rfl : d = k := by omega
   go_wp2_with fail
   go_loopg [0, 30, 247] nd (fun n v0 _ vi wr => FRel W0 B sb S (fun k => L ++ [48] ++ [46] ++ List.replicate d 48 ++ S.take k) nd n v0 vi wr)
   case atStart => exact ⟨0, by omega, rfl, hB11, Lib.hid (HD11.out.cast (by simp))⟩
   case round =>
    obtain ⟨k, hk, rfl, hB12, HD12⟩ := hrel
    rename World => w12
    by_cases hlt : k < nd
    ·obtain ⟨c, hc⟩ : ∃ c, S[k]? = some c := ⟨_, List.getElem?_eq_getElem (by omega)⟩
     have hcell := HD12.out.hby k c hc
     have HC := Lib.hid hc
     clear hc
     go_wp2_with (at_builtin; refine ds_app rfl _ _ rfl (HD12.out.alloc hB12 _) rfl w12.heap.size 0 1 1 [c] rfl rfl (by omega) (news_new w12 [c] _ rfl) (by simp; omega) (by simp; omega) ?_)
     intro g99 n99 w99 hd99 hB99
     have HD99 := Lib.hid hd99
     clear hd99
     go_wp2_with fail
     go_roundg (gk - 1)
     case rel => exact ⟨k + 1, by omega, by go_num, hB99, Lib.hid (HD99.out.cast (by simp [take_snoc HC.out]))⟩
     case measure => omega
    ·obtain rfl : nd = k := by omega
     go_wp2_with fail
     go_loopg [0, 261] (0 : Nat) (fun n v0 vi wr => FRel W0 B sb S (fun k => L ++ [48] ++ [46] ++ List.replicate d 48 ++ S.take nd ++ List.replicate k 48) (0 : Nat) n v0 vi wr)
     case atStart => exact ⟨0, by omega, rfl, hB12, Lib.hid (HD12.out.cast (by simp))⟩
     case round =>
      obtain ⟨k, hk, rfl, hB13, HD13⟩ := hrel
      rename World => w13
      by_cases hlt : k < (0 : Nat)
      ·omega
      ·obtain rfl : (0 : Nat) = k := by omega
       go_wp2_with fail
       rw [<- H.out.2]
       refine efg_fin2 HD13.out ?_ (by simp; omega)
       rw [fmtF_z h1]; simp [sgnB]
theorem fmtEFG_fpm (W0 : World) (B : Nat) (v : Value) (sb nd d : Nat) (S L : List UInt8) (w : World) (h1 : 1 <= nd) (h2 : nd <= 20) (hS : nd <= S.length) (hz : 0 < d) (hm : d < nd) (hhi : d <= 6)
  (hL : L.length <= 1000) (hB : B <= w.heap.size) (h : DS W0 B sb S w v L) :
  Calls Tryz.prog 95 #[v, .bool false, .slice (some ⟨sb, 0, none⟩) 32 32, .int .i64 (d : Int), .int .i64 nd, .int .i64 nd, .int .u8 103, .bool true] w (EfgPost W0 B sb S L (fmtF false S nd ((d : Int)))) := by
 obtain ⟨Q, hQ⟩ : ∃ Q, EfgPost W0 B sb S L (fmtF false S nd ((d : Int))) = Q := ⟨_, rfl⟩
 rw [hQ]
 have H := Lib.hid (And.intro h hQ)
 clear h hQ
 go_enter Tryz.func95, Tryz.ntmps95
 go_wp2_with fail
 go_loopg [0, 25, 191] d (fun n v0 _ vi wr => FRel W0 B sb S (fun k => L ++ S.take k) d n v0 vi wr)
 case atStart => exact ⟨0, by omega, rfl, hB, Lib.hid (H.out.1.cast (by simp))⟩
 case round =>
  obtain ⟨k, hk, rfl, hB8, HD8⟩ := hrel
  rename World => w8
  by_cases hlt : k < d
  ·obtain ⟨c, hc⟩ : ∃ c, S[k]? = some c := ⟨_, List.getElem?_eq_getElem (by omega)⟩
   have hcell := HD8.out.hby k c hc
   have HC := Lib.hid hc
   clear hc
   go_wp2_with (at_builtin; refine ds_app rfl _ _ rfl (HD8.out.alloc hB8 _) rfl w8.heap.size 0 1 1 [c] rfl rfl (by omega) (news_new w8 [c] _ rfl) (by simp; omega) (by simp; omega) ?_)
   intro g99 n99 w99 hd99 hB99
   have HD99 := Lib.hid hd99
   clear hd99
   go_wp2_with fail
   go_roundg (gk - 1)
   case rel => exact ⟨k + 1, by omega, by go_num, hB99, Lib.hid (HD99.out.cast (by simp [take_snoc HC.out]))⟩
   case measure => omega
  ·obtain rfl : d = k := by omega
   go_wp2_with fail
   go_loopg [0, 203] (0 : Nat) (fun n v0 vi wr => FRel W0 B sb S (fun k => L ++ S.take d ++ List.replicate k 48) (0 : Nat) n v0 vi wr)
   case atStart => exact ⟨0, by omega, rfl, hB8, Lib.hid (HD8.out.cast (by simp))⟩
   case round =>
    obtain ⟨k, hk, rfl, hB9, HD9⟩ := hrel
    rename World => w9
    by_cases hlt : k < (0 : Nat)
    ·omega
    ·obtain rfl : (0 : Nat) = k := by omega
     go_wp2_with (at_builtin; refine ds_app rfl _ _ rfl (HD9.out.alloc hB9 _) rfl w9.heap.size 0 1 1 [46] rfl rfl (by omega) (news_new w9 [46] _ rfl) (by simp; omega) (by simp; omega) ?_)
     intro g10 n10 w10 hd10 hB10
     have HD10 := Lib.hid hd10
     clear hd10
     go_wp2_with fail
     obtain ⟨r, hr⟩ : ∃ r : Nat, nd = d + r := ⟨nd - d, by omega⟩
     rw [show max ((nd : Int) - (d : Int)) 0 = (r : Int) from by omega]
     rw [show min (r : Int) (max 0 (-(d : Int))) = 0 from by omega]
     rw [show (r : Int) - 0 = r from by omega, show (d : Int) + 0 = d from by omega]
     rw [show min (r : Int) (max 0 ((nd : Int) - (d : Int))) = r from by omega]
     rw [show max 0 ((r : Int) - r) = 0 from by omega]
     go_wp2_with fail
     go_loopg [0, 240] (0 : Nat) (fun n v0 vi wr => FRel W0 B sb S (fun k => L ++ S.take d ++ [46] ++ List.replicate k 48) (0 : Nat) n v0 vi wr)
     case atStart => exact ⟨0, by omega, rfl, hB10, Lib.hid (HD10.out.cast (by simp))⟩
     case round =>
      obtain ⟨k, hk, rfl, hB11, HD11⟩ := hrel
      rename World => w11
      by_cases hlt : k < (0 : Nat)
      ·omega
      ·obtain rfl : (0 : Nat) = k := by omega
       go_wp2_with fail
       go_loopg [0, 30, 247] r (fun n v0 _ vi wr => FRel W0 B sb S (fun k => L ++ S.take d ++ [46] ++ (S.drop d).take k) r n v0 vi wr)
       case atStart => exact ⟨0, by omega, rfl, hB11, Lib.hid (HD11.out.cast (by simp))⟩
       case round =>
        obtain ⟨k, hk, rfl, hB12, HD12⟩ := hrel
        rename World => w12
        by_cases hlt : k < r
        ·obtain ⟨c, hc⟩ : ∃ c, S[(d + k)]? = some c := ⟨_, List.getElem?_eq_getElem (by omega)⟩
         have hcell := HD12.out.hby (d + k) c hc
         have HC := Lib.hid hc
         clear hc
         go_wp2_with (at_builtin; refine ds_app rfl _ _ rfl (HD12.out.alloc hB12 _) rfl w12.heap.size 0 1 1 [c] rfl rfl (by omega) (news_new w12 [c] _ rfl) (by simp; omega) (by simp; omega) ?_)
         intro g99 n99 w99 hd99 hB99
         have HD99 := Lib.hid hd99
         clear hd99
         go_wp2_with fail
         go_roundg (gk - 1)
         case rel => exact ⟨k + 1, by omega, by go_num, hB99, Lib.hid (HD99.out.cast (by simp [drop_snoc HC.out]))⟩
         case measure => omega
        ·obtain rfl : r = k := by omega
         go_wp2_with fail
         go_loopg [0, 261] (0 : Nat) (fun n v0 vi wr => FRel W0 B sb S (fun k => L ++ S.take d ++ [46] ++ (S.drop d).take r ++ List.replicate k 48) (0 : Nat) n v0 vi wr)
         case atStart => exact ⟨0, by omega, rfl, hB12, Lib.hid (HD12.out.cast (by simp))⟩
         case round =>
          obtain ⟨k, hk, rfl, hB13, HD13⟩ := hrel
          rename World => w13
          by_cases hlt : k < (0 : Nat)
          ·omega
          ·obtain rfl : (0 : Nat) = k := by omega
           go_wp2_with fail
           rw [<- H.out.2]
           refine efg_fin2 HD13.out ?_ (by simp; omega)
           rw [fmtF_m hz hm, show nd - d = r from by omega]; simp [sgnB]
theorem fmtEFG_fpb (W0 : World) (B : Nat) (v : Value) (sb nd d : Nat) (S L : List UInt8) (w : World) (h1 : 1 <= nd) (h2 : nd <= 20) (hS : nd <= S.length) (hz : 0 < d) (hm : nd <= d) (hhi : d <= 6)
  (hL : L.length <= 1000) (hB : B <= w.heap.size) (h : DS W0 B sb S w v L) :
  Calls Tryz.prog 95 #[v, .bool false, .slice (some ⟨sb, 0, none⟩) 32 32, .int .i64 (d : Int), .int .i64 nd, .int .i64 nd, .int .u8 103, .bool true] w (EfgPost W0 B sb S L (fmtF false S nd ((d : Int)))) := by
 obtain ⟨Q, hQ⟩ : ∃ Q, EfgPost W0 B sb S L (fmtF false S nd ((d : Int))) = Q := ⟨_, rfl⟩
 rw [hQ]
 have H := Lib.hid (And.intro h hQ)
 clear h hQ
 have hfd : decide (d < nd) = false := by simp; omega
 go_enter Tryz.func95, Tryz.ntmps95
 go_wp2_with fail
 go_loopg [0, 25, 191] nd (fun n v0 _ vi wr => FRel W0 B sb S (fun k => L ++ S.take k) nd n v0 vi wr)
 case atStart => exact ⟨0, by omega, rfl, hB, Lib.hid (H.out.1.cast (by simp))⟩
 case round =>
  obtain ⟨k, hk, rfl, hB8, HD8⟩ := hrel
  rename World => w8
  by_cases hlt : k < nd
  ·obtain ⟨c, hc⟩ : ∃ c, S[k]? = some c := ⟨_, List.getElem?_eq_getElem (by omega)⟩
   have hcell := HD8.out.hby k c hc
   have HC := Lib.hid hc
   clear hc
   go_wp2_with (at_builtin; refine ds_app rfl _ _ rfl (HD8.out.alloc hB8 _) rfl w8.heap.size 0 1 1 [c] rfl rfl (by omega) (news_new w8 [c] _ rfl) (by simp; omega) (by simp; omega) ?_)
   intro g99 n99 w99 hd99 hB99
   have HD99 := Lib.hid hd99
   clear hd99
   go_wp2_with fail
   go_roundg (gk - 1)
   case rel => exact ⟨k + 1, by omega, by go_num, hB99, Lib.hid (HD99.out.cast (by simp [take_snoc HC.out]))⟩
   case measure => omega
  ·obtain rfl : nd = k := by omega
   go_wp2_with fail
   go_loopg [0, 203] (d - nd) (fun n v0 vi wr => FRel W0 B sb S (fun k => L ++ S.take nd ++ List.replicate k 48) (d - nd) n v0 vi wr)
   case atStart => exact ⟨0, by omega, rfl, hB8, Lib.hid (HD8.out.cast (by simp))⟩
   case round =>
    obtain ⟨k, hk, rfl, hB9, HD9⟩ := hrel
    rename World => w9
    by_cases hlt : k < (d - nd)
    ·go_wp2_with (at_builtin; refine ds_app rfl _ _ rfl (HD9.out.alloc hB9 _) rfl w9.heap.size 0 1 1 [48] rfl rfl (by omega) (news_new w9 [48] _ rfl) (by simp; omega) (by simp; omega) ?_)
     intro g99 n99 w99 hd99 hB99
     have HD99 := Lib.hid hd99
     clear hd99
     go_wp2_with fail
     go_roundg (gk - 1)
     case rel => exact ⟨k + 1, by omega, by go_num, hB99, Lib.hid (HD99.out.cast (by simp [List.replicate_succ']))⟩
     case measure => omega
    ·obtain rfl : (d - nd) = k := by omega
     go_wp2_with fail
     rw [<- H.out.2]
     refine efg_fin2 HD9.out ?_ (by simp; omega)
     rw [fmtF_b hz hm]; simp [sgnB]
theorem fmtEFG_f (W0 : World) (B : Nat) (v : Value) (neg : Bool) (sb nd : Nat) (dp : Int) (S L : List UInt8) (w : World) (h1 : 1 <= nd) (h2 : nd <= 20) (hS : nd <= S.length) (hlo : -3 <= dp) (hhi : dp <= 6)
  (hL : L.length <= 1000) (hB : B <= w.heap.size) (h : DS W0 B sb S w v L) :
  Calls Tryz.prog 95 #[v, .bool neg, .slice (some ⟨sb, 0, none⟩) 32 32, .int .i64 dp, .int .i64 nd, .int .i64 nd, .int .u8 103, .bool true] w (EfgPost W0 B sb S L (fmtF neg S nd dp)) := by
 by_cases hz : dp <= 0
 ·obtain ⟨d, rfl⟩ : ∃ d : Nat, dp = -(d : Int) := ⟨(-dp).toNat, by omega⟩
  cases neg
  ·exact fmtEFG_fpz W0 B v sb nd d S L w h1 h2 hS (by omega) hL hB h
  ·exact fmtEFG_fnz W0 B v sb nd d S L w h1 h2 hS (by omega) hL hB h
 ·obtain ⟨d, rfl⟩ : ∃ d : Nat, dp = (d : Int) := ⟨dp.toNat, by omega⟩
  by_cases hm : d < nd
  ·cases neg
   ·exact fmtEFG_fpm W0 B v sb nd d S L w h1 h2 hS (by omega) hm (by omega) hL hB h
   ·exact fmtEFG_fnm W0 B v sb nd d S L w h1 h2 hS (by omega) hm (by omega) hL hB h
  ·cases neg
   ·exact fmtEFG_fpb W0 B v sb nd d S L w h1 h2 hS (by omega) (by omega) (by omega) hL hB h
   ·exact fmtEFG_fnb W0 B v sb nd d S L w h1 h2 hS (by omega) (by omega) (by omega) hL hB h
end Go.Proofs.YtdfolbmoohcblaaGreatDoor
