/-
For FnReadAgain, part 39: W17.
-/
import Derived.Test.YtdfolbmoohcblaaGreatDoorM38
import Derived.Deep.RegionHeld3
import Derived.Lib.BufferOld
set_option linter.all false
namespace Go.Proofs.YtdfolbmoohcblaaGreatDoor
set_option maxHeartbeats 4000000
set_option maxRecDepth 100000
open Go.RowKit
def comJ (l : List (List UInt8)) : List UInt8 := ((l.map fun a => (44 : UInt8) :: a).flatten).drop 1
theorem comJ_nil : comJ [] = [] := rfl
theorem comJ_one (a : List UInt8) : comJ [a] = a := by simp [comJ]
theorem comJ_cons (a b : List UInt8) (r : List (List UInt8)) : comJ (a :: b :: r) = a ++ 44 :: comJ (b :: r) := by simp [comJ]
theorem comJ_snoc (l : List (List UInt8)) (a : List UInt8) : comJ (l ++ [a]) = comJ l ++ (if l = [] then a else 44 :: a) := by
 cases l with
 | nil => simp [comJ]
 | cons b r => simp [comJ]
theorem comJ_take_le (l : List (List UInt8)) (k : Nat) : (comJ (l.take k)).length <= (comJ l).length := by
 unfold comJ
 conv => rhs; rw [<- List.take_append_drop k l]
 rw [List.map_append, List.flatten_append]
 simp only [List.length_drop, List.length_append]
 omega
def ptT (p : Nat × Nat) : List UInt8 := fmtT p.1 ++ 32 :: fmtT p.2
def lineT (ps : List (Nat × Nat)) : List UInt8 := 40 :: comJ (ps.map ptT) ++ [41]
structure WS (w0 : World) (b : Nat) (L : List UInt8) (w : World) : Prop where
 buf : Lib.IsBuffer 90 5 w0.heap.size b (Lib.byteCells L) w
 below : Below w0.heap.size w0 w
theorem WS.old {w0 w w' : World} {b : Nat} {L : List UInt8} (h : WS w0 b L w) (hb : Below w.heap.size w w') : WS w0 b L w' :=
 ⟨h.buf.old hb, h.below.trans (hb.mono h.below.size)⟩
theorem byte_one (L : List UInt8) : ∀ v ∈ Lib.byteCells L, v.oneCell' = true := by
 intro v hv
 obtain ⟨c, -, rfl⟩ := List.mem_map.1 hv
 rfl
theorem ws_byte {w0 w : World} {b : Nat} {L : List UInt8} (c : UInt8) (h : WS w0 b L w) (hl : L.length + 1 <= 100000000000000) :
  Calls Tryz.prog 36 #[.pointer (some ⟨b, 0, none⟩), .int .u8 c.toNat] w fun e w' => e = .returned .nilIface /\ WS w0 b (L ++ [c]) w' /\ Lib.OthersKept 5 (some b) w w' := by
 refine (Tryz.Buffer_WriteByte_k w0.heap.size b (Lib.byteCells L) c.toNat w h.buf h.below.size (byte_one L) (by rw [Lib.byteCells_length]; omega)).mono ?_
 rintro e w' ⟨h1, h2, h3, h4⟩
 refine ⟨h1, ⟨?_, h.below.trans h3⟩, h4⟩
 rw [Lib.byteCells_append]; exact h2
theorem ws_str {w0 w : World} {b : Nat} {L : List UInt8} (s : List UInt8) (S : ByteArray) (hS : S = bs s) (h : WS w0 b L w) (hl : L.length + s.length <= 100000000000000) :
  Calls Tryz.prog 33 #[.pointer (some ⟨b, 0, none⟩), .string S] w fun e w' => (∃ v, e = .returned v) /\ WS w0 b (L ++ s) w' /\ Lib.OthersKept 5 (some b) w w' := by
 subst hS
 refine (Tryz.Buffer_WriteString_k w0.heap.size b (Lib.byteCells L) (bs s) w h.buf h.below.size (byte_one L) (by rw [Lib.byteCells_length, bs_size]; omega)).mono ?_
 rintro e w' ⟨h1, h2, h3, h4⟩
 refine ⟨⟨_, h1⟩, ⟨?_, h.below.trans h3⟩, h4⟩
 rw [Lib.byteCells_append]; exact h2
theorem WS.drew {w0 w : World} {b : Nat} {L : List UInt8} (h : WS w0 b L w) : WS w0 b L w.drew := h.old ⟨rfl, rfl, rfl, Nat.le_refl _, fun _ _ => rfl⟩
theorem number_ws {w0 w : World} {b : Nat} {L : List UInt8} (X : Nat) (A : ByteArray) (hA : bs (fmtT X) = A) (hX : X < 18446744073709551616) (hfo : Fo w0) (h : WS w0 b L w) :
  Calls Tryz.prog 34 #[.float .f64 X] w fun e w' => e = .returned (.string A) /\ WS w0 b L w' /\ Below w.heap.size w w' := by
 subst hA
 exact (number_any X w hX (hfo.below h.below)).mono fun _ _ ⟨h1, h2⟩ => ⟨h1, h.old h2, h2⟩
def PtAt (w : World) (q : Nat) (p : Nat × Nat) : Prop := w.heap[q]? = some (.cells #[.float .f64 p.1, .float .f64 p.2] 47 (0, 0))
theorem PtAt.c0 {w : World} {q : Nat} {p : Nat × Nat} (h : PtAt w q p) : w.cell? ⟨q, 0, none⟩ = some (.float .f64 p.1) := by rw [Joins.cell_of_block h]; rfl
theorem PtAt.c1 {w : World} {q : Nat} {p : Nat × Nat} (h : PtAt w q p) : w.cell? ⟨q, 1, none⟩ = some (.float .f64 p.2) := by rw [Joins.cell_of_block h]; rfl
theorem PtAt.old {w w' : World} {q : Nat} {p : Nat × Nat} (h : PtAt w q p) (hb : Below w.heap.size w w') : PtAt w' q p := (hb.block q (lt_of_heap h)).trans h
theorem PtAt.kept {w w' : World} {q b : Nat} {p : Nat × Nat} (h : PtAt w q p) (hq : q ≠ b) (hk : Lib.OthersKept 5 (some b) w w') : PtAt w' q p :=
 hk q _ h (by simpa using hq) (by intro c fz he; injection he with h1 h2 h3; cases h2)
theorem row_max {w : World} {B e size n : Nat} {v : Value} {xs : List Value} (h : w.ownsRow B e size v n xs) : n <= 9223372036854775807 := by
 rcases h.2 with ⟨_, h0⟩ | ⟨g, cap, cur, _, _, _, h1, h2, _⟩
 ·omega
 ·have : maxLen = 9223372036854775807 := by decide
  omega
theorem flat_get (ps : List (Nat × Nat)) (k : Nat) (p : Nat × Nat) (h : ps[k]? = some p) : (flat ps)[k * 2]? = some (.float .f64 p.1) /\ (flat ps)[k * 2 + 1]? = some (.float .f64 p.2) := by
 induction ps generalizing k with
 | nil => simp at h
 | cons q r ih =>
  cases k with
  | zero => simp at h; subst h; exact ⟨rfl, rfl⟩
  | succ k =>
   have := ih k (by simpa using h)
   rw [show (k + 1) * 2 = k * 2 + 2 from by omega]
   exact this
theorem bs_add (a b : List UInt8) : bs a ++ bs b = bs (a ++ b) := by
 apply ls_inj; simp [ls, bs]
def VNs (ps : List (Nat × Nat)) : Prop := ∀ p ∈ ps, p.1 < 18446744073709551616 /\ p.2 < 18446744073709551616
def WlRel (w0 : World) (b : Nat) (L : List UInt8) (ps : List (Nat × Nat)) (n : Nat) (v : Value) (wr : World) : Prop :=
 ∃ k : Nat, n = ps.length - k /\ k <= ps.length /\ v = .int .i64 k /\ Hid (WS w0 b (L ++ 40 :: comJ ((ps.take k).map ptT)) wr)
theorem writeLine_any (w0 : World) (B0 b : Nat) (L : List UInt8) (u : Value) (ps : List (Nat × Nat)) (w : World) (hfo : Fo w0) (hps : Pts B0 w0 u ps) (hv : VNs ps) (hl : L.length + (lineT ps).length <= 100000000000000) (h : WS w0 b L w) :
  Calls Tryz.prog 37 #[.pointer (some ⟨b, 0, none⟩), u] w fun e w' => e = .returned (.tuple #[]) /\ WS w0 b (L ++ lineT ps) w' := by
 have hlen : (lineT ps).length = (comJ (ps.map ptT)).length + 2 := by unfold lineT; simp
 rw [hlen] at hl
 obtain ⟨A, c, rfl⟩ := Row.shape hps
 have H := Lib.hid (And.intro h (And.intro hfo (And.intro hps hv)))
 clear h hfo hps hv hlen
 go_enter Tryz.func37, Tryz.ntmps37
 go_wp2_with fail
 refine (ws_byte 40 H.out.1 (by omega)).mono ?_
 rintro e w1 ⟨rfl, hw1, -⟩
 have HW1 := Lib.hid hw1
 clear hw1
 go_wp2_with fail
 go_loopg [10] ps.length (fun n v wr => WlRel w0 b L ps n v wr)
 case atStart => exact ⟨0, by omega, Nat.zero_le _, rfl, HW1⟩
 case round =>
  obtain ⟨k, hgk, hk, rfl, hws⟩ := hrel
  by_cases hkl : k = ps.length
  ·subst hkl
   have HWS : Hid (WS w0 b (L ++ 40 :: comJ (ps.map ptT)) wr) := by
    have := hws.out
    rw [List.take_length] at this
    exact this
   clear hws
   go_wp2_with fail
   have hr : (L ++ 40 :: comJ (ps.map ptT)) ++ [41] = L ++ lineT ps := by unfold lineT; simp
   refine (ws_byte 41 HWS.out (by simp; omega)).mono ?_
   rintro e w2 ⟨rfl, hw2, -⟩
   rw [hr] at hw2
   have HW2 := Lib.hid hw2
   clear hw2
   go_wp2_with fail
   go_returns
   exact ⟨rfl, HW2.out⟩
  ·obtain ⟨p, hp⟩ : ∃ p, ps[k]? = some p := ⟨_, List.getElem?_eq_getElem (by omega)⟩
   obtain ⟨g, c', hA, -⟩ := Row.pos H.out.2.2.1 (by omega)
   injection hA with hA1 hA2 hA3
   subst hA1
   subst hA3
   have hpw : Pts B0 wr (.slice (some ⟨g, 0, none⟩) ps.length c) ps := Row.below H.out.2.2.1 hws.out.below
   obtain ⟨f1, f2⟩ := flat_get ps k p hp
   have c1 := Row.cell hpw (k * 2) f1
   have c2 := Row.cell hpw (k * 2 + 1) f2
   have hpv := H.out.2.2.2 p (List.mem_of_getElem? hp)
   have HP := Lib.hid (And.intro hp hpv)
   have hglt : g < wr.heap.size := World.block_lt_of_cell? _ _ c1
   have htk : (ps.map ptT).take (k + 1) = (ps.map ptT).take k ++ [ptT p] := by
    rw [List.take_succ_eq_append_getElem (by rw [List.length_map]; omega)]
    congr 2
    obtain ⟨_, h3⟩ := List.getElem?_eq_some_iff.1 hp
    simp [h3]
   have hle := comJ_take_le (ps.map ptT) (k + 1)
   have hjs := comJ_snoc ((ps.map ptT).take k) (ptT p)
   rw [<- htk] at hjs
   rw [hjs] at hle
   obtain ⟨q, hq⟩ : ∃ q, wr.heap.size = q := ⟨_, rfl⟩
   have hpt : PtAt (wr.alloc (Obj.cells #[.float .f64 p.1, .float .f64 p.2] 47)) q p := by rw [<- hq]; exact heap_alloc_new wr _
   have hne : q ≠ b := by rw [<- hq]; exact Nat.ne_of_gt hws.out.buf.lt
   have HS := Lib.hid (And.intro (hws.out.old ((Below.refl _ _).alloc (Nat.le_refl _) (Obj.cells #[.float .f64 p.1, .float .f64 p.2] 47))) hpt)
   have HJ := Lib.hid (And.intro hjs hle)
   clear hp hpv f1 f2 hpw hpt hws hjs hle htk
   have hst := run_store_float
   have hk0 : (0 : Int) <= (k : Int) := by omega
   have hk1 : (k : Int) < (ps.length : Int) := by omega
   have hmx := row_max H.out.2.2.1
   have hk3 : (k : Int) + 1 <= 9223372036854775807 := by omega
   by_cases h0 : k = 0
   ·subst h0
    have hbnd : Hid ((L ++ [40]).length + (ptT p).length <= 100000000000000) := by
     have h1 := HJ.out.2
     simp at h1
     show _ <= _
     simp; omega
    have HW2 : Hid (WS w0 b (L ++ [40]) (wr.alloc (Obj.cells #[.float .f64 p.1, .float .f64 p.2] 47)) /\ PtAt (wr.alloc (Obj.cells #[.float .f64 p.1, .float .f64 p.2] 47)) q p) := HS.out
    go_wp2_with fail
    try rw [hq]
    obtain ⟨w2, hw2⟩ : ∃ w2, wr.alloc (Obj.cells #[.float .f64 p.1, .float .f64 p.2] 47) = w2 := ⟨_, rfl⟩
    rw [hw2] at HW2 ⊢
    clear hw2 HS
    obtain ⟨A, hAe⟩ : ∃ A, bs (fmtT p.1) = A := ⟨_, rfl⟩
    obtain ⟨C, hCe⟩ : ∃ C, bs (fmtT p.2) = C := ⟨_, rfl⟩
    have hAl : A.size <= 1000 := by rw [<- hAe, bs_size]; exact fmtT_len _
    have hCl : C.size <= 1000 := by rw [<- hCe, bs_size]; exact fmtT_len _
    have HAC := Lib.hid (And.intro hAe (And.intro hCe (And.intro hAl hCl)))
    have s1 : ¬ (9223372036854775807 < A.size) := by omega
    have s2 : ¬ (9223372036854775807 < A.size + 1) := by omega
    have s3 : ¬ (9223372036854775807 < A.size + 1 + C.size) := by omega
    have c3 := HW2.out.2.c0
    have c4 := HW2.out.2.c1
    clear c1 c2 hglt hAe hCe hAl hCl hst
    go_wp2_with fail
    go_region_held3 (fun w' => w'.cell? ⟨q, 0, none⟩ = some (.float .f64 p.1) /\ w'.cell? ⟨q, 1, none⟩ = some (.float .f64 p.2))
     (first | exact ⟨c9.c0, c9.c1⟩ | exact ⟨c7, c8⟩ | exact ⟨c5, c6⟩ | exact ⟨c3, c4⟩ | go_keep)
     ((first
      | (go_at_call 34; refine (number_ws p.1 A HAC.out.1 HP.out.2.1 H.out.2.1 (HW2.out.1.drew)).mono ?_; rintro e w3 ⟨rfl, hw3, hb3⟩; have c5 := cell_later hb3 c3; have c6 := cell_later hb3 c4)
      | (go_at_call 33; refine (ws_str (ptT p) _ (by rw [<- HAC.out.1, <- HAC.out.2.1]; apply ls_inj; simp [ls, bs, ptT]) hw4 hbnd.out).mono ?_; rintro e w5 ⟨⟨v5, rfl⟩, hw5, hk5⟩; have c9 := (PtAt.old (show PtAt w2.drew q p from HW2.out.2) (hb3.trans (hb4.mono hb3.size))).kept hne hk5)
      | (go_at_call 34; refine (number_ws p.2 C HAC.out.2.1 HP.out.2.2 H.out.2.1 hw3).mono ?_; rintro e w4 ⟨rfl, hw4, hb4⟩; have c7 := cell_later hb4 c5; have c8 := cell_later hb4 c6)))
    have HW5 := Lib.hid hw5
    clear hw3 hw4 hw5 hb3 hb4 hk5 c3 c4 c5 c6 c7 c8 c9 s1 s2 s3
    go_wp2_with fail
    go_roundg (gk - 1)
    case rel =>
     refine ⟨0 + 1, by omega, by omega, by go_num, ?_⟩
     have hfin := HW5.out
     show WS _ _ _ _
     rw [List.map_take, HJ.out.1]
     simpa [comJ_nil] using hfin
    case measure => omega
   ·have hk2 : ((k : Int) != 0) = true := by rw [bne_iff_ne]; omega
    have h4 : (ps.map ptT).take k ≠ [] := by
     intro h
     have h5 : ((ps.map ptT).take k).length = k := by rw [List.length_take, List.length_map]; omega
     rw [h] at h5
     simp at h5
     omega
    have hbnd : Hid ((L ++ 40 :: comJ (List.map ptT (List.take k ps)) ++ [44]).length + (ptT p).length <= 100000000000000) := by
     have h1 := HJ.out.2
     rw [if_neg h4] at h1
     show _ <= _
     rw [List.map_take]
     simp at h1 ⊢
     omega
    have HK := Lib.hid h4
    clear h4
    go_wp2_with fail
    try rw [hq]
    refine (ws_byte 44 HS.out.1 (by have := hbnd.out; simp at this ⊢; omega)).mono ?_
    rintro e w2 ⟨rfl, hw2, hk2⟩
    have HW2 := Lib.hid (And.intro hw2 (HS.out.2.kept hne hk2))
    clear hw2 hk2 HS
    obtain ⟨A, hAe⟩ : ∃ A, bs (fmtT p.1) = A := ⟨_, rfl⟩
    obtain ⟨C, hCe⟩ : ∃ C, bs (fmtT p.2) = C := ⟨_, rfl⟩
    have hAl : A.size <= 1000 := by rw [<- hAe, bs_size]; exact fmtT_len _
    have hCl : C.size <= 1000 := by rw [<- hCe, bs_size]; exact fmtT_len _
    have HAC := Lib.hid (And.intro hAe (And.intro hCe (And.intro hAl hCl)))
    have s1 : ¬ (9223372036854775807 < A.size) := by omega
    have s2 : ¬ (9223372036854775807 < A.size + 1) := by omega
    have s3 : ¬ (9223372036854775807 < A.size + 1 + C.size) := by omega
    have c3 := HW2.out.2.c0
    have c4 := HW2.out.2.c1
    clear c1 c2 hglt hAe hCe hAl hCl hst
    go_wp2_with fail
    go_region_held3 (fun w' => w'.cell? ⟨q, 0, none⟩ = some (.float .f64 p.1) /\ w'.cell? ⟨q, 1, none⟩ = some (.float .f64 p.2))
     (first | exact ⟨c9.c0, c9.c1⟩ | exact ⟨c7, c8⟩ | exact ⟨c5, c6⟩ | exact ⟨c3, c4⟩ | go_keep)
     ((first
      | (go_at_call 34; refine (number_ws p.1 A HAC.out.1 HP.out.2.1 H.out.2.1 (HW2.out.1.drew)).mono ?_; rintro e w3 ⟨rfl, hw3, hb3⟩; have c5 := cell_later hb3 c3; have c6 := cell_later hb3 c4)
      | (go_at_call 33; refine (ws_str (ptT p) _ (by rw [<- HAC.out.1, <- HAC.out.2.1]; apply ls_inj; simp [ls, bs, ptT]) hw4 hbnd.out).mono ?_; rintro e w5 ⟨⟨v5, rfl⟩, hw5, hk5⟩; have c9 := (PtAt.old (show PtAt w2.drew q p from HW2.out.2) (hb3.trans (hb4.mono hb3.size))).kept hne hk5)
      | (go_at_call 34; refine (number_ws p.2 C HAC.out.2.1 HP.out.2.2 H.out.2.1 hw3).mono ?_; rintro e w4 ⟨rfl, hw4, hb4⟩; have c7 := cell_later hb4 c5; have c8 := cell_later hb4 c6)))
    have HW5 := Lib.hid hw5
    clear hw3 hw4 hw5 hb3 hb4 hk5 c3 c4 c5 c6 c7 c8 c9 s1 s2 s3
    go_wp2_with fail
    go_roundg (gk - 1)
    case rel =>
     refine ⟨k + 1, by omega, by omega, by go_num, ?_⟩
     have hfin := HW5.out
     show WS _ _ _ _
     rw [List.map_take, HJ.out.1, if_neg HK.out]
     rw [List.map_take] at hfin
     simpa using hfin
    case measure => omega
end Go.Proofs.YtdfolbmoohcblaaGreatDoor
