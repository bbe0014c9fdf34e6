/-
For FnReadAgain, part 40: W18.
-/
import Derived.Test.YtdfolbmoohcblaaGreatDoorM39
import Derived.Test.YtdfolbmoohcblaaGreatDoorM32
set_option linter.all false
namespace Go.Proofs.YtdfolbmoohcblaaGreatDoor
set_option maxHeartbeats 4000000
set_option maxRecDepth 100000
open Go.RowKit
def nmPoint : List UInt8 := [80, 79, 73, 78, 84]
def nmLine : List UInt8 := [76, 73, 78, 69, 83, 84, 82, 73, 78, 71]
def nmPoly : List UInt8 := [80, 79, 76, 89, 71, 79, 78]
def nmMPoint : List UInt8 := [77, 85, 76, 84, 73, 80, 79, 73, 78, 84]
def nmMLine : List UInt8 := [77, 85, 76, 84, 73, 76, 73, 78, 69, 83, 84, 82, 73, 78, 71]
def nmMPoly : List UInt8 := [77, 85, 76, 84, 73, 80, 79, 76, 89, 71, 79, 78]
def nmColl : List UInt8 := [71, 69, 79, 77, 69, 84, 82, 89, 67, 79, 76, 76, 69, 67, 84, 73, 79, 78]
def brkT (t : List UInt8) : List UInt8 := 40 :: t ++ [41]
def polyT (rss : List (List (Nat × Nat))) : List UInt8 := brkT (comJ (rss.map lineT))
def wholeT (nm e : List UInt8) (ts : List (List UInt8)) : List UInt8 := if ts = [] then e else nm ++ brkT (comJ ts)
mutual
def gT : Geo -> List UInt8
 | .point p => nmPoint ++ brkT (ptT p)
 | .line ps => wholeT nmLine txLine (ps.map ptT)
 | .poly rss => wholeT nmPoly txPoly (rss.map lineT)
 | .mpoint ps => wholeT nmMPoint txMPoint (ps.map fun p => brkT (ptT p))
 | .mline rss => wholeT nmMLine txMLine (rss.map lineT)
 | .mpoly xs => wholeT nmMPoly txMPoly (xs.map polyT)
 | .coll gs => wholeT nmColl txColl (gTs gs)
def gTs : List Geo -> List (List UInt8)
 | [] => []
 | g :: gs => gT g :: gTs gs
end
mutual
def GV : Geo -> Prop
 | .point p => VNs [p]
 | .line ps => VNs ps
 | .poly rss => ∀ ps ∈ rss, VNs ps
 | .mpoint ps => VNs ps
 | .mline rss => ∀ ps ∈ rss, VNs ps
 | .mpoly xs => ∀ rss ∈ xs, ∀ ps ∈ rss, VNs ps
 | .coll gs => GVs gs
def GVs : List Geo -> Prop
 | [] => True
 | g :: gs => GV g /\ GVs gs
end
theorem gTs_eq : ∀ gs : List Geo, gTs gs = gs.map gT
 | [] => rfl
 | g :: gs => by unfold gTs; rw [gTs_eq gs]; rfl
theorem ws_const {w0 w : World} {b : Nat} {L : List UInt8} (s : List UInt8) (cs : Array Value) (n m : Nat) (hcs : cs = (cel s).toArray) (hn : n = s.length) (h : WS w0 b L w) (hl : L.length + s.length <= 100000000000000) :
  Calls Tryz.prog 35 #[.pointer (some ⟨b, 0, none⟩), .slice (some ⟨w.heap.size, 0, none⟩) n n] (w.alloc (Obj.cells cs 5 (m, m + 1))) fun e w' => (∃ v, e = .returned v) /\ WS w0 b (L ++ s) w' := by
 subst hcs
 have hws := h.old ((Below.refl _ _).alloc (Nat.le_refl _) (Obj.cells (cel s).toArray 5 (m, m + 1)))
 refine (Tryz.Buffer_Write_any w0.heap.size b (Lib.byteCells L) (cel s) ⟨w.heap.size, 0, none⟩ n n _ hws.buf hws.below.size (byte_one L) (by rw [hn]; simp [cel]) (Nat.ne_of_gt h.buf.lt) ?_ ?_ (by rw [Lib.byteCells_length]; omega)).mono ?_
 ·intro j v hj
  unfold cel at hj
  rw [List.getElem?_map] at hj
  obtain ⟨c, hc, rfl⟩ := Option.map_eq_some_iff.1 hj
  rw [Lib.add_plain, Nat.zero_add]
  exact bytes_new_marked w s _ j c hc
 ·intro v hv
  obtain ⟨c, -, rfl⟩ := List.mem_map.1 hv
  rfl
 ·rintro e w' ⟨h1, h2, h3, -⟩
  refine ⟨⟨_, h1⟩, ?_, hws.below.trans h3⟩
  rw [Lib.byteCells_append]; exact h2
theorem ta_no47 (t : TypeId) (h : t ≠ 47) (v : Value) (w : World) : (Instr.typeAssert (.iface t v) 33 47 true).run Tryz.prog w = .ok (.tuple #[.agg #[.float .f64 0, .float .f64 0], .bool false]) w := by
 simp [Instr.typeAssert, run_underlying Tryz.underlying47, go_sem, Result.andThen, h]
theorem ta_yes47 (v : Value) (w : World) : (Instr.typeAssert (.iface 47 v) 33 47 true).run Tryz.prog w = .ok (.tuple #[v, .bool true]) w := by
 simp [Instr.typeAssert, run_underlying Tryz.underlying47, go_sem, Result.andThen]
theorem ta_no50 (t : TypeId) (h : t ≠ 50) (v : Value) (w : World) : (Instr.typeAssert (.iface t v) 33 50 true).run Tryz.prog w = .ok (.tuple #[.slice none 0 0, .bool false]) w := by
 simp [Instr.typeAssert, run_underlying Tryz.underlying50, go_sem, Result.andThen, h]
theorem ta_yes50 (v : Value) (w : World) : (Instr.typeAssert (.iface 50 v) 33 50 true).run Tryz.prog w = .ok (.tuple #[v, .bool true]) w := by
 simp [Instr.typeAssert, run_underlying Tryz.underlying50, go_sem, Result.andThen]
theorem ta_no54 (t : TypeId) (h : t ≠ 54) (v : Value) (w : World) : (Instr.typeAssert (.iface t v) 33 54 true).run Tryz.prog w = .ok (.tuple #[.slice none 0 0, .bool false]) w := by
 simp [Instr.typeAssert, run_underlying Tryz.underlying54, go_sem, Result.andThen, h]
theorem ta_yes54 (v : Value) (w : World) : (Instr.typeAssert (.iface 54 v) 33 54 true).run Tryz.prog w = .ok (.tuple #[v, .bool true]) w := by
 simp [Instr.typeAssert, run_underlying Tryz.underlying54, go_sem, Result.andThen]
theorem ta_no56 (t : TypeId) (h : t ≠ 56) (v : Value) (w : World) : (Instr.typeAssert (.iface t v) 33 56 true).run Tryz.prog w = .ok (.tuple #[.slice none 0 0, .bool false]) w := by
 simp [Instr.typeAssert, run_underlying Tryz.underlying56, go_sem, Result.andThen, h]
theorem ta_yes56 (v : Value) (w : World) : (Instr.typeAssert (.iface 56 v) 33 56 true).run Tryz.prog w = .ok (.tuple #[v, .bool true]) w := by
 simp [Instr.typeAssert, run_underlying Tryz.underlying56, go_sem, Result.andThen]
theorem ta_no86 (t : TypeId) (h : t ≠ 86) (v : Value) (w : World) : (Instr.typeAssert (.iface t v) 33 86 true).run Tryz.prog w = .ok (.tuple #[.slice none 0 0, .bool false]) w := by
 simp [Instr.typeAssert, run_underlying Tryz.underlying86, go_sem, Result.andThen, h]
theorem ta_yes86 (v : Value) (w : World) : (Instr.typeAssert (.iface 86 v) 33 86 true).run Tryz.prog w = .ok (.tuple #[v, .bool true]) w := by
 simp [Instr.typeAssert, run_underlying Tryz.underlying86, go_sem, Result.andThen]
theorem ta_no52 (t : TypeId) (h : t ≠ 52) (v : Value) (w : World) : (Instr.typeAssert (.iface t v) 33 52 true).run Tryz.prog w = .ok (.tuple #[.slice none 0 0, .bool false]) w := by
 simp [Instr.typeAssert, run_underlying Tryz.underlying52, go_sem, Result.andThen, h]
theorem ta_yes52 (v : Value) (w : World) : (Instr.typeAssert (.iface 52 v) 33 52 true).run Tryz.prog w = .ok (.tuple #[v, .bool true]) w := by
 simp [Instr.typeAssert, run_underlying Tryz.underlying52, go_sem, Result.andThen]
theorem ta_no58 (t : TypeId) (h : t ≠ 58) (v : Value) (w : World) : (Instr.typeAssert (.iface t v) 33 58 true).run Tryz.prog w = .ok (.tuple #[.slice none 0 0, .bool false]) w := by
 simp [Instr.typeAssert, run_underlying Tryz.underlying58, go_sem, Result.andThen, h]
theorem ta_yes58 (v : Value) (w : World) : (Instr.typeAssert (.iface 58 v) 33 58 true).run Tryz.prog w = .ok (.tuple #[v, .bool true]) w := by
 simp [Instr.typeAssert, run_underlying Tryz.underlying58, go_sem, Result.andThen]
theorem ta_no60 (t : TypeId) (h : t ≠ 60) (v : Value) (w : World) : (Instr.typeAssert (.iface t v) 33 60 true).run Tryz.prog w = .ok (.tuple #[.slice none 0 0, .bool false]) w := by
 simp [Instr.typeAssert, run_underlying Tryz.underlying60, go_sem, Result.andThen, h]
theorem ta_yes60 (v : Value) (w : World) : (Instr.typeAssert (.iface 60 v) 33 60 true).run Tryz.prog w = .ok (.tuple #[v, .bool true]) w := by
 simp [Instr.typeAssert, run_underlying Tryz.underlying60, go_sem, Result.andThen]
def CmRel (w0 : World) (b : Nat) (L : List UInt8) (ts : List (List UInt8)) (n : Nat) (v : Value) (wr : World) : Prop :=
 ∃ k : Nat, n = ts.length - k /\ k <= ts.length /\ v = .int .i64 k /\ Hid (WS w0 b (L ++ comJ (ts.take k)) wr)
theorem take_next {α : Type} {ts : List α} {k : Nat} {t : α} (h : ts[k]? = some t) : ts.take (k + 1) = ts.take k ++ [t] := by
 obtain ⟨hi, rfl⟩ := List.getElem?_eq_some_iff.1 h
 rw [List.take_succ_eq_append_getElem hi]
theorem comJ_first {ts : List (List UInt8)} {t : List UInt8} (h : ts[0]? = some t) : comJ (ts.take (0 + 1)) = t := by
 rw [take_next h]; simp [comJ]
theorem comJ_next {ts : List (List UInt8)} {k : Nat} {t : List UInt8} (h : ts[k]? = some t) (h0 : k ≠ 0) : comJ (ts.take (k + 1)) = comJ (ts.take k) ++ [44] ++ t := by
 have hi := (List.getElem?_eq_some_iff.1 h).1
 rw [take_next h, comJ_snoc, if_neg ?_]
 ·simp
 ·intro h1
  have h2 : (ts.take k).length = k := by rw [List.length_take]; omega
  rw [h1] at h2; simp at h2; omega
theorem comJ_first_le {ts : List (List UInt8)} {t : List UInt8} (h : ts[0]? = some t) : t.length <= (comJ ts).length := by
 have := comJ_take_le ts (0 + 1)
 rw [comJ_first h] at this; exact this
theorem comJ_next_le {ts : List (List UInt8)} {k : Nat} {t : List UInt8} (h : ts[k]? = some t) (h0 : k ≠ 0) : (comJ (ts.take k)).length + 1 + t.length <= (comJ ts).length := by
 have := comJ_take_le ts (k + 1)
 rw [comJ_next h h0] at this; simp at this; omega
theorem GReps.get {B : Nat} {w : World} : ∀ {gs : List Geo} {vs : List Value}, GReps B w gs vs -> ∀ {k : Nat} {g : Geo}, gs[k]? = some g -> ∃ v, vs[k]? = some v /\ GRep B w g v
 | [], [], _, k, g, hk => by simp at hk
 | g0 :: gs, v0 :: vs, ⟨h1, h2⟩, k, g, hk => by
  cases k with
  | zero => simp at hk; subst hk; exact ⟨v0, rfl, h1⟩
  | succ k =>
   obtain ⟨v, hv, hg⟩ := GReps.get h2 (k := k) (g := g) (by simpa using hk)
   exact ⟨v, by simpa using hv, hg⟩
theorem GVs.get : ∀ {gs : List Geo}, GVs gs -> ∀ g ∈ gs, GV g
 | [], _, g, h => by cases h
 | g0 :: gs, ⟨h1, h2⟩, g, h => by
  rcases List.mem_cons.1 h with rfl | h
  ·exact h1
  ·exact GVs.get h2 g h
def WkPost (w0 : World) (b : Nat) (L r : List UInt8) (e : Ending) (w' : World) : Prop := e = .returned (.tuple #[]) /\ WS w0 b (L ++ r) w'
theorem wkt_point (w0 : World) (b : Nat) (L : List UInt8) (p : Nat × Nat) (w : World) (hfo : Fo w0) (hv : VNs [p]) (hl : L.length + (gT (.point p)).length <= 100000000000000) (h : WS w0 b L w) :
  Calls Tryz.prog 18 #[.pointer (some ⟨b, 0, none⟩), .iface 47 (PV p)] w (WkPost w0 b L (gT (.point p))) := by
 obtain ⟨Q, hQ⟩ : ∃ Q, WkPost w0 b L (gT (.point p)) = Q := ⟨_, rfl⟩
 rw [hQ]
 have tay := ta_yes47
 have H := Lib.hid (And.intro h (And.intro hfo (And.intro (hv p (List.mem_singleton.2 rfl)) (And.intro hl hQ))))
 clear h hfo hv hl hQ
 have hst := run_store_float
 unfold PV
 obtain ⟨q, hq⟩ : ∃ q, w.heap.size = q := ⟨_, rfl⟩
 go_enter Tryz.func18, Tryz.ntmps18
 go_wp2_with fail
 obtain ⟨w2, hw2⟩ : ∃ w2, w.alloc (Obj.cells #[.float .f64 p.1, .float .f64 p.2] 47) = w2 := ⟨_, rfl⟩
 have hne : q ≠ b := by rw [<- hq]; exact Nat.ne_of_gt H.out.1.buf.lt
 have HW2 : Hid (WS w0 b L w2 /\ PtAt w2 q p) := by
  rw [<- hw2]
  exact ⟨H.out.1.old ((Below.refl _ _).alloc (Nat.le_refl _) _), by rw [<- hq]; exact heap_alloc_new w _⟩
 rw [hw2]
 clear hw2
 obtain ⟨A, hAe⟩ : ∃ A, bs (fmtT p.1) = A := ⟨_, rfl⟩
 obtain ⟨C, hCe⟩ : ∃ C, bs (fmtT p.2) = C := ⟨_, rfl⟩
 have hAl : A.size <= 1000 := by rw [<- hAe, bs_size]; exact fmtT_len _
 have hCl : C.size <= 1000 := by rw [<- hCe, bs_size]; exact fmtT_len _
 have HAC := Lib.hid (And.intro hAe (And.intro hCe (And.intro hAl hCl)))
 have s1 : ¬ (9223372036854775807 < 6 + A.size) := by omega
 have s2 : ¬ (9223372036854775807 < 6 + A.size + 1) := by omega
 have s3 : ¬ (9223372036854775807 < 6 + A.size + 1 + C.size) := by omega
 have s4 : ¬ (9223372036854775807 < 6 + A.size + 1 + C.size + 1) := by omega
 have c3 := HW2.out.2.c0
 have c4 := HW2.out.2.c1
 clear hAe hCe hAl hCl hst
 go_wp2_with fail
 go_region_held3 (fun w' => w'.cell? ⟨q, 0, none⟩ = some (.float .f64 p.1) /\ w'.cell? ⟨q, 1, none⟩ = some (.float .f64 p.2))
  (first | exact ⟨c9.c0, c9.c1⟩ | exact ⟨c7, c8⟩ | exact ⟨c5, c6⟩ | exact ⟨c3, c4⟩ | go_keep)
  ((first
   | (go_at_call 34; refine (number_ws p.1 A HAC.out.1 H.out.2.2.1.1 H.out.2.1 (HW2.out.1.drew)).mono ?_; rintro e w3 ⟨rfl, hw3, hb3⟩; have c5 := cell_later hb3 c3; have c6 := cell_later hb3 c4)
   | (go_at_call 33; refine (ws_str (gT (.point p)) _ (by rw [<- HAC.out.1, <- HAC.out.2.1]; apply ls_inj; simp [ls, bs, ptT, gT, nmPoint, brkT]) hw4 H.out.2.2.2.1).mono ?_; rintro e w5 ⟨⟨v5, rfl⟩, hw5, hk5⟩; have c9 := (PtAt.old (show PtAt w2.drew q p from HW2.out.2) (hb3.trans (hb4.mono hb3.size))).kept hne hk5)
   | (go_at_call 34; refine (number_ws p.2 C HAC.out.2.1 H.out.2.2.1.2 H.out.2.1 hw3).mono ?_; rintro e w4 ⟨rfl, hw4, hb4⟩; have c7 := cell_later hb4 c5; have c8 := cell_later hb4 c6)))
 have HW5 := Lib.hid hw5
 clear hw3 hw4 hw5 hb3 hb4 hk5 c3 c4 c5 c6 c7 c8 c9 s1 s2 s3 s4
 go_wp2_with fail
 rw [<- H.out.2.2.2.2]
 go_returns
 exact ⟨rfl, HW5.out⟩
theorem wkt_line (w0 : World) (B0 b : Nat) (L : List UInt8) (u : Value) (ps : List (Nat × Nat)) (w : World) (hfo : Fo w0) (hps : Pts B0 w0 u ps) (hv : VNs ps) (hl : L.length + (gT (.line ps)).length <= 100000000000000) (h : WS w0 b L w) :
  Calls Tryz.prog 18 #[.pointer (some ⟨b, 0, none⟩), .iface 50 u] w (WkPost w0 b L (gT (.line ps))) := by
 obtain ⟨Q, hQ⟩ : ∃ Q, WkPost w0 b L (gT (.line ps)) = Q := ⟨_, rfl⟩
 rw [hQ]
 have ta47 := ta_no47 50 (by decide)
 have ta54 := ta_no54 50 (by decide)
 have tay := ta_yes50
 obtain ⟨A, c, rfl⟩ := Row.shape hps
 have H := Lib.hid (And.intro h (And.intro hfo (And.intro hps (And.intro hv (And.intro hl hQ)))))
 clear h hfo hps hv hl hQ
 have hcv := fun (w : World) (C : Array Value) (n c : Nat) => Lib.run_convert_bytes_const (P := Tryz.prog) w 66 5 C n c Tryz.underlying66 Tryz.underlying5
 by_cases h0 : ps.length = 0
 ·have hnil : ps = [] := List.length_eq_zero_iff.1 h0
  subst hnil
  go_enter Tryz.func18, Tryz.ntmps18
  go_wp2_with fail
  have hlb := H.out.2.2.2.2.1
  simp [gT, wholeT, txLine] at hlb
  refine (ws_const txLine _ _ _ (by rfl) (by rfl) H.out.1 (by simp [txLine]; omega)).mono ?_
  rintro e w2 ⟨⟨v, rfl⟩, hw2⟩
  have HW := Lib.hid hw2
  clear hw2 hlb
  go_wp2_with fail
  rw [<- H.out.2.2.2.2.2]
  go_returns
  exact ⟨rfl, HW.out⟩
 ·have hz : ¬ ((ps.length : Int) = 0) := by omega
  have hne : ps.map ptT ≠ [] := by
   intro h
   apply h0
   simpa using congrArg List.length h
  have hwr : gT (.line ps) = nmLine ++ lineT ps := by
   show wholeT nmLine txLine (ps.map ptT) = _
   unfold wholeT
   rw [if_neg hne]; rfl
  rw [hwr] at H
  have HX := Lib.hid hwr
  clear hne hwr
  go_enter Tryz.func18, Tryz.ntmps18
  go_wp2_with fail
  have hlb := H.out.2.2.2.2.1
  rw [List.length_append] at hlb
  refine (ws_const nmLine _ _ _ (by rfl) (by rfl) H.out.1 (by omega)).mono ?_
  rintro e w2 ⟨⟨v, rfl⟩, hw2⟩
  have HW := Lib.hid hw2
  have hl2 : (L ++ nmLine).length + (lineT ps).length <= 100000000000000 := by rw [List.length_append]; omega
  clear hw2 hlb
  go_wp2_with fail
  refine (writeLine_any w0 B0 b (L ++ nmLine) _ ps w2 H.out.2.1 H.out.2.2.1 H.out.2.2.2.1 hl2 HW.out).mono ?_
  rintro e w3 ⟨rfl, hw3⟩
  rw [List.append_assoc] at hw3
  have HW3 := Lib.hid hw3
  clear hw3
  go_wp2_with fail
  rw [<- H.out.2.2.2.2.2]
  go_returns
  exact ⟨rfl, HW3.out⟩
theorem wkt_mline (w0 : World) (B0 b : Nat) (L : List UInt8) (u : Value) (rss : List (List (Nat × Nat))) (w : World) (hfo : Fo w0) (hps : Rws B0 50 w0 u rss) (hv : ∀ ps ∈ rss, VNs ps) (hl : L.length + (gT (.mline rss)).length <= 100000000000000) (h : WS w0 b L w) :
  Calls Tryz.prog 18 #[.pointer (some ⟨b, 0, none⟩), .iface 56 u] w (WkPost w0 b L (gT (.mline rss))) := by
 obtain ⟨Q, hQ⟩ : ∃ Q, WkPost w0 b L (gT (.mline rss)) = Q := ⟨_, rfl⟩
 rw [hQ]
 have ta47 := ta_no47 56 (by decide)
 have ta54 := ta_no54 56 (by decide)
 have ta50 := ta_no50 56 (by decide)
 have tay := ta_yes56
 obtain ⟨vs, hrow, hall⟩ := hps
 obtain ⟨A, c, rfl⟩ := Row.shape hrow
 have H := Lib.hid (And.intro h (And.intro hfo (And.intro hrow (And.intro hall (And.intro hv (And.intro hl hQ))))))
 clear h hfo hrow hall hv hl hQ
 have hcv := fun (w : World) (C : Array Value) (n c : Nat) => Lib.run_convert_bytes_const (P := Tryz.prog) w 66 5 C n c Tryz.underlying66 Tryz.underlying5
 by_cases h0 : rss.length = 0
 ·have hnil : rss = [] := List.length_eq_zero_iff.1 h0
  subst hnil
  go_enter Tryz.func18, Tryz.ntmps18
  go_wp2_with fail
  have hlb := H.out.2.2.2.2.2.1
  simp [gT, wholeT, txMLine] at hlb
  refine (ws_const txMLine _ _ _ (by rfl) (by rfl) H.out.1 (by simp [txMLine]; omega)).mono ?_
  rintro e w2 ⟨⟨v, rfl⟩, hw2⟩
  have HW := Lib.hid hw2
  clear hw2 hlb
  go_wp2_with fail
  rw [<- H.out.2.2.2.2.2.2]
  go_returns
  exact ⟨rfl, HW.out⟩
 ·have hz : ¬ ((rss.length : Int) = 0) := by omega
  have hne : rss.map lineT ≠ [] := by
   intro h
   apply h0
   simpa using congrArg List.length h
  have hwr : gT (.mline rss) = nmMLine ++ [40] ++ comJ (rss.map lineT) ++ [41] := by
   show wholeT nmMLine txMLine (rss.map lineT) = _
   unfold wholeT brkT
   rw [if_neg hne]; simp
  rw [hwr] at H
  have hlb := H.out.2.2.2.2.2.1
  have hlb1 : L.length + (nmMLine.length + 1 + (comJ (rss.map lineT)).length + 1) <= 100000000000000 := by simp at hlb; omega
  have HX := Lib.hid hlb1
  clear hne hwr hlb hlb1
  go_enter Tryz.func18, Tryz.ntmps18
  go_wp2_with fail
  refine (ws_const (nmMLine ++ [40]) _ _ _ (by rfl) (by rfl) H.out.1 (by have hlb := HX.out; simp; omega)).mono ?_
  rintro e w2 ⟨⟨v, rfl⟩, hw2⟩
  have HW := Lib.hid hw2
  clear hw2
  go_wp2_with fail
  go_loopg [116] rss.length (fun n v wr => CmRel w0 b (L ++ (nmMLine ++ [40])) (rss.map lineT) n v wr)
  case atStart => exact ⟨0, by simp, Nat.zero_le _, rfl, by show WS _ _ _ _; simpa [comJ] using HW.out⟩
  case round =>
   obtain ⟨k, hgk, hk, rfl, hws⟩ := hrel
   rw [List.length_map] at hgk hk
   by_cases hkl : k = rss.length
   ·subst hkl
    have HWS : Hid (WS w0 b (L ++ (nmMLine ++ [40]) ++ comJ (rss.map lineT)) wr) := by
     have := hws.out
     rw [List.take_of_length_le (by simp)] at this
     exact this
    clear hws
    go_wp2_with fail
    refine (ws_byte 41 HWS.out (by have hlb := HX.out; simp; omega)).mono ?_
    rintro e w3 ⟨rfl, hw3, -⟩
    have HW3 := Lib.hid hw3
    clear hw3
    go_wp2_with fail
    rw [<- H.out.2.2.2.2.2.2]
    go_returns
    exact ⟨rfl, by simpa using HW3.out⟩
   ·obtain ⟨ps, hp⟩ : ∃ ps, rss[k]? = some ps := ⟨_, List.getElem?_eq_getElem (by omega)⟩
    obtain ⟨vk, hvk, hpts⟩ := All2.get' H.out.2.2.2.1 hp
    obtain ⟨g, c', hA, -⟩ := Row.pos H.out.2.2.1 (by omega)
    injection hA with hA1 hA2 hA3
    subst hA1
    subst hA3
    have c1 := Row.cell (Row.below H.out.2.2.1 hws.out.below) k hvk
    obtain ⟨vA, vc, rfl⟩ := Row.shape hpts
    have HP : Hid (Pts B0 w0 (.slice vA ps.length vc) ps /\ VNs ps /\ (rss.map lineT)[k]? = some (lineT ps)) :=
     ⟨hpts, H.out.2.2.2.2.1 ps (List.mem_of_getElem? hp), by rw [List.getElem?_map, hp]; rfl⟩
    have hmx := row_max H.out.2.2.1
    clear hpts hvk hp
    have hk0 : (0 : Int) <= (k : Int) := by omega
    have hk1 : (k : Int) < (rss.length : Int) := by omega
    have hk3 : (k : Int) + 1 <= 9223372036854775807 := by omega
    by_cases hk00 : k = 0
    ·subst hk00
     have HL : Hid (WS w0 b (L ++ (nmMLine ++ [40])) wr) := by
      show WS _ _ _ _
      have := hws.out
      simpa [comJ] using this
     clear hws
     go_wp2_with fail
     refine (writeLine_any w0 B0 b _ _ ps _ H.out.2.1 HP.out.1 HP.out.2.1 (by have hlb := HX.out; have := comJ_first_le HP.out.2.2; simp; omega) HL.out).mono ?_
     rintro e w3 ⟨rfl, hw3⟩
     have HW3 := Lib.hid hw3
     clear hw3
     go_wp2_with fail
     go_roundg (gk - 1)
     case rel =>
      refine ⟨0 + 1, by rw [List.length_map]; omega, by rw [List.length_map]; omega, by go_num, ?_⟩
      show WS _ _ _ _
      rw [comJ_first HP.out.2.2]
      exact HW3.out
     case measure => omega
    ·have hk2 : ((k : Int) != 0) = true := by rw [bne_iff_ne]; omega
     go_wp2_with fail
     refine (ws_byte 44 hws.out (by have hlb := HX.out; have := comJ_next_le HP.out.2.2 hk00; simp at this ⊢; omega)).mono ?_
     rintro e w3 ⟨rfl, hw3, -⟩
     have HL := Lib.hid hw3
     clear hw3
     go_wp2_with fail
     refine (writeLine_any w0 B0 b _ _ ps _ H.out.2.1 HP.out.1 HP.out.2.1 (by have hlb := HX.out; have := comJ_next_le HP.out.2.2 hk00; simp at this ⊢; omega) HL.out).mono ?_
     rintro e w4 ⟨rfl, hw4⟩
     have HW4 := Lib.hid hw4
     clear hw4
     go_wp2_with fail
     go_roundg (gk - 1)
     case rel =>
      refine ⟨k + 1, by rw [List.length_map]; omega, by rw [List.length_map]; omega, by go_num, ?_⟩
      show WS _ _ _ _
      rw [comJ_next HP.out.2.2 hk00]
      simpa using HW4.out
     case measure => omega
theorem wkt_poly (w0 : World) (B0 b : Nat) (L : List UInt8) (u : Value) (rss : List (List (Nat × Nat))) (w : World) (hfo : Fo w0) (hps : Rws B0 86 w0 u rss) (hv : ∀ ps ∈ rss, VNs ps) (hl : L.length + (gT (.poly rss)).length <= 100000000000000) (h : WS w0 b L w) :
  Calls Tryz.prog 18 #[.pointer (some ⟨b, 0, none⟩), .iface 52 u] w (WkPost w0 b L (gT (.poly rss))) := by
 obtain ⟨Q, hQ⟩ : ∃ Q, WkPost w0 b L (gT (.poly rss)) = Q := ⟨_, rfl⟩
 rw [hQ]
 have ta47 := ta_no47 52 (by decide)
 have ta54 := ta_no54 52 (by decide)
 have ta50 := ta_no50 52 (by decide)
 have ta56 := ta_no56 52 (by decide)
 have ta86 := ta_no86 52 (by decide)
 have tay := ta_yes52
 obtain ⟨vs, hrow, hall⟩ := hps
 obtain ⟨A, c, rfl⟩ := Row.shape hrow
 have H := Lib.hid (And.intro h (And.intro hfo (And.intro hrow (And.intro hall (And.intro hv (And.intro hl hQ))))))
 clear h hfo hrow hall hv hl hQ
 have hcv := fun (w : World) (C : Array Value) (n c : Nat) => Lib.run_convert_bytes_const (P := Tryz.prog) w 66 5 C n c Tryz.underlying66 Tryz.underlying5
 by_cases h0 : rss.length = 0
 ·have hnil : rss = [] := List.length_eq_zero_iff.1 h0
  subst hnil
  go_enter Tryz.func18, Tryz.ntmps18
  go_wp2_with fail
  have hlb := H.out.2.2.2.2.2.1
  simp [gT, wholeT, txPoly] at hlb
  refine (ws_const txPoly _ _ _ (by rfl) (by rfl) H.out.1 (by simp [txPoly]; omega)).mono ?_
  rintro e w2 ⟨⟨v, rfl⟩, hw2⟩
  have HW := Lib.hid hw2
  clear hw2 hlb
  go_wp2_with fail
  rw [<- H.out.2.2.2.2.2.2]
  go_returns
  exact ⟨rfl, HW.out⟩
 ·have hz : ¬ ((rss.length : Int) = 0) := by omega
  have hne : rss.map lineT ≠ [] := by
   intro h
   apply h0
   simpa using congrArg List.length h
  have hwr : gT (.poly rss) = nmPoly ++ [40] ++ comJ (rss.map lineT) ++ [41] := by
   show wholeT nmPoly txPoly (rss.map lineT) = _
   unfold wholeT brkT
   rw [if_neg hne]; simp
  rw [hwr] at H
  have hlb := H.out.2.2.2.2.2.1
  have hlb1 : L.length + (nmPoly.length + 1 + (comJ (rss.map lineT)).length + 1) <= 100000000000000 := by simp at hlb; omega
  have HX := Lib.hid hlb1
  clear hne hwr hlb hlb1
  go_enter Tryz.func18, Tryz.ntmps18
  go_wp2_with fail
  refine (ws_const (nmPoly ++ [40]) _ _ _ (by rfl) (by rfl) H.out.1 (by have hlb := HX.out; simp; omega)).mono ?_
  rintro e w2 ⟨⟨v, rfl⟩, hw2⟩
  have HW := Lib.hid hw2
  clear hw2
  go_wp2_with fail
  go_loopg [155] rss.length (fun n v wr => CmRel w0 b (L ++ (nmPoly ++ [40])) (rss.map lineT) n v wr)
  case atStart => exact ⟨0, by simp, Nat.zero_le _, rfl, by show WS _ _ _ _; simpa [comJ] using HW.out⟩
  case round =>
   obtain ⟨k, hgk, hk, rfl, hws⟩ := hrel
   rw [List.length_map] at hgk hk
   by_cases hkl : k = rss.length
   ·subst hkl
    have HWS : Hid (WS w0 b (L ++ (nmPoly ++ [40]) ++ comJ (rss.map lineT)) wr) := by
     have := hws.out
     rw [List.take_of_length_le (by simp)] at this
     exact this
    clear hws
    go_wp2_with fail
    refine (ws_byte 41 HWS.out (by have hlb := HX.out; simp; omega)).mono ?_
    rintro e w3 ⟨rfl, hw3, -⟩
    have HW3 := Lib.hid hw3
    clear hw3
    go_wp2_with fail
    rw [<- H.out.2.2.2.2.2.2]
    go_returns
    exact ⟨rfl, by simpa using HW3.out⟩
   ·obtain ⟨ps, hp⟩ : ∃ ps, rss[k]? = some ps := ⟨_, List.getElem?_eq_getElem (by omega)⟩
    obtain ⟨vk, hvk, hpts⟩ := All2.get' H.out.2.2.2.1 hp
    obtain ⟨g, c', hA, -⟩ := Row.pos H.out.2.2.1 (by omega)
    injection hA with hA1 hA2 hA3
    subst hA1
    subst hA3
    have c1 := Row.cell (Row.below H.out.2.2.1 hws.out.below) k hvk
    obtain ⟨vA, vc, rfl⟩ := Row.shape hpts
    have HP : Hid (Pts B0 w0 (.slice vA ps.length vc) ps /\ VNs ps /\ (rss.map lineT)[k]? = some (lineT ps)) :=
     ⟨hpts, H.out.2.2.2.2.1 ps (List.mem_of_getElem? hp), by rw [List.getElem?_map, hp]; rfl⟩
    have hmx := row_max H.out.2.2.1
    clear hpts hvk hp
    have hk0 : (0 : Int) <= (k : Int) := by omega
    have hk1 : (k : Int) < (rss.length : Int) := by omega
    have hk3 : (k : Int) + 1 <= 9223372036854775807 := by omega
    by_cases hk00 : k = 0
    ·subst hk00
     have HL : Hid (WS w0 b (L ++ (nmPoly ++ [40])) wr) := by
      show WS _ _ _ _
      have := hws.out
      simpa [comJ] using this
     clear hws
     go_wp2_with fail
     refine (writeLine_any w0 B0 b _ _ ps _ H.out.2.1 HP.out.1 HP.out.2.1 (by have hlb := HX.out; have := comJ_first_le HP.out.2.2; simp; omega) HL.out).mono ?_
     rintro e w3 ⟨rfl, hw3⟩
     have HW3 := Lib.hid hw3
     clear hw3
     go_wp2_with fail
     go_roundg (gk - 1)
     case rel =>
      refine ⟨0 + 1, by rw [List.length_map]; omega, by rw [List.length_map]; omega, by go_num, ?_⟩
      show WS _ _ _ _
      rw [comJ_first HP.out.2.2]
      exact HW3.out
     case measure => omega
    ·have hk2 : ((k : Int) != 0) = true := by rw [bne_iff_ne]; omega
     go_wp2_with fail
     refine (ws_byte 44 hws.out (by have hlb := HX.out; have := comJ_next_le HP.out.2.2 hk00; simp at this ⊢; omega)).mono ?_
     rintro e w3 ⟨rfl, hw3, -⟩
     have HL := Lib.hid hw3
     clear hw3
     go_wp2_with fail
     refine (writeLine_any w0 B0 b _ _ ps _ H.out.2.1 HP.out.1 HP.out.2.1 (by have hlb := HX.out; have := comJ_next_le HP.out.2.2 hk00; simp at this ⊢; omega) HL.out).mono ?_
     rintro e w4 ⟨rfl, hw4⟩
     have HW4 := Lib.hid hw4
     clear hw4
     go_wp2_with fail
     go_roundg (gk - 1)
     case rel =>
      refine ⟨k + 1, by rw [List.length_map]; omega, by rw [List.length_map]; omega, by go_num, ?_⟩
      show WS _ _ _ _
      rw [comJ_next HP.out.2.2 hk00]
      simpa using HW4.out
     case measure => omega
theorem wkt_mpoint (w0 : World) (B0 b : Nat) (L : List UInt8) (u : Value) (ps : List (Nat × Nat)) (w : World) (hfo : Fo w0) (hps : Pts B0 w0 u ps) (hv : VNs ps) (hl : L.length + (gT (.mpoint ps)).length <= 100000000000000) (h : WS w0 b L w) :
  Calls Tryz.prog 18 #[.pointer (some ⟨b, 0, none⟩), .iface 54 u] w (WkPost w0 b L (gT (.mpoint ps))) := by
 obtain ⟨Q, hQ⟩ : ∃ Q, WkPost w0 b L (gT (.mpoint ps)) = Q := ⟨_, rfl⟩
 rw [hQ]
 have ta47 := ta_no47 54 (by decide)
 have tay := ta_yes54
 obtain ⟨A, c, rfl⟩ := Row.shape hps
 have H := Lib.hid (And.intro h (And.intro hfo (And.intro hps (And.intro hv (And.intro hl hQ)))))
 clear h hfo hps hv hl hQ
 have hcv := fun (w : World) (C : Array Value) (n c : Nat) => Lib.run_convert_bytes_const (P := Tryz.prog) w 66 5 C n c Tryz.underlying66 Tryz.underlying5
 by_cases h0 : ps.length = 0
 ·have hnil : ps = [] := List.length_eq_zero_iff.1 h0
  subst hnil
  go_enter Tryz.func18, Tryz.ntmps18
  go_wp2_with fail
  have hlb := H.out.2.2.2.2.1
  simp [gT, wholeT, txMPoint] at hlb
  refine (ws_const txMPoint _ _ _ (by rfl) (by rfl) H.out.1 (by simp [txMPoint]; omega)).mono ?_
  rintro e w2 ⟨⟨v, rfl⟩, hw2⟩
  have HW := Lib.hid hw2
  clear hw2 hlb
  go_wp2_with fail
  rw [<- H.out.2.2.2.2.2]
  go_returns
  exact ⟨rfl, HW.out⟩
 ·have hz : ¬ ((ps.length : Int) = 0) := by omega
  obtain ⟨ts, hts⟩ : ∃ ts, ps.map (fun p => brkT (ptT p)) = ts := ⟨_, rfl⟩
  have htl : ts.length = ps.length := by rw [<- hts, List.length_map]
  have hwr : gT (.mpoint ps) = nmMPoint ++ [40] ++ comJ ts ++ [41] := by
   show wholeT nmMPoint txMPoint (ps.map fun p => brkT (ptT p)) = _
   unfold wholeT
   rw [hts, if_neg (by intro h; rw [h] at htl; simp at htl; omega)]
   simp [brkT]
  rw [hwr] at H
  have hlb := H.out.2.2.2.2.1
  have hlb1 : L.length + (nmMPoint.length + 1 + (comJ ts).length + 1) <= 100000000000000 := by simp at hlb; omega
  have HX := Lib.hid (And.intro hlb1 (And.intro htl hts))
  clear hwr hlb hlb1 htl hts
  go_enter Tryz.func18, Tryz.ntmps18
  go_wp2_with fail
  refine (ws_const (nmMPoint ++ [40]) _ _ _ (by rfl) (by rfl) H.out.1 (by have hlb := HX.out.1; simp; omega)).mono ?_
  rintro e w2 ⟨⟨v, rfl⟩, hw2⟩
  have HW := Lib.hid hw2
  clear hw2
  go_wp2_with fail
  go_loopg [59] ps.length (fun n v wr => CmRel w0 b (L ++ (nmMPoint ++ [40])) ts n v wr)
  case atStart => exact ⟨0, by rw [HX.out.2.1]; omega, Nat.zero_le _, rfl, by show WS _ _ _ _; simpa [comJ] using HW.out⟩
  case round =>
   obtain ⟨k, hgk, hk, rfl, hws⟩ := hrel
   rw [HX.out.2.1] at hgk hk
   by_cases hkl : k = ps.length
   ·subst hkl
    have HWS : Hid (WS w0 b (L ++ (nmMPoint ++ [40]) ++ comJ ts) wr) := by
     have := hws.out
     rw [List.take_of_length_le (by rw [HX.out.2.1]; omega)] at this
     exact this
    clear hws
    go_wp2_with fail
    refine (ws_byte 41 HWS.out (by have hlb := HX.out.1; simp; omega)).mono ?_
    rintro e w3 ⟨rfl, hw3, -⟩
    have HW3 := Lib.hid hw3
    clear hw3
    go_wp2_with fail
    rw [<- H.out.2.2.2.2.2]
    go_returns
    exact ⟨rfl, by simpa using HW3.out⟩
   ·obtain ⟨p, hp⟩ : ∃ p, ps[k]? = some p := ⟨_, List.getElem?_eq_getElem (by omega)⟩
    obtain ⟨g, c', hA, -⟩ := Row.pos H.out.2.2.1 (by omega)
    injection hA with hA1 hA2 hA3
    subst hA1
    subst hA3
    have hpw : Pts B0 wr (.slice (some ⟨g, 0, none⟩) ps.length c) ps := Row.below H.out.2.2.1 hws.out.below
    obtain ⟨f1, f2⟩ := flat_get ps k p hp
    have c1 := Row.cell hpw (k * 2) f1
    have c2 := Row.cell hpw (k * 2 + 1) f2
    have HP : Hid (ps[k]? = some p /\ p.1 < 18446744073709551616 /\ p.2 < 18446744073709551616) := ⟨hp, (H.out.2.2.2.1 p (List.mem_of_getElem? hp)).1, (H.out.2.2.2.1 p (List.mem_of_getElem? hp)).2⟩
    have HT : Hid (ts[k]? = some (brkT (ptT p))) := by show _ = _; rw [<- HX.out.2.2, List.getElem?_map, hp]; rfl
    have hglt : g < wr.heap.size := World.block_lt_of_cell? _ _ c1
    obtain ⟨q, hq⟩ : ∃ q, wr.heap.size = q := ⟨_, rfl⟩
    have hpt : PtAt (wr.alloc (Obj.cells #[.float .f64 p.1, .float .f64 p.2] 47)) q p := by rw [<- hq]; exact heap_alloc_new wr _
    have hne : q ≠ b := by rw [<- hq]; exact Nat.ne_of_gt hws.out.buf.lt
    have HS := Lib.hid (And.intro (hws.out.old ((Below.refl _ _).alloc (Nat.le_refl _) (Obj.cells #[.float .f64 p.1, .float .f64 p.2] 47))) hpt)
    have hmx := row_max H.out.2.2.1
    clear hp f1 f2 hpw hpt hws
    have hst := run_store_float
    have hk0 : (0 : Int) <= (k : Int) := by omega
    have hk1 : (k : Int) < (ps.length : Int) := by omega
    have hk3 : (k : Int) + 1 <= 9223372036854775807 := by omega
    by_cases hk00 : k = 0
    ·subst hk00
     have hbnd : Hid ((L ++ (nmMPoint ++ [40])).length + (brkT (ptT p)).length <= 100000000000000) := by
      have hlb := HX.out.1
      have := comJ_first_le HT.out
      show _ <= _
      simp; omega
     have HW2 : Hid (WS w0 b (L ++ (nmMPoint ++ [40])) (wr.alloc (Obj.cells #[.float .f64 p.1, .float .f64 p.2] 47)) /\ PtAt (wr.alloc (Obj.cells #[.float .f64 p.1, .float .f64 p.2] 47)) q p) := by
      show _ /\ _
      have := HS.out
      simpa [comJ] using this
     go_wp2_with fail
     try rw [hq]
     obtain ⟨w2, hw2⟩ : ∃ w2, wr.alloc (Obj.cells #[.float .f64 p.1, .float .f64 p.2] 47) = w2 := ⟨_, rfl⟩
     rw [hw2] at HW2 ⊢
     clear hw2 HS
     obtain ⟨A, hAe⟩ : ∃ A, bs (fmtT p.1) = A := ⟨_, rfl⟩
     obtain ⟨C, hCe⟩ : ∃ C, bs (fmtT p.2) = C := ⟨_, rfl⟩
     have hAl : A.size <= 1000 := by rw [<- hAe, bs_size]; exact fmtT_len _
     have hCl : C.size <= 1000 := by rw [<- hCe, bs_size]; exact fmtT_len _
     have HAC := Lib.hid (And.intro hAe (And.intro hCe (And.intro hAl hCl)))
     have s1 : ¬ (9223372036854775807 < 1 + A.size) := by omega
     have s2 : ¬ (9223372036854775807 < 1 + A.size + 1) := by omega
     have s3 : ¬ (9223372036854775807 < 1 + A.size + 1 + C.size) := by omega
     have s4 : ¬ (9223372036854775807 < 1 + A.size + 1 + C.size + 1) := by omega
     have c3 := HW2.out.2.c0
     have c4 := HW2.out.2.c1
     clear c1 c2 hglt hAe hCe hAl hCl hst
     go_wp2_with fail
     go_region_held3 (fun w' => w'.cell? ⟨q, 0, none⟩ = some (.float .f64 p.1) /\ w'.cell? ⟨q, 1, none⟩ = some (.float .f64 p.2))
      (first | exact ⟨c9.c0, c9.c1⟩ | exact ⟨c7, c8⟩ | exact ⟨c5, c6⟩ | exact ⟨c3, c4⟩ | go_keep)
      ((first
       | (go_at_call 34; refine (number_ws p.1 A HAC.out.1 HP.out.2.1 H.out.2.1 (HW2.out.1.drew)).mono ?_; rintro e w3 ⟨rfl, hw3, hb3⟩; have c5 := cell_later hb3 c3; have c6 := cell_later hb3 c4)
       | (go_at_call 33; refine (ws_str (brkT (ptT p)) _ (by rw [<- HAC.out.1, <- HAC.out.2.1]; apply ls_inj; simp [ls, bs, ptT, brkT]) hw4 hbnd.out).mono ?_; rintro e w5 ⟨⟨v5, rfl⟩, hw5, hk5⟩; have c9 := (PtAt.old (show PtAt w2.drew q p from HW2.out.2) (hb3.trans (hb4.mono hb3.size))).kept hne hk5)
       | (go_at_call 34; refine (number_ws p.2 C HAC.out.2.1 HP.out.2.2 H.out.2.1 hw3).mono ?_; rintro e w4 ⟨rfl, hw4, hb4⟩; have c7 := cell_later hb4 c5; have c8 := cell_later hb4 c6)))
     have HW5 := Lib.hid hw5
     clear hw3 hw4 hw5 hb3 hb4 hk5 c3 c4 c5 c6 c7 c8 c9 s1 s2 s3 s4
     go_wp2_with fail
     go_roundg (gk - 1)
     case rel =>
      refine ⟨0 + 1, by rw [HX.out.2.1]; omega, by rw [HX.out.2.1]; omega, by go_num, ?_⟩
      show WS _ _ _ _
      rw [comJ_first HT.out]
      exact HW5.out
     case measure => omega
    ·have hk2 : ((k : Int) != 0) = true := by rw [bne_iff_ne]; omega
     have hbnd : Hid ((L ++ (nmMPoint ++ [40]) ++ comJ (ts.take k) ++ [44]).length + (brkT (ptT p)).length <= 100000000000000) := by
      have hlb := HX.out.1
      have := comJ_next_le HT.out hk00
      show _ <= _
      simp at this ⊢; omega
     go_wp2_with fail
     try rw [hq]
     refine (ws_byte 44 HS.out.1 (by have := hbnd.out; simp at this ⊢; omega)).mono ?_
     rintro e w2 ⟨rfl, hw2, hk9⟩
     have HW2 := Lib.hid (And.intro hw2 (HS.out.2.kept hne hk9))
     clear hw2 hk9 HS
     obtain ⟨A, hAe⟩ : ∃ A, bs (fmtT p.1) = A := ⟨_, rfl⟩
     obtain ⟨C, hCe⟩ : ∃ C, bs (fmtT p.2) = C := ⟨_, rfl⟩
     have hAl : A.size <= 1000 := by rw [<- hAe, bs_size]; exact fmtT_len _
     have hCl : C.size <= 1000 := by rw [<- hCe, bs_size]; exact fmtT_len _
     have HAC := Lib.hid (And.intro hAe (And.intro hCe (And.intro hAl hCl)))
     have s1 : ¬ (9223372036854775807 < 1 + A.size) := by omega
     have s2 : ¬ (9223372036854775807 < 1 + A.size + 1) := by omega
     have s3 : ¬ (9223372036854775807 < 1 + A.size + 1 + C.size) := by omega
     have s4 : ¬ (9223372036854775807 < 1 + A.size + 1 + C.size + 1) := by omega
     have c3 := HW2.out.2.c0
     have c4 := HW2.out.2.c1
     clear c1 c2 hglt hAe hCe hAl hCl hst
     go_wp2_with fail
     go_region_held3 (fun w' => w'.cell? ⟨q, 0, none⟩ = some (.float .f64 p.1) /\ w'.cell? ⟨q, 1, none⟩ = some (.float .f64 p.2))
      (first | exact ⟨c9.c0, c9.c1⟩ | exact ⟨c7, c8⟩ | exact ⟨c5, c6⟩ | exact ⟨c3, c4⟩ | go_keep)
      ((first
       | (go_at_call 34; refine (number_ws p.1 A HAC.out.1 HP.out.2.1 H.out.2.1 (HW2.out.1.drew)).mono ?_; rintro e w3 ⟨rfl, hw3, hb3⟩; have c5 := cell_later hb3 c3; have c6 := cell_later hb3 c4)
       | (go_at_call 33; refine (ws_str (brkT (ptT p)) _ (by rw [<- HAC.out.1, <- HAC.out.2.1]; apply ls_inj; simp [ls, bs, ptT, brkT]) hw4 hbnd.out).mono ?_; rintro e w5 ⟨⟨v5, rfl⟩, hw5, hk5⟩; have c9 := (PtAt.old (show PtAt w2.drew q p from HW2.out.2) (hb3.trans (hb4.mono hb3.size))).kept hne hk5)
       | (go_at_call 34; refine (number_ws p.2 C HAC.out.2.1 HP.out.2.2 H.out.2.1 hw3).mono ?_; rintro e w4 ⟨rfl, hw4, hb4⟩; have c7 := cell_later hb4 c5; have c8 := cell_later hb4 c6)))
     have HW5 := Lib.hid hw5
     clear hw3 hw4 hw5 hb3 hb4 hk5 c3 c4 c5 c6 c7 c8 c9 s1 s2 s3 s4
     go_wp2_with fail
     go_roundg (gk - 1)
     case rel =>
      refine ⟨k + 1, by rw [HX.out.2.1]; omega, by rw [HX.out.2.1]; omega, by go_num, ?_⟩
      show WS _ _ _ _
      rw [comJ_next HT.out hk00]
      simpa using HW5.out
     case measure => omega
theorem wkt_mpoly (w0 : World) (B0 b : Nat) (L : List UInt8) (u : Value) (xs : List (List (List (Nat × Nat)))) (w : World) (hfo : Fo w0) (hps : Pls B0 w0 u xs) (hv : ∀ rss ∈ xs, ∀ ps ∈ rss, VNs ps) (hl : L.length + (gT (.mpoly xs)).length <= 100000000000000) (h : WS w0 b L w) :
  Calls Tryz.prog 18 #[.pointer (some ⟨b, 0, none⟩), .iface 58 u] w (WkPost w0 b L (gT (.mpoly xs))) := by
 obtain ⟨Q, hQ⟩ : ∃ Q, WkPost w0 b L (gT (.mpoly xs)) = Q := ⟨_, rfl⟩
 rw [hQ]
 have ta47 := ta_no47 58 (by decide)
 have ta54 := ta_no54 58 (by decide)
 have ta50 := ta_no50 58 (by decide)
 have ta56 := ta_no56 58 (by decide)
 have ta86 := ta_no86 58 (by decide)
 have ta52 := ta_no52 58 (by decide)
 have tay := ta_yes58
 obtain ⟨vs, hrow, hall⟩ := hps
 obtain ⟨A, c, rfl⟩ := Row.shape hrow
 have H := Lib.hid (And.intro h (And.intro hfo (And.intro hrow (And.intro hall (And.intro hv (And.intro hl hQ))))))
 clear h hfo hrow hall hv hl hQ
 have hcv := fun (w : World) (C : Array Value) (n c : Nat) => Lib.run_convert_bytes_const (P := Tryz.prog) w 66 5 C n c Tryz.underlying66 Tryz.underlying5
 by_cases h0 : xs.length = 0
 ·have hnil : xs = [] := List.length_eq_zero_iff.1 h0
  subst hnil
  go_enter Tryz.func18, Tryz.ntmps18
  go_wp2_with fail
  have hlb := H.out.2.2.2.2.2.1
  simp [gT, wholeT, txMPoly] at hlb
  refine (ws_const txMPoly _ _ _ (by rfl) (by rfl) H.out.1 (by simp [txMPoly]; omega)).mono ?_
  rintro e w2 ⟨⟨v, rfl⟩, hw2⟩
  have HW := Lib.hid hw2
  clear hw2 hlb
  go_wp2_with fail
  rw [<- H.out.2.2.2.2.2.2]
  go_returns
  exact ⟨rfl, HW.out⟩
 ·have hz : ¬ ((xs.length : Int) = 0) := by omega
  have hne : xs.map polyT ≠ [] := by
   intro h
   apply h0
   simpa using congrArg List.length h
  have hwr : gT (.mpoly xs) = nmMPoly ++ [40] ++ comJ (xs.map polyT) ++ [41] := by
   show wholeT nmMPoly txMPoly (xs.map polyT) = _
   unfold wholeT brkT
   rw [if_neg hne]; simp
  rw [hwr] at H
  have hlb := H.out.2.2.2.2.2.1
  have hlb1 : L.length + (nmMPoly.length + 1 + (comJ (xs.map polyT)).length + 1) <= 100000000000000 := by simp at hlb; omega
  have HX := Lib.hid hlb1
  clear hne hwr hlb hlb1
  go_enter Tryz.func18, Tryz.ntmps18
  go_wp2_with fail
  refine (ws_const (nmMPoly ++ [40]) _ _ _ (by rfl) (by rfl) H.out.1 (by have hlb := HX.out; simp; omega)).mono ?_
  rintro e w2 ⟨⟨v, rfl⟩, hw2⟩
  have HW := Lib.hid hw2
  clear hw2
  go_wp2_with fail
  go_loopg [186] xs.length (fun n v wr => CmRel w0 b (L ++ (nmMPoly ++ [40])) (xs.map polyT) n v wr)
  case atStart => exact ⟨0, by simp, Nat.zero_le _, rfl, by show WS _ _ _ _; simpa [comJ] using HW.out⟩
  case round =>
   obtain ⟨k, hgk, hk, rfl, hws⟩ := hrel
   rw [List.length_map] at hgk hk
   by_cases hkl : k = xs.length
   ·subst hkl
    have HWS : Hid (WS w0 b (L ++ (nmMPoly ++ [40]) ++ comJ (xs.map polyT)) wr) := by
     have := hws.out
     rw [List.take_of_length_le (by simp)] at this
     exact this
    clear hws
    go_wp2_with fail
    refine (ws_byte 41 HWS.out (by have hlb := HX.out; simp; omega)).mono ?_
    rintro e w3 ⟨rfl, hw3, -⟩
    have HW3 := Lib.hid hw3
    clear hw3
    go_wp2_with fail
    rw [<- H.out.2.2.2.2.2.2]
    go_returns
    exact ⟨rfl, by simpa using HW3.out⟩
   ·obtain ⟨rss, hp⟩ : ∃ rss, xs[k]? = some rss := ⟨_, List.getElem?_eq_getElem (by omega)⟩
    obtain ⟨vk, hvk, hrws⟩ := All2.get' H.out.2.2.2.1 hp
    obtain ⟨g, c', hA, -⟩ := Row.pos H.out.2.2.1 (by omega)
    injection hA with hA1 hA2 hA3
    subst hA1
    subst hA3
    have c1 := Row.cell (Row.below H.out.2.2.1 hws.out.below) k hvk
    obtain ⟨us, hrow2, hall2⟩ := hrws
    obtain ⟨A2, cc2, rfl⟩ := Row.shape hrow2
    have HR : Hid (w0.ownsRow B0 86 1 (.slice A2 rss.length cc2) rss.length us /\ All2 (Pts B0 w0) us rss /\ ∀ ps ∈ rss, VNs ps) :=
     ⟨hrow2, hall2, H.out.2.2.2.2.1 rss (List.mem_of_getElem? hp)⟩
    have HT : Hid ((xs.map polyT)[k]? = some (polyT rss)) := by show _ = _; rw [List.getElem?_map, hp]; rfl
    have pt_len : (polyT rss).length = (comJ (rss.map lineT)).length + 2 := by unfold polyT brkT; simp
    have hmx := row_max H.out.2.2.1
    clear hrow2 hall2 hvk hp
    have hk0 : (0 : Int) <= (k : Int) := by omega
    have hk1 : (k : Int) < (xs.length : Int) := by omega
    have hk3 : (k : Int) + 1 <= 9223372036854775807 := by omega
    by_cases hk00 : k = 0
    ·subst hk00
     have HL : Hid (WS w0 b (L ++ (nmMPoly ++ [40])) wr) := by
      show WS _ _ _ _
      have := hws.out
      simpa [comJ] using this
     clear hws
     go_wp2_with fail
     refine (ws_byte 40 HL.out (by have hlb := HX.out; have := comJ_first_le HT.out; have := pt_len; simp only [List.length_append, List.length_cons, List.length_nil]; omega)).mono ?_
     rintro e w4 ⟨rfl, hw4, -⟩
     have HL4 := Lib.hid hw4
     clear hw4
     go_wp2_with fail
     go_loopg [199] rss.length (fun n v wr => CmRel w0 b (L ++ (nmMPoly ++ [40]) ++ [40]) (rss.map lineT) n v wr)
     case atStart => exact ⟨0, by simp, Nat.zero_le _, rfl, by show WS _ _ _ _; simpa [comJ] using HL4.out⟩
     case round =>
      obtain ⟨m, hgm, hm, rfl, hwm⟩ := hrel
      rw [List.length_map] at hgm hm
      by_cases hml : m = rss.length
      ·subst hml
       have HWM : Hid (WS w0 b (L ++ (nmMPoly ++ [40]) ++ [40] ++ comJ (rss.map lineT)) wr) := by
        have := hwm.out
        rw [List.take_of_length_le (l := rss.map lineT) (by simp)] at this
        exact this
       clear hwm
       go_wp2_with fail
       refine (ws_byte 41 HWM.out (by have hlb := HX.out; have := comJ_first_le HT.out; have := pt_len; simp only [List.length_append, List.length_cons, List.length_nil]; omega)).mono ?_
       rintro e w5 ⟨rfl, hw5, -⟩
       have HW5 := Lib.hid hw5
       clear hw5
       go_wp2_with fail
       go_roundg (xs.length - (0 + 1))
       case rel =>
        refine ⟨0 + 1, by rw [List.length_map], by rw [List.length_map]; omega, by go_num, ?_⟩
        show WS _ _ _ _
        rw [comJ_first HT.out]
        simpa [polyT, brkT] using HW5.out
       case measure => omega
      ·obtain ⟨ps, hp⟩ : ∃ ps, rss[m]? = some ps := ⟨_, List.getElem?_eq_getElem (by omega)⟩
       obtain ⟨vm, hvm, hpts⟩ := All2.get' HR.out.2.1 hp
       obtain ⟨g2, c2', hA, -⟩ := Row.pos HR.out.1 (by omega)
       injection hA with hA1 hA2 hA3
       subst hA1
       subst hA3
       have c2 := Row.cell (Row.below HR.out.1 hwm.out.below) m hvm
       obtain ⟨vA, vc, rfl⟩ := Row.shape hpts
       have HP : Hid (Pts B0 w0 (.slice vA ps.length vc) ps /\ VNs ps /\ (rss.map lineT)[m]? = some (lineT ps)) :=
        ⟨hpts, HR.out.2.2 ps (List.mem_of_getElem? hp), by rw [List.getElem?_map, hp]; rfl⟩
       have hmy := row_max HR.out.1
       clear hpts hvm hp
       have hm0 : (0 : Int) <= (m : Int) := by omega
       have hm1 : (m : Int) < (rss.length : Int) := by omega
       have hm3 : (m : Int) + 1 <= 9223372036854775807 := by omega
       by_cases hm00 : m = 0
       ·subst hm00
        have HLm : Hid (WS w0 b (L ++ (nmMPoly ++ [40]) ++ [40]) wr) := by
         show WS _ _ _ _
         have := hwm.out
         simpa [comJ] using this
        clear hwm
        go_wp2_with fail
        refine (writeLine_any w0 B0 b _ _ ps _ H.out.2.1 HP.out.1 HP.out.2.1 (by have hlb := HX.out; have := comJ_first_le HT.out; have := pt_len; have := comJ_first_le HP.out.2.2; simp only [List.length_append, List.length_cons, List.length_nil]; omega) HLm.out).mono ?_
        rintro e w6 ⟨rfl, hw6⟩
        have HW6 := Lib.hid hw6
        clear hw6
        go_wp2_with fail
        go_roundg (rss.length - 1)
        case rel =>
         refine ⟨0 + 1, by rw [List.length_map], by rw [List.length_map]; omega, by go_num, ?_⟩
         show WS _ _ _ _
         rw [comJ_first HP.out.2.2]
         exact HW6.out
        case measure => omega
       ·have hm2 : ((m : Int) != 0) = true := by rw [bne_iff_ne]; omega
        go_wp2_with fail
        refine (ws_byte 44 hwm.out (by have hlb := HX.out; have := comJ_first_le HT.out; have := pt_len; have := comJ_next_le HP.out.2.2 hm00; simp only [List.length_append, List.length_cons, List.length_nil]; omega)).mono ?_
        rintro e w6 ⟨rfl, hw6, -⟩
        have HLm := Lib.hid hw6
        clear hw6
        go_wp2_with fail
        refine (writeLine_any w0 B0 b _ _ ps _ H.out.2.1 HP.out.1 HP.out.2.1 (by have hlb := HX.out; have := comJ_first_le HT.out; have := pt_len; have := comJ_next_le HP.out.2.2 hm00; simp only [List.length_append, List.length_cons, List.length_nil]; omega) HLm.out).mono ?_
        rintro e w7 ⟨rfl, hw7⟩
        have HW7 := Lib.hid hw7
        clear hw7
        go_wp2_with fail
        go_roundg (rss.length - (m + 1))
        case rel =>
         refine ⟨m + 1, by rw [List.length_map], by rw [List.length_map]; omega, by go_num, ?_⟩
         show WS _ _ _ _
         rw [comJ_next HP.out.2.2 hm00]
         simpa using HW7.out
        case measure => omega
    ·have hk2 : ((k : Int) != 0) = true := by rw [bne_iff_ne]; omega
     go_wp2_with fail
     refine (ws_byte 44 hws.out (by have hlb := HX.out; have := comJ_next_le HT.out hk00; have := pt_len; simp only [List.length_append, List.length_cons, List.length_nil]; omega)).mono ?_
     rintro e w3 ⟨rfl, hw3, -⟩
     have HL := Lib.hid hw3
     have HK := Lib.hid hk00
     clear hw3 hws
     go_wp2_with fail
     refine (ws_byte 40 HL.out (by have hlb := HX.out; have := comJ_next_le HT.out HK.out; have := pt_len; simp only [List.length_append, List.length_cons, List.length_nil]; omega)).mono ?_
     rintro e w4 ⟨rfl, hw4, -⟩
     have HL4 := Lib.hid hw4
     clear hw4
     go_wp2_with fail
     go_loopg [199] rss.length (fun n v wr => CmRel w0 b (L ++ (nmMPoly ++ [40]) ++ comJ ((xs.map polyT).take k) ++ [44] ++ [40]) (rss.map lineT) n v wr)
     case atStart => exact ⟨0, by simp, Nat.zero_le _, rfl, by show WS _ _ _ _; simpa [comJ] using HL4.out⟩
     case round =>
      obtain ⟨m, hgm, hm, rfl, hwm⟩ := hrel
      rw [List.length_map] at hgm hm
      by_cases hml : m = rss.length
      ·subst hml
       have HWM : Hid (WS w0 b (L ++ (nmMPoly ++ [40]) ++ comJ ((xs.map polyT).take k) ++ [44] ++ [40] ++ comJ (rss.map lineT)) wr) := by
        have := hwm.out
        rw [List.take_of_length_le (l := rss.map lineT) (by simp)] at this
        exact this
       clear hwm
       go_wp2_with fail
       refine (ws_byte 41 HWM.out (by have hlb := HX.out; have := comJ_next_le HT.out HK.out; have := pt_len; simp only [List.length_append, List.length_cons, List.length_nil]; omega)).mono ?_
       rintro e w5 ⟨rfl, hw5, -⟩
       have HW5 := Lib.hid hw5
       clear hw5
       go_wp2_with fail
       go_roundg (xs.length - (k + 1))
       case rel =>
        refine ⟨k + 1, by rw [List.length_map], by rw [List.length_map]; omega, by go_num, ?_⟩
        show WS _ _ _ _
        rw [comJ_next HT.out hk00]
        simpa [polyT, brkT] using HW5.out
       case measure => omega
      ·obtain ⟨ps, hp⟩ : ∃ ps, rss[m]? = some ps := ⟨_, List.getElem?_eq_getElem (by omega)⟩
       obtain ⟨vm, hvm, hpts⟩ := All2.get' HR.out.2.1 hp
       obtain ⟨g2, c2', hA, -⟩ := Row.pos HR.out.1 (by omega)
       injection hA with hA1 hA2 hA3
       subst hA1
       subst hA3
       have c2 := Row.cell (Row.below HR.out.1 hwm.out.below) m hvm
       obtain ⟨vA, vc, rfl⟩ := Row.shape hpts
       have HP : Hid (Pts B0 w0 (.slice vA ps.length vc) ps /\ VNs ps /\ (rss.map lineT)[m]? = some (lineT ps)) :=
        ⟨hpts, HR.out.2.2 ps (List.mem_of_getElem? hp), by rw [List.getElem?_map, hp]; rfl⟩
       have hmy := row_max HR.out.1
       clear hpts hvm hp
       have hm0 : (0 : Int) <= (m : Int) := by omega
       have hm1 : (m : Int) < (rss.length : Int) := by omega
       have hm3 : (m : Int) + 1 <= 9223372036854775807 := by omega
       by_cases hm00 : m = 0
       ·subst hm00
        have HLm : Hid (WS w0 b (L ++ (nmMPoly ++ [40]) ++ comJ ((xs.map polyT).take k) ++ [44] ++ [40]) wr) := by
         show WS _ _ _ _
         have := hwm.out
         simpa [comJ] using this
        clear hwm hk0 hk1 hk2 hk3 hm0 hm3 hmx hmy
        go_wp2_with fail
        refine (writeLine_any w0 B0 b _ _ ps _ H.out.2.1 HP.out.1 HP.out.2.1 (by have hlb := HX.out; have := comJ_next_le HT.out HK.out; have := pt_len; have := comJ_first_le HP.out.2.2; simp only [List.length_append, List.length_cons, List.length_nil]; omega) HLm.out).mono ?_
        rintro e w6 ⟨rfl, hw6⟩
        have HW6 := Lib.hid hw6
        clear hw6
        go_wp2_with fail
        go_roundg (rss.length - 1)
        case rel =>
         refine ⟨0 + 1, by rw [List.length_map], by rw [List.length_map]; omega, by go_num, ?_⟩
         show WS _ _ _ _
         rw [comJ_first HP.out.2.2]
         exact HW6.out
        case measure => omega
       ·have hm2 : ((m : Int) != 0) = true := by rw [bne_iff_ne]; omega
        go_wp2_with fail
        refine (ws_byte 44 hwm.out (by have hlb := HX.out; have := comJ_next_le HT.out HK.out; have := pt_len; have := comJ_next_le HP.out.2.2 hm00; simp only [List.length_append, List.length_cons, List.length_nil]; omega)).mono ?_
        rintro e w6 ⟨rfl, hw6, -⟩
        have HLm := Lib.hid hw6
        clear hw6
        go_wp2_with fail
        refine (writeLine_any w0 B0 b _ _ ps _ H.out.2.1 HP.out.1 HP.out.2.1 (by have hlb := HX.out; have := comJ_next_le HT.out HK.out; have := pt_len; have := comJ_next_le HP.out.2.2 hm00; simp only [List.length_append, List.length_cons, List.length_nil]; omega) HLm.out).mono ?_
        rintro e w7 ⟨rfl, hw7⟩
        have HW7 := Lib.hid hw7
        clear hw7
        go_wp2_with fail
        go_roundg (rss.length - (m + 1))
        case rel =>
         refine ⟨m + 1, by rw [List.length_map], by rw [List.length_map]; omega, by go_num, ?_⟩
         show WS _ _ _ _
         rw [comJ_next HP.out.2.2 hm00]
         simpa using HW7.out
        case measure => omega
theorem wkt_coll (w0 : World) (B0 b : Nat) (gs : List Geo) (ih : ∀ (g : Geo) (v : Value) (L : List UInt8) (w : World), g ∈ gs -> GRep B0 w0 g v -> GV g -> L.length + (gT g).length <= 100000000000000 -> WS w0 b L w -> Calls Tryz.prog 18 #[.pointer (some ⟨b, 0, none⟩), v] w (WkPost w0 b L (gT g)))
  (L : List UInt8) (u : Value) (vs : List Value) (w : World) (hfo : Fo w0) (hrow : w0.ownsRow B0 33 1 u gs.length vs) (hall : GReps B0 w0 gs vs) (hv : GVs gs) (hl : L.length + (gT (.coll gs)).length <= 100000000000000) (h : WS w0 b L w) :
  Calls Tryz.prog 18 #[.pointer (some ⟨b, 0, none⟩), .iface 60 u] w (WkPost w0 b L (gT (.coll gs))) := by
 obtain ⟨Q, hQ⟩ : ∃ Q, WkPost w0 b L (gT (.coll gs)) = Q := ⟨_, rfl⟩
 rw [hQ]
 have ta47 := ta_no47 60 (by decide)
 have ta54 := ta_no54 60 (by decide)
 have ta50 := ta_no50 60 (by decide)
 have ta56 := ta_no56 60 (by decide)
 have ta86 := ta_no86 60 (by decide)
 have ta52 := ta_no52 60 (by decide)
 have ta58 := ta_no58 60 (by decide)
 have tay := ta_yes60
 obtain ⟨A, c, rfl⟩ := Row.shape hrow
 have H := Lib.hid (And.intro h (And.intro hfo (And.intro hrow (And.intro hall (And.intro hv (And.intro hl hQ))))))
 have IH := Lib.hid ih
 clear h hfo hrow hall hv hl hQ ih
 have hcv := fun (w : World) (C : Array Value) (n c : Nat) => Lib.run_convert_bytes_const (P := Tryz.prog) w 66 5 C n c Tryz.underlying66 Tryz.underlying5
 by_cases h0 : gs.length = 0
 ·have hnil : gs = [] := List.length_eq_zero_iff.1 h0
  subst hnil
  go_enter Tryz.func18, Tryz.ntmps18
  go_wp2_with fail
  have hlb := H.out.2.2.2.2.2.1
  simp [gT, gTs, wholeT, txColl] at hlb
  refine (ws_const txColl _ _ _ (by rfl) (by rfl) H.out.1 (by simp [txColl]; omega)).mono ?_
  rintro e w2 ⟨⟨v, rfl⟩, hw2⟩
  have HW := Lib.hid hw2
  clear hw2 hlb
  go_wp2_with fail
  rw [<- H.out.2.2.2.2.2.2]
  go_returns
  exact ⟨rfl, HW.out⟩
 ·have hz : ¬ ((gs.length : Int) = 0) := by omega
  have hne : gs.map gT ≠ [] := by
   intro h
   apply h0
   simpa using congrArg List.length h
  have hwr : gT (.coll gs) = nmColl ++ [40] ++ comJ (gs.map gT) ++ [41] := by
   show wholeT nmColl txColl (gTs gs) = _
   rw [gTs_eq]
   unfold wholeT brkT
   rw [if_neg hne]; simp
  rw [hwr] at H
  have hlb := H.out.2.2.2.2.2.1
  have hlb1 : L.length + (nmColl.length + 1 + (comJ (gs.map gT)).length + 1) <= 100000000000000 := by simp at hlb; omega
  have HX := Lib.hid hlb1
  clear hne hwr hlb hlb1
  go_enter Tryz.func18, Tryz.ntmps18
  go_wp2_with fail
  refine (ws_const (nmColl ++ [40]) _ _ _ (by rfl) (by rfl) H.out.1 (by have hlb := HX.out; simp; omega)).mono ?_
  rintro e w2 ⟨⟨v, rfl⟩, hw2⟩
  have HW := Lib.hid hw2
  clear hw2
  go_wp2_with fail
  go_loopg [233] gs.length (fun n v w' => CmRel w0 b (L ++ (nmColl ++ [40])) (gs.map gT) n v w')
  case atStart => exact ⟨0, by simp, Nat.zero_le _, rfl, by show WS _ _ _ _; simpa [comJ] using HW.out⟩
  case round =>
   obtain ⟨k, hgk, hk, rfl, hws⟩ := hrel
   rw [List.length_map] at hgk hk
   by_cases hkl : k = gs.length
   ·subst hkl
    have HWS : Hid (WS w0 b (L ++ (nmColl ++ [40]) ++ comJ (gs.map gT)) wr) := by
     have := hws.out
     rw [List.take_of_length_le (by simp)] at this
     exact this
    clear hws
    go_wp2_with fail
    refine (ws_byte 41 HWS.out (by have hlb := HX.out; simp; omega)).mono ?_
    rintro e w3 ⟨rfl, hw3, -⟩
    have HW3 := Lib.hid hw3
    clear hw3
    go_wp2_with fail
    rw [<- H.out.2.2.2.2.2.2]
    go_returns
    exact ⟨rfl, by simpa using HW3.out⟩
   ·obtain ⟨m, hp⟩ : ∃ m, gs[k]? = some m := ⟨_, List.getElem?_eq_getElem (by omega)⟩
    obtain ⟨vk, hvk, hrep⟩ := GReps.get H.out.2.2.2.1 hp
    obtain ⟨g, c', hA, -⟩ := Row.pos H.out.2.2.1 (by omega)
    injection hA with hA1 hA2 hA3
    subst hA1
    subst hA3
    have c1 := Row.cell (Row.below H.out.2.2.1 hws.out.below) k hvk
    obtain ⟨tk, uk, rfl⟩ := hrep.iface
    have HP : Hid (GRep B0 w0 m (.iface tk uk) /\ GV m /\ (gs.map gT)[k]? = some (gT m) /\ m ∈ gs) :=
     ⟨hrep, GVs.get H.out.2.2.2.2.1 m (List.mem_of_getElem? hp), by rw [List.getElem?_map, hp]; rfl, List.mem_of_getElem? hp⟩
    have hmx := row_max H.out.2.2.1
    clear hrep hvk hp
    have hk0 : (0 : Int) <= (k : Int) := by omega
    have hk1 : (k : Int) < (gs.length : Int) := by omega
    have hk3 : (k : Int) + 1 <= 9223372036854775807 := by omega
    by_cases hk00 : k = 0
    ·subst hk00
     have HL : Hid (WS w0 b (L ++ (nmColl ++ [40])) wr) := by
      show WS _ _ _ _
      have := hws.out
      simpa [comJ] using this
     clear hws
     go_wp2_with fail
     refine (IH.out m _ _ _ HP.out.2.2.2 HP.out.1 HP.out.2.1 (by have hlb := HX.out; have := comJ_first_le HP.out.2.2.1; simp; omega) HL.out).mono ?_
     rintro e w3 ⟨rfl, hw3⟩
     have HW3 := Lib.hid hw3
     clear hw3
     go_wp2_with fail
     go_roundg (gk - 1)
     case rel =>
      refine ⟨0 + 1, by rw [List.length_map]; omega, by rw [List.length_map]; omega, by go_num, ?_⟩
      show WS _ _ _ _
      rw [comJ_first HP.out.2.2.1]
      exact HW3.out
     case measure => omega
    ·have hk2 : ((k : Int) != 0) = true := by rw [bne_iff_ne]; omega
     go_wp2_with fail
     refine (ws_byte 44 hws.out (by have hlb := HX.out; have := comJ_next_le HP.out.2.2.1 hk00; simp at this ⊢; omega)).mono ?_
     rintro e w3 ⟨rfl, hw3, -⟩
     have HL := Lib.hid hw3
     clear hw3
     go_wp2_with fail
     refine (IH.out m _ _ _ HP.out.2.2.2 HP.out.1 HP.out.2.1 (by have hlb := HX.out; have := comJ_next_le HP.out.2.2.1 hk00; simp at this ⊢; omega) HL.out).mono ?_
     rintro e w4 ⟨rfl, hw4⟩
     have HW4 := Lib.hid hw4
     clear hw4
     go_wp2_with fail
     go_roundg (gk - 1)
     case rel =>
      refine ⟨k + 1, by rw [List.length_map]; omega, by rw [List.length_map]; omega, by go_num, ?_⟩
      show WS _ _ _ _
      rw [comJ_next HP.out.2.2.1 hk00]
      simpa using HW4.out
     case measure => omega
theorem wkt_any (w0 : World) (B0 b : Nat) (hfo : Fo w0) : ∀ (g : Geo) (v : Value) (L : List UInt8) (w : World), GRep B0 w0 g v -> GV g -> L.length + (gT g).length <= 100000000000000 -> WS w0 b L w -> Calls Tryz.prog 18 #[.pointer (some ⟨b, 0, none⟩), v] w (WkPost w0 b L (gT g))
 | .point p, v, L, w, hr, hv, hl, h => by subst hr; exact wkt_point w0 b L p w hfo hv hl h
 | .line ps, v, L, w, hr, hv, hl, h => by obtain ⟨u, rfl, h2⟩ := hr; exact wkt_line w0 B0 b L u ps w hfo h2 hv hl h
 | .poly rss, v, L, w, hr, hv, hl, h => by obtain ⟨u, rfl, h2⟩ := hr; exact wkt_poly w0 B0 b L u rss w hfo h2 hv hl h
 | .mpoint ps, v, L, w, hr, hv, hl, h => by obtain ⟨u, rfl, h2⟩ := hr; exact wkt_mpoint w0 B0 b L u ps w hfo h2 hv hl h
 | .mline rss, v, L, w, hr, hv, hl, h => by obtain ⟨u, rfl, h2⟩ := hr; exact wkt_mline w0 B0 b L u rss w hfo h2 hv hl h
 | .mpoly xs, v, L, w, hr, hv, hl, h => by obtain ⟨u, rfl, h2⟩ := hr; exact wkt_mpoly w0 B0 b L u xs w hfo h2 hv hl h
 | .coll gs, v, L, w, hr, hv, hl, h => by
  obtain ⟨u, vs, rfl, h2, h3⟩ := hr
  exact wkt_coll w0 B0 b gs (fun g v L w hm hr hv hl h => wkt_any w0 B0 b hfo g v L w hr hv hl h) L u vs w hfo h2 h3 hv hl h
termination_by g => SizeOf.sizeOf g
decreasing_by
 have := List.sizeOf_lt_of_mem hm
 simp
 omega
end Go.Proofs.YtdfolbmoohcblaaGreatDoor
