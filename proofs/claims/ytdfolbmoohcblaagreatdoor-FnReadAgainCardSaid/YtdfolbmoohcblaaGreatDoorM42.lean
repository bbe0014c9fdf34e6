/-
For FnReadAgain, part 42: W23.
-/
import Derived.Test.YtdfolbmoohcblaaGreatDoorM41
set_option linter.all false
namespace Go.Proofs.YtdfolbmoohcblaaGreatDoor
set_option maxHeartbeats 4000000
set_option maxRecDepth 100000
open Go.RowKit
def big : Nat := 1000000000000
mutual
def GSm : Geo -> Prop
 | .point _ => True
 | .line ps => ps.length <= big
 | .poly rss => rss.length <= big /\ ∀ ps ∈ rss, ps.length <= big
 | .mpoint ps => ps.length <= big
 | .mline rss => rss.length <= big /\ ∀ ps ∈ rss, ps.length <= big
 | .mpoly xs => xs.length <= big /\ ∀ rss ∈ xs, rss.length <= big /\ ∀ ps ∈ rss, ps.length <= big
 | .coll gs => gs.length <= big /\ GSms gs
def GSms : List Geo -> Prop
 | [] => True
 | g :: gs => GSm g /\ GSms gs
end
theorem GSms.get : ∀ {gs : List Geo}, GSms gs -> ∀ g ∈ gs, GSm g
 | [], _, g, h => by cases h
 | g0 :: gs, ⟨h1, h2⟩, g, h => by
  rcases List.mem_cons.1 h with rfl | h
  ·exact h1
  ·exact GSms.get h2 g h
theorem own_kept {B e size n : Nat} {w w' : World} {v : Value} {xs : List Value} (h : w.ownsRow B e size v n xs) (hk : Kept (fun g => B <= g) w w') : w'.ownsRow B e size v n xs := by
 refine ⟨h.1, h.2.imp id ?_⟩
 rintro ⟨g, cap, cur, rfl, h1, h2, h3⟩
 exact ⟨g, cap, cur, rfl, h1, by rw [hk g h1 (lt_of_heap h2)]; exact h2, h3⟩
theorem info26 : (Tryz.prog.info? 26).map (fun i => (i.zero, i.size, i.bytes)) = some (some (.agg #[.int .i64 0, .slice none 0 0, .slice none 0 0]), 3, 56) := by kernel_rfl
theorem three_new {w : World} {x y z : Value} {t g : Nat} (hg : g = w.heap.size) : ∀ j u, [x, y, z][j]? = some u -> (w.alloc (Obj.cells #[x, y, z] t)).cell? ((⟨g, 0, none⟩ : Addr).add j) = some u := by
 subst hg
 intro j u hu
 have e : ((⟨w.heap.size, 0, none⟩ : Addr).add j) = ⟨w.heap.size, j, none⟩ := by unfold Addr.add; split <;> simp_all
 rw [e]
 have h := heap_alloc_new w (Obj.cells #[x, y, z] t)
 rw [Joins.cell_of_block h]
 rw [<- hu]; simp
theorem LsK.toOne {ok : Nat -> Prop} {w : World} {E e : Nat} {v u : Value} {ps : List (Nat × Nat)} (h : RowK ok w E 1 v 1 [u]) (hp : PtK ok w e u ps) : LsK ok w E e v [ps] := ⟨[u], h, hp, trivial⟩
theorem rowk_nil (ok : Nat -> Prop) (w : World) (e size : Nat) : RowK ok w e size (.slice none 0 0) 0 [] := ⟨World.ownsRow_nil _ _ _ _, fun g hg => by simp [Value.ownBlock] at hg⟩
def ShPost (w : World) (s : Shp) (e : Ending) (w' : World) : Prop := ∃ v, e = .returned v /\ SRep (fun g => w.heap.size <= g) w' s v /\ Below w.heap.size w w'
theorem one_list {w w1 : World} {k R : Nat} {L u : Value} {ps : List (Nat × Nat)} (_hR : w1.heap[R]? = some (.cells #[.int .i64 0, .slice none 0 0, .slice none 0 0] 26 (0, 0))) (hlt : w.heap.size = R) (hb : Below w.heap.size w w1)
  (hl : RowK (fun g => w.heap.size <= g /\ g ≠ R) w1 39 1 L 1 [u]) (hp : PtK (fun g => w.heap.size <= g /\ g ≠ R) w1 38 u ps) :
  SRep (fun g => w.heap.size <= g) (((w1.setCell ⟨R, 0, none⟩ (.int .i64 (k : Int))).setCell ⟨R, 1, none⟩ L).setCell ⟨R, 2, none⟩ (.slice none 0 0)) (.mk k [ps] []) (.agg #[.int .i64 (k : Int), L, .slice none 0 0]) /\
  Below w.heap.size w (((w1.setCell ⟨R, 0, none⟩ (.int .i64 (k : Int))).setCell ⟨R, 1, none⟩ L).setCell ⟨R, 2, none⟩ (.slice none 0 0)) := by
 refine ⟨⟨L, .slice none 0 0, [], rfl, ?_, rowk_nil _ _ _ _, trivial⟩, below_set3 hb (by omega)⟩
 have hk := kept_set3 (ok := fun g => w.heap.size <= g /\ g ≠ R) (w := w1) (R := R) (a := .int .i64 (k : Int)) (b := L) (c := .slice none 0 0) (fun g hg => hg.2)
 exact ((LsK.toOne hl hp).kept hk).mono fun g hg _ => hg.1
theorem SRep.agg {ok : Nat -> Prop} {w : World} {s : Shp} {v : Value} (h : SRep ok w s v) : ∃ (k : Int) (l p : Option Addr × Nat × Nat), v = .agg #[.int .i64 k, .slice l.1 l.2.1 l.2.2, .slice p.1 p.2.1 p.2.2] := by
 cases s with
 | mk k rss ps =>
  obtain ⟨lv, pv, cs, rfl, ⟨vs, h1, h2⟩, h3, h4⟩ := h
  obtain ⟨A, c, rfl⟩ := Row.shape h1.1
  obtain ⟨A', c', rfl⟩ := Row.shape h3.1
  exact ⟨k, (A, _, c), (A', _, c'), rfl⟩
def LqR (k0 : Nat) (w : World) (R O : Nat) (ss : List Shp) (n : Nat) (vi : Value) (wr : World) : Prop :=
 ∃ (k : Nat) (pv : Value) (cs : List Value), n = ss.length - k /\ k <= ss.length /\ vi = .int .i64 k /\ Hid (Bld k0 R O (.slice none 0 0) pv wr /\ wr.ownsRow (O + 1) 26 3 pv k cs /\ SReps (Away (O + 1) pv) wr (ss.take k) cs /\ Below w.heap.size w wr)
theorem GRepKs.get {ok : Nat -> Prop} {w : World} : ∀ {gs : List Geo} {vs : List Value}, GRepKs ok w gs vs -> ∀ {k : Nat} {g : Geo}, gs[k]? = some g -> ∃ v, vs[k]? = some v /\ GRepK ok w g v
 | [], [], _, k, g, hk => by simp at hk
 | g0 :: gs, v0 :: vs, ⟨h1, h2⟩, k, g, hk => by
  cases k with
  | zero => simp at hk; subst hk; exact ⟨v0, rfl, h1⟩
  | succ k =>
   obtain ⟨v, hv, hg⟩ := GRepKs.get h2 (k := k) (g := g) (by simpa using hk)
   exact ⟨v, by simpa using hv, hg⟩
theorem shapeOf_point (w : World) (p : Nat × Nat) :
  Calls Tryz.prog 11 #[.iface 47 (PV p)] w (ShPost w (.mk 1 [[p]] [])) := by
 have tay := ta_yes47
 obtain ⟨R, hR⟩ : ∃ R, w.heap.size = R := ⟨_, rfl⟩
 have hst := run_store_float
 unfold PV
 go_enter Tryz.func11, Tryz.ntmps11
 go_wp2_with fail
 subst hR
 obtain ⟨w1, hw1⟩ : ∃ w1, w.alloc (Obj.cells #[.int .i64 1, .slice (some ⟨w.heap.size + 1 + 1 + 1, 0, none⟩) 1 1, .slice none 0 0] 26) = w1 := ⟨_, rfl⟩
 have z1 : w1.heap.size = w.heap.size + 1 := by rw [<- hw1]; exact alloc_size _ _
 have b1 : Below w.heap.size w w1 := by rw [<- hw1]; exact (Below.refl _ _).alloc (Nat.le_refl _) _
 have k1 : w1.heap[w.heap.size]? = some (.cells #[.int .i64 1, .slice (some ⟨w.heap.size + 1 + 1 + 1, 0, none⟩) 1 1, .slice none 0 0] 26 (0, 0)) := by rw [<- hw1]; exact heap_alloc_new w _
 rw [hw1]
 obtain ⟨w2, hw2⟩ : ∃ w2, w1.alloc (Obj.cells #[.float .f64 p.1, .float .f64 p.2] 47) = w2 := ⟨_, rfl⟩
 have z2 : w2.heap.size = w.heap.size + 2 := by rw [<- hw2, alloc_size, z1]
 have b2 : Below w1.heap.size w1 w2 := by rw [<- hw2]; exact (Below.refl _ _).alloc (Nat.le_refl _) _
 rw [hw2]
 obtain ⟨w3, hw3⟩ : ∃ w3, w2.alloc (Obj.cells #[.float .f64 p.1, .float .f64 p.2] 38) = w3 := ⟨_, rfl⟩
 have z3 : w3.heap.size = w.heap.size + 3 := by rw [<- hw3, alloc_size, z2]
 have b3 : Below w2.heap.size w2 w3 := by rw [<- hw3]; exact (Below.refl _ _).alloc (Nat.le_refl _) _
 have r3 : w3.ownsRow 0 38 2 (.slice (some ⟨w.heap.size + 1 + 1, 0, none⟩) 1 1) 1 [.float .f64 p.1, .float .f64 p.2] := by
  rw [<- hw3]; exact row_lit_at w2 0 38 2 1 _ [.float .f64 p.1, .float .f64 p.2] (by omega) (Nat.zero_le _) rfl (by unfold maxLen; omega)
 rw [hw3]
 obtain ⟨w4, hw4⟩ : ∃ w4, w3.alloc (Obj.cells #[.slice (some ⟨w.heap.size + 1 + 1, 0, none⟩) 1 1] 39) = w4 := ⟨_, rfl⟩
 have b4 : Below w3.heap.size w3 w4 := by rw [<- hw4]; exact (Below.refl _ _).alloc (Nat.le_refl _) _
 have r4 : w4.ownsRow 0 39 1 (.slice (some ⟨w.heap.size + 1 + 1 + 1, 0, none⟩) 1 1) 1 [.slice (some ⟨w.heap.size + 1 + 1, 0, none⟩) 1 1] := by
  rw [<- hw4]; exact row_lit_at w3 0 39 1 1 _ [.slice (some ⟨w.heap.size + 1 + 1, 0, none⟩) 1 1] (by omega) (Nat.zero_le _) rfl (by unfold maxLen; omega)
 rw [hw4]
 have k4 : w4.heap[w.heap.size]? = some (.cells #[.int .i64 1, .slice (some ⟨w.heap.size + 1 + 1 + 1, 0, none⟩) 1 1, .slice none 0 0] 26 (0, 0)) := by
  rw [b4.block _ (by omega), b3.block _ (by omega), b2.block _ (by omega)]; exact k1
 obtain ⟨q0, q1, q2⟩ := three_cells k4
 refine bodyPost_ret (v := .agg #[.int .i64 1, .slice (some ⟨w.heap.size + 1 + 1 + 1, 0, none⟩) 1 1, .slice none 0 0]) (by simp [results, Tryz.results11, go_sem, q0, q1, q2]) rfl ⟨_, rfl, ⟨_, _, [], rfl, ⟨[.slice (some ⟨w.heap.size + 1 + 1, 0, none⟩) 1 1], ⟨r4, ?_⟩, ⟨Row.below r3 b4, ?_⟩, trivial⟩, rowk_nil _ _ _ _, trivial⟩, ?_⟩
 ·intro g hg
  have : w.heap.size + 1 + 1 + 1 = g := by simpa [Value.ownBlock] using hg
  omega
 ·intro g hg
  have : w.heap.size + 1 + 1 = g := by simpa [Value.ownBlock] using hg
  omega
 ·exact b1.trans ((b2.trans ((b3.trans (b4.mono (by omega))).mono (by omega))).mono (by omega))
theorem shapeOf_line (ok : Nat -> Prop) (w : World) (u : Value) (ps : List (Nat × Nat)) (h : PtK ok w 47 u ps) (hn : ps.length <= big) :
  Calls Tryz.prog 11 #[.iface 50 u] w (ShPost w (.mk 2 [ps] [])) := by
 have ta47 := ta_no47 50 (by decide)
 have tay := ta_yes50
 obtain ⟨R, hR⟩ : ∃ R, w.heap.size = R := ⟨_, rfl⟩
 obtain ⟨A, c, rfl⟩ := Row.shape h.1
 have H := Lib.hid (And.intro h hn)
 clear h hn
 go_enter Tryz.func11, Tryz.ntmps11
 go_wp2_with fail
 obtain ⟨w0, hw0⟩ : ∃ w0, w.alloc (Obj.cells #[.int .i64 0, .slice none 0 0, .slice none 0 0] 26) = w0 := ⟨_, rfl⟩
 have HR : Hid (w0.heap[R]? = some (.cells #[.int .i64 0, .slice none 0 0, .slice none 0 0] 26 (0, 0)) /\ Below w.heap.size w w0 /\ w0.heap.size = R + 1) := by
  rw [<- hw0, <- hR]
  exact ⟨heap_alloc_new w _, (Below.refl _ _).alloc (Nat.le_refl _) _, alloc_size _ _⟩
 rw [hw0]
 clear hw0
 refine (listOf_any ok w0 _ ps (H.out.1.kept (Kept.below HR.out.2.1)) H.out.2).mono ?_
 rintro e w1 ⟨v, rfl, hv, hb1⟩
 obtain ⟨vA, vc, rfl⟩ := Row.shape hv.1
 have hR1 : w1.heap[R]? = some (.cells #[.int .i64 0, .slice none 0 0, .slice none 0 0] 26 (0, 0)) := (hb1.block R (lt_of_heap HR.out.1)).trans HR.out.1
 have hltR : R < w1.heap.size := lt_of_heap hR1
 have hb01 : Below w.heap.size w w1 := HR.out.2.1.trans (hb1.mono HR.out.2.1.size)
 obtain ⟨w2, hw2⟩ : ∃ w2, w1.alloc (Obj.cells #[.slice vA ps.length vc] 39) = w2 := ⟨_, rfl⟩
 have hR2 : w2.heap[R]? = some (.cells #[.int .i64 0, .slice none 0 0, .slice none 0 0] 26 (0, 0)) := by
  rw [<- hw2]
  exact (Below.heap_alloc _ _ _ hltR).trans hR1
 have HW : Hid (RowK (fun g => w.heap.size <= g /\ g ≠ R) w2 39 1 (.slice (some ⟨w1.heap.size, 0, none⟩) 1 1) 1 [.slice vA ps.length vc] /\ PtK (fun g => w.heap.size <= g /\ g ≠ R) w2 38 (.slice vA ps.length vc) ps /\ Below w.heap.size w w2 /\ w2.heap[R]? = some (.cells #[.int .i64 0, .slice none 0 0, .slice none 0 0] 26 (0, 0))) := by
  refine ⟨?_, ?_, ?_, hR2⟩
  ·rw [<- hw2]
   refine ⟨row_lit w1 0 39 1 1 [.slice vA ps.length vc] (Nat.zero_le _) rfl (by unfold maxLen; omega), fun g hg => ?_⟩
   have : w1.heap.size = g := by simpa [Value.ownBlock] using hg
   omega
  ·rw [<- hw2]
   refine (PtK.mono hv (ok' := fun g => w.heap.size <= g /\ g ≠ R) fun g hg _ => ?_).kept (Kept.below ((Below.refl _ _).alloc (Nat.le_refl _) _))
   have := HR.out.2.2
   omega
  ·rw [<- hw2]
   exact below_alloc hb01 _
 obtain ⟨r0, r1, r2⟩ := three_cells hR2
 have f0 := Joins.unfrozen_of_block hR2 0
 have f1 := Joins.unfrozen_of_block hR2 1
 have f2 := Joins.unfrozen_of_block hR2 2
 clear hv hb1 hR1 hR2 hb01
 go_wp2_with fail
 obtain ⟨q0, q1, q2⟩ := three_cells (set3 HW.out.2.2.2 (.int .i64 2) (.slice (some ⟨w1.heap.size, 0, none⟩) 1 1) (.slice none 0 0))
 exact bodyPost_ret (v := .agg #[.int .i64 2, .slice (some ⟨w1.heap.size, 0, none⟩) 1 1, .slice none 0 0]) (by simp [results, Tryz.results11, go_sem, q0, q1, q2]) rfl ⟨_, rfl, one_list HW.out.2.2.2 hR HW.out.2.2.1 HW.out.1 HW.out.2.1⟩
theorem shapeOf_poly (ok : Nat -> Prop) (w : World) (u : Value) (rss : List (List (Nat × Nat))) (h : LsK ok w 86 47 u rss) (hn : rss.length <= big) (hn2 : ∀ ps ∈ rss, ps.length <= big) :
  Calls Tryz.prog 11 #[.iface 52 u] w (ShPost w (polyS rss)) := by
 have ta47 := ta_no47 52 (by decide)
 have ta50 := ta_no50 52 (by decide)
 have tay := ta_yes52
 obtain ⟨R, hR⟩ : ∃ R, w.heap.size = R := ⟨_, rfl⟩
 have hsh := h
 obtain ⟨vs0, hrow, -⟩ := hsh
 obtain ⟨A, c, rfl⟩ := Row.shape hrow.1
 clear hrow
 have H := Lib.hid (And.intro h (And.intro hn hn2))
 clear h hn hn2
 go_enter Tryz.func11, Tryz.ntmps11
 go_wp2_with fail
 obtain ⟨w0, hw0⟩ : ∃ w0, w.alloc (Obj.cells #[.int .i64 0, .slice none 0 0, .slice none 0 0] 26) = w0 := ⟨_, rfl⟩
 have HR : Hid (w0.heap[R]? = some (.cells #[.int .i64 0, .slice none 0 0, .slice none 0 0] 26 (0, 0)) /\ Below w.heap.size w w0 /\ w0.heap.size = R + 1) := by
  rw [<- hw0, <- hR]
  exact ⟨heap_alloc_new w _, (Below.refl _ _).alloc (Nat.le_refl _) _, alloc_size _ _⟩
 rw [hw0]
 clear hw0
 refine (polygonShape_any ok w0 _ rss (H.out.1.kept (Kept.below HR.out.2.1)) H.out.2.1 H.out.2.2).mono ?_
 rintro e w1 ⟨v, rfl, hv, hb1⟩
 obtain ⟨lv, pv, cs, rfl, hl, hp, hss⟩ := hv
 obtain ⟨lA, lc, rfl⟩ : ∃ A c, lv = .slice A rss.length c := by
  obtain ⟨vs, h1, -⟩ := hl
  exact Row.shape h1.1
 obtain ⟨pA, pc, rfl⟩ := Row.shape hp.1
 have hR1 : w1.heap[R]? = some (.cells #[.int .i64 0, .slice none 0 0, .slice none 0 0] 26 (0, 0)) := (hb1.block R (lt_of_heap HR.out.1)).trans HR.out.1
 have HW : Hid (LsK (fun g => w.heap.size <= g /\ g ≠ R) w1 39 38 (.slice lA rss.length lc) rss /\ Below w.heap.size w w1 /\ w1.heap[R]? = some (.cells #[.int .i64 0, .slice none 0 0, .slice none 0 0] 26 (0, 0)) /\ RowK (fun g => w.heap.size <= g /\ g ≠ R) w1 26 3 (.slice pA 0 pc) 0 cs /\ SReps (fun g => w0.heap.size <= g) w1 [] cs) := by
  have h9 := HR.out.2.2
  exact ⟨hl.mono fun g hg _ => by omega, HR.out.2.1.trans (hb1.mono HR.out.2.1.size), hR1, hp.mono fun g hg _ => by omega, hss⟩
 obtain ⟨r0, r1, r2⟩ := three_cells hR1
 have f0 := Joins.unfrozen_of_block hR1 0
 have f1 := Joins.unfrozen_of_block hR1 1
 have f2 := Joins.unfrozen_of_block hR1 2
 clear hl hb1 hR1 hp hss
 go_wp2_with fail
 obtain ⟨q0, q1, q2⟩ := three_cells (set3 HW.out.2.2.1 (.int .i64 3) (.slice lA rss.length lc) (.slice pA 0 pc))
 refine bodyPost_ret (v := .agg #[.int .i64 3, .slice lA rss.length lc, .slice pA 0 pc]) (by simp [results, Tryz.results11, go_sem, q0, q1, q2]) rfl ⟨_, rfl, ⟨_, _, cs, rfl, ?_, ?_, ?_⟩, below_set3 HW.out.2.1 (by omega)⟩
 ·exact (HW.out.1.kept (kept_set3 fun g hg => hg.2)).mono fun g hg _ => hg.1
 ·exact (HW.out.2.2.2.1.kept (kept_set3 fun g hg => hg.2)).mono fun g hg _ => hg.1
 ·cases cs with
  | nil => trivial
  | cons a r => exact absurd HW.out.2.2.2.2 (by simp [SReps])
theorem shapeOf_mpoint (ok : Nat -> Prop) (w : World) (u : Value) (ps : List (Nat × Nat)) (h : PtK ok w 47 u ps) (hn : ps.length <= big) :
  Calls Tryz.prog 11 #[.iface 54 u] w (ShPost w (.mk 4 [ps] [])) := by
 have ta47 := ta_no47 54 (by decide)
 have ta50 := ta_no50 54 (by decide)
 have ta52 := ta_no52 54 (by decide)
 have tay := ta_yes54
 obtain ⟨R, hR⟩ : ∃ R, w.heap.size = R := ⟨_, rfl⟩
 obtain ⟨A, c, rfl⟩ := Row.shape h.1
 have H := Lib.hid (And.intro h hn)
 clear h hn
 go_enter Tryz.func11, Tryz.ntmps11
 go_wp2_with fail
 obtain ⟨w0, hw0⟩ : ∃ w0, w.alloc (Obj.cells #[.int .i64 0, .slice none 0 0, .slice none 0 0] 26) = w0 := ⟨_, rfl⟩
 have HR : Hid (w0.heap[R]? = some (.cells #[.int .i64 0, .slice none 0 0, .slice none 0 0] 26 (0, 0)) /\ Below w.heap.size w w0 /\ w0.heap.size = R + 1) := by
  rw [<- hw0, <- hR]
  exact ⟨heap_alloc_new w _, (Below.refl _ _).alloc (Nat.le_refl _) _, alloc_size _ _⟩
 rw [hw0]
 clear hw0
 refine (listOf_any ok w0 _ ps (H.out.1.kept (Kept.below HR.out.2.1)) H.out.2).mono ?_
 rintro e w1 ⟨v, rfl, hv, hb1⟩
 obtain ⟨vA, vc, rfl⟩ := Row.shape hv.1
 have hR1 : w1.heap[R]? = some (.cells #[.int .i64 0, .slice none 0 0, .slice none 0 0] 26 (0, 0)) := (hb1.block R (lt_of_heap HR.out.1)).trans HR.out.1
 have hltR : R < w1.heap.size := lt_of_heap hR1
 have hb01 : Below w.heap.size w w1 := HR.out.2.1.trans (hb1.mono HR.out.2.1.size)
 obtain ⟨w2, hw2⟩ : ∃ w2, w1.alloc (Obj.cells #[.slice vA ps.length vc] 39) = w2 := ⟨_, rfl⟩
 have hR2 : w2.heap[R]? = some (.cells #[.int .i64 0, .slice none 0 0, .slice none 0 0] 26 (0, 0)) := by
  rw [<- hw2]
  exact (Below.heap_alloc _ _ _ hltR).trans hR1
 have HW : Hid (RowK (fun g => w.heap.size <= g /\ g ≠ R) w2 39 1 (.slice (some ⟨w1.heap.size, 0, none⟩) 1 1) 1 [.slice vA ps.length vc] /\ PtK (fun g => w.heap.size <= g /\ g ≠ R) w2 38 (.slice vA ps.length vc) ps /\ Below w.heap.size w w2 /\ w2.heap[R]? = some (.cells #[.int .i64 0, .slice none 0 0, .slice none 0 0] 26 (0, 0))) := by
  refine ⟨?_, ?_, ?_, hR2⟩
  ·rw [<- hw2]
   refine ⟨row_lit w1 0 39 1 1 [.slice vA ps.length vc] (Nat.zero_le _) rfl (by unfold maxLen; omega), fun g hg => ?_⟩
   have : w1.heap.size = g := by simpa [Value.ownBlock] using hg
   omega
  ·rw [<- hw2]
   refine (PtK.mono hv (ok' := fun g => w.heap.size <= g /\ g ≠ R) fun g hg _ => ?_).kept (Kept.below ((Below.refl _ _).alloc (Nat.le_refl _) _))
   have := HR.out.2.2
   omega
  ·rw [<- hw2]
   exact below_alloc hb01 _
 obtain ⟨r0, r1, r2⟩ := three_cells hR2
 have f0 := Joins.unfrozen_of_block hR2 0
 have f1 := Joins.unfrozen_of_block hR2 1
 have f2 := Joins.unfrozen_of_block hR2 2
 clear hv hb1 hR1 hR2 hb01
 go_wp2_with fail
 obtain ⟨q0, q1, q2⟩ := three_cells (set3 HW.out.2.2.2 (.int .i64 4) (.slice (some ⟨w1.heap.size, 0, none⟩) 1 1) (.slice none 0 0))
 exact bodyPost_ret (v := .agg #[.int .i64 4, .slice (some ⟨w1.heap.size, 0, none⟩) 1 1, .slice none 0 0]) (by simp [results, Tryz.results11, go_sem, q0, q1, q2]) rfl ⟨_, rfl, one_list HW.out.2.2.2 hR HW.out.2.2.1 HW.out.1 HW.out.2.1⟩
theorem shapeOf_mline (ok : Nat -> Prop) (w : World) (u : Value) (rss : List (List (Nat × Nat))) (h : LsK ok w 50 47 u rss) (hn : rss.length <= big) (hn2 : ∀ ps ∈ rss, ps.length <= big) :
  Calls Tryz.prog 11 #[.iface 56 u] w (ShPost w (.mk 5 rss [])) := by
 have ta47 := ta_no47 56 (by decide)
 have ta50 := ta_no50 56 (by decide)
 have ta52 := ta_no52 56 (by decide)
 have ta54 := ta_no54 56 (by decide)
 have tay := ta_yes56
 obtain ⟨R, hR⟩ : ∃ R, w.heap.size = R := ⟨_, rfl⟩
 have hn : rss.length <= 1000000000000 := hn
 obtain ⟨vs0, hrow, hall⟩ := h
 obtain ⟨A, c, rfl⟩ := Row.shape hrow.1
 obtain ⟨j0, hj, hy0, hy1, hy2⟩ := info_parts info39
 have H := Lib.hid (And.intro hrow (And.intro hall hn2))
 clear hrow hall hn2
 obtain ⟨O, hO⟩ : ∃ O, R + 1 = O := ⟨_, rfl⟩
 go_enter Tryz.func11, Tryz.ntmps11
 go_wp2_with fail
 go_loopg [56] rss.length (fun n v9 wr => LpR 5 39 38 w R O rss n v9 wr)
 case atStart =>
  refine ⟨0, .slice none 0 0, [], by omega, Nat.zero_le _, rfl, ⟨?_, ?_, by omega⟩, World.ownsRow_nil _ _ _ _, trivial, below_alloc (below_alloc (Below.refl _ _) _) _⟩
  ·rw [<- hO, <- hR, <- alloc_size w (Obj.cells #[.int .i64 0, .slice none 0 0, .slice none 0 0] 26)]
   exact heap_alloc_new _ _
  ·rw [<- hR]
   exact (Below.heap_alloc _ _ _ (by rw [alloc_size]; omega)).trans (heap_alloc_new w _)
 case round =>
  obtain ⟨k, lv, vs, hgk, hk, rfl, hws⟩ := hrel
  obtain ⟨oA, oc, rfl⟩ := Row.shape hws.out.2.1
  by_cases hkl : k = rss.length
  ·subst hkl
   have cO0 := hws.out.1.c0
   have cO1 := hws.out.1.c1
   have cO2 := hws.out.1.c2
   obtain ⟨r0, r1, r2⟩ := hws.out.1.rc
   have f0 := hws.out.1.rf 0
   have f1 := hws.out.1.rf 1
   have f2 := hws.out.1.rf 2
   go_wp2_with fail
   obtain ⟨q0, q1, q2⟩ := three_cells (set3 hws.out.1.2.1 (.int .i64 5) (.slice oA rss.length oc) (.slice none 0 0))
   refine bodyPost_ret (v := .agg #[.int .i64 5, .slice oA rss.length oc, .slice none 0 0]) (by simp [results, Tryz.results11, go_sem, q0, q1, q2]) rfl ⟨_, rfl, ⟨.slice oA rss.length oc, .slice none 0 0, [], rfl, ?_, rowk_nil _ _ _ _, trivial⟩, below_set3 hws.out.2.2.2 (by omega)⟩
   have hlt := hws.out.1.2.2
   have hl := hws.out.2.2.1
   rw [List.take_length] at hl
   have hk := kept_set3 (ok := fun g => O + 1 <= g) (w := wr) (R := R) (a := .int .i64 5) (b := .slice oA rss.length oc) (c := .slice none 0 0) (fun g hg => by omega)
   exact ((show LsK (fun g => O + 1 <= g) wr 39 38 (.slice oA rss.length oc) rss from ⟨vs, RowK.of hws.out.2.1, hl.imp fun _ _ h => h.mono fun g a _ => a.1⟩).kept hk).mono fun g hg _ => by omega
  ·obtain ⟨ps, hp⟩ : ∃ ps, rss[k]? = some ps := ⟨_, List.getElem?_eq_getElem (by omega)⟩
   obtain ⟨g, c', hA, -⟩ := Row.pos H.out.1.1 (by omega)
   injection hA with hA1 hA2 hA3
   subst hA1
   subst hA3
   obtain ⟨vk, hvk, hpt⟩ := All2.get' H.out.2.1 hp
   obtain ⟨kA, kc, rfl⟩ := Row.shape hpt.1
   have c1 := (H.out.1.kept (Kept.below hws.out.2.2.2)).cell k hvk
   have HP := Lib.hid (And.intro hp (And.intro (hpt.kept (Kept.below hws.out.2.2.2)) (H.out.2.2 ps (List.mem_of_getElem? hp))))
   have cO := hws.out.1.c1
   have fO := hws.out.1.f 1
   have hsz := hws.out.2.2.2.size
   have hOs : O < wr.heap.size := lt_of_heap hws.out.1.1
   clear hp hpt
   have hk0 : (0 : Int) <= (k : Int) := by omega
   have hk1 : (k : Int) < (rss.length : Int) := by omega
   have hk3 : (k : Int) + 1 <= 9223372036854775807 := by omega
   go_wp2_with fail
   go_region_law (first
    | (go_simp; go_at_call 30; refine (listOf_any ok wr.drew _ ps (PtK.kept (w' := wr.drew) HP.out.2.1 (fun _ _ _ => rfl)) HP.out.2.2).mono ?_; rintro e w1 ⟨u, rfl, hu, hb1⟩; obtain ⟨uA, uc, rfl⟩ := Row.shape hu.1; have hb1 : Below wr.heap.size wr w1 := (Below.refl _ _).drew.trans hb1; have hl1 := hws.out.1.below hb1; have cO1 := hl1.c1; have cO9 := fun (o : Obj) => (hl1.below ((Below.refl _ _).alloc (Nat.le_refl _) o)).c1; have hown1 := Row.below hws.out.2.1 hb1; have hO1 : O + 1 <= w1.heap.size := Nat.lt_of_lt_of_le hOs hb1.size)
    | (refine step_append_lies _ rfl (.tmp 61) (.tmp 64) 23 rfl (O + 1) 39 j0 (.slice none 0 0) 1 24 Tryz.underlying23 hj hy0 hy1 hy2 rfl (by decide) (.slice oA k oc) k vs (by rfl) (hown1.alloc _) ⟨w1.heap.size, 0, none⟩ 1 1 [.slice uA ps.length uc] (by rfl) rfl (one_new rfl) (one_cell rfl) (by omega) (by unfold maxLen; omega) (by omega) (by rw [alloc_size]; omega) _ rfl ?_; intro g' c' w' hown' hgr hat hlt; have hl2 := (hl1.below ((Below.refl _ _).alloc (Nat.le_refl _) _)).grown (hown1.alloc _) hgr; have cO2 := hl2.c1; have fO2 := hl2.f 1))
   all_goals (
    have HW' : Hid (Bld 5 R O (.slice (some ⟨g', 0, none⟩) (k + 1) c') (.slice none 0 0) (w'.setCell ⟨O, 1, none⟩ (.slice (some ⟨g', 0, none⟩) (k + 1) c')) /\ (w'.setCell ⟨O, 1, none⟩ (.slice (some ⟨g', 0, none⟩) (k + 1) c')).ownsRow (O + 1) 39 1 (.slice (some ⟨g', 0, none⟩) (k + 1) c') (k + 1) (vs ++ [.slice uA ps.length uc]) /\ All2 (PtK (Away (O + 1) (.slice (some ⟨g', 0, none⟩) (k + 1) c')) (w'.setCell ⟨O, 1, none⟩ (.slice (some ⟨g', 0, none⟩) (k + 1) c')) 38) (vs ++ [.slice uA ps.length uc]) (rss.take (k + 1)) /\ Below w.heap.size w (w'.setCell ⟨O, 1, none⟩ (.slice (some ⟨g', 0, none⟩) (k + 1) c'))) := by
     have hmem : All2 (PtK (Away (O + 1) (.slice oA k oc)) w1 38) (vs ++ [.slice uA ps.length uc]) (rss.take (k + 1)) := by
      rw [take_next HP.out.1]
      exact ((rp_pts 38 vs (rss.take k)).below hws.out.2.2.1 hb1).snoc (hu.mono fun g hg _ => away_new hws.out.2.1 hOs g hg)
     have hm2 := (rp_pts 38 _ _).below hmem ((Below.refl _ _).alloc (Nat.le_refl _) (Obj.cells #[.slice uA ps.length uc] 39))
     have hm3 := (rp_pts 38 _ _).grown (g' := g') (n := k + 1) (c := c') hm2 hgr (by first | exact hat | (rw [alloc_size]; exact hat))
     have hb2 := hws.out.2.2.2.trans (hb1.mono hsz)
     have hb3 := below_alloc hb2 (Obj.cells #[.slice uA ps.length uc] 39)
     have hb4 : Below w.heap.size w w' := hb3.trans ⟨hgr.os, hgr.tape, hgr.output, hgr.size, fun j hj => hgr.block j (Nat.lt_of_lt_of_le hj hb3.size) (fun e => by have := ownBlock_old hown1 j e.symm; omega)⟩
     refine ⟨hl2.set1 _, ?_, (rp_pts 38 _ _).kept _ _ _ (kept_set fun g hg => by have := hg.1; omega) hm3, hb4.setCell (p := ⟨O, 1, none⟩) (by show w.heap.size <= O; omega) _⟩
     exact Row.kept (base := 0) (S := fun t => t = 26) hown' (Keep.setCell (S := fun t => t = 26) (a := ⟨O, 1, none⟩) hl2.1 (Nat.zero_le _) rfl _) (.inr (by decide))
    clear hown' hgr hat hlt hown1 hu hb1 hl1 hl2 cO cO1 cO2 cO9 fO fO2 c1
    go_wp2_with fail
    go_roundg (gk - 1)
    case rel => exact ⟨k + 1, _, _, by omega, by omega, by go_num, HW'⟩
    case measure => omega)
theorem shapeOf_mpoly (ok : Nat -> Prop) (w : World) (u : Value) (vs0 : List Value) (xs : List (List (List (Nat × Nat)))) (hrow : RowK ok w 52 1 u xs.length vs0) (hall : All2 (LsK ok w 86 47) vs0 xs) (hn : xs.length <= big) (hn2 : ∀ rss ∈ xs, rss.length <= big /\ ∀ ps ∈ rss, ps.length <= big) :
  Calls Tryz.prog 11 #[.iface 58 u] w (ShPost w (.mk 6 [] (xs.map polyS))) := by
 have ta47 := ta_no47 58 (by decide)
 have ta50 := ta_no50 58 (by decide)
 have ta52 := ta_no52 58 (by decide)
 have ta54 := ta_no54 58 (by decide)
 have ta56 := ta_no56 58 (by decide)
 have tay := ta_yes58
 obtain ⟨R, hR⟩ : ∃ R, w.heap.size = R := ⟨_, rfl⟩
 have hn : xs.length <= 1000000000000 := hn
 obtain ⟨A, c, rfl⟩ := Row.shape hrow.1
 obtain ⟨j0, hj, hy0, hy1, hy2⟩ := info_parts info26
 have H := Lib.hid (And.intro hrow (And.intro hall hn2))
 clear hrow hall hn2
 obtain ⟨O, hO⟩ : ∃ O, R + 1 = O := ⟨_, rfl⟩
 go_enter Tryz.func11, Tryz.ntmps11
 go_wp2_with fail
 go_loopg [75] xs.length (fun n v9 wr => LqR 6 w R O (xs.map polyS) n v9 wr)
 case atStart =>
  refine ⟨0, .slice none 0 0, [], by simp, Nat.zero_le _, rfl, ⟨?_, ?_, by omega⟩, World.ownsRow_nil _ _ _ _, trivial, below_alloc (below_alloc (Below.refl _ _) _) _⟩
  ·rw [<- hO, <- hR, <- alloc_size w (Obj.cells #[.int .i64 0, .slice none 0 0, .slice none 0 0] 26)]
   exact heap_alloc_new _ _
  ·rw [<- hR]
   exact (Below.heap_alloc _ _ _ (by rw [alloc_size]; omega)).trans (heap_alloc_new w _)
 case round =>
  obtain ⟨k, pv, cs, hgk, hk, rfl, hws⟩ := hrel
  rw [List.length_map] at hgk hk
  obtain ⟨oA, oc, rfl⟩ := Row.shape hws.out.2.1
  by_cases hkl : k = xs.length
  ·subst hkl
   have cO0 := hws.out.1.c0
   have cO1 := hws.out.1.c1
   have cO2 := hws.out.1.c2
   obtain ⟨r0, r1, r2⟩ := hws.out.1.rc
   have f0 := hws.out.1.rf 0
   have f1 := hws.out.1.rf 1
   have f2 := hws.out.1.rf 2
   go_wp2_with fail
   obtain ⟨q0, q1, q2⟩ := three_cells (set3 hws.out.1.2.1 (.int .i64 6) (.slice none 0 0) (.slice oA xs.length oc))
   refine bodyPost_ret (v := .agg #[.int .i64 6, .slice none 0 0, .slice oA xs.length oc]) (by simp [results, Tryz.results11, go_sem, q0, q1, q2]) rfl ⟨_, rfl, ⟨.slice none 0 0, .slice oA xs.length oc, cs, rfl, ⟨[], rowk_nil _ _ _ _, trivial⟩, ?_, ?_⟩, below_set3 hws.out.2.2.2 (by omega)⟩
   ·have hlt := hws.out.1.2.2
    have hk := kept_set3 (ok := fun g => O + 1 <= g) (w := wr) (R := R) (a := .int .i64 6) (b := .slice none 0 0) (c := .slice oA xs.length oc) (fun g hg => by omega)
    have hrw : (xs.map polyS).length = xs.length := by simp
    rw [hrw]
    exact ((RowK.of hws.out.2.1).kept hk).mono fun g hg _ => by omega
   ·have hlt := hws.out.1.2.2
    have hk := kept_set3 (ok := Away (O + 1) (.slice oA xs.length oc)) (w := wr) (R := R) (a := .int .i64 6) (b := .slice none 0 0) (c := .slice oA xs.length oc) (fun g hg => by have := hg.1; omega)
    have hl := hws.out.2.2.1
    rw [List.take_of_length_le (by simp)] at hl
    exact SReps.mono (fun g hg _ => by have := hg.1; omega) _ _ (SReps.kept hk _ _ hl)
  ·obtain ⟨rss, hp⟩ : ∃ rss, xs[k]? = some rss := ⟨_, List.getElem?_eq_getElem (by omega)⟩
   obtain ⟨vk, hvk, hls⟩ := All2.get' H.out.2.1 hp
   have HP : Hid ((xs.map polyS)[k]? = some (polyS rss) /\ LsK ok wr 86 47 vk rss /\ rss.length <= big /\ ∀ ps ∈ rss, ps.length <= big) :=
    ⟨by rw [List.getElem?_map, hp]; rfl, hls.kept (Kept.below hws.out.2.2.2), H.out.2.2 rss (List.mem_of_getElem? hp)⟩
   obtain ⟨vsk, hrk, -⟩ := hls
   obtain ⟨kA, kc, rfl⟩ := Row.shape hrk.1
   clear hp hrk
   obtain ⟨g, c', hA, -⟩ := Row.pos H.out.1.1 (by omega)
   injection hA with hA1 hA2 hA3
   subst hA1
   subst hA3
   have c1 := (H.out.1.kept (Kept.below hws.out.2.2.2)).cell k hvk
   have cO := hws.out.1.c2
   have fO := hws.out.1.f 2
   have hsz := hws.out.2.2.2.size
   have hOs : O < wr.heap.size := lt_of_heap hws.out.1.1
   have hk0 : (0 : Int) <= (k : Int) := by omega
   have hk1 : (k : Int) < (xs.length : Int) := by omega
   have hk3 : (k : Int) + 1 <= 9223372036854775807 := by omega
   go_wp2_with fail
   go_region_law (first
    | (go_simp; go_at_call 31; refine (polygonShape_any ok wr.drew _ rss (LsK.kept (w' := wr.drew) HP.out.2.1 (fun _ _ _ => rfl)) HP.out.2.2.1 HP.out.2.2.2).mono ?_; rintro e w1 ⟨u, rfl, hu, hb1⟩; obtain ⟨sk, slv, spv, rfl⟩ := hu.agg; have hb1 : Below wr.heap.size wr w1 := (Below.refl _ _).drew.trans hb1; have hl1 := hws.out.1.below hb1; have cO1 := hl1.c2; have cO9 := fun (o : Obj) => (hl1.below ((Below.refl _ _).alloc (Nat.le_refl _) o)).c2; have hown1 := Row.below hws.out.2.1 hb1; have hO1 : O + 1 <= w1.heap.size := Nat.lt_of_lt_of_le hOs hb1.size)
    | (refine step_append_lies _ rfl (.tmp 80) (.tmp 83) 24 rfl (O + 1) 26 j0 (.agg #[.int .i64 0, .slice none 0 0, .slice none 0 0]) 3 56 Tryz.underlying24 hj hy0 hy1 hy2 rfl (by decide) (.slice oA k oc) k cs (by rfl) (hown1.alloc _) ⟨w1.heap.size, 0, none⟩ 1 1 [.int .i64 sk, .slice slv.1 slv.2.1 slv.2.2, .slice spv.1 spv.2.1 spv.2.2] (by rfl) rfl (three_new rfl) (by intro u hu; simp at hu; rcases hu with rfl | rfl | rfl <;> rfl) (by omega) (by unfold maxLen; omega) (by omega) (by rw [alloc_size]; omega) _ rfl ?_; intro g' c' w' hown' hgr hat hlt; have hl2 := (hl1.below ((Below.refl _ _).alloc (Nat.le_refl _) _)).grown (hown1.alloc _) hgr; have cO2 := hl2.c2; have fO2 := hl2.f 2))
   all_goals (
    have HW' : Hid (Bld 6 R O (.slice none 0 0) (.slice (some ⟨g', 0, none⟩) (k + 1) c') (w'.setCell ⟨O, 2, none⟩ (.slice (some ⟨g', 0, none⟩) (k + 1) c')) /\ (w'.setCell ⟨O, 2, none⟩ (.slice (some ⟨g', 0, none⟩) (k + 1) c')).ownsRow (O + 1) 26 3 (.slice (some ⟨g', 0, none⟩) (k + 1) c') (k + 1) (cs ++ [.int .i64 sk, .slice slv.1 slv.2.1 slv.2.2, .slice spv.1 spv.2.1 spv.2.2]) /\ SReps (Away (O + 1) (.slice (some ⟨g', 0, none⟩) (k + 1) c')) (w'.setCell ⟨O, 2, none⟩ (.slice (some ⟨g', 0, none⟩) (k + 1) c')) ((xs.map polyS).take (k + 1)) (cs ++ [.int .i64 sk, .slice slv.1 slv.2.1 slv.2.2, .slice spv.1 spv.2.1 spv.2.2]) /\ Below w.heap.size w (w'.setCell ⟨O, 2, none⟩ (.slice (some ⟨g', 0, none⟩) (k + 1) c'))) := by
     have hmem : SReps (Away (O + 1) (.slice oA k oc)) w1 ((xs.map polyS).take (k + 1)) (cs ++ [.int .i64 sk, .slice slv.1 slv.2.1 slv.2.2, .slice spv.1 spv.2.1 spv.2.2]) := by
      rw [take_next HP.out.1]
      exact SReps.snoc (SRep.mono (fun g hg _ => away_new hws.out.2.1 hOs g hg) _ _ hu) _ _ ((rp_ss _ cs).below hws.out.2.2.1 hb1)
     have hm2 := (rp_ss _ _).below hmem ((Below.refl _ _).alloc (Nat.le_refl _) (Obj.cells #[.int .i64 sk, .slice slv.1 slv.2.1 slv.2.2, .slice spv.1 spv.2.1 spv.2.2] 26))
     have hm3 := (rp_ss _ _).grown (g' := g') (n := k + 1) (c := c') hm2 hgr (by first | exact hat | (rw [alloc_size]; exact hat))
     have hb2 := hws.out.2.2.2.trans (hb1.mono hsz)
     have hb3 := below_alloc hb2 (Obj.cells #[.int .i64 sk, .slice slv.1 slv.2.1 slv.2.2, .slice spv.1 spv.2.1 spv.2.2] 26)
     have hb4 : Below w.heap.size w w' := hb3.trans ⟨hgr.os, hgr.tape, hgr.output, hgr.size, fun j hj => hgr.block j (Nat.lt_of_lt_of_le hj hb3.size) (fun e => by have := ownBlock_old hown1 j e.symm; omega)⟩
     exact ⟨hl2.set2 _, own_kept hown' (kept_set fun g hg => by omega), (rp_ss _ _).kept _ _ _ (kept_set fun g hg => by have := hg.1; omega) hm3, hb4.setCell (p := ⟨O, 2, none⟩) (by show w.heap.size <= O; omega) _⟩
    clear hown' hgr hat hlt hown1 hu hb1 hl1 hl2 cO cO1 cO2 cO9 fO fO2 c1
    go_wp2_with fail
    go_roundg (gk - 1)
    case rel => exact ⟨k + 1, _, _, by first | omega | (simp; omega), by first | omega | (simp; omega), by go_num, HW'⟩
    case measure => omega)
theorem shapeOf_coll (ok : Nat -> Prop) (w : World) (u : Value) (vs0 : List Value) (gs : List Geo) (ih : ∀ (g : Geo) (v : Value) (w : World), g ∈ gs -> GRepK ok w g v -> GSm g -> Calls Tryz.prog 11 #[v] w (ShPost w (shS g)))
  (hrow : RowK ok w 33 1 u gs.length vs0) (hall : GRepKs ok w gs vs0) (hn : gs.length <= big) (hn2 : GSms gs) :
  Calls Tryz.prog 11 #[.iface 60 u] w (ShPost w (.mk 7 [] (gs.map shS))) := by
 have ta47 := ta_no47 60 (by decide)
 have ta50 := ta_no50 60 (by decide)
 have ta52 := ta_no52 60 (by decide)
 have ta54 := ta_no54 60 (by decide)
 have ta56 := ta_no56 60 (by decide)
 have ta58 := ta_no58 60 (by decide)
 have tay := ta_yes60
 obtain ⟨R, hR⟩ : ∃ R, w.heap.size = R := ⟨_, rfl⟩
 have hn : gs.length <= 1000000000000 := hn
 obtain ⟨A, c, rfl⟩ := Row.shape hrow.1
 obtain ⟨j0, hj, hy0, hy1, hy2⟩ := info_parts info26
 have H := Lib.hid (And.intro hrow (And.intro hall hn2))
 have IH := Lib.hid ih
 clear hrow hall hn2 ih
 obtain ⟨O, hO⟩ : ∃ O, R + 1 = O := ⟨_, rfl⟩
 go_enter Tryz.func11, Tryz.ntmps11
 go_wp2_with fail
 go_loopg [94] gs.length (fun n v9 wr => LqR 7 w R O (gs.map shS) n v9 wr)
 case atStart =>
  refine ⟨0, .slice none 0 0, [], by simp, Nat.zero_le _, rfl, ⟨?_, ?_, by omega⟩, World.ownsRow_nil _ _ _ _, trivial, below_alloc (below_alloc (Below.refl _ _) _) _⟩
  ·rw [<- hO, <- hR, <- alloc_size w (Obj.cells #[.int .i64 0, .slice none 0 0, .slice none 0 0] 26)]
   exact heap_alloc_new _ _
  ·rw [<- hR]
   exact (Below.heap_alloc _ _ _ (by rw [alloc_size]; omega)).trans (heap_alloc_new w _)
 case round =>
  obtain ⟨k, pv, cs, hgk, hk, rfl, hws⟩ := hrel
  rw [List.length_map] at hgk hk
  obtain ⟨oA, oc, rfl⟩ := Row.shape hws.out.2.1
  by_cases hkl : k = gs.length
  ·subst hkl
   have cO0 := hws.out.1.c0
   have cO1 := hws.out.1.c1
   have cO2 := hws.out.1.c2
   obtain ⟨r0, r1, r2⟩ := hws.out.1.rc
   have f0 := hws.out.1.rf 0
   have f1 := hws.out.1.rf 1
   have f2 := hws.out.1.rf 2
   go_wp2_with fail
   obtain ⟨q0, q1, q2⟩ := three_cells (set3 hws.out.1.2.1 (.int .i64 7) (.slice none 0 0) (.slice oA gs.length oc))
   refine bodyPost_ret (v := .agg #[.int .i64 7, .slice none 0 0, .slice oA gs.length oc]) (by simp [results, Tryz.results11, go_sem, q0, q1, q2]) rfl ⟨_, rfl, ⟨.slice none 0 0, .slice oA gs.length oc, cs, rfl, ⟨[], rowk_nil _ _ _ _, trivial⟩, ?_, ?_⟩, below_set3 hws.out.2.2.2 (by omega)⟩
   ·have hlt := hws.out.1.2.2
    have hk := kept_set3 (ok := fun g => O + 1 <= g) (w := wr) (R := R) (a := .int .i64 7) (b := .slice none 0 0) (c := .slice oA gs.length oc) (fun g hg => by omega)
    have hrw : (gs.map shS).length = gs.length := by simp
    rw [hrw]
    exact ((RowK.of hws.out.2.1).kept hk).mono fun g hg _ => by omega
   ·have hlt := hws.out.1.2.2
    have hk := kept_set3 (ok := Away (O + 1) (.slice oA gs.length oc)) (w := wr) (R := R) (a := .int .i64 7) (b := .slice none 0 0) (c := .slice oA gs.length oc) (fun g hg => by have := hg.1; omega)
    have hl := hws.out.2.2.1
    rw [List.take_of_length_le (by simp)] at hl
    exact SReps.mono (fun g hg _ => by have := hg.1; omega) _ _ (SReps.kept hk _ _ hl)
  ·obtain ⟨m, hp⟩ : ∃ m, gs[k]? = some m := ⟨_, List.getElem?_eq_getElem (by omega)⟩
   obtain ⟨vk, hvk, hls⟩ := GRepKs.get H.out.2.1 hp
   obtain ⟨tk, uk, rfl⟩ := (GRepK.toG _ _ hls).iface
   have HP : Hid ((gs.map shS)[k]? = some (shS m) /\ GRepK ok wr m (.iface tk uk) /\ GSm m /\ m ∈ gs) :=
    ⟨by rw [List.getElem?_map, hp]; rfl, GRepK.kept (Kept.below hws.out.2.2.2) _ _ hls, GSms.get H.out.2.2 m (List.mem_of_getElem? hp), List.mem_of_getElem? hp⟩
   clear hp hls
   obtain ⟨g, c', hA, -⟩ := Row.pos H.out.1.1 (by omega)
   injection hA with hA1 hA2 hA3
   subst hA1
   subst hA3
   have c1 := (H.out.1.kept (Kept.below hws.out.2.2.2)).cell k hvk
   have cO := hws.out.1.c2
   have fO := hws.out.1.f 2
   have hsz := hws.out.2.2.2.size
   have hOs : O < wr.heap.size := lt_of_heap hws.out.1.1
   have hk0 : (0 : Int) <= (k : Int) := by omega
   have hk1 : (k : Int) < (gs.length : Int) := by omega
   have hk3 : (k : Int) + 1 <= 9223372036854775807 := by omega
   go_wp2_with fail
   go_region_law (first
    | (go_simp; go_at_call 11; refine (IH.out m _ wr.drew HP.out.2.2.2 (GRepK.kept (w := wr) (w' := wr.drew) (fun _ _ _ => rfl) _ _ HP.out.2.1) HP.out.2.2.1).mono ?_; rintro e w1 ⟨u, rfl, hu, hb1⟩; obtain ⟨sk, slv, spv, rfl⟩ := hu.agg; have hb1 : Below wr.heap.size wr w1 := (Below.refl _ _).drew.trans hb1; have hl1 := hws.out.1.below hb1; have cO1 := hl1.c2; have cO9 := fun (o : Obj) => (hl1.below ((Below.refl _ _).alloc (Nat.le_refl _) o)).c2; have hown1 := Row.below hws.out.2.1 hb1; have hO1 : O + 1 <= w1.heap.size := Nat.lt_of_lt_of_le hOs hb1.size)
    | (refine step_append_lies _ rfl (.tmp 99) (.tmp 102) 24 rfl (O + 1) 26 j0 (.agg #[.int .i64 0, .slice none 0 0, .slice none 0 0]) 3 56 Tryz.underlying24 hj hy0 hy1 hy2 rfl (by decide) (.slice oA k oc) k cs (by rfl) (hown1.alloc _) ⟨w1.heap.size, 0, none⟩ 1 1 [.int .i64 sk, .slice slv.1 slv.2.1 slv.2.2, .slice spv.1 spv.2.1 spv.2.2] (by rfl) rfl (three_new rfl) (by intro u hu; simp at hu; rcases hu with rfl | rfl | rfl <;> rfl) (by omega) (by unfold maxLen; omega) (by omega) (by rw [alloc_size]; omega) _ rfl ?_; intro g' c' w' hown' hgr hat hlt; have hl2 := (hl1.below ((Below.refl _ _).alloc (Nat.le_refl _) _)).grown (hown1.alloc _) hgr; have cO2 := hl2.c2; have fO2 := hl2.f 2))
   all_goals (
    have HW' : Hid (Bld 7 R O (.slice none 0 0) (.slice (some ⟨g', 0, none⟩) (k + 1) c') (w'.setCell ⟨O, 2, none⟩ (.slice (some ⟨g', 0, none⟩) (k + 1) c')) /\ (w'.setCell ⟨O, 2, none⟩ (.slice (some ⟨g', 0, none⟩) (k + 1) c')).ownsRow (O + 1) 26 3 (.slice (some ⟨g', 0, none⟩) (k + 1) c') (k + 1) (cs ++ [.int .i64 sk, .slice slv.1 slv.2.1 slv.2.2, .slice spv.1 spv.2.1 spv.2.2]) /\ SReps (Away (O + 1) (.slice (some ⟨g', 0, none⟩) (k + 1) c')) (w'.setCell ⟨O, 2, none⟩ (.slice (some ⟨g', 0, none⟩) (k + 1) c')) ((gs.map shS).take (k + 1)) (cs ++ [.int .i64 sk, .slice slv.1 slv.2.1 slv.2.2, .slice spv.1 spv.2.1 spv.2.2]) /\ Below w.heap.size w (w'.setCell ⟨O, 2, none⟩ (.slice (some ⟨g', 0, none⟩) (k + 1) c'))) := by
     have hmem : SReps (Away (O + 1) (.slice oA k oc)) w1 ((gs.map shS).take (k + 1)) (cs ++ [.int .i64 sk, .slice slv.1 slv.2.1 slv.2.2, .slice spv.1 spv.2.1 spv.2.2]) := by
      rw [take_next HP.out.1]
      exact SReps.snoc (SRep.mono (fun g hg _ => away_new hws.out.2.1 hOs g hg) _ _ hu) _ _ ((rp_ss _ cs).below hws.out.2.2.1 hb1)
     have hm2 := (rp_ss _ _).below hmem ((Below.refl _ _).alloc (Nat.le_refl _) (Obj.cells #[.int .i64 sk, .slice slv.1 slv.2.1 slv.2.2, .slice spv.1 spv.2.1 spv.2.2] 26))
     have hm3 := (rp_ss _ _).grown (g' := g') (n := k + 1) (c := c') hm2 hgr (by first | exact hat | (rw [alloc_size]; exact hat))
     have hb2 := hws.out.2.2.2.trans (hb1.mono hsz)
     have hb3 := below_alloc hb2 (Obj.cells #[.int .i64 sk, .slice slv.1 slv.2.1 slv.2.2, .slice spv.1 spv.2.1 spv.2.2] 26)
     have hb4 : Below w.heap.size w w' := hb3.trans ⟨hgr.os, hgr.tape, hgr.output, hgr.size, fun j hj => hgr.block j (Nat.lt_of_lt_of_le hj hb3.size) (fun e => by have := ownBlock_old hown1 j e.symm; omega)⟩
     exact ⟨hl2.set2 _, own_kept hown' (kept_set fun g hg => by omega), (rp_ss _ _).kept _ _ _ (kept_set fun g hg => by have := hg.1; omega) hm3, hb4.setCell (p := ⟨O, 2, none⟩) (by show w.heap.size <= O; omega) _⟩
    clear hown' hgr hat hlt hown1 hu hb1 hl1 hl2 cO cO1 cO2 cO9 fO fO2 c1
    go_wp2_with fail
    go_roundg (gk - 1)
    case rel => exact ⟨k + 1, _, _, by first | omega | (simp; omega), by first | omega | (simp; omega), by go_num, HW'⟩
    case measure => omega)
theorem shapeOf_any (ok : Nat -> Prop) : ∀ (g : Geo) (v : Value) (w : World), GRepK ok w g v -> GSm g -> Calls Tryz.prog 11 #[v] w (ShPost w (shS g))
 | .point p, v, w, hr, hs => by subst hr; exact shapeOf_point w p
 | .line ps, v, w, hr, hs => by obtain ⟨u, rfl, h2⟩ := hr; exact shapeOf_line ok w u ps h2 hs
 | .poly rss, v, w, hr, hs => by obtain ⟨u, rfl, h2⟩ := hr; exact shapeOf_poly ok w u rss h2 hs.1 hs.2
 | .mpoint ps, v, w, hr, hs => by obtain ⟨u, rfl, h2⟩ := hr; exact shapeOf_mpoint ok w u ps h2 hs
 | .mline rss, v, w, hr, hs => by obtain ⟨u, rfl, h2⟩ := hr; exact shapeOf_mline ok w u rss h2 hs.1 hs.2
 | .mpoly xs, v, w, hr, hs => by obtain ⟨u, vs, rfl, h2, h3⟩ := hr; exact shapeOf_mpoly ok w u vs xs h2 h3 hs.1 hs.2
 | .coll gs, v, w, hr, hs => by
  obtain ⟨u, vs, rfl, h2, h3⟩ := hr
  have := shapeOf_coll ok w u vs gs (fun g v w hm hr hs => shapeOf_any ok g v w hr hs) h2 h3 hs.1 hs.2
  rw [<- shSs_eq] at this
  exact this
termination_by g => SizeOf.sizeOf g
decreasing_by
 have := List.sizeOf_lt_of_mem hm
 simp
 omega
end Go.Proofs.YtdfolbmoohcblaaGreatDoor
