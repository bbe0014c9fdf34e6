/-
For FnReadAgain, part 51: C3.
-/
import Derived.Test.YtdfolbmoohcblaaGreatDoorM50
import Derived.Test.YtdfolbmoohcblaaGreatDoorM48
import Derived.Test.YtdfolbmoohcblaaGreatDoorCards
import Derived.RowKitTokens
import Derived.ChangeMaps5
set_option linter.all false
namespace Go.Proofs.YtdfolbmoohcblaaGreatDoor
set_option maxRecDepth 100000
open Go Go.ChangeShapes Go.WideShapes Go.ChangeAt Go.ChangeMaps Go.RowKit Go.Lib
theorem env_of {W : World} (hl : laidMet Tryz.prog Rows.fnReadAgainRow.laid W) : RE W /\ Fo W := by
 obtain ⟨i0, i1, i2⟩ := at_info hl
 have hpow := at_pow hl
 obtain ⟨ps, hv, -, hps⟩ := id hl
 have hb : ∀ b off, MemPlace.cell b off ∈ ps -> ∃ c t, W.heap[b]? = some (.cells c t (0, 0)) := fun b off hx => (hps b off hx).1
 have b14 := block_at hv hb (n := "internal/strconv.float64info") (g := 14) (List.mem_of_getElem? (i := 3) rfl) (by kernel_rfl) (by rw [i0]; simp)
 have b13 : ∃ c t, W.heap[13]? = some (.cells c t (0, 0)) := by
  obtain ⟨cs, fuel, p, -, hc, hd⟩ := var_at hl (n := "internal/strconv.float32info") (List.mem_of_getElem? (i := 2) rfl) (g := 13) (t := 213) (by kernel_rfl) (by kernel_rfl)
  obtain ⟨y0, y1, y2, n, -, hlen, -⟩ := Deep.trod_struct3 Tryz.underlying213 hd
  have h213 : Tryz.prog.cellsOf 213 = 3 := by kernel_rfl
  rw [h213] at hlen
  refine block_at hv hb (n := "internal/strconv.float32info") (g := 13) (List.mem_of_getElem? (i := 2) rfl) (by kernel_rfl) ?_
  rw [hc 0, List.getElem?_eq_getElem (by omega)]
  simp
 have e0 := at_err hl "loop.example/pub-g01495/pub/orbwkt.ErrUnsupportedGeometry" 0 _ _ (List.mem_of_getElem? (i := 16) rfl) (by kernel_rfl) (by kernel_rfl)
 have e1 := at_err hl "loop.example/pub-g01495/pub/orbwkt.ErrNotWKT" 1 _ _ (List.mem_of_getElem? (i := 15) rfl) (by kernel_rfl) (by kernel_rfl)
 have e10 := at_err hl "strconv.ErrSyntax" 10 _ _ (List.mem_of_getElem? (i := 11) rfl) (by kernel_rfl) (by kernel_rfl)
 have e11 := at_err hl "strconv.ErrRange" 11 _ _ (List.mem_of_getElem? (i := 10) rfl) (by kernel_rfl) (by kernel_rfl)
 exact ⟨⟨⟨⟨i0, i1, i2, b14, b13⟩, hpow, ⟨i0, at_pows hl⟩, at_opt hl, at_cheat hl, at_tab hl⟩, e10, e11, ⟨e0, e1⟩, ⟨at_fold hl, at_orbit hl⟩⟩, ⟨hpow, at_u64 hl⟩⟩
theorem readAgain_true (s : ByteArray) (w : World) (hre : RE w) (hfo : Fo w) : Calls Tryz.prog 3 #[.string s] w fun e w' => e = .returned (.bool true) /\ Below w.heap.size w w' :=
 readAgain_any s w hre hfo (fun hs g hg => plain (by rw [ls_length]; exact hs) hg)
theorem g0 : Tryz.prog.globalNamed "loop.example/pub-g01495/pub/orbwkt.ErrUnsupportedGeometry" = some 0 := by kernel_rfl
theorem g1 : Tryz.prog.globalNamed "loop.example/pub-g01495/pub/orbwkt.ErrNotWKT" = some 1 := by kernel_rfl
theorem t0 : (Tryz.prog.globals[0]?).map (·.type) = some 41 := by kernel_rfl
theorem t1 : (Tryz.prog.globals[1]?).map (·.type) = some 41 := by kernel_rfl
theorem contract (H : Type) (enc : TypeId × Value -> H) (W : World) (base : Nat) (args : Array Value) (ds gs : List (DataW H)) (before : List MemPlace)
  (hval : ∀ (j : Nat) t v, Tryz.f3.params[j]? = some t -> args[j]? = some v -> Value.okWide Tryz.prog W .any base t v)
  (hW : DataW.Whole enc Tryz.prog Tryz.f3.params.toList Rows.fnReadAgainSpec.vars false W args.toList ds gs before) (hL : laidMetH Tryz.prog Rows.fnReadAgainRow.laid W) :
  Calls Tryz.prog 3 args W fun e W' => ∃ v, e = .returned v /\ Rows.fnReadAgainSpec.post enc Tryz.prog Tryz.f3 false true false false W args v W' := by
 have hW' := hW
 obtain ⟨p, q, hA0, hV, rfl, hfz, hnd⟩ := hW
 have hA : DataW.TrodAll enc Tryz.prog W 0 (fun _ => true) true Tryz.f3.params.toList args.toList ds p := hA0
 rw [Tryz.params3] at hA hval
 obtain ⟨v0, vs0, d0, ds0, p0, q0, hargs, rfl, rfl, h0, r0⟩ := trodAll_cons hA
 obtain ⟨rfl, rfl, rfl⟩ := trodAll_nil r0
 obtain rfl : args = #[v0] := by cases args; simp_all
 obtain ⟨s, rfl, rfl, rfl, hmax⟩ := open_string Tryz.underlying9 (hval 0 9 v0 rfl rfl) h0
 have hV' : DataW.TrodVars enc Tryz.prog W (fun _ => true) ["loop.example/pub-g01495/pub/orbwkt.ErrUnsupportedGeometry", "loop.example/pub-g01495/pub/orbwkt.ErrNotWKT"] gs q := hV
 obtain ⟨x0, u0, c0, f0, e0, q0, x1, u1, c1, f1, e1, q1, rfl, n0, m0, v0, k0, n1, m1, v1, k1, rfl⟩ := trodVars_two hV'
 obtain rfl := Option.some.inj (g0.symm.trans n0)
 obtain rfl := Option.some.inj (g1.symm.trans n1)
 obtain rfl := Option.some.inj (t0.symm.trans m0)
 obtain rfl := Option.some.inj (t1.symm.trans m1)
 obtain ⟨y0, rfl, i0, rfl, rfl, -⟩ := token_of g0 Tryz.underlying41 v0 k0
 obtain ⟨y1, rfl, i1, rfl, rfl, -⟩ := token_of g1 Tryz.underlying41 v1 k1
 obtain ⟨hre, hfo⟩ := env_of (laid_met hL)
 clear hA0 hval
 refine (readAgain_true s W hre hfo).mono fun e W' ⟨he, hb⟩ => ?_
 subst he
 refine ⟨_, rfl, post_below (pa := []) hW' (fun _ _ _ => trodAll_cons_mk (shut_bool Tryz.underlying4 _) trodAll_mk0) (fun _ _ => trodAll_cons_mk (shut_string Tryz.underlying9 hmax) trodAll_mk0) (fun sp _ => ?_) rfl
  (hb.frame _) (fun a ha => hb.frozen ha) (ok_one (by kernel_rfl) rfl (okWide_bool_mk Tryz.underlying4 _))⟩
 exact ⟨0, 41, #[y0], 1, [], _, g0, t0, var_below g0 hb v0, trod_held Tryz.underlying41 i0 0, ⟨1, 41, #[y1], 1, [], [], g1, t1, var_below g1 hb v1, trod_held Tryz.underlying41 i1 0, rfl, rfl⟩, by simp⟩
end Go.Proofs.YtdfolbmoohcblaaGreatDoor
