/-
For every string the law FnReadAgain answers true: whatever text impl.Read accepts is written by impl.Write to a text that impl.Read reads to the same shape.
Conditions: those of the given row alone (the listed package variables start as the program lays them, tied by the given tie; no bound on the string beyond the form, so this is the Said card and not the Upto one).
-/
import Derived.Test.YtdfolbmoohcblaaGreatDoorM48
import Derived.Test.YtdfolbmoohcblaaGreatDoorM46
import Derived.Test.YtdfolbmoohcblaaGreatDoorCards
import Derived.RowKitTokens
import Derived.ChangeMaps5
set_option linter.all false
namespace Go.Proofs.YtdfolbmoohcblaaGreatDoor
set_option maxRecDepth 100000
open Go Go.ChangeShapes Go.WideShapes Go.ChangeAt Go.ChangeMaps Go.RowKit Go.Lib
theorem env_of {W : World} (hl : laidMet Tryz.prog Rows.fnReadAgainRow.laid W) : RE W /\ Fo W := by
 obtain ⟨i0, i1, i2⟩ := at_info hl
 have hpow := at_pow hl
 obtain ⟨ps, hv, -, hps⟩ := id hl
 have hb : ∀ b off, MemPlace.cell b off ∈ ps -> ∃ c t, W.heap[b]? = some (.cells c t (0, 0)) := fun b off hx => (hps b off hx).1
 have b14 := block_at hv hb (n := "internal/strconv.float64info") (g := 14) (List.mem_of_getElem? (i := 3) rfl) (by kernel_rfl) (by rw [i0]; simp)
 have b13 : ∃ c t, W.heap[13]? = some (.cells c t (0, 0)) := by
  obtain ⟨cs, fuel, p, -, hc, hd⟩ := var_at hl (n := "internal/strconv.float32info") (List.mem_of_getElem? (i := 2) rfl) (g := 13) (t := 213) (by kernel_rfl) (by kernel_rfl)
  obtain ⟨y0, y1, y2, n, -, hlen, -⟩ := Deep.trod_struct3 Tryz.underlying213 hd
  have h213 : Tryz.prog.cellsOf 213 = 3 := by kernel_rfl
  rw [h213] at hlen
  refine block_at hv hb (n := "internal/strconv.float32info") (g := 13) (List.mem_of_getElem? (i := 2) rfl) (by kernel_rfl) ?_
  rw [hc 0, List.getElem?_eq_getElem (by omega)]
  simp
 have e0 := at_err hl "loop.example/pub-g01495/pub/orbwkt.ErrUnsupportedGeometry" 0 _ _ (List.mem_of_getElem? (i := 16) rfl) (by kernel_rfl) (by kernel_rfl)
 have e1 := at_err hl "loop.example/pub-g01495/pub/orbwkt.ErrNotWKT" 1 _ _ (List.mem_of_getElem? (i := 15) rfl) (by kernel_rfl) (by kernel_rfl)
 have e10 := at_err hl "strconv.ErrSyntax" 10 _ _ (List.mem_of_getElem? (i := 11) rfl) (by kernel_rfl) (by kernel_rfl)
 have e11 := at_err hl "strconv.ErrRange" 11 _ _ (List.mem_of_getElem? (i := 10) rfl) (by kernel_rfl) (by kernel_rfl)
 exact ⟨⟨⟨⟨i0, i1, i2, b14, b13⟩, hpow, ⟨i0, at_pows hl⟩, at_opt hl, at_cheat hl, at_tab hl⟩, e10, e11, ⟨e0, e1⟩, ⟨at_fold hl, at_orbit hl⟩⟩, ⟨hpow, at_u64 hl⟩⟩
theorem readAgain_true (s : ByteArray) (w : World) (hre : RE w) (hfo : Fo w) : Calls Tryz.prog 3 #[.string s] w fun e w' => e = .returned (.bool true) /\ Below w.heap.size w w' :=
 readAgain_any s w hre hfo (fun hs g hg => plain (by rw [ls_length]; exact hs) hg)
theorem g0 : Tryz.prog.globalNamed "loop.example/pub-g01495/pub/orbwkt.ErrUnsupportedGeometry" = some 0 := by kernel_rfl
theorem g1 : Tryz.prog.globalNamed "loop.example/pub-g01495/pub/orbwkt.ErrNotWKT" = some 1 := by kernel_rfl
theorem t0 : (Tryz.prog.globals[0]?).map (·.type) = some 41 := by kernel_rfl
theorem t1 : (Tryz.prog.globals[1]?).map (·.type) = some 41 := by kernel_rfl
theorem contract (H : Type) (enc : TypeId × Value -> H) (W : World) (base : Nat) (args : Array Value) (ds gs : List (DataW H)) (before : List MemPlace)
  (hval : ∀ (j : Nat) t v, Tryz.f3.params[j]? = some t -> args[j]? = some v -> Value.okWide Tryz.prog W .any base t v)
  (hW : DataW.Whole enc Tryz.prog Tryz.f3.params.toList Rows.fnReadAgainSpec.vars false W args.toList ds gs before) (hL : laidMetH Tryz.prog Rows.fnReadAgainRow.laid W) :
  Calls Tryz.prog 3 args W fun e W' => ∃ v, e = .returned v /\ Rows.fnReadAgainSpec.post enc Tryz.prog Tryz.f3 false true false false W args v W' := by
 have hW' := hW
 obtain ⟨p, q, hA0, hV, rfl, hfz, hnd⟩ := hW
 have hA : DataW.TrodAll enc Tryz.prog W 0 (fun _ => true) true Tryz.f3.params.toList args.toList ds p := hA0
 rw [Tryz.params3] at hA hval
 obtain ⟨v0, vs0, d0, ds0, p0, q0, hargs, rfl, rfl, h0, r0⟩ := trodAll_cons hA
 obtain ⟨rfl, rfl, rfl⟩ := trodAll_nil r0
 obtain rfl : args = #[v0] := by cases args; simp_all
 obtain ⟨s, rfl, rfl, rfl, hmax⟩ := open_string Tryz.underlying9 (hval 0 9 v0 rfl rfl) h0
 have hV' : DataW.TrodVars enc Tryz.prog W (fun _ => true) ["loop.example/pub-g01495/pub/orbwkt.ErrUnsupportedGeometry", "loop.example/pub-g01495/pub/orbwkt.ErrNotWKT"] gs q := hV
 obtain ⟨x0, u0, c0, f0, e0, q0, x1, u1, c1, f1, e1, q1, rfl, n0, m0, v0, k0, n1, m1, v1, k1, rfl⟩ := trodVars_two hV'
 obtain rfl := Option.some.inj (g0.symm.trans n0)
 obtain rfl := Option.some.inj (g1.symm.trans n1)
 obtain rfl := Option.some.inj (t0.symm.trans m0)
 obtain rfl := Option.some.inj (t1.symm.trans m1)
 obtain ⟨y0, rfl, i0, rfl, rfl, -⟩ := token_of g0 Tryz.underlying41 v0 k0
 obtain ⟨y1, rfl, i1, rfl, rfl, -⟩ := token_of g1 Tryz.underlying41 v1 k1
 obtain ⟨hre, hfo⟩ := env_of (laid_met hL)
 clear hA0 hval
 refine (readAgain_true s W hre hfo).mono fun e W' ⟨he, hb⟩ => ?_
 subst he
 refine ⟨_, rfl, post_below (pa := []) hW' (fun _ _ _ => trodAll_cons_mk (shut_bool Tryz.underlying4 _) trodAll_mk0) (fun _ _ => trodAll_cons_mk (shut_string Tryz.underlying9 hmax) trodAll_mk0) (fun sp _ => ?_) rfl
  (hb.frame _) (fun a ha => hb.frozen ha) (ok_one (by kernel_rfl) rfl (okWide_bool_mk Tryz.underlying4 _))⟩
 exact ⟨0, 41, #[y0], 1, [], _, g0, t0, var_below g0 hb v0, trod_held Tryz.underlying41 i0 0, ⟨1, 41, #[y1], 1, [], [], g1, t1, var_below g1 hb v1, trod_held Tryz.underlying41 i1 0, rfl, rfl⟩, by simp⟩
theorem lifted (os : Os) (started : os.Started) (H : Type) (enc : TypeId × Value -> H) (F : Stop.Interp) :
  ReturnsInHanded {} Tryz.checked os 3 .any ((OpenSpec.ofChange Rows.fnReadAgainSpec).preRow enc Tryz.prog Tryz.f3 Rows.fnReadAgainRow.domain false Rows.fnReadAgainRow.laid) (((OpenSpec.ofChange Rows.fnReadAgainSpec).at F).post enc Tryz.prog Tryz.f3 false true false false) := by
 refine returnsInHanded_of_row (C := Tryz.checked) (s := OpenSpec.ofChange Rows.fnReadAgainSpec) own started (by kernel_rfl) Tryz.func3 (witness os enc) ?_
 intro W base args ds gs before hval hW _ _ _ hL _ _
 exact contract H enc W base args ds gs before hval hW hL
theorem said : Rows.FnReadAgainSaid :=
 OpenClaim.holds_of_cond 3 Tryz.f3 rfl rfl rfl rfl rfl rfl rfl ⟨rfl, rfl, rfl, rfl, rfl⟩ rfl rfl rfl rfl rfl (by kernel_rfl) Tryz.func3 (by kernel_rfl)
  (of_decide_eq_true (by kernel_rfl)) (by unfold Func.isWrapper; first | (rw [if_pos (by decide +kernel)]; kernel_rfl) | (rw [if_neg (by decide +kernel)]; exact ⟨rfl, rfl⟩))
  (fun os started H enc _ F => by rw [OpenClaim.pre_eq_preRow]; exact lifted os started H enc F)
theorem noStand (f : FuncId) (fn : Func) (hf : Tryz.pinned.checked.prog.funcNamed "loop.example/pub-g01495/laws.FnReadAgain" = some f) (hfn : Tryz.pinned.checked.prog.funcs[f]? = some fn) :
  true = Tryz.pinned.checked.prog.looks [] /\ ∀ (j : Nat) t, fn.params[j]? = some t -> Tryz.pinned.checked.prog.wantsStandIn t = false := by
 obtain rfl : f = 3 := Option.some.inj ((show Tryz.prog.funcNamed "loop.example/pub-g01495/laws.FnReadAgain" = some 3 by kernel_rfl).symm.trans hf) |>.symm
 obtain rfl : fn = Tryz.f3 := (Option.some.inj (Tryz.func3.symm.trans hfn)).symm
 refine ⟨by kernel_rfl, fun j t ht => ?_⟩
 rw [Tryz.params3] at ht
 obtain rfl : t = 9 := by simpa using Array.mem_of_getElem? ht
 exact (show Tryz.prog.wantsStandIn 9 = false by kernel_rfl)
theorem card : Rows.FnReadAgainCardSaid :=
 Claim7.holds_tied_plain_at .later [] _ _ _ _ said (fun _ h => by cases h) (by kernel_rfl) (fun _ h => by cases h) fnReadAgain_row_tie rfl ⟨rfl, rfl⟩ (by kernel_rfl) rfl noStand (by kernel_rfl)
end Go.Proofs.YtdfolbmoohcblaaGreatDoor
