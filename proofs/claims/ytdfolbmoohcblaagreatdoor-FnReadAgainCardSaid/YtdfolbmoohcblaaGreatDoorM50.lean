/-
For FnReadAgain, part 50: C2.
-/
import Derived.Test.YtdfolbmoohcblaaGreatDoorM49
import Derived.WalkKit
import Derived.ProofKit
import Derived.OpenShut
import Derived.Deep.DeepHandedRow
import Derived.Lay
import Derived.Stop.Joined
set_option linter.all false
namespace Go.Proofs.YtdfolbmoohcblaaGreatDoor
open Go Go.ChangeShapes Go.WideShapes Go.RowKit Go.Lib
theorem own : ownKnob Tryz.prog.godebug = none := by kernel_rfl
theorem post_below {H : Type} {enc : TypeId × Value -> H} {P : Program} {f : Func} {s : ChangeSpec} {apart fresh handsOn again : Bool} {W W' : World} {args : Array Value} {v : Value} {ds gs : List (DataW H)} {before pa pv : List MemPlace}
  (hW : DataW.Whole enc P f.params.toList s.vars apart W args.toList ds gs before)
  (hres : ∀ (b : Nat) (sp : Nat -> Bool) (hd : Bool), DataW.TrodAll enc P W' b sp hd f.resultTypes.toList (v.resultList f.resultTypes.size) (s.fn H (ds ++ gs)).results [])
  (hargs : ∀ sp : Nat -> Bool, (∀ p ∈ before, sp p.block = true) -> DataW.TrodAll enc P W' 0 sp true f.params.toList args.toList (s.fn H (ds ++ gs)).args pa)
  (hvars : ∀ sp : Nat -> Bool, (∀ p ∈ before, sp p.block = true) -> DataW.TrodVars enc P W' sp s.vars (s.fn H (ds ++ gs)).vars pv)
  (hps : before = pa ++ pv) (hk : W.keptBut W' (· ∈ before)) (hfz : ∀ a : Addr, a.block < W.heap.size -> W'.frozen? a = W.frozen? a)
  (hok : ∀ (j : Nat) (t : TypeId) (r : Value), f.resultTypes[j]? = some t -> (v.resultList f.resultTypes.size)[j]? = some r -> Value.okWide P W' .any 0 t r) :
  s.post enc P f apart fresh handsOn again W args v W' := by
 have hlt : ∀ p ∈ before, p.block < W.heap.size := fun p hp => hW.lt p hp
 have hold : ∀ p ∈ before, (fun b => decide (b < W.heap.size)) p.block = true := fun p hp => by simpa using hW.lt p hp
 refine ⟨ds, gs, before, [], pa, pv, hW, hres _ _ _, hargs _ hold, hvars _ hold, World.keptBut_mono (fun p hp => ⟨hp, ?_⟩) hk, fun _ => ?_⟩
 ·rw [hps, List.mem_append] at hp
  exact Or.inr hp
 ·obtain ⟨_, _, _, _, _, hz, hn⟩ := hW
  refine ⟨hok, _, _, ([] ++ pa) ++ pv, ⟨[] ++ pa, pv, trodAll_append (hargs _ (fun _ _ => rfl)) (hres _ _ _), hvars _ (fun _ _ => rfl), rfl, ?_, ?_⟩, ?_⟩
  ·intro b off hp
   have hp' : MemPlace.cell b off ∈ before := by rw [hps]; simpa using hp
   rw [hfz ⟨b, off, none⟩ (hlt _ hp')]
   exact hz b off hp'
  ·intro ha
   have := hn ha
   rw [hps] at this
   simpa using this
  ·intro p hp _
   rw [hps]
   simpa using hp
theorem var_below {w w' : World} {n : String} {g : Nat} {cs : Array Value} (hg : Tryz.prog.globalNamed n = some g) (hb : Below w.heap.size w w') (h : w.var? Tryz.prog n = some cs) : w'.var? Tryz.prog n = some cs := by
 unfold World.var? at h ⊢
 rw [hg] at h ⊢
 simp only [Option.bind_some] at h ⊢
 have hlt : g < w.heap.size := by
  rcases Nat.lt_or_ge g w.heap.size with k | k
  ·exact k
  ·rw [Array.getElem?_eq_none k] at h
   cases h
 rw [hb.block g hlt]
 exact h
noncomputable def witW (os : Os) : World := World.laidAll Tryz.prog os Rows.fnReadAgainRow.laid
noncomputable def witC (os : Os) : World := (witW os).forCall (fun _ _ => 0) ⟨#[], #[.string ⟨#[]⟩], []⟩
theorem wit_laid (os : Os) : laidMetH Tryz.prog Rows.fnReadAgainRow.laid (witC os).memory := by
 rw [MakeChecks.laidMetH_plain _ _ _ (by kernel_rfl)]
 exact laidMet_laidAll _ (by kernel_rfl) (by kernel_rfl)
theorem wit_shaped (os : Os) : (witC os).Shaped Tryz.prog := World.shaped_of_ZipB (by kernel_rfl) (by kernel_rfl)
theorem wit_ok (os : Os) : Input.okWideB Tryz.prog (witC os) 3 ⟨#[], #[.string ⟨#[]⟩], []⟩ = true := by kernel_rfl
theorem wit_reads (os : Os) {H : Type} (enc : TypeId × Value -> H) : ∃ x, DataW.whole enc Tryz.prog (witC os).memory Tryz.f3.params.toList Rows.fnReadAgainSpec.vars false #[Value.string ⟨#[]⟩].toList 8 = some x := by
 have hs : (DataW.whole enc Tryz.prog (witC os).memory Tryz.f3.params.toList Rows.fnReadAgainSpec.vars false #[Value.string ⟨#[]⟩].toList 8).isSome = true := by kernel_rfl
 exact Option.isSome_iff_exists.1 hs
theorem wit_row (os : Os) {H : Type} (enc : TypeId × Value -> H) : (OpenSpec.ofChange Rows.fnReadAgainSpec).preRow enc Tryz.prog Tryz.f3 Rows.fnReadAgainRow.domain false Rows.fnReadAgainRow.laid (witC os).memory #[.string ⟨#[]⟩] := by
 obtain ⟨x, hx⟩ := wit_reads os enc
 exact OpenSpec.preRow_of_cond 8 hx rfl (fun k hk => by cases hk) (by kernel_rfl) (wit_laid os)
theorem witness (os : Os) {H : Type} (enc : TypeId × Value -> H) : ∃ (w : World) (tape : Tape) (i : Input), w.os = os /\ (w.forCall tape i).Shaped Tryz.prog /\ i.vars = [] /\ Input.okWide Tryz.prog (w.forCall tape i) .any w.heap.size 3 i /\
   (OpenSpec.ofChange Rows.fnReadAgainSpec).preRow enc Tryz.prog Tryz.f3 Rows.fnReadAgainRow.domain false Rows.fnReadAgainRow.laid (w.forCall tape i).memory i.args /\ ({} : Assume).holds Tryz.prog (lone (Frame.enter Tryz.prog 3 i.args .normal) [] (w.forCall tape i)) :=
 ⟨witW os, fun _ _ => 0, ⟨#[], #[.string ⟨#[]⟩], []⟩, World.laidAll_os _ _ _, wit_shaped os, (Input.okWide_of_okWideB (base := 0) (wit_ok os)).1, (Input.okWide_of_okWideB (wit_ok os)).2, wit_row os enc, by
  simp only [Assume.holds]
  exact ⟨by simp, by simp, fun _ => Modest.zero, by simp, by simp⟩⟩
end Go.Proofs.YtdfolbmoohcblaaGreatDoor
