/-
For FnReadAgain, part 1: Base Txt Mem W1 W1a W1b W1c.
-/
import Derived.Test.YtdfolbmoohcblaaGreatDoorProg
import Derived.WalkKit
import Derived.WalkSpells
import Derived.WalkLawsBesides
import Derived.Lib.Hide
import Derived.IntWalk
import Derived.KernelRfl
import Derived.Handy
set_option linter.all false
namespace Go.Proofs.YtdfolbmoohcblaaGreatDoor
open Go.RowKit
def bs (l : List UInt8) : ByteArray := ⟨l.toArray⟩
def ls (s : ByteArray) : List UInt8 := s.data.toList
theorem ls_bs (l : List UInt8) : ls (bs l) = l := rfl
theorem bs_ls (s : ByteArray) : bs (ls s) = s := rfl
theorem bs_size (l : List UInt8) : (bs l).size = l.length := by simp [bs, ByteArray.size]
theorem ls_length (s : ByteArray) : (ls s).length = s.size := rfl
theorem bs_inj {a b : List UInt8} (h : bs a = bs b) : a = b := by
 have := congrArg ls h; simpa [ls_bs] using this
theorem ls_inj {a b : ByteArray} (h : ls a = ls b) : a = b := by rw [<- bs_ls a, <- bs_ls b, h]
theorem ls_extract (s : ByteArray) (a b : Nat) : ls (s.extract a b) = ((ls s).drop a).take (b - a) := by
 simp [ls, ByteArray.data_extract, List.extract_eq_drop_take']
theorem extract_bs (s : ByteArray) (a b : Nat) : s.extract a b = bs (((ls s).drop a).take (b - a)) := by
 apply ls_inj; rw [ls_extract, ls_bs]
theorem ls_getElem? (s : ByteArray) (k : Nat) (h : k < s.size) : (ls s)[k]? = some s[k] := by
 rw [List.getElem?_eq_getElem (by simpa [ls_length] using h)]; rfl
end Go.Proofs.YtdfolbmoohcblaaGreatDoor
namespace Go.Proofs.YtdfolbmoohcblaaGreatDoor
def inCl (c : UInt8) : Bool := c == 32 || c == 9 || c == 10 || c == 12 || c == 13 || c == 124
def over (l : List UInt8) (i : Nat) : Nat := i + ((l.drop i).takeWhile inCl).length
theorem over_step {l : List UInt8} {i : Nat} {c : UInt8} (h : l[i]? = some c) (hc : inCl c = true) : over l (i + 1) = over l i := by
 obtain ⟨hi, rfl⟩ := List.getElem?_eq_some_iff.1 h
 unfold over
 rw [List.drop_eq_getElem_cons hi, List.takeWhile_cons, if_pos hc, List.length_cons]; omega
theorem over_stop {l : List UInt8} {i : Nat} {c : UInt8} (h : l[i]? = some c) (hc : inCl c = false) : over l i = i := by
 obtain ⟨hi, rfl⟩ := List.getElem?_eq_some_iff.1 h
 unfold over
 rw [List.drop_eq_getElem_cons hi, List.takeWhile_cons, if_neg (by simp [hc])]; rfl
theorem over_end {l : List UInt8} {i : Nat} (h : l.length <= i) : over l i = i := by
 unfold over; rw [List.drop_eq_nil_of_le h]; rfl
theorem over_ge (l : List UInt8) (i : Nat) : i <= over l i := Nat.le_add_right _ _
theorem over_le {l : List UInt8} {i : Nat} (h : i <= l.length) : over l i <= l.length := by
 unfold over
 have := (List.takeWhile_sublist (p := inCl) (l := l.drop i)).length_le
 rw [List.length_drop] at this; omega
def mp (l : List UInt8) (i : Nat) (dbl : Bool) : Option (Nat × Nat × Nat) :=
 if l[i]? = some 41 then
  let from? := if dbl then (if l[over l (i + 1)]? = some 41 then some (over l (i + 1) + 1) else none) else some (i + 1)
  from?.bind fun fr =>
   if l[over l fr]? = some 44 then
    let to := over l (over l fr + 1)
    if l[to]? = some 40 then
     if dbl then (if l[over l (to + 1)]? = some 40 then some (fr, to, over l (to + 1) + 1) else none)
     else some (fr, to, to + 1)
    else none
   else none
 else none
theorem mp_bd {l : List UInt8} {i : Nat} {dbl : Bool} {fr to en : Nat} (h : mp l i dbl = some (fr, to, en)) : i < fr /\ fr <= to /\ to < en /\ en <= l.length := by
 unfold mp at h
 have at_lt : ∀ {k : Nat} {c : UInt8}, l[k]? = some c -> k < l.length := fun h => (List.getElem?_eq_some_iff.1 h).1
 split at h
 ·rename_i h1
  cases dbl
  ·simp only [Bool.false_eq_true, if_false, Option.bind_some] at h
   split at h
   ·rename_i h2
    split at h
    ·rename_i h3
     injection h with h; injection h with e1 h; injection h with e2 e3; subst e1; subst e2; subst e3
     have := over_ge l (i + 1); have := over_ge l (over l (i + 1) + 1); have := at_lt h3
     omega
    ·cases h
   ·cases h
  ·simp only [if_true] at h
   split at h
   ·rename_i h0
    simp only [Option.bind_some] at h
    split at h
    ·rename_i h2
     split at h
     ·rename_i h3
      split at h
      ·rename_i h4
       injection h with h; injection h with e1 h; injection h with e2 e3; subst e1; subst e2; subst e3
       have := over_ge l (i + 1)
       have := over_ge l (over l (i + 1) + 1)
       have := over_ge l (over l (over l (i + 1) + 1) + 1)
       have := over_ge l (over l (over l (over l (i + 1) + 1) + 1) + 1)
       have := at_lt h4
       omega
      ·cases h
     ·cases h
    ·cases h
   ·cases h
 ·cases h
def fp (l : List UInt8) (dbl : Bool) (i : Nat) : List (Nat × Nat × Nat × Nat) :=
 if i < l.length then
  match mp l i dbl with
  | none => fp l dbl (i + 1)
  | some (fr, to, en) => (i, fr, to, en) :: fp l dbl (max en (i + 1))
 else []
termination_by l.length - i
theorem fp_end {l : List UInt8} {dbl : Bool} {i : Nat} (h : l.length <= i) : fp l dbl i = [] := by
 rw [fp, if_neg (by omega)]
theorem fp_none {l : List UInt8} {dbl : Bool} {i : Nat} (hi : i < l.length) (h : mp l i dbl = none) : fp l dbl i = fp l dbl (i + 1) := by
 rw [fp, if_pos hi, h]
theorem fp_some {l : List UInt8} {dbl : Bool} {i fr to en : Nat} (hi : i < l.length) (h : mp l i dbl = some (fr, to, en)) : fp l dbl i = (i, fr, to, en) :: fp l dbl en := by
 rw [fp, if_pos hi, h]
 have := mp_bd h
 simp only [show max en (i + 1) = en from by omega]
def cutAt (l : List UInt8) (start : Nat) : List (Nat × Nat × Nat × Nat) -> List (List UInt8)
 | [] => [l.drop start]
 | (_, fr, to, _) :: r => ((l.drop start).take (fr - start)) :: cutAt l to r
def fpOk (n : Nat) (start : Nat) : List (Nat × Nat × Nat × Nat) -> Prop
 | [] => start <= n
 | (_, fr, to, _) :: r => start <= fr /\ fr <= to /\ to <= n /\ fpOk n to r
theorem fpOk_mono {n a b : Nat} (h : a <= b) : ∀ {q : List (Nat × Nat × Nat × Nat)}, fpOk n b q -> fpOk n a q
 | [], h' => Nat.le_trans h h'
 | (_, _, _, _) :: _, ⟨h1, h2⟩ => ⟨Nat.le_trans h h1, h2⟩
theorem fp_ok (l : List UInt8) (dbl : Bool) : ∀ (d i : Nat), l.length - i <= d -> i <= l.length -> fpOk l.length i (fp l dbl i) := by
 intro d
 induction d with
 | zero => intro i h1 h2; rw [fp_end (by omega)]; exact h2
 | succ d ih =>
  intro i h1 h2
  by_cases hi : i < l.length
  ·cases h : mp l i dbl with
   | none => rw [fp_none hi h]; exact fpOk_mono (Nat.le_succ i) (ih (i + 1) (by omega) (by omega))
   | some q =>
    obtain ⟨fr, to, en⟩ := q
    have b := mp_bd h
    rw [fp_some hi h]
    exact ⟨by omega, by omega, by omega, fpOk_mono (by omega) (ih en (by omega) (by omega))⟩
  ·rw [fp_end (by omega)]; exact h2
theorem fp_len (l : List UInt8) (dbl : Bool) : ∀ (d i : Nat), l.length - i <= d -> (fp l dbl i).length <= l.length - i := by
 intro d
 induction d with
 | zero => intro i h1; rw [fp_end (by omega)]; exact Nat.zero_le _
 | succ d ih =>
  intro i h1
  by_cases hi : i < l.length
  ·cases h : mp l i dbl with
   | none => rw [fp_none hi h]; have := ih (i + 1) (by omega); omega
   | some q =>
    obtain ⟨fr, to, en⟩ := q
    have b := mp_bd h
    rw [fp_some hi h, List.length_cons]
    have := ih en (by omega); omega
  ·rw [fp_end (by omega)]; exact Nat.zero_le _
def pieces (l : List UInt8) (dbl : Bool) : List (List UInt8) := cutAt l 0 (fp l dbl 0)
def sp3 (c : UInt8) : Bool := c == 32 || c == 9 || c == 10
structure Sc where
 at_ : Nat
 start : Nat
 sp : Bool
 cm : Bool
def sc (l : List UInt8) : List UInt8 -> Nat -> Sc -> List (List UInt8)
 | [], _, σ => [l.drop σ.at_]
 | c :: r, i, σ =>
  if c == 44 then sc l r (i + 1) ⟨σ.at_, if σ.sp then σ.start else i, true, true⟩
  else if sp3 c then sc l r (i + 1) ⟨σ.at_, if σ.sp then σ.start else i, true, σ.cm⟩
  else if σ.cm then ((l.drop σ.at_).take (σ.start - σ.at_)) :: sc l r (i + 1) ⟨i, σ.start, false, false⟩
  else sc l r (i + 1) ⟨σ.at_, σ.start, false, false⟩
def commaPieces (l : List UInt8) : List (List UInt8) := sc l l 0 ⟨0, 0, false, false⟩
def ScOk (i : Nat) (σ : Sc) : Prop := σ.at_ <= i /\ (σ.sp = true -> σ.at_ <= σ.start /\ σ.start <= i) /\ (σ.cm = true -> σ.sp = true)
def lead (l : List UInt8) : Nat := (l.takeWhile sp3).length
def trail (l : List UInt8) : Nat := lead l.reverse
def trim (l : List UInt8) : List UInt8 := if l.length <= lead l + trail l + 1 then [] else (l.drop (lead l)).take (l.length - trail l - lead l)
theorem lead_yes {l : List UInt8} {k : Nat} {c : UInt8} (h : l[k]? = some c) (hc : sp3 c = true) : lead (l.drop k) = 1 + lead (l.drop (k + 1)) := by
 obtain ⟨hi, rfl⟩ := List.getElem?_eq_some_iff.1 h
 unfold lead; rw [List.drop_eq_getElem_cons hi, List.takeWhile_cons, if_pos hc, List.length_cons]; omega
theorem lead_no {l : List UInt8} {k : Nat} {c : UInt8} (h : l[k]? = some c) (hc : sp3 c = false) : lead (l.drop k) = 0 := by
 obtain ⟨hi, rfl⟩ := List.getElem?_eq_some_iff.1 h
 unfold lead; rw [List.drop_eq_getElem_cons hi, List.takeWhile_cons, if_neg (by simp [hc])]; rfl
theorem lead_end {l : List UInt8} {k : Nat} (h : l.length <= k) : lead (l.drop k) = 0 := by
 rw [List.drop_eq_nil_of_le h]; rfl
theorem take_rev {l : List UInt8} {k : Nat} {c : UInt8} (h : l[k]? = some c) : (l.take (k + 1)).reverse = c :: (l.take k).reverse := by
 obtain ⟨hi, rfl⟩ := List.getElem?_eq_some_iff.1 h
 rw [List.take_succ_eq_append_getElem hi]; simp
theorem trail_yes {l : List UInt8} {k : Nat} {c : UInt8} (h : l[k]? = some c) (hc : sp3 c = true) : trail (l.take (k + 1)) = 1 + trail (l.take k) := by
 unfold trail lead; rw [take_rev h, List.takeWhile_cons, if_pos hc, List.length_cons]; omega
theorem trail_no {l : List UInt8} {k : Nat} {c : UInt8} (h : l[k]? = some c) (hc : sp3 c = false) : trail (l.take (k + 1)) = 0 := by
 unfold trail lead; rw [take_rev h, List.takeWhile_cons, if_neg (by simp [hc])]; rfl
end Go.Proofs.YtdfolbmoohcblaaGreatDoor
namespace Go.Proofs.YtdfolbmoohcblaaGreatDoor
open Go.RowKit
def May (base : Nat) (S : Nat -> Prop) (w : World) (k : Nat) : Prop := base <= k /\ ∃ (c : Array Value) (t : Nat) (fr : Nat × Nat), w.heap[k]? = some (Obj.cells c t fr) /\ S t
structure Keep (base : Nat) (S : Nat -> Prop) (w w' : World) : Prop where
 os : w'.os = w.os
 tape : w'.tape = w.tape
 output : w'.output = w.output
 size : w.heap.size <= w'.heap.size
 block : ∀ k, k < w.heap.size -> ¬ May base S w k -> w'.heap[k]? = w.heap[k]?
theorem lt_of_heap {w : World} {k : Nat} {o : Obj} (h : w.heap[k]? = some o) : k < w.heap.size := (Array.getElem?_eq_some_iff.1 h).1
section
variable {base base' : Nat} {S S' : Nat -> Prop} {w w' w'' : World}
theorem Keep.refl : Keep base S w w := ⟨rfl, rfl, rfl, Nat.le_refl _, fun _ _ _ => rfl⟩
theorem Keep.trans (h : Keep base S w w') (h' : Keep base S w' w'') : Keep base S w w'' := by
 refine ⟨h'.os.trans h.os, h'.tape.trans h.tape, h'.output.trans h.output, Nat.le_trans h.size h'.size, ?_⟩
 intro k hk hm
 rw [h'.block k (Nat.lt_of_lt_of_le hk h.size) ?_, h.block k hk hm]
 rintro ⟨hb, c, t, fr, hh, ht⟩
 rw [h.block k hk hm] at hh
 exact hm ⟨hb, c, t, fr, hh, ht⟩
theorem Keep.mono (h : Keep base S w w') (hb : base' <= base) (hS : ∀ t, S t -> S' t) : Keep base' S' w w' :=
 ⟨h.os, h.tape, h.output, h.size, fun k hk hm => h.block k hk (fun ⟨h1, c, t, fr, hh, ht⟩ => hm ⟨Nat.le_trans hb h1, c, t, fr, hh, hS t ht⟩)⟩
theorem Keep.below (h : Keep base S w w') : Below (min base w.heap.size) w w' :=
 ⟨h.os, h.tape, h.output, h.size, fun k hk => h.block k (by omega) (fun ⟨h1, _⟩ => by omega)⟩
theorem Keep.below' (h : Keep base S w w') (hb : base <= w.heap.size) : Below base w w' := by
 have := h.below; rwa [Nat.min_eq_left hb] at this
theorem Keep.ofBelow (h : Below w.heap.size w w') : Keep base S w w' :=
 ⟨h.os, h.tape, h.output, h.size, fun k hk _ => h.block k hk⟩
theorem Keep.toBelow (h : Keep w.heap.size S w w') : Below w.heap.size w w' := h.below' (Nat.le_refl _)
theorem Keep.alloc (o : Obj) : Keep base S w (w.alloc o) := Keep.ofBelow ((Below.refl _ _).alloc (Nat.le_refl _) o)
theorem Keep.drew : Keep base S w w.drew := Keep.ofBelow (Below.refl _ _).drew
theorem Keep.setCell {a : Addr} {c : Array Value} {t : Nat} {fr : Nat × Nat} (hh : w.heap[a.block]? = some (Obj.cells c t fr)) (hb : base <= a.block) (ht : S t) (u : Value) : Keep base S w (w.setCell a u) := by
 refine ⟨rfl, rfl, rfl, by simp [World.setCell], fun k hk hm => Below.heap_setCell _ _ _ _ ?_⟩
 rintro rfl; exact hm ⟨hb, c, t, fr, hh, ht⟩
abbrev Row (w : World) (e size : Nat) (v : Value) (n : Nat) (xs : List Value) : Prop := w.ownsRow 0 e size v n xs
theorem Row.of {e size : Nat} {v : Value} {n : Nat} {xs : List Value} (h : w.ownsRow base e size v n xs) : Row w e size v n xs := by
 refine ⟨h.1, h.2.imp id ?_⟩
 rintro ⟨g, cap, cur, h1, _, h2⟩
 exact ⟨g, cap, cur, h1, Nat.zero_le _, h2⟩
theorem Row.kept {e size : Nat} {v : Value} {n : Nat} {xs : List Value} {b0 : Nat} (h : w.ownsRow b0 e size v n xs) (hm : Keep base S w w') (ho : (∀ g, v.ownBlock = some g -> g < base) \/ ¬ S e) : w'.ownsRow b0 e size v n xs := by
 refine ⟨h.1, h.2.imp id ?_⟩
 rintro ⟨g, cap, cur, rfl, h1, hh, h2⟩
 refine ⟨g, cap, cur, rfl, h1, ?_, h2⟩
 rw [hm.block g (lt_of_heap hh) ?_]
 ·exact hh
 ·rintro ⟨hb, c, t, fr, hh', ht⟩
  rw [hh] at hh'
  injection hh' with hh'; injection hh' with e1 e2 e3; subst e2
  rcases ho with ho | ho
  ·have := ho g rfl; omega
  ·exact ho ht
theorem Row.below {e size : Nat} {v : Value} {n : Nat} {xs : List Value} {b0 : Nat} (h : w.ownsRow b0 e size v n xs) (hb : Below w.heap.size w w') : w'.ownsRow b0 e size v n xs :=
 Row.kept (base := w.heap.size) (S := fun _ => True) h (Keep.ofBelow hb) (.inl fun _ hg => (h.lt _ hg).2)
theorem Keep.grown {e size : Nat} {v : Value} {n : Nat} {xs : List Value} (h : w.ownsRow base e size v n xs) (hg : w.grownBy w' v.ownBlock) (hS : S e) : Keep base S w w' := by
 refine ⟨hg.os, hg.tape, hg.output, hg.size, fun k hk hm => hg.block k hk (fun e' => hm ?_)⟩
 rcases h.2 with ⟨rfl, _⟩ | ⟨g, cap, cur, rfl, h1, hh, _⟩
 ·cases e'
 ·injection e' with e'; subst e'
  exact ⟨h1, cur, e, _, hh, hS⟩
theorem Keep.cells (h : Keep base S w w') {k : Nat} {c : Array Value} {t : Nat} {fr : Nat × Nat} (hh : w.heap[k]? = some (Obj.cells c t fr)) (ht : ¬ S t \/ k < base) : w'.heap[k]? = some (Obj.cells c t fr) := by
 rw [h.block k (lt_of_heap hh) ?_]
 ·exact hh
 ·rintro ⟨hb, c', t', fr', hh', ht'⟩
  rw [hh] at hh'
  injection hh' with hh'; injection hh' with e1 e2 e3; subst e2
  rcases ht with ht | ht
  ·exact ht ht'
  ·omega
end
theorem one_new {w : World} {v : Value} {t b : Nat} (hb : b = w.heap.size) : ∀ j u, [v][j]? = some u -> (w.alloc (Obj.cells #[v] t)).cell? ((⟨b, 0, none⟩ : Addr).add j) = some u := by
 subst hb; exact cell_one_new _ _ _
theorem one_cell {v : Value} (h : v.oneCell' = true) : ∀ u ∈ [v], u.oneCell' = true := by
 intro u hu; simp at hu; subst hu; exact h
theorem row_lit (w : World) (base e size n : Nat) (cs : List Value) (hb : base <= w.heap.size) (hc : cs.length = n * size) (hn : n <= maxLen) :
  (w.alloc (Obj.cells cs.toArray e)).ownsRow base e size (.slice (some ⟨w.heap.size, 0, none⟩) n n) n cs := by
 refine ⟨hc, .inr ⟨w.heap.size, n, cs.toArray, rfl, hb, heap_alloc_new w _, Nat.le_refl _, hn, by simpa using hc, ?_⟩⟩
 rw [<- hc]; simp
theorem Row.cell {w : World} {b0 e size : Nat} {g n c : Nat} {xs : List Value} (h : w.ownsRow b0 e size (.slice (some ⟨g, 0, none⟩) n c) n xs) (k : Nat) {u : Value} (hu : xs[k]? = some u) : w.cell? ⟨g, k, none⟩ = some u := by
 have h1 := h.cells (g := g) rfl k u hu
 have e : ((⟨g, 0, none⟩ : Addr).add k) = ⟨g, k, none⟩ := by
  unfold Addr.add; split <;> simp_all
 rwa [e] at h1
theorem Row.shape {w : World} {b0 e size n : Nat} {v : Value} {xs : List Value} (h : w.ownsRow b0 e size v n xs) : ∃ A c, v = .slice A n c := by
 rcases h.2 with ⟨rfl, h0⟩ | ⟨g, cap, cur, rfl, _⟩
 ·exact ⟨none, 0, by rw [h0]⟩
 ·exact ⟨_, _, rfl⟩
theorem Row.pos {w : World} {b0 e size n : Nat} {v : Value} {xs : List Value} (h : w.ownsRow b0 e size v n xs) (hn : 0 < n) : ∃ g c, v = .slice (some ⟨g, 0, none⟩) n c /\ n <= c := by
 rcases h.2 with ⟨rfl, h⟩ | ⟨g, cap, cur, rfl, _, _, h, _⟩
 ·omega
 ·exact ⟨_, _, rfl, h⟩
def All2 {α β : Type} (R : α -> β -> Prop) : List α -> List β -> Prop
 | [], [] => True
 | a :: xs, b :: ys => R a b /\ All2 R xs ys
 | _, _ => False
section
variable {α β : Type} {R R' : α -> β -> Prop}
theorem All2.len : ∀ {xs : List α} {ys : List β}, All2 R xs ys -> xs.length = ys.length
 | [], [], _ => rfl
 | _ :: _, _ :: _, h => by rw [List.length_cons, List.length_cons, All2.len h.2]
theorem All2.imp (f : ∀ a b, R a b -> R' a b) : ∀ {xs : List α} {ys : List β}, All2 R xs ys -> All2 R' xs ys
 | [], [], _ => trivial
 | _ :: _, _ :: _, h => ⟨f _ _ h.1, All2.imp f h.2⟩
theorem All2.imp_mem : ∀ {xs : List α} {ys : List β}, (∀ a b, a ∈ xs -> R a b -> R' a b) -> All2 R xs ys -> All2 R' xs ys
 | [], [], _, _ => trivial
 | _ :: _, _ :: _, f, h => ⟨f _ _ (List.mem_cons_self ..) h.1, All2.imp_mem (fun a b ha => f a b (List.mem_cons_of_mem _ ha)) h.2⟩
theorem All2.snoc : ∀ {xs : List α} {ys : List β} {a : α} {b : β}, All2 R xs ys -> R a b -> All2 R (xs ++ [a]) (ys ++ [b])
 | [], [], _, _, _, h => ⟨h, trivial⟩
 | _ :: _, _ :: _, _, _, h, h' => ⟨h.1, All2.snoc h.2 h'⟩
theorem All2.get : ∀ {xs : List α} {ys : List β}, All2 R xs ys -> ∀ (k : Nat) (a : α) (b : β), xs[k]? = some a -> ys[k]? = some b -> R a b
 | [], [], _, k, a, b, h1, _ => by simp at h1
 | x :: _, y :: _, h, 0, a, b, h1, h2 => by simp at h1 h2; subst h1; subst h2; exact h.1
 | _ :: xs, _ :: ys, h, k + 1, a, b, h1, h2 => All2.get h.2 k a b (by simpa using h1) (by simpa using h2)
theorem All2.get' {xs : List α} {ys : List β} (h : All2 R xs ys) {k : Nat} {b : β} (hb : ys[k]? = some b) : ∃ a, xs[k]? = some a /\ R a b := by
 have hk : k < xs.length := by rw [h.len]; exact (List.getElem?_eq_some_iff.1 hb).1
 exact ⟨xs[k], List.getElem?_eq_getElem hk, h.get k _ _ (List.getElem?_eq_getElem hk) hb⟩
end
end Go.Proofs.YtdfolbmoohcblaaGreatDoor
namespace Go.Proofs.YtdfolbmoohcblaaGreatDoor
set_option maxHeartbeats 400000
open Go.RowKit
theorem inClass_any (c : UInt8) (w : World) :
  Calls Tryz.prog 111 #[.int .u8 c.toNat] w fun e w' => e = .returned (.bool (inCl c)) /\ w = w' := by
 have e : ∀ n : Nat, n < 256 -> ((c.toNat : Int) = n ↔ c = UInt8.ofNat n) := fun n hn => by
  rw [<- UInt8.toNat_inj, UInt8.toNat_ofNat', Nat.mod_eq_of_lt (by omega)]; omega
 have h32 := e 32 (by omega); have h9 := e 9 (by omega); have h10 := e 10 (by omega); have h12 := e 12 (by omega); have h13 := e 13 (by omega); have h124 := e 124 (by omega)
 have H : (inCl c) = (((c.toNat : Int) == 32) || ((c.toNat : Int) == 9) || ((c.toNat : Int) == 10) || ((c.toNat : Int) == 12) || ((c.toNat : Int) == 13) || ((c.toNat : Int) == 124)) := by
  rw [Bool.eq_iff_iff]; simp [inCl] at *; grind
 rw [H]
 clear e h32 h9 h10 h12 h13 h124 H
 go_enter Tryz.func111, Tryz.ntmps111
 go_wp2
 all_goals (go_ret; refine ⟨?_, rfl⟩; simp [*])
theorem overClass_any (s : ByteArray) (i : Nat) (x : Int) (w : World) (hs : s.size <= 1099511627776) (hx : x = i) (hi : i <= s.size) :
  Calls Tryz.prog 90 #[.string s, .int .i64 x] w fun e w' => e = .returned (.int .i64 (over (ls s) i)) /\ w = w' := by
 subst hx
 go_enter Tryz.func90, Tryz.ntmps90
 go_wp2
 go_loop [1] (fun n => ∃ k : Nat, k <= s.size /\ n = .int .i64 k /\ Hid (over (ls s) k = over (ls s) i)) (fun i => s.size - (intOf i).toNat)
 case atStart => exact ⟨i, hi, rfl, rfl⟩
 case round =>
  obtain ⟨k, hk, rfl, hov⟩ := hrel
  by_cases hlt : k < s.size
  ·cases hc : inCl s[k]
   ·go_wp2_with (go_at_call 111; refine (inClass_any _ _).mono ?_; rintro e w' ⟨rfl, rfl⟩)
    go_ret
    refine ⟨?_, rfl⟩
    rw [<- hov.out, over_stop (ls_getElem? s k hlt) hc]; rfl
   ·go_wp2_with (go_at_call 111; refine (inClass_any _ _).mono ?_; rintro e w' ⟨rfl, rfl⟩)
    go_round
    case rel => exact ⟨k+1, by omega, by go_num, (over_step (ls_getElem? s k hlt) hc).trans hov.out⟩
    case measure => simp [intOf]; omega
  ·go_wp2
   go_ret
   refine ⟨?_, rfl⟩
   rw [<- hov.out, over_end (by rw [ls_length]; omega)]; rfl
end Go.Proofs.YtdfolbmoohcblaaGreatDoor
namespace Go.Proofs.YtdfolbmoohcblaaGreatDoor
set_option maxHeartbeats 2000000
open Go.RowKit
def mpV (i : Nat) : Option (Nat × Nat × Nat) -> Value
 | none => .tuple #[.int .i64 0, .int .i64 0, .int .i64 0, .int .i64 0, .bool false]
 | some (fr, to, en) => .tuple #[.int .i64 i, .int .i64 fr, .int .i64 to, .int .i64 en, .bool true]
theorem at_yes {s : ByteArray} {k : Nat} (h : k < s.size) (c : UInt8) {n : Int} (hn : (c.toNat : Int) = n) (hb : ((s[k].toNat : Int) != n) = false) : (ls s)[k]? = some c := by
 rw [ls_getElem? s k h]; congr 1; apply UInt8.toNat_inj.1; have := bne_eq_false_iff_eq.1 hb; omega
theorem at_no {s : ByteArray} {k : Nat} (h : k < s.size) (c : UInt8) {n : Int} (hn : (c.toNat : Int) = n) (hb : ((s[k].toNat : Int) != n) = true) : (ls s)[k]? ≠ some c := by
 rw [ls_getElem? s k h]; intro e; have := bne_iff_ne.1 hb; rw [Option.some.inj e] at this; omega
theorem at_out {s : ByteArray} {k : Nat} (h : ¬ k < s.size) (c : UInt8) : (ls s)[k]? ≠ some c := by
 rw [List.getElem?_eq_none (by rw [ls_length]; omega)]; simp
theorem at_no' {s : ByteArray} {k : Nat} (h : k < s.size) (c : UInt8) {n : Int} (hn : (c.toNat : Int) = n) (hb : s.size <= k \/ ((s[k].toNat : Int) != n) = true) : (ls s)[k]? ≠ some c :=
 at_no h c hn (hb.resolve_left (by omega))
theorem lt_of_at {s : ByteArray} {k : Nat} {c : UInt8} (h : (ls s)[k]? = some c) : k < s.size := by
 have := (List.getElem?_eq_some_iff.1 h).1; simpa [ls_length] using this
theorem val_of_at {s : ByteArray} {k : Nat} (hk : k < s.size) {c : UInt8} (h : (ls s)[k]? = some c) : (s[k].toNat : Int) = c.toNat := by
 rw [ls_getElem? s k hk] at h; rw [Option.some.inj h]
theorem matchParens_no (s : ByteArray) (i : Nat) (dbl : Bool) (w : World) (_hs : s.size <= 1099511627776) (hi : i < s.size) (h1 : (ls s)[i]? ≠ some 41) :
  Calls Tryz.prog 81 #[.string s, .int .i64 i, .bool dbl] w fun e w' => e = .returned (mpV i (mp (ls s) i dbl)) /\ w = w' := by
 have hv : ((s[i].toNat : Int) != 41) = true := by
  rw [bne_iff_ne]; intro e; exact h1 (at_yes hi 41 rfl (by rw [e]; rfl))
 go_enter Tryz.func81, Tryz.ntmps81
 go_wp2
 go_returns
 exact ⟨by simp only [mp, if_neg h1]; rfl, rfl⟩
theorem matchParens_one (s : ByteArray) (i : Nat) (w : World) (hs : s.size <= 1099511627776) (hi : i < s.size) (h1 : (ls s)[i]? = some 41) :
  Calls Tryz.prog 81 #[.string s, .int .i64 i, .bool false] w fun e w' => e = .returned (mpV i (mp (ls s) i false)) /\ w = w' := by
 have h1' := val_of_at hi h1
 go_enter Tryz.func81, Tryz.ntmps81
 go_wp2_with fail
 refine (overClass_any s (i + 1) _ _ hs (by omega) (by omega)).mono ?_
 rintro e w' ⟨rfl, rfl⟩
 go_wp2_with fail
 ·have h2 := at_no' (by assumption) 44 rfl (by assumption)
  go_returns
  exact ⟨by simp [mp, h1, h2]; rfl, rfl⟩
 ·have hlt : over (ls s) (i + 1) < s.size := by assumption
  have h2 := at_yes hlt 44 rfl (And.right (by assumption))
  have H2 := Lib.hid h2
  clear h2
  refine (overClass_any s (over (ls s) (i + 1) + 1) _ _ hs (by omega) (by omega)).mono ?_
  rintro e w' ⟨rfl, rfl⟩
  go_wp2_with fail
  ·have h3 := at_no' (by assumption) 40 rfl (by assumption)
   go_returns
   exact ⟨by simp [mp, h1, H2.out, h3]; rfl, rfl⟩
  ·have h3 := at_yes (by assumption) 40 rfl (And.right (by assumption))
   go_returns
   exact ⟨by simp [mp, h1, H2.out, h3]; rfl, rfl⟩
  ·have h3 := at_out (by assumption) 40
   go_returns
   exact ⟨by simp [mp, h1, H2.out, h3]; rfl, rfl⟩
 ·have h2 := at_out (by assumption) 44
  go_returns
  exact ⟨by simp [mp, h1, h2]; rfl, rfl⟩
theorem matchParens_two (s : ByteArray) (i : Nat) (w : World) (hs : s.size <= 1099511627776) (hi : i < s.size) (h1 : (ls s)[i]? = some 41) :
  Calls Tryz.prog 81 #[.string s, .int .i64 i, .bool true] w fun e w' => e = .returned (mpV i (mp (ls s) i true)) /\ w = w' := by
 have h1' := val_of_at hi h1
 go_enter Tryz.func81, Tryz.ntmps81
 go_wp2_with fail
 refine (overClass_any s (i + 1) _ _ hs (by omega) (by omega)).mono ?_
 rintro e w' ⟨rfl, rfl⟩
 go_wp2_with fail
 ·have h2 := at_no' (by assumption) 41 rfl (by assumption)
  go_returns
  exact ⟨by simp [mp, h1, h2]; rfl, rfl⟩
 ·have hlt : over (ls s) (i + 1) < s.size := by assumption
  have h2 := at_yes hlt 41 rfl (And.right (by assumption))
  have H2 := Lib.hid h2
  clear h2
  refine (overClass_any s (over (ls s) (i + 1) + 1) _ _ hs (by omega) (by omega)).mono ?_
  rintro e w' ⟨rfl, rfl⟩
  go_wp2_with fail
  ·have h3 := at_no' (by assumption) 44 rfl (by assumption)
   go_returns
   exact ⟨by simp [mp, h1, H2.out, h3]; rfl, rfl⟩
  ·have hlt3 : over (ls s) (over (ls s) (i + 1) + 1) < s.size := by assumption
   have h3 := at_yes hlt3 44 rfl (And.right (by assumption))
   have H3 := Lib.hid h3
   clear h3
   refine (overClass_any s (over (ls s) (over (ls s) (i + 1) + 1) + 1) _ _ hs (by omega) (by omega)).mono ?_
   rintro e w' ⟨rfl, rfl⟩
   go_wp2_with fail
   ·have h4 := at_no' (by assumption) 40 rfl (by assumption)
    go_returns
    exact ⟨by simp [mp, h1, H2.out, H3.out, h4]; rfl, rfl⟩
   ·have hlt4 : over (ls s) (over (ls s) (over (ls s) (i + 1) + 1) + 1) < s.size := by assumption
    have h4 := at_yes hlt4 40 rfl (And.right (by assumption))
    have H4 := Lib.hid h4
    clear h4
    refine (overClass_any s (over (ls s) (over (ls s) (over (ls s) (i + 1) + 1) + 1) + 1) _ _ hs (by omega) (by omega)).mono ?_
    rintro e w' ⟨rfl, rfl⟩
    go_wp2_with fail
    ·have h5 := at_no' (by assumption) 40 rfl (by assumption)
     go_returns
     exact ⟨by simp [mp, h1, H2.out, H3.out, H4.out, h5]; rfl, rfl⟩
    ·have h5 := at_yes (by assumption) 40 rfl (And.right (by assumption))
     go_returns
     exact ⟨by simp [mp, h1, H2.out, H3.out, H4.out, h5]; rfl, rfl⟩
    ·have h5 := at_out (by assumption) 40
     go_returns
     exact ⟨by simp [mp, h1, H2.out, H3.out, H4.out, h5]; rfl, rfl⟩
   ·have h4 := at_out (by assumption) 40
    go_returns
    exact ⟨by simp [mp, h1, H2.out, H3.out, h4]; rfl, rfl⟩
  ·have h3 := at_out (by assumption) 44
   go_returns
   exact ⟨by simp [mp, h1, H2.out, h3]; rfl, rfl⟩
 ·have h2 := at_out (by assumption) 41
  go_returns
  exact ⟨by simp [mp, h1, h2]; rfl, rfl⟩
theorem matchParens_any (s : ByteArray) (i : Nat) (dbl : Bool) (w : World) (hs : s.size <= 1099511627776) (hi : i < s.size) :
  Calls Tryz.prog 81 #[.string s, .int .i64 i, .bool dbl] w fun e w' => e = .returned (mpV i (mp (ls s) i dbl)) /\ w = w' := by
 by_cases h1 : (ls s)[i]? = some 41
 ·cases dbl
  ·exact matchParens_one s i w hs hi h1
  ·exact matchParens_two s i w hs hi h1
 ·exact matchParens_no s i dbl w hs hi h1
end Go.Proofs.YtdfolbmoohcblaaGreatDoor
namespace Go.Proofs.YtdfolbmoohcblaaGreatDoor
set_option maxHeartbeats 1000000
set_option maxRecDepth 100000
open Go.RowKit
theorem info126 : (Tryz.prog.info? 126).map (fun i => (i.zero, i.size, i.bytes)) = some (some (.slice none 0 0), 1, 24) := by kernel_rfl
theorem info3 : (Tryz.prog.info? 3).map (fun i => (i.zero, i.size, i.bytes)) = some (some (.int .i64 0), 1, 8) := by kernel_rfl
def QRep (w : World) (v : Value) (q : Nat × Nat × Nat × Nat) : Prop :=
 Row w 3 1 v 4 [.int .i64 q.1, .int .i64 q.2.2.2, .int .i64 q.2.1, .int .i64 q.2.2.1]
def FpRel (s : ByteArray) (dbl : Bool) (w : World) (v i : Value) (wr : World) : Prop :=
 ∃ (k : Nat) (vs : List Value) (d : List (Nat × Nat × Nat × Nat)), k <= s.size /\ i = .int .i64 k /\ d.length <= k /\ wr.ownsRow w.heap.size 126 1 v d.length vs /\ All2 (QRep wr) vs d /\ d ++ fp (ls s) dbl k = fp (ls s) dbl 0 /\ Below w.heap.size w wr
theorem findParens_any (s : ByteArray) (dbl : Bool) (w : World) (hs : s.size <= 1099511627776) :
  Calls Tryz.prog 69 #[.string s, .bool dbl] w fun e w' => ∃ v vs, e = .returned v /\ Row w' 126 1 v (fp (ls s) dbl 0).length vs /\ All2 (QRep w') vs (fp (ls s) dbl 0) /\ Below w.heap.size w w' := by
 obtain ⟨i0, hi, hz0, hz1, hz2⟩ := info_parts info126
 go_enter Tryz.func69, Tryz.ntmps69
 go_wp2_with fail
 go_loopw [5, 6] (fun v i wr => FpRel s dbl w v i wr) (fun _ i _ => s.size - (intOf i).toNat)
 case atStart => exact ⟨0, [], [], Nat.zero_le _, rfl, Nat.zero_le _, World.ownsRow_nil _ _ _ _, trivial, rfl, Below.refl _ _⟩
 case round =>
  obtain ⟨k, vs, d, hk, rfl, hdk, hown, hall, hfp, hbel⟩ := hrel
  have HP := Lib.hid (And.intro hfp (And.intro hall hbel))
  clear hfp hall hbel
  by_cases hlt : k < s.size
  ·cases hm : mp (ls s) k dbl with
   | none =>
    go_wp2_with fail
    refine (matchParens_any s k dbl _ hs hlt).mono ?_
    rintro e w' ⟨he, rfl⟩
    rw [hm] at he; simp only [mpV] at he; subst he
    have HM := Lib.hid hm
    clear hm
    go_wp2_with fail
    go_roundw
    case rel =>
     obtain ⟨h1, h2, h3⟩ := HP.out
     exact ⟨k + 1, vs, d, by omega, by go_num, by omega, hown, h2, by rw [<- h1, fp_none (l := ls s) (by rw [ls_length]; exact hlt) HM.out], h3⟩
    case measure => simp [intOf]; omega
   | some q =>
    obtain ⟨fr, to, en⟩ := q
    have HB := Lib.hid (mp_bd hm)
    go_wp2_with fail
    refine (matchParens_any s k dbl _ hs hlt).mono ?_
    rintro e w' ⟨he, rfl⟩
    rw [hm] at he; simp only [mpV] at he; subst he
    have HM := Lib.hid hm
    clear hm
    go_wp2_with (at_builtin; refine wpList_append_own _ rfl (.tmp 30) (.tmp 36) 124 rfl w.heap.size 126 i0 (.slice none 0 0) 1 24 Tryz.underlying124 hi hz0 hz1 hz2 rfl (by decide) _ _ _ rfl ((hown.alloc _).alloc _) ⟨wr.heap.size + 1, 0, none⟩ 1 1 [.slice (some ⟨wr.heap.size, 0, none⟩) 4 4] rfl rfl ?c1 ?c2 ?c3 ?c4 ?c5 ?_)
    case c1 => exact one_new (by simp)
    case c2 => exact one_cell rfl
    case c3 => unfold maxLen; omega
    case c4 => omega
    case c5 => obtain ⟨h1, h2, h3⟩ := HP.out; have := h3.size; simp; omega
    intro v' w1 hown1 hgrow1 hnn
    have HW := Lib.hid (And.intro hown1 hgrow1)
    clear hown1 hgrow1 hnn
    go_wp2_with fail
    go_roundw
    case rel =>
     obtain ⟨h1, h2, h3⟩ := HP.out
     obtain ⟨b1, b2, b3, b4⟩ := HB.out
     obtain ⟨hown1, hgrow1⟩ := HW.out
     have hsz := h3.size
     have k2 := Keep.grown (S := fun t => t = 126) ((hown.alloc _).alloc _ : World.ownsRow _ _ _ _ u5 d.length vs) hgrow1 rfl
     have k1 : Keep w.heap.size (fun t => t = 126) wr w1 := ((Keep.alloc _).trans (Keep.alloc _)).trans k2
     refine ⟨en, vs ++ [.slice (some ⟨wr.heap.size, 0, none⟩) 4 4], d ++ [(k, fr, to, en)], b4, rfl, by simp; omega, by simpa using hown1, ?_, by rw [<- h1, fp_some (l := ls s) (by rw [ls_length]; exact hlt) HM.out]; simp, h3.trans (k1.below' (by omega))⟩
     refine (h2.imp fun a b hab => Row.kept hab k1 (.inr (by decide))).snoc ?_
     refine Row.kept ?_ k2 (.inr (by decide))
     exact (row_lit wr 0 3 1 4 [.int .i64 k, .int .i64 en, .int .i64 fr, .int .i64 to] (Nat.zero_le _) rfl (by unfold maxLen; omega)).alloc _
    case measure => obtain ⟨b1, b2, b3, b4⟩ := HB.out; simp [intOf]; rw [ls_length] at b4; omega
  ·go_wp2_with fail
   go_returns
   obtain ⟨h1, h2, h3⟩ := HP.out
   rw [fp_end (by rw [ls_length]; omega), List.append_nil] at h1
   rw [<- h1]
   exact ⟨_, vs, rfl, Row.of hown, h2, h3.mono (Nat.le_refl _)⟩
end Go.Proofs.YtdfolbmoohcblaaGreatDoor
namespace Go.Proofs.YtdfolbmoohcblaaGreatDoor
set_option maxHeartbeats 1000000
set_option maxRecDepth 100000
open Go.RowKit
def YPost (I : List (List UInt8) -> World -> Prop) (F : List UInt8 -> Prop) (J : World -> Prop) (d : List (List UInt8)) (p : List UInt8) (e : Ending) (w' : World) : Prop :=
  (e = .returned .nilIface /\ I (d ++ [p]) w') \/ (∃ t v, e = .returned (.iface t v) /\ F p /\ J w')
def SPost (I : List (List UInt8) -> World -> Prop) (F : List UInt8 -> Prop) (J : World -> Prop) (ps : List (List UInt8)) (e : Ending) (w' : World) : Prop :=
  (e = .returned .nilIface /\ I ps w') \/ (∃ t v, e = .returned (.iface t v) /\ (∃ p ∈ ps, F p) /\ J w')
def ScRel (l : List UInt8) (I : List (List UInt8) -> World -> Prop) (a st s c i : Value) (w : World) : Prop :=
  ∃ (k : Nat) (d : List (List UInt8)) (σ : Sc), k <= l.length /\ ScOk k σ /\ i = .int .i64 k /\ a = .int .i64 σ.at_ /\ st = .int .i64 σ.start /\ s = .bool σ.sp /\ c = .bool σ.cm /\
    d ++ sc l (l.drop k) k σ = commaPieces l /\ (I d w /\ d.length <= k)
theorem splitOnComma_any (s : ByteArray) (fid : Nat) (c : Addr) (I : List (List UInt8) -> World -> Prop) (F : List UInt8 -> Prop) (J : World -> Prop) (w : World) (hs : s.size <= 1099511627776)
    (hf : ∀ args w, (callFunc fid args).run Tryz.prog w = .ok (.enter fid args) w)
    (hy : ∀ d p w, I d w -> p.size <= s.size -> d.length <= s.size -> Calls Tryz.prog fid #[.string p, .pointer (some c)] w (YPost I F J d (ls p)))
    (h0 : I [] w) :
    Calls Tryz.prog 44 #[.string s, .func (.func fid) #[] #[.pointer (some c)]] w (SPost I F J (commaPieces (ls s))) := by
  have HY := Lib.hid hy
  clear hy
  have HI := Lib.hid h0
  clear h0
  go_enter Tryz.func44, Tryz.ntmps44
  go_wp2_with fail
  go_loopw [5, 6, 7, 8, 9] (fun a st q c i w => ScRel (ls s) I a st q c i w) (fun _ _ _ _ i _ => s.size - (intOf i).toNat)
  case atStart => exact ⟨0, [], ⟨0, 0, false, false⟩, Nat.zero_le _, ⟨Nat.le_refl _, by simp, by simp⟩, rfl, rfl, rfl, rfl, rfl, rfl, HI.out, Nat.zero_le _⟩
  case round =>
    clear HI
    obtain ⟨k, d, ⟨a, st, sp, cm⟩, hk, hok, rfl, rfl, rfl, rfl, rfl, hrun, hI⟩ := hrel
    rw [ls_length] at hk
    have hak : a <= k := hok.1
    have HO := Lib.hid (And.intro hok (And.intro hrun hI))
    clear hok hrun hI
    by_cases hlt : k < s.size
    · have HD := Lib.hid (List.drop_eq_getElem_cons (l := ls s) (i := k) (by rw [ls_length]; exact hlt))
      have HG := Lib.hid (show (ls s)[k]'(by rw [ls_length]; exact hlt) = s[k] from rfl)
      by_cases h44 : s[k] = 44
      · have hv : (s[k].toNat : Int) = 44 := by rw [h44]; rfl
        have H44 := Lib.hid h44
        clear h44
        cases sp
        all_goals
          go_wp2_with fail
          go_roundw
          case rel =>
            obtain ⟨⟨o1, o2, o3⟩, hrun, hI⟩ := HO.out
            refine ⟨k + 1, d, ⟨a, _, true, true⟩, by rw [ls_length]; omega, ?ok, by go_num, rfl, rfl, rfl, rfl, ?run, hI.1, by have := hI.2; omega⟩
            case run => rw [<- hrun, HD.out, HG.out, sc, if_pos (by rw [H44.out]; rfl)]; rfl
            case ok => simp at o2; refine ⟨by simp; omega, fun _ => ?_, fun _ => rfl⟩; simp; omega
          case measure => simp [intOf]; omega
      · have hv : ((s[k].toNat : Int) == 44) = false := by
          rw [beq_eq_false_iff_ne]; intro e; apply h44; apply UInt8.toNat_inj.1; exact Int.ofNat_inj.1 e
        have H44 := Lib.hid h44
        clear h44
        cases h3 : sp3 s[k]
        · have hv1 : ((s[k].toNat : Int) == 32) = false := by
            rw [beq_eq_false_iff_ne]; intro e; rw [show s[k] = 32 from UInt8.toNat_inj.1 (Int.ofNat_inj.1 e)] at h3; cases h3
          have hv2 : ((s[k].toNat : Int) == 9) = false := by
            rw [beq_eq_false_iff_ne]; intro e; rw [show s[k] = 9 from UInt8.toNat_inj.1 (Int.ofNat_inj.1 e)] at h3; cases h3
          have hv3 : ((s[k].toNat : Int) == 10) = false := by
            rw [beq_eq_false_iff_ne]; intro e; rw [show s[k] = 10 from UInt8.toNat_inj.1 (Int.ofNat_inj.1 e)] at h3; cases h3
          have H3 := Lib.hid h3
          clear h3
          cases cm
          · go_wp2_with fail
            go_roundw
            case rel =>
              obtain ⟨⟨o1, o2, o3⟩, hrun, hI⟩ := HO.out
              refine ⟨k + 1, d, ⟨a, st, false, false⟩, by rw [ls_length]; omega, ⟨by simp; omega, by simp, by simp⟩, by go_num, rfl, rfl, rfl, rfl, ?run, hI.1, by have := hI.2; omega⟩
              case run => rw [<- hrun, HD.out, HG.out, sc, if_neg (by simpa using H44.out), if_neg (by rw [H3.out]; simp)]; rfl
            case measure => simp [intOf]; omega
          · have hst : a <= st /\ st <= s.size := by
              obtain ⟨⟨o1, o2, o3⟩, hrun, hI⟩ := HO.out
              have := o2 (o3 rfl); simp at this; omega
            obtain ⟨hst1, hst2⟩ := hst
            go_wp2_with fail
            refine (HY.out d (s.extract a st) wr HO.out.2.2.1 (by rw [ByteArray.size_extract]; omega) (by have := HO.out.2.2.2; omega)).mono ?_
            rintro e w1 (⟨rfl, hI1⟩ | ⟨t, v, rfl, hF, hJ⟩)
            · have HI1 := Lib.hid hI1
              clear hI1
              go_wp2_with fail
              go_roundw
              case rel =>
                obtain ⟨⟨o1, o2, o3⟩, hrun, hI⟩ := HO.out
                refine ⟨k + 1, d ++ [ls (s.extract a st)], ⟨k, st, false, false⟩, by rw [ls_length]; omega, ⟨by simp, by simp, by simp⟩, by go_num, rfl, rfl, rfl, rfl, ?run, HI1.out, by have := HO.out.2.2.2; simp; omega⟩
                case run => rw [<- hrun, HD.out, HG.out, sc, if_neg (by simpa using H44.out), if_neg (by rw [H3.out]; simp), ls_extract, List.append_assoc]; rfl
              case measure => simp [intOf]; omega
            · have HF := Lib.hid (And.intro hF hJ)
              clear hF hJ
              go_wp2_with fail
              go_returns
              obtain ⟨⟨o1, o2, o3⟩, hrun, hI⟩ := HO.out
              obtain ⟨hF, hJ⟩ := HF.out
              refine .inr ⟨t, v, rfl, ⟨_, ?_, hF⟩, hJ⟩
              rw [<- hrun, HD.out, HG.out, sc, if_neg (by simpa using H44.out), if_neg (by rw [H3.out]; simp), ls_extract]
              simp
        · cases sp
          all_goals
            cases hc32 : ((s[k].toNat : Int) == 32) <;> cases hc9 : ((s[k].toNat : Int) == 9) <;> cases hc10 : ((s[k].toNat : Int) == 10)
            all_goals
              first
              | (exfalso
                 have n32 : s[k] ≠ 32 := by intro e; rw [e] at hc32; cases hc32
                 have n9 : s[k] ≠ 9 := by intro e; rw [e] at hc9; cases hc9
                 have n10 : s[k] ≠ 10 := by intro e; rw [e] at hc10; cases hc10
                 simp [sp3, n32, n9, n10] at h3; done)
              | (have H3 := Lib.hid h3
                 clear h3
                 go_wp2_with fail
                 go_roundw
                 case rel =>
                   obtain ⟨⟨o1, o2, o3⟩, hrun, hI⟩ := HO.out
                   refine ⟨k + 1, d, ⟨a, _, true, cm⟩, by rw [ls_length]; omega, ?ok, by go_num, rfl, rfl, rfl, rfl, ?run, hI.1, by have := hI.2; omega⟩
                   case run => rw [<- hrun, HD.out, HG.out, sc, if_neg (by simpa using H44.out), if_pos H3.out]; rfl
                   case ok => simp at o2; refine ⟨by simp; omega, fun _ => ?_, fun _ => rfl⟩; simp; omega
                 case measure => simp [intOf]; omega)
    · obtain ⟨⟨o1, o2, o3⟩, hrun, hI⟩ := HO.out
      clear HO
      have HR := Lib.hid (And.intro hrun hI)
      clear hrun hI o2 o3 o1
      have hak2 : a <= s.size := by omega
      go_wp2_with fail
      refine (HY.out d _ wr HR.out.2.1 (by rw [ByteArray.size_extract]; omega) (by have := HR.out.2.2; omega)).mono ?_
      rintro e w1 (⟨rfl, hI1⟩ | ⟨t, v, rfl, hF, hJ⟩)
      · have HI1 := Lib.hid hI1
        clear hI1
        go_wp2_with fail
        go_returns
        refine .inl ⟨rfl, ?_⟩
        have h1 := HI1.out
        rw [ls_extract] at h1
        obtain ⟨hrun, hI⟩ := HR.out
        rw [<- hrun, List.drop_eq_nil_of_le (by rw [ls_length]; omega), sc]
        rwa [List.take_of_length_le (by simp [ls_length])] at h1
      · have HF := Lib.hid (And.intro hF hJ)
        clear hF hJ
        go_wp2_with fail
        go_returns
        obtain ⟨hF, hJ⟩ := HF.out
        obtain ⟨hrun, hI⟩ := HR.out
        rw [ls_extract, List.take_of_length_le (by simp [ls_length])] at hF
        refine .inr ⟨t, v, rfl, ⟨_, ?_, hF⟩, hJ⟩
        rw [<- hrun, List.drop_eq_nil_of_le (by rw [ls_length]; omega), sc]
        simp
end Go.Proofs.YtdfolbmoohcblaaGreatDoor
