/-
For FnReadAgain, part 48: L5 L6 C0.
-/
import Derived.Test.YtdfolbmoohcblaaGreatDoorM47
import Derived.Test.YtdfolbmoohcblaaGreatDoorM44
import Derived.Test.YtdfolbmoohcblaaGreatDoorTie
import Derived.Lib.LaidU8
import Derived.LaidMore
import Derived.OpenShut
import Derived.Deep.Strs
set_option linter.all false
namespace Go.Proofs.YtdfolbmoohcblaaGreatDoor
structure TOk (t : List UInt8) : Prop where
 tg : TG t
 bal : Bal t
 lo : Lo t
theorem bal_ptT (p : Nat × Nat) : Bal (ptT p) := fun d => bal_pl _ d (pl_ptT p)
theorem tok_ptT (p : Nat × Nat) : TOk (ptT p) := ⟨tg_ptT p, bal_ptT p, lo_ptT p⟩
theorem tok_lineT (ps : List (Nat × Nat)) : TOk (lineT ps) :=
 ⟨tg_brkT _, bal_brkT (balIn_comJ _ (fun t ht => by obtain ⟨p, -, rfl⟩ := List.mem_map.1 ht; exact bal_ptT p)), lo_lineT ps⟩
theorem tok_polyT (rss : List (List (Nat × Nat))) : TOk (polyT rss) :=
 ⟨tg_brkT _, bal_brkT (balIn_comJ _ (fun t ht => by obtain ⟨p, -, rfl⟩ := List.mem_map.1 ht; exact (tok_lineT p).bal)), lo_polyT rss⟩
theorem tok_bptT (p : Nat × Nat) : TOk (bptT p) := ⟨tg_brkT _, bal_brkT (fun _ => bal_ptT p _), lo_brkT (lo_ptT p)⟩
theorem tok_whole {nm e : List UInt8} (h : Nm nm e) {ts : List (List UInt8)} (ht : ∀ t ∈ ts, TOk t) : TOk (wholeT nm e ts) :=
 ⟨tg_whole h ts, bal_whole h (fun t h => (ht t h).bal), lo_whole h (fun t h => (ht t h).lo)⟩
theorem tok_map {α : Type} {f : α -> List UInt8} (h : ∀ x, TOk (f x)) (xs : List α) : ∀ t ∈ xs.map f, TOk t := fun t ht => by obtain ⟨x, -, rfl⟩ := List.mem_map.1 ht; exact h x
mutual
theorem tok_gT : ∀ g : Geo, TOk (gT g)
 | .point p => by
  refine ⟨?_, ?_, ?_⟩
  ·exact ⟨80, [79, 73, 78, 84] ++ 40 :: ptT p, 41, by simp [gT, nmPoint, brkT], by decide, by decide⟩
  ·exact Bal.app (fun d => bal_pl _ d (by intro c hc; revert c; decide)) (bal_brkT (fun _ => bal_ptT p _))
  ·exact Lo.app (lo_of (by decide)) (lo_brkT (lo_ptT p))
 | .line ps => tok_whole nm_line (tok_map tok_ptT ps)
 | .poly rss => tok_whole nm_poly (tok_map tok_lineT rss)
 | .mpoint ps => tok_whole nm_mpoint (tok_map tok_bptT ps)
 | .mline rss => tok_whole nm_mline (tok_map tok_lineT rss)
 | .mpoly xs => tok_whole nm_mpoly (tok_map tok_polyT xs)
 | .coll gs => tok_whole nm_coll (tok_gTs gs)
theorem tok_gTs : ∀ gs : List Geo, ∀ t ∈ gTs gs, TOk t
 | [], t, h => by cases h
 | g :: gs, t, h => by
  rcases List.mem_cons.1 h with rfl | h
  ·exact tok_gT g
  ·exact tok_gTs gs t h
end
theorem toks {ts : List (List UInt8)} (h : ∀ t ∈ ts, TOk t) : ∀ t ∈ ts, Lo t /\ TG t := fun t ht => ⟨(h t ht).lo, (h t ht).tg⟩
def gk : Geo -> Nat
 | .point _ => 0
 | .line _ => 1
 | .poly _ => 2
 | .mpoint _ => 3
 | .mline _ => 4
 | .mpoly _ => 5
 | .coll _ => 6
theorem kind_gT (g : Geo) : kindOf (gT g) = gk g := by
 cases g with
 | point p => exact kind_point _
 | line ps => obtain ⟨r, h⟩ := whole_nm nm_line (ps.map ptT); show kindOf (wholeT _ _ _) = 1; rw [h]; exact kind_line r
 | poly rss => obtain ⟨r, h⟩ := whole_nm nm_poly (rss.map lineT); show kindOf (wholeT _ _ _) = 2; rw [h]; exact kind_poly r
 | mpoint ps => obtain ⟨r, h⟩ := whole_nm nm_mpoint (ps.map fun p => brkT (ptT p)); show kindOf (wholeT _ _ _) = 3; rw [h]; exact kind_mpoint r
 | mline rss => obtain ⟨r, h⟩ := whole_nm nm_mline (rss.map lineT); show kindOf (wholeT _ _ _) = 4; rw [h]; exact kind_mline r
 | mpoly xs => obtain ⟨r, h⟩ := whole_nm nm_mpoly (xs.map polyT); show kindOf (wholeT _ _ _) = 5; rw [h]; exact kind_mpoly r
 | coll gs => obtain ⟨r, h⟩ := whole_nm nm_coll (gTs gs); show kindOf (wholeT _ _ _) = 6; rw [h]; exact kind_coll r
theorem GR.kind {l : List UInt8} {g : Geo} (h : GR l g) : kindOf (trim l) = gk g := by
 cases g <;> exact h.1
def CollIn (r : List UInt8) (gs : List Geo) : Prop := GRs (members r) gs
theorem coll_whole {l : List UInt8} {gs : List Geo} (h : GR l (.coll gs)) : Whole txColl 18 CollIn (trim l) gs := by
 obtain ⟨-, h | ⟨h1, -, h2⟩⟩ := h
 ·exact .inl h
 ·exact .inr ⟨h1, h2⟩
theorem coll_pieces {gs : List Geo} (h0 : gTs gs ≠ []) : members (comJ (gTs gs)) = gTs gs := members_join h0 (fun u hu => ⟨(tok_gTs gs u hu).tg, (tok_gTs gs u hu).bal⟩)
mutual
theorem law : ∀ g : Geo, WF g -> ∀ g', GR (gT g) g' -> g' = g
 | .point p, hw, g', h => by
  have hk := h.kind
  rw [trim_tg (tok_gT _).tg, kind_gT] at hk
  cases g' <;> first | (exfalso; simp [gk] at hk; done) | skip
  rename_i q
  obtain ⟨-, t, hb, hp⟩ := h
  rw [trim_tg (tok_gT _).tg, show gT (.point p) = nmPoint ++ brkT (ptT p) from rfl, List.drop_left' (show nmPoint.length = 5 from rfl), brk_brkT (tg_ptT p)] at hb
  cases hb
  rw [PtR.only hw hp]
 | .line ps, hw, g', h => by
  have hk := h.kind
  rw [trim_tg (tok_gT _).tg, kind_gT] at hk
  cases g' <;> first | (exfalso; simp [gk] at hk; done) | skip
  rename_i qs
  have h := h.2
  rw [trim_tg (tok_gT _).tg] at h
  rcases whole_inv nm_line (toks (tok_map tok_ptT ps)) rfl h with ⟨h1, rfl⟩ | ⟨h1, h2⟩
  ·rw [show ps = [] by simpa using h1]
  ·rw [LineR.only (by simpa using h1) hw h2]
 | .poly rss, hw, g', h => by
  have hk := h.kind
  rw [trim_tg (tok_gT _).tg, kind_gT] at hk
  cases g' <;> first | (exfalso; simp [gk] at hk; done) | skip
  rename_i qs
  have h := h.2
  rw [trim_tg (tok_gT _).tg] at h
  rcases whole_inv nm_poly (toks (tok_map tok_lineT rss)) rfl h with ⟨h1, rfl⟩ | ⟨h1, h2⟩
  ·rw [show rss = [] by simpa using h1]
  ·rw [PolyR.only (by simpa using h1) hw h2]
 | .mpoint ps, hw, g', h => by
  have hk := h.kind
  rw [trim_tg (tok_gT _).tg, kind_gT] at hk
  cases g' <;> first | (exfalso; simp [gk] at hk; done) | skip
  rename_i qs
  have h := h.2
  rw [trim_tg (tok_gT _).tg] at h
  rcases whole_inv nm_mpoint (toks (tok_map tok_bptT ps)) rfl h with ⟨h1, rfl⟩ | ⟨h1, h2⟩
  ·rw [show ps = [] by simpa using h1]
  ·rw [MPointR.only (by simpa using h1) hw h2]
 | .mline rss, hw, g', h => by
  have hk := h.kind
  rw [trim_tg (tok_gT _).tg, kind_gT] at hk
  cases g' <;> first | (exfalso; simp [gk] at hk; done) | skip
  rename_i qs
  have h := h.2
  rw [trim_tg (tok_gT _).tg] at h
  rcases whole_inv nm_mline (toks (tok_map tok_lineT rss)) rfl h with ⟨h1, rfl⟩ | ⟨h1, h2⟩
  ·rw [show rss = [] by simpa using h1]
  ·rw [PolyR.only (by simpa using h1) hw h2]
 | .mpoly xs, hw, g', h => by
  have hk := h.kind
  rw [trim_tg (tok_gT _).tg, kind_gT] at hk
  cases g' <;> first | (exfalso; simp [gk] at hk; done) | skip
  rename_i qs
  have h := h.2
  rw [trim_tg (tok_gT _).tg] at h
  rcases whole_inv nm_mpoly (toks (tok_map tok_polyT xs)) rfl h with ⟨h1, rfl⟩ | ⟨h1, h2⟩
  ·rw [show xs = [] by simpa using h1]
  ·rw [MPolyR.only (by simpa using h1) hw h2]
 | .coll gs, hw, g', h => by
  have hk := h.kind
  rw [trim_tg (tok_gT _).tg, kind_gT] at hk
  cases g' <;> first | (exfalso; simp [gk] at hk; done) | skip
  rename_i qs
  have h := coll_whole h
  rw [trim_tg (tok_gT _).tg] at h
  rcases whole_inv nm_coll (toks (tok_gTs gs)) rfl h with ⟨h1, rfl⟩ | ⟨h1, h2⟩
  ·rw [show gs = [] by cases gs with | nil => rfl | cons g gs => cases h1]
  ·unfold CollIn at h2
   rw [coll_pieces h1] at h2
   rw [laws gs hw qs h2]
theorem laws : ∀ gs : List Geo, WFs gs -> ∀ gs', GRs (gTs gs) gs' -> gs' = gs
 | [], _, [], _ => rfl
 | [], _, _ :: _, h => h.elim
 | g :: gs, hw, [], h => h.elim
 | g :: gs, hw, g' :: gs', h => by
  have h : GR (gT g) g' /\ GRs (gTs gs) gs' := h
  rw [law g hw.1 g' h.1, laws gs hw.2 gs' h.2]
end
mutual
theorem not_bad : ∀ g : Geo, WF g -> ∀ l, l = gT g -> ¬ GB l
 | g, hw, l, hl, h => by
  have ht : trim l = gT g := by rw [hl]; exact trim_tg (tok_gT g).tg
  have hk := kind_gT g
  cases h with
  | kind _ h => rw [ht, hk] at h; cases g <;> simp [gk] at h
  | point _ h hb =>
   rw [ht] at h hb
   rw [hk] at h
   cases g <;> first | (exfalso; simp [gk] at h; done) | skip
   rename_i p
   rw [show gT (.point p) = nmPoint ++ brkT (ptT p) from rfl, List.drop_left' (show nmPoint.length = 5 from rfl), brk_brkT (tg_ptT p)] at hb
   rcases hb with hb | ⟨t, hb, hp⟩
   ·cases hb
   ·cases hb
    rw [ptP_ptT p hw.1 hw.2] at hp
    cases hp
  | line _ h hb =>
   rw [ht] at h hb
   rw [hk] at h
   cases g <;> first | (exfalso; simp [gk] at h; done) | skip
   rename_i ps
   obtain ⟨h1, h2⟩ := whole_bad nm_line (toks (tok_map tok_ptT ps)) rfl hb
   exact LineF.no (by simpa using h1) hw h2
  | poly _ h hb =>
   rw [ht] at h hb
   rw [hk] at h
   cases g <;> first | (exfalso; simp [gk] at h; done) | skip
   rename_i rss
   obtain ⟨h1, h2⟩ := whole_bad nm_poly (toks (tok_map tok_lineT rss)) rfl hb
   exact PolyF.no (by simpa using h1) hw h2
  | mpoint _ h hb =>
   rw [ht] at h hb
   rw [hk] at h
   cases g <;> first | (exfalso; simp [gk] at h; done) | skip
   rename_i ps
   obtain ⟨h1, h2⟩ := whole_bad nm_mpoint (toks (tok_map tok_bptT ps)) rfl hb
   exact MPointF.no (by simpa using h1) hw h2
  | mline _ h hb =>
   rw [ht] at h hb
   rw [hk] at h
   cases g <;> first | (exfalso; simp [gk] at h; done) | skip
   rename_i rss
   obtain ⟨h1, h2⟩ := whole_bad nm_mline (toks (tok_map tok_lineT rss)) rfl hb
   exact PolyF.no (by simpa using h1) hw h2
  | mpoly _ h hb =>
   rw [ht] at h hb
   rw [hk] at h
   cases g <;> first | (exfalso; simp [gk] at h; done) | skip
   rename_i xs
   obtain ⟨h1, h2⟩ := whole_bad nm_mpoly (toks (tok_map tok_polyT xs)) rfl hb
   exact MPolyF.no (by simpa using h1) hw h2
  | coll _ h hf hb =>
   rw [ht] at h hf hb
   rw [hk] at h
   cases g <;> first | (exfalso; simp [gk] at h; done) | skip
   rename_i gs
   have hw2 : WholeBad txColl 18 (fun _ => False) (gT (.coll gs)) := by
    refine ⟨hf, ?_⟩
    rcases hb with hb | hb
    ·exfalso
     by_cases h0 : gTs gs = []
     ·have e1 : gT (.coll gs) = txColl := if_pos h0
      rw [e1] at hb; revert hb; decide
     ·have e1 : gT (.coll gs) = nmColl ++ brkT (comJ (gTs gs)) := if_neg h0
      rw [e1] at hb
      simp [nmColl, brkT] at hb
    ·exact .inl hb
   exact (whole_bad nm_coll (toks (tok_gTs gs)) rfl hw2).2
  | member _ r m h hf hb hm hgb =>
   rw [ht] at h hf hb
   rw [hk] at h
   cases g <;> first | (exfalso; simp [gk] at h; done) | skip
   rename_i gs
   have hw2 : WholeBad txColl 18 (fun t => t = r) (gT (.coll gs)) := ⟨hf, .inr ⟨r, hb, rfl⟩⟩
   obtain ⟨h1, h2⟩ := whole_bad nm_coll (toks (tok_gTs gs)) rfl hw2
   rw [<- h2, coll_pieces h1] at hm
   exact not_bads gs hw m hm hgb
theorem not_bads : ∀ gs : List Geo, WFs gs -> ∀ m ∈ gTs gs, ¬ GB m
 | [], _, m, hm => by cases hm
 | g :: gs, hw, m, hm => by
  rcases List.mem_cons.1 hm with h | h
  ·exact not_bad g hw.1 m h
  ·exact not_bads gs hw.2 m h
end
end Go.Proofs.YtdfolbmoohcblaaGreatDoor
namespace Go.Proofs.YtdfolbmoohcblaaGreatDoor
def wt : List (List UInt8) -> Nat
 | [] => 0
 | t :: ts => t.length + 1 + wt ts
theorem wt_mem : ∀ {ts : List (List UInt8)} {t : List UInt8}, t ∈ ts -> t.length + 1 <= wt ts
 | u :: ts, t, h => by
  rw [wt]
  rcases List.mem_cons.1 h with rfl | h
  ·omega
  ·have := wt_mem h; omega
theorem wt_len : ∀ ts : List (List UInt8), ts.length <= wt ts
 | [] => Nat.le_refl _
 | t :: ts => by rw [wt, List.length_cons]; have := wt_len ts; omega
theorem comJ_wt : ∀ ts : List (List UInt8), (comJ ts).length <= wt ts
 | [] => Nat.le_refl _
 | [t] => by rw [comJ_one, wt]; omega
 | t :: u :: r => by
  rw [comJ_cons, List.length_append, List.length_cons, wt]
  have := comJ_wt (u :: r)
  omega
theorem sc_wt (l : List UInt8) : ∀ (r : List UInt8) (i : Nat) (σ : Sc), i + r.length = l.length -> σ.at_ <= i -> (σ.sp = true -> σ.at_ <= σ.start /\ σ.start < i) -> (σ.cm = true -> σ.sp = true) -> wt (sc l r i σ) <= l.length - σ.at_ + 1
 | [], i, σ, h1, h2, h3, h4 => by rw [sc, wt, wt, List.length_drop]; omega
 | c :: r, i, ⟨a, s, sp, cm⟩, h1, h2, h3, h4 => by
  rw [List.length_cons] at h1
  dsimp only at h2 h3 h4 ⊢
  rw [sc]
  split
  ·refine sc_wt l r (i + 1) _ (by omega) (by dsimp only; omega) ?_ (fun _ => rfl)
   intro _
   dsimp only
   split
   ·rename_i hs; have := h3 hs; omega
   ·omega
  ·split
   ·refine sc_wt l r (i + 1) _ (by omega) (by dsimp only; omega) ?_ (fun _ => rfl)
    intro _
    dsimp only
    split
    ·rename_i hs; have := h3 hs; omega
    ·omega
   ·split
    ·rename_i hcm
     have h5 := h3 (h4 hcm)
     have ih := sc_wt l r (i + 1) ⟨i, s, false, false⟩ (by omega) (by dsimp only; omega) (fun h => by cases h) (fun h => by cases h)
     dsimp only at ih
     rw [wt, List.length_take, List.length_drop]
     dsimp only
     omega
    ·exact sc_wt l r (i + 1) ⟨a, s, false, false⟩ (by omega) (by dsimp only; omega) (fun h => by cases h) (fun h => by cases h)
theorem comma_wt (l : List UInt8) : wt (commaPieces l) <= l.length + 1 := by
 have := sc_wt l l 0 ⟨0, 0, false, false⟩ (by omega) (Nat.le_refl _) (fun h => by cases h) (fun h => by cases h)
 unfold commaPieces
 dsimp only at this
 omega
theorem mp_lt {l : List UInt8} {i : Nat} {dbl : Bool} {fr tt en : Nat} (h : mp l i dbl = some (fr, tt, en)) : fr < tt := by
 have key : ∀ f t e : Nat, (if l[over l f]? = some 44 then (if l[over l (over l f + 1)]? = some 40 then (if dbl then (if l[over l (over l (over l f + 1) + 1)]? = some 40 then some (f, over l (over l f + 1), over l (over l (over l f + 1) + 1) + 1) else none) else some (f, over l (over l f + 1), over l (over l f + 1) + 1)) else none) else none) = some (t, e, en) -> t < e := by
  intro f t e h
  have g1 := over_ge l f
  have g2 := over_ge l (over l f + 1)
  split at h
  ·split at h
   ·split at h
    ·split at h
     ·injection h with h; injection h with e1 h; injection h with e2 e3; omega
     ·cases h
    ·injection h with h; injection h with e1 h; injection h with e2 e3; omega
   ·cases h
  ·cases h
 unfold mp at h
 split at h
 ·cases dbl
  ·simp only [Bool.false_eq_true, if_false, Option.bind_some] at h
   exact key (i + 1) fr tt (by simpa using h)
  ·simp only [if_true] at h
   split at h
   ·simp only [Option.bind_some] at h
    exact key _ fr tt (by simpa using h)
   ·cases h
 ·cases h
theorem fp_wt (l : List UInt8) (dbl : Bool) : ∀ (d i s : Nat), l.length - i <= d -> s <= i -> s <= l.length -> wt (cutAt l s (fp l dbl i)) <= l.length - s + 1
 | 0, i, s, h1, h2, h3 => by rw [fp_end (by omega), cutAt, wt, wt, List.length_drop]; omega
 | d + 1, i, s, h1, h2, h3 => by
  by_cases hi : i < l.length
  ·cases h : mp l i dbl with
   | none => rw [fp_none hi h]; exact fp_wt l dbl d (i + 1) s (by omega) (by omega) h3
   | some q =>
    obtain ⟨fr, tt, en⟩ := q
    have b := mp_bd h
    have b2 := mp_lt h
    rw [fp_some hi h, cutAt, wt, List.length_take, List.length_drop]
    have := fp_wt l dbl d en tt (by omega) (by omega) (by omega)
    omega
  ·rw [fp_end (by omega), cutAt, wt, wt, List.length_drop]; omega
theorem pieces_wt (l : List UInt8) (dbl : Bool) : wt (pieces l dbl) <= l.length + 1 := by
 have := fp_wt l dbl l.length 0 0 (by omega) (Nat.le_refl _) (Nat.zero_le _)
 unfold pieces; omega
theorem gc_wt (l : List UInt8) : ∀ (r : List UInt8) (i : Nat) (d : Int) (st : Nat), i + r.length = l.length -> st <= i -> wt (gc l r i d st) <= l.length - st + 1
 | [], i, d, st, h1, h2 => by
  rw [gc, wt, wt]
  have := trim_len (l.drop st)
  rw [List.length_drop] at this
  omega
 | c :: r, i, d, st, h1, h2 => by
  rw [List.length_cons] at h1
  rw [gc]
  split
  ·exact gc_wt l r (i + 1) (d + 1) st (by omega) (by omega)
  ·split
   ·exact gc_wt l r (i + 1) (d - 1) st (by omega) (by omega)
   ·split
    ·split
     ·have := gc_wt l r (i + 1) d (i + 1) (by omega) (Nat.le_refl _)
      have h3 := trim_len ((l.drop st).take (i - st))
      rw [List.length_take] at h3
      rw [wt]; omega
     ·exact gc_wt l r (i + 1) d st (by omega) (by omega)
    ·exact gc_wt l r (i + 1) d st (by omega) (by omega)
theorem members_wt (l : List UInt8) : wt (members l) <= l.length + 1 := by
 have := gc_wt l l 0 0 0 (by omega) (Nat.le_refl _)
 unfold members; omega
theorem all2_sum {α : Type} {R : List UInt8 -> α -> Prop} {f : α -> Nat} {K : Nat} : ∀ {ts : List (List UInt8)} {xs : List α}, All2 R ts xs -> (∀ t x, t ∈ ts -> R t x -> f x <= K * (t.length + 1)) -> (xs.map f).sum <= K * wt ts
 | [], [], _, _ => Nat.zero_le _
 | t :: ts, x :: xs, h, hf => by
  have h : R t x /\ All2 R ts xs := h
  have h1 := hf t x (by simp) h.1
  have h2 := all2_sum h.2 (fun t' x' ht hr => hf t' x' (List.mem_cons_of_mem _ ht) hr)
  rw [List.map_cons, List.sum_cons, wt, Nat.mul_add]
  omega
 | [], _ :: _, h, _ => h.elim
 | _ :: _, [], h, _ => h.elim
theorem wt_map {α : Type} (f : α -> List UInt8) : ∀ xs : List α, wt (xs.map f) = (xs.map fun x => (f x).length + 1).sum
 | [] => rfl
 | x :: xs => by rw [List.map_cons, wt, List.map_cons, List.sum_cons, wt_map f xs]
theorem all2_all {α : Type} {R : List UInt8 -> α -> Prop} {P : α -> Prop} : ∀ {ts : List (List UInt8)} {xs : List α}, All2 R ts xs -> (∀ t x, t ∈ ts -> R t x -> P x) -> ∀ x ∈ xs, P x
 | [], [], _, _, x, hx => by cases hx
 | t :: ts, y :: xs, h, hf, x, hx => by
  have h : R t y /\ All2 R ts xs := h
  rcases List.mem_cons.1 hx with rfl | hx
  ·exact hf t x (by simp) h.1
  ·exact all2_all h.2 (fun t' x' ht hr => hf t' x' (List.mem_cons_of_mem _ ht) hr) x hx
 | [], _ :: _, h, _, _, _ => h.elim
 | _ :: _, [], h, _, _, _ => h.elim
theorem ptT_len (p : Nat × Nat) : (ptT p).length <= 121 := by
 unfold ptT
 rw [List.length_append, List.length_cons]
 have := (fmtT_ncs p.1).2.2
 have := (fmtT_ncs p.2).2.2
 omega
theorem pts_wt (ps : List (Nat × Nat)) : wt (ps.map ptT) <= 122 * ps.length := by
 induction ps with
 | nil => exact Nat.le_refl _
 | cons p ps ih => rw [List.map_cons, wt, List.length_cons]; have := ptT_len p; omega
theorem bpts_wt (ps : List (Nat × Nat)) : wt (ps.map bptT) <= 124 * ps.length := by
 induction ps with
 | nil => exact Nat.le_refl _
 | cons p ps ih =>
  have : (bptT p).length = (ptT p).length + 2 := by unfold bptT brkT; simp
  rw [List.map_cons, wt, List.length_cons]; have := ptT_len p; omega
theorem sc_ne (l : List UInt8) : ∀ (r : List UInt8) (i : Nat) (σ : Sc), sc l r i σ ≠ []
 | [], i, σ => by rw [sc]; simp
 | c :: r, i, σ => by
  rw [sc]
  split
  ·exact sc_ne l r _ _
  ·split
   ·exact sc_ne l r _ _
   ·split
    ·simp
    ·exact sc_ne l r _ _
theorem cut_ne (l : List UInt8) (s : Nat) (q : List (Nat × Nat × Nat × Nat)) : cutAt l s q ≠ [] := by
 cases q with
 | nil => rw [cutAt]; simp
 | cons a q => obtain ⟨a, b, c, d⟩ := a; rw [cutAt]; simp
theorem all2_ne {α : Type} {R : List UInt8 -> α -> Prop} {ts : List (List UInt8)} {xs : List α} (h : All2 R ts xs) (h0 : ts ≠ []) : xs ≠ [] := by
 rintro rfl
 cases ts with
 | nil => exact h0 rfl
 | cons t ts => exact h.elim
structure PtsC (n : Nat) (ps : List (Nat × Nat)) : Prop where
 v : VL ps
 ne : ps ≠ []
 len : ps.length <= n + 1
theorem line_cnt {t : List UInt8} {ps : List (Nat × Nat)} (h : LineR t ps) : PtsC t.length ps :=
 ⟨all2_all h (fun _ p _ hr => ⟨hr.1, hr.2.1⟩), all2_ne h (sc_ne _ _ _ _), by rw [<- All2.len h]; exact Nat.le_trans (wt_len _) (comma_wt t)⟩
theorem mpoint_cnt {t : List UInt8} {ps : List (Nat × Nat)} (h : MPointR t ps) : PtsC t.length ps :=
 ⟨all2_all h (fun _ p _ hr => by obtain ⟨_, _, hr⟩ := hr; exact ⟨hr.1, hr.2.1⟩), all2_ne h (sc_ne _ _ _ _), by rw [<- All2.len h]; exact Nat.le_trans (wt_len _) (comma_wt t)⟩
theorem ring_cnt {l : List UInt8} {ps : List (Nat × Nat)} (h : RingR l ps) : PtsC l.length ps := by
 obtain ⟨t, hb, hl⟩ := h
 have := line_cnt hl
 have h2 := brk_len hb
 exact ⟨this.v, this.ne, by have := this.len; omega⟩
theorem lineT_len (ps : List (Nat × Nat)) : (lineT ps).length <= 122 * ps.length + 2 := by
 unfold lineT
 simp only [List.length_append, List.length_cons, List.length_nil]
 have := comJ_wt (ps.map ptT)
 have := pts_wt ps
 omega
structure RgsC (n : Nat) (rss : List (List (Nat × Nat))) : Prop where
 v : RL rss
 ne : rss ≠ []
 len : rss.length <= n + 1
 each : ∀ ps ∈ rss, ps.length <= n + 1
 all : nls rss <= n + 1
 wt : wt (rss.map lineT) <= 125 * (n + 1)
theorem poly_cnt {t : List UInt8} {rss : List (List (Nat × Nat))} (h : PolyR false t rss) : RgsC t.length rss := by
 have hw := pieces_wt t false
 refine ⟨all2_all h (fun _ p _ hr => ⟨(ring_cnt hr).ne, (ring_cnt hr).v⟩), all2_ne h (cut_ne _ _ _), by rw [<- All2.len h]; exact Nat.le_trans (wt_len _) hw, ?_, ?_, ?_⟩
 ·exact all2_all h (fun u p hu hr => by have := (ring_cnt hr).len; have := wt_mem hu; omega)
 ·have := all2_sum (f := List.length) (K := 1) h (fun u p hu hr => by have := (ring_cnt hr).len; omega)
  unfold nls; omega
 ·rw [wt_map]
  have := all2_sum (f := fun ps => (lineT ps).length + 1) (K := 125) h (fun u p hu hr => by have := (ring_cnt hr).len; have := lineT_len p; omega)
  omega
theorem polyin_cnt {l : List UInt8} {rss : List (List (Nat × Nat))} (h : PolyIn l rss) : RgsC l.length rss := by
 obtain ⟨t, hb, hl⟩ := h
 have h1 := poly_cnt hl
 have h2 := brk_len hb
 exact ⟨h1.v, h1.ne, by have := h1.len; omega, fun ps hp => by have := h1.each ps hp; omega, by have := h1.all; omega, by have := h1.wt; omega⟩
theorem polyT_len {n : Nat} {rss : List (List (Nat × Nat))} (h : RgsC n rss) : (polyT rss).length + 1 <= 128 * (n + 1) := by
 unfold polyT brkT
 simp only [List.length_append, List.length_cons, List.length_nil]
 have := comJ_wt (rss.map lineT)
 have := h.wt
 omega
structure PlsC (n : Nat) (xs : List (List (List (Nat × Nat)))) : Prop where
 v : ∀ rss ∈ xs, rss ≠ [] /\ RL rss
 len : xs.length <= n + 1
 each : ∀ rss ∈ xs, rss.length <= n + 1 /\ ∀ ps ∈ rss, ps.length <= n + 1
 all : (xs.map nls).sum <= n + 1
 wt : wt (xs.map polyT) <= 128 * (n + 1)
theorem mpoly_cnt {t : List UInt8} {xs : List (List (List (Nat × Nat)))} (h : MPolyR t xs) : PlsC t.length xs := by
 have hw := pieces_wt t true
 refine ⟨all2_all h (fun _ p _ hr => ⟨(polyin_cnt hr).ne, (polyin_cnt hr).v⟩), by rw [<- All2.len h]; exact Nat.le_trans (wt_len _) hw, ?_, ?_, ?_⟩
 ·exact all2_all h (fun u p hu hr => by
   have h1 := polyin_cnt hr
   have h2 := wt_mem hu
   have h3 := h1.len
   exact ⟨by omega, fun ps hp => by have := h1.each ps hp; omega⟩)
 ·have := all2_sum (f := nls) (K := 1) h (fun u p hu hr => by have := (polyin_cnt hr).all; omega)
  omega
 ·rw [wt_map]
  have := all2_sum (f := fun ps => (polyT ps).length + 1) (K := 128) h (fun u p hu hr => polyT_len (polyin_cnt hr))
  omega
theorem npts_polyS : ∀ xs : List (List (List (Nat × Nat))), npts (xs.map polyS) = (xs.map nls).sum
 | [] => rfl
 | x :: xs => by
  rw [List.map_cons, npts, List.map_cons, List.sum_cons, npts_polyS xs]
  show nls x + 0 + _ = _
  omega
structure Cnt (n : Nat) (g : Geo) : Prop where
 v : WF g
 len : (gT g).length + 1 <= 150 * (n + 1)
 np : npt (shS g) <= n + 1
 sm : n + 1 <= big -> GSm g
theorem whole_len {nm e : List UInt8} (h : Nm nm e) (ts : List (List UInt8)) : (wholeT nm e ts).length <= nm.length + 6 + wt ts := by
 unfold wholeT
 split
 ·rw [h.et, List.length_append]; simp
 ·unfold brkT
  simp only [List.length_append, List.length_cons, List.length_nil]
  have := comJ_wt ts
  omega
theorem whole_cnt {α : Type} {nm : List UInt8} {k : Nat} {R : List UInt8 -> List α -> Prop} {l : List UInt8} {xs : List α} (h : Whole nm k R (trim l) xs) : xs = [] \/ ∃ t, t.length + k <= max l.length k /\ R t xs := by
 rcases h with ⟨-, h⟩ | ⟨-, t, hb, hr⟩
 ·exact .inl h
 ·right
  have h1 := brk_len hb
  have h2 := trim_len l
  rw [List.length_drop] at h1
  exact ⟨t, by omega, hr⟩
theorem kind6_len {s : List UInt8} (h : kindOf s = 6) : 18 <= s.length := by
 rcases Nat.lt_or_ge s.length 18 with g | g
 ·exfalso
  unfold kindOf at h
  simp only [] at h
  have h17 : (up20 s)[17]? = some 0 := by
   unfold up20
   rw [List.getElem?_append_right (by rw [List.length_map, List.length_take]; omega), List.getElem?_replicate, if_pos (by rw [List.length_map, List.length_take]; omega)]
  have hno : (up20 s).take 18 ≠ [71, 69, 79, 77, 69, 84, 82, 89, 67, 79, 76, 76, 69, 67, 84, 73, 79, 78] := by
   intro e
   have : ((up20 s).take 18)[17]? = some 78 := by rw [e]; rfl
   rw [List.getElem?_take, if_pos (by decide), h17] at this
   cases this
  repeat' split at h
  all_goals first | (rename_i hh; exact hno (by simpa using hh)) | cases h
 ·exact g
theorem members_ne (r : List UInt8) : 1 <= r.length + 1 := by omega
mutual
theorem cnt : ∀ (g : Geo) (l : List UInt8), GR l g -> Cnt l.length g
 | .point p, l, h => by
  obtain ⟨-, t, hb, hp⟩ := h
  refine ⟨⟨hp.1, hp.2.1⟩, ?_, ?_, fun _ => trivial⟩
  ·show (nmPoint ++ brkT (ptT p)).length + 1 <= _
   have := ptT_len p
   unfold brkT nmPoint
   simp only [List.length_append, List.length_cons, List.length_nil]
   omega
  ·show nls [[p]] + 0 <= _
   simp [nls]
 | .line ps, l, h => by
  have hc := whole_cnt h.2
  have hl := whole_len nm_line (ps.map ptT)
  have hn : nmLine.length = 10 := rfl
  have hp := pts_wt ps
  have key : VL ps /\ ps.length <= l.length + 1 /\ 122 * ps.length <= 122 * (l.length + 1) := by
   rcases hc with rfl | ⟨t, ht, hr⟩
   ·exact ⟨fun p hp => (by cases hp), by simp, by simp⟩
   ·have := line_cnt hr
    have h2 := this.len
    exact ⟨this.v, by omega, by omega⟩
  refine ⟨key.1, ?_, ?_, fun hb => by have := key.2.1; show ps.length <= big; omega⟩
  ·show (wholeT _ _ _).length + 1 <= _; omega
  ·show nls [ps] + 0 <= _
   simp [nls]; exact key.2.1
 | .poly rss, l, h => by
  have hc := whole_cnt h.2
  have hl := whole_len nm_poly (rss.map lineT)
  have hn : nmPoly.length = 7 := rfl
  have key : RL rss /\ rss.length <= l.length + 1 /\ (∀ ps ∈ rss, ps.length <= l.length + 1) /\ nls rss <= l.length + 1 /\ wt (rss.map lineT) <= 125 * (l.length + 1) := by
   rcases hc with rfl | ⟨t, ht, hr⟩
   ·exact ⟨fun p hp => (by cases hp), by simp, fun p hp => (by cases hp), by simp [nls], by simp [wt]⟩
   ·have := poly_cnt hr
    have h2 := this.len
    have h3 := this.all
    have h4 := this.wt
    exact ⟨this.v, by omega, fun ps hp => by have := this.each ps hp; omega, by omega, by omega⟩
  obtain ⟨k1, k2, k3, k4, k5⟩ := key
  refine ⟨k1, ?_, ?_, fun hb => ⟨by omega, fun ps hp => by have := k3 ps hp; omega⟩⟩
  ·show (wholeT _ _ _).length + 1 <= _; omega
  ·show nls rss + 0 <= _; omega
 | .mpoint ps, l, h => by
  have hc := whole_cnt h.2
  have hl := whole_len nm_mpoint (ps.map bptT)
  have hn : nmMPoint.length = 10 := rfl
  have hp := bpts_wt ps
  have key : VL ps /\ ps.length <= l.length + 1 /\ 124 * ps.length <= 124 * (l.length + 1) := by
   rcases hc with rfl | ⟨t, ht, hr⟩
   ·exact ⟨fun p hp => (by cases hp), by simp, by simp⟩
   ·have := mpoint_cnt hr
    have h2 := this.len
    exact ⟨this.v, by omega, by omega⟩
  refine ⟨key.1, ?_, ?_, fun hb => by have := key.2.1; show ps.length <= big; omega⟩
  ·show (wholeT nmMPoint txMPoint (ps.map bptT)).length + 1 <= _; omega
  ·show nls [ps] + 0 <= _
   simp [nls]; exact key.2.1
 | .mline rss, l, h => by
  have hc := whole_cnt h.2
  have hl := whole_len nm_mline (rss.map lineT)
  have hn : nmMLine.length = 15 := rfl
  have key : RL rss /\ rss.length <= l.length + 1 /\ (∀ ps ∈ rss, ps.length <= l.length + 1) /\ nls rss <= l.length + 1 /\ wt (rss.map lineT) <= 125 * (l.length + 1) := by
   rcases hc with rfl | ⟨t, ht, hr⟩
   ·exact ⟨fun p hp => (by cases hp), by simp, fun p hp => (by cases hp), by simp [nls], by simp [wt]⟩
   ·have := poly_cnt hr
    have h2 := this.len
    have h3 := this.all
    have h4 := this.wt
    exact ⟨this.v, by omega, fun ps hp => by have := this.each ps hp; omega, by omega, by omega⟩
  obtain ⟨k1, k2, k3, k4, k5⟩ := key
  refine ⟨k1, ?_, ?_, fun hb => ⟨by omega, fun ps hp => by have := k3 ps hp; omega⟩⟩
  ·show (wholeT _ _ _).length + 1 <= _; omega
  ·show nls rss + 0 <= _; omega
 | .mpoly xs, l, h => by
  have hc := whole_cnt h.2
  have hl := whole_len nm_mpoly (xs.map polyT)
  have hn : nmMPoly.length = 12 := rfl
  have key : (∀ rss ∈ xs, rss ≠ [] /\ RL rss) /\ xs.length <= l.length + 1 /\ (∀ rss ∈ xs, rss.length <= l.length + 1 /\ ∀ ps ∈ rss, ps.length <= l.length + 1) /\ (xs.map nls).sum <= l.length + 1 /\ wt (xs.map polyT) <= 128 * (l.length + 1) := by
   rcases hc with rfl | ⟨t, ht, hr⟩
   ·exact ⟨fun p hp => (by cases hp), by simp, fun p hp => (by cases hp), by simp, by simp [wt]⟩
   ·have := mpoly_cnt hr
    have h2 := this.len
    have h3 := this.all
    have h4 := this.wt
    exact ⟨this.v, by omega, fun rss hr => ⟨by have := (this.each rss hr).1; omega, fun ps hp => by have := (this.each rss hr).2 ps hp; omega⟩, by omega, by omega⟩
  obtain ⟨k1, k2, k3, k4, k5⟩ := key
  refine ⟨k1, ?_, ?_, fun hb => ⟨by omega, fun rss hr => ⟨by have := (k3 rss hr).1; omega, fun ps hp => by have := (k3 rss hr).2 ps hp; omega⟩⟩⟩
  ·show (wholeT _ _ _).length + 1 <= _; omega
  ·show nls [] + npts (xs.map polyS) <= _
   rw [npts_polyS]; simp [nls]; omega
 | .coll gs, l, h => by
  have hk := kind6_len h.1
  have htl := trim_len l
  have hc := whole_cnt (coll_whole h)
  have hl := whole_len nm_coll (gTs gs)
  have hn : nmColl.length = 18 := rfl
  have key : WFs gs /\ wt (gTs gs) <= 150 * (l.length + 1 - 18) /\ npts (shSs gs) <= l.length + 1 /\ gs.length <= l.length + 1 /\ (l.length + 1 <= big -> GSms gs) := by
   rcases hc with rfl | ⟨t, ht, hr⟩
   ·exact ⟨trivial, by simp [gTs, wt], by simp [shSs, npts], by simp, fun _ => trivial⟩
   ·have hm := members_wt t
    obtain ⟨k1, k2, k3, k4, k5⟩ := cnts gs (members t) hr
    exact ⟨k1, by omega, by omega, by omega, fun hb => k5 (by omega)⟩
  obtain ⟨k1, k2, k3, k4, k5⟩ := key
  refine ⟨k1, ?_, ?_, fun hb => ⟨by omega, k5 hb⟩⟩
  ·show (wholeT _ _ _).length + 1 <= _; omega
  ·show nls [] + npts (shSs gs) <= _
   simp [nls]; omega
theorem cnts : ∀ (gs : List Geo) (ms : List (List UInt8)), GRs ms gs -> WFs gs /\ wt (gTs gs) <= 150 * wt ms /\ npts (shSs gs) <= wt ms /\ gs.length <= wt ms /\ (wt ms <= big -> GSms gs)
 | [], [], _ => ⟨trivial, Nat.zero_le _, Nat.zero_le _, Nat.zero_le _, fun _ => trivial⟩
 | [], _ :: _, h => h.elim
 | _ :: _, [], h => h.elim
 | g :: gs, m :: ms, h => by
  have h : GR m g /\ GRs ms gs := h
  have h1 := cnt g m h.1
  obtain ⟨k1, k2, k3, k4, k5⟩ := cnts gs ms h.2
  have e1 := h1.len
  have e2 := h1.np
  refine ⟨⟨h1.v, k1⟩, ?_, ?_, ?_, ?_⟩
  ·rw [gTs, wt, wt]; omega
  ·rw [shSs, npts, wt]; omega
  ·rw [List.length_cons, wt]; omega
  ·intro hb
   rw [wt] at hb
   exact ⟨h1.sm (by omega), k5 (by omega)⟩
end
theorem VL.vns {ps : List (Nat × Nat)} (h : VL ps) : VNs ps := fun p hp => ⟨(h p hp).1.lt, (h p hp).2.lt⟩
mutual
theorem wf_gv : ∀ g : Geo, WF g -> GV g
 | .point p, h => by
  intro q hq
  rw [List.mem_singleton.1 hq]
  exact ⟨h.1.lt, h.2.lt⟩
 | .line ps, h => VL.vns h
 | .poly rss, h => fun ps hp => (h ps hp).2.vns
 | .mpoint ps, h => VL.vns h
 | .mline rss, h => fun ps hp => (h ps hp).2.vns
 | .mpoly xs, h => fun rss hr ps hp => ((h rss hr).2 ps hp).2.vns
 | .coll gs, h => wfs_gvs gs h
theorem wfs_gvs : ∀ gs : List Geo, WFs gs -> GVs gs
 | [], _ => trivial
 | g :: gs, h => ⟨wf_gv g h.1, wfs_gvs gs h.2⟩
end
theorem plain {l : List UInt8} (hl : l.length <= 2147483647) {g : Geo} (h : GR l g) : Plain l g := by
 have hc := cnt g l h
 have hb : big = 1000000000000 := rfl
 have h1 := hc.len
 have h2 := hc.np
 exact ⟨hc.sm (by omega), wf_gv g hc.v, by omega, by omega, law g hc.v, not_bad g hc.v _ rfl⟩
end Go.Proofs.YtdfolbmoohcblaaGreatDoor
namespace Go.Proofs.YtdfolbmoohcblaaGreatDoor
open Go Go.ChangeShapes Go.WideShapes Go.RowKit Go.Lib
def litV : Lit -> Value
 | .bool b => .bool b
 | .int k n => .int k n
 | .float k b => .float k b
 | .string l => .string ⟨l.toArray⟩
 | _ => .nilIface
def Bas (t : TypeId) : Prop := Tryz.prog.underlying t = some .bool \/ (∃ k, Tryz.prog.underlying t = some (.int k)) \/ (∃ k, Tryz.prog.underlying t = some (.float k)) \/ Tryz.prog.underlying t = some .string
section
variable {H : Type} {enc : TypeId × Value -> H} {w : World} {base : Nat} {sp : Nat -> Bool} {held : Bool}
theorem lit_cell {fuel : Nat} {t : TypeId} {cs : List Value} {L : Lit} {p : List MemPlace} (hb : Bas t) (h : DataW.trod enc Tryz.prog w base sp held fuel t cs = some (.lit L, p)) : cs = [litV L] := by
 cases fuel with
 | zero => simp [DataW.trod] at h
 | succ n =>
  rcases hb with ht | ⟨k, ht⟩ | ⟨k, ht⟩ | ht
  ·obtain ⟨b, rfl, hx⟩ := DataW.trod_bool ht h
   cases hx; rfl
  ·obtain ⟨b, rfl, hx, -⟩ := DataW.trod_int ht h
   cases hx; rfl
  ·unfold DataW.trod at h
   rw [ht] at h
   split at h <;> simp_all
   obtain ⟨-, rfl, -⟩ := h
   rfl
  ·obtain ⟨s, rfl, hx, -⟩ := DataW.trod_string ht h
   cases hx
   rfl
theorem len2 : ∀ {cs : List Value}, cs.length = 2 -> ∃ u v, cs = [u, v]
 | [], h => by cases h
 | [_], h => by cases h
 | [u, v], _ => ⟨u, v, rfl⟩
 | _ :: _ :: _ :: _, h => by simp at h
structure Pair (t : TypeId) : Prop where
 str : ∃ f0 f1 : Field, Tryz.prog.underlying t = some (.struct #[f0, f1]) /\ f0.offset = 0 /\ f1.offset = 1 /\ Tryz.prog.cellsOf f0.type = 1 /\ Tryz.prog.cellsOf f1.type = 1 /\ Bas f0.type /\ Bas f1.type
 two : Tryz.prog.cellsOf t = 2
theorem pair_cells {fuel : Nat} {t : TypeId} {cs : List Value} {a b : Lit} {p : List MemPlace} (hp : Pair t) (h : DataW.trod enc Tryz.prog w base sp held fuel t cs = some (.agg [.lit a, .lit b], p)) : cs = [litV a, litV b] := by
 obtain ⟨f0, f1, ht, o0, o1, c0, c1, b0, b1⟩ := hp.str
 obtain ⟨⟨y0, q0⟩, ⟨y1, q1⟩, n, hx, hl, h0, h1⟩ := trod_struct2 ht h
 simp only [Prod.mk.injEq, DataW.agg.injEq, List.cons.injEq, and_true] at hx
 obtain ⟨⟨rfl, rfl⟩, -⟩ := hx
 rw [hp.two] at hl
 obtain ⟨u, v, rfl⟩ := len2 hl
 rw [o0, c0] at h0
 rw [o1, c1] at h1
 have e0 : [u] = [litV a] := lit_cell b0 h0
 have e1 : [v] = [litV b] := lit_cell b1 h1
 rw [(List.cons.inj e0).1, (List.cons.inj e1).1]
theorem arr_pairs {ρ : Type} {rows : List ρ} {f g : ρ -> Lit} {fuel n : Nat} {t e : TypeId} {cs : List Value} {p : List MemPlace} (ht : Tryz.prog.underlying t = some (.array n e)) (he : Pair e)
  (h : DataW.trod enc Tryz.prog w base sp held fuel t cs = some (.agg (rows.map fun r => .agg [.lit (f r), .lit (g r)]), p)) :
  ∀ i r, rows[i]? = some r -> cs[i * 2]? = some (litV (f r)) /\ cs[i * 2 + 1]? = some (litV (g r)) := by
 obtain ⟨xs, m, -, hx, hl, hn, hall⟩ := DataW.trod_array ht h
 have hxs := congrArg Prod.fst hx
 simp only [DataW.agg.injEq] at hxs
 intro i r hr
 have hlen : rows.length = n := by
  have := congrArg List.length hxs
  simp at this; omega
 have hi : i < n := by rw [<- hlen]; exact (List.getElem?_eq_some_iff.1 hr).1
 have h1 := hall i hi
 rw [he.two] at h1
 obtain ⟨⟨b, q⟩, hb⟩ : ∃ b, xs[i]? = some b := ⟨xs[i]'(by omega), List.getElem?_eq_getElem (by omega)⟩
 have h2 := congrArg (·[i]?) hxs
 simp only [List.getElem?_map, hr, hb, Option.map_some, Option.some.injEq] at h2
 rw [hb, <- h2] at h1
 have h3 := pair_cells he h1
 have k0 := congrArg (·[0]?) h3
 have k1 := congrArg (·[1]?) h3
 simp [List.getElem?_drop] at k0 k1
 exact ⟨k0, k1⟩
theorem slice_pairs {ρ : Type} {rows : List ρ} {f g : ρ -> Lit} {fuel : Nat} {t e : TypeId} {cs : List Value} {p : List MemPlace} (ht : Tryz.prog.underlying t = some (.slice e)) (he : Pair e) (h0 : rows ≠ [])
  (h : DataW.trod enc Tryz.prog w base sp held fuel t cs = some (.slice (rows.map fun r => .agg [.lit (f r), .lit (g r)]) [], p)) :
  ∃ b o c, cs = [.slice (some ⟨b, o, none⟩) rows.length c] /\ rows.length <= c /\ ∀ i r, rows[i]? = some r -> w.cell? ⟨b, o + i * 2, none⟩ = some (litV (f r)) /\ w.cell? ⟨b, o + i * 2 + 1, none⟩ = some (litV (g r)) := by
 rcases DataW.trod_slice ht h with ⟨_, hx⟩ | ⟨a, len, cap, elems, rest, n, _, hcs, hx, _, hlc, _, hlen, hel, _⟩
 ·cases hx
 ·have hxs := congrArg Prod.fst hx
  simp only [DataW.slice.injEq] at hxs
  have hxs := hxs.1
  have hl : rows.length = len := by
   have := congrArg List.length hxs
   simp at this; omega
  have key : ∀ i r, rows[i]? = some r -> w.cell? ((a.add (i * 2)).add 0) = some (litV (f r)) /\ w.cell? ((a.add (i * 2)).add 1) = some (litV (g r)) := by
   intro i r hr
   have hi : i < len := by rw [<- hl]; exact (List.getElem?_eq_some_iff.1 hr).1
   have h1 := hel i hi
   rw [he.two] at h1
   obtain ⟨⟨b, q⟩, hb⟩ : ∃ b, elems[i]? = some b := ⟨elems[i]'(by omega), List.getElem?_eq_getElem (by omega)⟩
   have h2 := congrArg (·[i]?) hxs
   simp only [List.getElem?_map, hr, hb, Option.map_some, Option.some.injEq] at h2
   rw [hb, <- h2] at h1
   obtain ⟨ce, hce, hte⟩ := Option.bind_eq_some_iff.1 h1
   have h3 := pair_cells he hte
   obtain ⟨_, _, hcc⟩ := World.cells?_some hce
   rw [hcc 0 (by decide), hcc 1 (by decide), h3]
   exact ⟨rfl, rfl⟩
  obtain ⟨b, o, s⟩ := a
  obtain ⟨r0, hr0⟩ : ∃ r, rows[0]? = some r := by
   cases rows with
   | nil => exact absurd rfl h0
   | cons r _ => exact ⟨r, rfl⟩
  obtain rfl : s = none := by
   have := (key 0 r0 hr0).1
   exact cell_spot (b := b) (o := o + 0 * 2 + 0) this
  exact ⟨b, o, cap, by rw [hcs, hl], by omega, fun i r hr => by have := key i r hr; rw [Addr.add_lit, Addr.add_lit, Addr.add_lit] at this; exact this⟩
theorem slice_lits {ρ : Type} {rows : List ρ} {f : ρ -> Lit} {fuel : Nat} {t e : TypeId} {cs : List Value} {p : List MemPlace} (ht : Tryz.prog.underlying t = some (.slice e)) (he : Bas e) (hc : Tryz.prog.cellsOf e = 1) (h0 : rows ≠ [])
  (h : DataW.trod enc Tryz.prog w base sp held fuel t cs = some (.slice (rows.map fun r => .lit (f r)) [], p)) :
  ∃ b o c, cs = [.slice (some ⟨b, o, none⟩) rows.length c] /\ rows.length <= c /\ ∀ i r, rows[i]? = some r -> w.cell? ⟨b, o + i, none⟩ = some (litV (f r)) := by
 obtain ⟨a, cap, hcs, hl, hel⟩ := open_row ht hc h
 rw [List.length_map] at hcs hl
 have key : ∀ i r, rows[i]? = some r -> w.cell? (a.add i) = some (litV (f r)) := by
  intro i r hr
  obtain ⟨v, n, q, hv, hd⟩ := hel i (.lit (f r)) (by rw [List.getElem?_map, hr]; rfl)
  have := lit_cell he hd
  rw [hv]
  simpa using this
 obtain ⟨b, o, s⟩ := a
 obtain ⟨r0, hr0⟩ : ∃ r, rows[0]? = some r := by
  cases rows with
  | nil => exact absurd rfl h0
  | cons r _ => exact ⟨r, rfl⟩
 obtain rfl : s = none := by
  have := key 0 r0 hr0
  exact cell_spot (b := b) (o := o + 0) this
 exact ⟨b, o, cap, hcs, hl, fun i r hr => by have := key i r hr; rw [Addr.add_lit] at this; exact this⟩
end
theorem var_at {w : World} {l : List (String × DataW Unit)} (h : laidMet Tryz.prog l w) {n : String} {d : DataW Unit} (hm : (n, d) ∈ l) {g : Nat} {t : TypeId} (hg : Tryz.prog.globalNamed n = some g) (hty : (Tryz.prog.globals[g]?).map (·.type) = some t) :
  ∃ cs fuel p, w.var? Tryz.prog n = some cs /\ (∀ i, w.cell? ⟨g, i, none⟩ = cs.toList[i]?) /\ DataW.trod (fun _ => ()) Tryz.prog w 0 (fun _ => true) false fuel t cs.toList = some (d, p) := by
 obtain ⟨g', t', cs, fuel, p, hg', ht', hv, hd⟩ := Lib.laidMet.reads h hm
 obtain rfl := Option.some.inj (hg.symm.trans hg')
 obtain rfl := Option.some.inj (hty.symm.trans ht')
 refine ⟨cs, fuel, p, hv, ?_, hd⟩
 intro i
 rw [World.var?_cell hg hv i]
 simp
theorem block_at {w : World} : ∀ {l : List (String × DataW Unit)} {ps : List MemPlace}, DataW.LaidVars Tryz.prog w l ps -> (∀ b off, MemPlace.cell b off ∈ ps -> ∃ c t, w.heap[b]? = some (.cells c t (0, 0))) ->
  ∀ {n : String} {d : DataW Unit} {g : Nat}, (n, d) ∈ l -> Tryz.prog.globalNamed n = some g -> w.cell? ⟨g, 0, none⟩ ≠ none -> ∃ c t, w.heap[g]? = some (.cells c t (0, 0))
 | [], _, _, _, n, d, g, hm, _, _ => by cases hm
 | (n', d') :: r, ps, h, hb, n, d, g, hm, hg, hc => by
  obtain ⟨g', t, cs, fuel, p, q, h1, h2, h3, h4, h5, rfl⟩ := h
  rcases List.mem_cons.1 hm with e | e
  ·cases e
   obtain rfl := Option.some.inj (h1.symm.trans hg)
   rw [World.var?_cell hg h3 0] at hc
   have hpos : 0 < cs.size := by
    rcases Nat.eq_zero_or_pos cs.size with h0 | h0
    ·exfalso; apply hc; simp [h0]
    ·exact h0
   refine hb g' 0 ?_
   refine List.mem_append_left _ (List.mem_append_left _ ?_)
   unfold MemPlace.row
   exact List.mem_map.2 ⟨0, List.mem_range.2 hpos, by simp⟩
  ·exact block_at h5 (fun b off hx => hb b off (List.mem_append_right _ hx)) e hg hc
end Go.Proofs.YtdfolbmoohcblaaGreatDoor
