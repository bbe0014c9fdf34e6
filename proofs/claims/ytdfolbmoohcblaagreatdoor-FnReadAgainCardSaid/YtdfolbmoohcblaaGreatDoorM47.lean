/-
For FnReadAgain, part 47: L2 L3 L4.
-/
import Derived.Test.YtdfolbmoohcblaaGreatDoorM46
set_option linter.all false
namespace Go.Proofs.YtdfolbmoohcblaaGreatDoor
def TG (t : List UInt8) : Prop := ∃ a m b, t = a :: (m ++ [b]) /\ sp3 a = false /\ sp3 b = false
theorem trim_tg {t : List UInt8} (h : TG t) : trim t = t := by
 obtain ⟨a, m, b, rfl, ha, hb⟩ := h
 have h1 : lead (a :: (m ++ [b])) = 0 := by unfold lead; rw [List.takeWhile_cons, if_neg (by simp [ha])]; rfl
 have h2 : trail (a :: (m ++ [b])) = 0 := by
  unfold trail lead
  rw [show (a :: (m ++ [b])).reverse = b :: (m.reverse ++ [a]) by simp, List.takeWhile_cons, if_neg (by simp [hb])]; rfl
 unfold trim
 rw [h1, h2, if_neg (by simp), List.drop_zero]
 exact List.take_of_length_le (by omega)
theorem tg_brkT (t : List UInt8) : TG (brkT t) := ⟨40, t, 41, rfl, by decide, by decide⟩
theorem brk_brkT {t : List UInt8} (h : TG t) : brk (brkT t) = some t := by
 unfold brk
 rw [trim_tg (tg_brkT t)]
 unfold brkT
 simp [trim_tg h]
theorem TG.join {a b : List UInt8} (m : List UInt8) (ha : TG a) (hb : TG b) : TG (a ++ m ++ b) := by
 obtain ⟨x, p, y, rfl, hx, hy⟩ := ha
 obtain ⟨u, q, v, rfl, hu, hv⟩ := hb
 exact ⟨x, p ++ [y] ++ m ++ u :: q, v, by simp, hx, hv⟩
theorem tg_comJ : ∀ (ts : List (List UInt8)), ts ≠ [] -> (∀ t ∈ ts, TG t) -> TG (comJ ts)
 | [], h, _ => absurd rfl h
 | [t], _, h => by rw [comJ_one]; exact h t (by simp)
 | t :: u :: r, _, h => by
  rw [comJ_cons, show t ++ 44 :: comJ (u :: r) = t ++ [44] ++ comJ (u :: r) by simp]
  exact TG.join _ (h t (by simp)) (tg_comJ (u :: r) (by simp) (fun x hx => h x (List.mem_cons_of_mem _ hx)))
theorem nc_not {c : UInt8} (h : nc c = true) : c ≠ 32 /\ c ≠ 40 /\ c ≠ 41 /\ c ≠ 44 /\ sp3 c = false /\ inCl c = false /\ c.toNat < 128 := by
 unfold nc at h
 simp only [Bool.and_eq_true, Bool.not_eq_true', bne_iff_ne, decide_eq_true_eq] at h
 obtain ⟨⟨⟨⟨h1, h2⟩, h3⟩, h4⟩, h5⟩ := h
 have h6 : c ≠ 32 /\ c ≠ 9 /\ c ≠ 10 := by
  unfold inCl at h1
  simp only [Bool.or_eq_false_iff, beq_eq_false_iff_ne] at h1
  exact ⟨h1.1.1.1.1.1, h1.1.1.1.1.2, h1.1.1.1.2⟩
 exact ⟨h6.1, h2, h3, h4, by unfold sp3; simp [h6.1, h6.2.1, h6.2.2], h1, h5⟩
theorem upto_app {a b : List UInt8} (h : Ncs a) : upto32 (a ++ 32 :: b) = a.length := by
 unfold upto32
 rw [List.takeWhile_append_of_pos (fun c hc => by rw [bne_iff_ne]; exact (nc_not (h c hc)).1), List.length_append]
 simp
theorem ptP_ptT (p : Nat × Nat) (h1 : VN p.1) (h2 : VN p.2) : ptP (ptT p) = some p := by
 have hu : upto32 (ptT p) = (fmtT p.1).length := upto_app (fmtT_ncs p.1).1
 unfold ptP
 rw [hu, if_pos (by unfold ptT; simp)]
 have e1 : (ptT p).take (fmtT p.1).length = fmtT p.1 := by unfold ptT; exact List.take_left' rfl
 have e2 : (ptT p).drop ((fmtT p.1).length + 1) = fmtT p.2 := by unfold ptT; rw [<- List.drop_drop, List.drop_left' rfl]; rfl
 rw [e1, e2, round _ h1, round _ h2]
theorem ends {l : List UInt8} (h : Ncs l) (h0 : l ≠ []) : (∃ a r, l = a :: r /\ nc a = true) /\ (∃ r b, l = r ++ [b] /\ nc b = true) := by
 refine ⟨?_, ?_⟩
 ·cases l with
  | nil => exact absurd rfl h0
  | cons a r => exact ⟨a, r, rfl, h a (by simp)⟩
 ·exact ⟨l.dropLast, l.getLast h0, (List.dropLast_concat_getLast h0).symm, h _ (List.getLast_mem h0)⟩
theorem tg_ptT (p : Nat × Nat) : TG (ptT p) := by
 obtain ⟨h1, h2, -⟩ := fmtT_ncs p.1
 obtain ⟨h3, h4, -⟩ := fmtT_ncs p.2
 obtain ⟨⟨a, r, e, ha⟩, -⟩ := ends h1 h2
 obtain ⟨-, s, b, e2, hb⟩ := ends h3 h4
 exact ⟨a, r ++ 32 :: s, b, by unfold ptT; rw [e, e2]; simp, (nc_not ha).2.2.2.2.1, (nc_not hb).2.2.2.2.1⟩
def Pl (t : List UInt8) : Prop := ∀ c ∈ t, c ≠ 40 /\ c ≠ 41 /\ c ≠ 44
theorem pl_ptT (p : Nat × Nat) : Pl (ptT p) := by
 intro c hc
 unfold ptT at hc
 rcases List.mem_append.1 hc with hc | hc
 ·have := nc_not ((fmtT_ncs p.1).1 c hc); exact ⟨this.2.1, this.2.2.1, this.2.2.2.1⟩
 ·rcases List.mem_cons.1 hc with rfl | hc
  ·decide
  ·have := nc_not ((fmtT_ncs p.2).1 c hc); exact ⟨this.2.1, this.2.2.1, this.2.2.2.1⟩
theorem sc_run (l : List UInt8) : ∀ (t r : List UInt8) (i a s : Nat) (sp : Bool), t ≠ [] -> (∀ c ∈ t, c ≠ 44) -> (∃ m b, t = m ++ [b] /\ sp3 b = false) -> ∃ s', sc l (t ++ r) i ⟨a, s, sp, false⟩ = sc l r (i + t.length) ⟨a, s', false, false⟩
 | [], _, _, _, _, _, h, _, _ => absurd rfl h
 | c :: t, r, i, a, s, sp, _, h1, h2 => by
  have hc : (c == 44) = false := by rw [beq_eq_false_iff_ne]; exact h1 c (by simp)
  obtain ⟨m, b, hm, hb⟩ := h2
  rw [List.cons_append, sc, if_neg (by simp [hc])]
  have hlast : t ≠ [] -> ∃ m b, t = m ++ [b] /\ sp3 b = false := by
   intro ht
   cases m with
   | nil => simp at hm; exact absurd hm.2 ht
   | cons x m => injection hm with e1 e2; exact ⟨m, b, e2, hb⟩
  by_cases hs : sp3 c = true
  ·rw [if_pos hs]
   have ht : t ≠ [] := by
    rintro rfl
    cases m with
    | nil => simp at hm; rw [<- hm, hs] at hb; cases hb
    | cons x m => have := congrArg List.length hm; simp at this
   obtain ⟨s', h⟩ := sc_run l t r (i + 1) a (if sp = true then s else i) true ht (fun c hc => h1 c (List.mem_cons_of_mem _ hc)) (hlast ht)
   exact ⟨s', by rw [h, List.length_cons]; congr 1; omega⟩
  ·rw [if_neg hs, if_neg (by simp)]
   by_cases ht : t = []
   ·subst ht; exact ⟨s, by simp⟩
   ·obtain ⟨s', h⟩ := sc_run l t r (i + 1) a s false ht (fun c hc => h1 c (List.mem_cons_of_mem _ hc)) (hlast ht)
    exact ⟨s', by rw [h, List.length_cons]; congr 1; omega⟩
theorem TG.last {t : List UInt8} (h : TG t) : t ≠ [] /\ ∃ m b, t = m ++ [b] /\ sp3 b = false := by
 obtain ⟨a, m, b, rfl, ha, hb⟩ := h
 exact ⟨by simp, a :: m, b, by simp, hb⟩
theorem drop_next {l t r : List UInt8} {i : Nat} (h : l.drop i = t ++ 44 :: r) : l.drop (i + t.length + 1) = r := by
 rw [show i + t.length + 1 = i + (t.length + 1) by omega, <- List.drop_drop, h, <- List.drop_drop, List.drop_left' rfl]; rfl
theorem sc_join (l : List UInt8) : ∀ (ts : List (List UInt8)) (t : List UInt8) (i s : Nat), TG t -> (∀ u ∈ ts, TG u) -> (∀ c ∈ t, c ≠ 44) -> (∀ u ∈ ts, ∀ c ∈ u, c ≠ 44) -> l.drop i = comJ (t :: ts) ->
  sc l (comJ (t :: ts)) i ⟨i, s, false, false⟩ = t :: ts
 | [], t, i, s, hg, _, h1, _, hd => by
  rw [comJ_one] at hd ⊢
  obtain ⟨s', h⟩ := sc_run l t [] i i s false hg.last.1 h1 hg.last.2
  rw [List.append_nil] at h
  rw [h, sc, hd]
 | u :: ts, t, i, s, hg, hgs, h1, h1s, hd => by
  rw [comJ_cons] at hd ⊢
  obtain ⟨s', h⟩ := sc_run l t (44 :: comJ (u :: ts)) i i s false hg.last.1 h1 hg.last.2
  rw [h, sc, if_pos (by decide)]
  simp only [Bool.false_eq_true, if_false]
  have hdn := drop_next hd
  obtain ⟨a, m, b, hu, ha, hb⟩ := hgs u (by simp)
  obtain ⟨R, hR⟩ : ∃ R, comJ (u :: ts) = a :: R := by
   cases ts with
   | nil => rw [comJ_one, hu]; exact ⟨_, rfl⟩
   | cons v ts => rw [comJ_cons, hu]; exact ⟨_, rfl⟩
  have ha44 : (a == 44) = false := by rw [beq_eq_false_iff_ne]; exact h1s u (by simp) a (by rw [hu]; simp)
  have ih := sc_join l ts u (i + t.length + 1) (i + t.length) (hgs u (by simp)) (fun x hx => hgs x (List.mem_cons_of_mem _ hx)) (h1s u (by simp)) (fun x hx => h1s x (List.mem_cons_of_mem _ hx)) hdn
  rw [hR] at ih ⊢
  rw [sc, if_neg (by simp [ha44]), if_neg (by simp [ha])] at ih
  rw [if_neg (by simp)] at ih
  rw [sc, if_neg (by simp [ha44]), if_neg (by simp [ha]), if_pos rfl, ih]
  congr 1
  rw [hd, show i + t.length - i = t.length by omega]
  exact List.take_left' rfl
theorem comma_join {ts : List (List UInt8)} (h0 : ts ≠ []) (hg : ∀ u ∈ ts, TG u) (h1 : ∀ u ∈ ts, ∀ c ∈ u, c ≠ 44) : commaPieces (comJ ts) = ts := by
 cases ts with
 | nil => exact absurd rfl h0
 | cons t ts => exact sc_join _ ts t 0 0 (hg t (by simp)) (fun x hx => hg x (List.mem_cons_of_mem _ hx)) (h1 t (by simp)) (fun x hx => h1 x (List.mem_cons_of_mem _ hx)) rfl
end Go.Proofs.YtdfolbmoohcblaaGreatDoor
namespace Go.Proofs.YtdfolbmoohcblaaGreatDoor
theorem mp_not {l : List UInt8} {j : Nat} {dbl : Bool} (h : l[j]? ≠ some 41) : mp l j dbl = none := by unfold mp; rw [if_neg h]
theorem fp_skip {l : List UInt8} {dbl : Bool} : ∀ (n a : Nat), (∀ j, a <= j -> j < a + n -> j < l.length /\ mp l j dbl = none) -> fp l dbl a = fp l dbl (a + n)
 | 0, a, _ => rfl
 | n + 1, a, h => by
  obtain ⟨h1, h2⟩ := h a (Nat.le_refl _) (by omega)
  rw [fp_none h1 h2, fp_skip n (a + 1) (fun j hj hj2 => h j (by omega) (by omega))]
  congr 1; omega
theorem at_of {l X : List UInt8} {i : Nat} (h : l.drop i = X) (k : Nat) : l[i + k]? = X[k]? := by rw [<- List.getElem?_drop, h]
theorem ltl_at {l : List UInt8} {j : Nat} {c : UInt8} (h : l[j]? = some c) : j < l.length := (List.getElem?_eq_some_iff.1 h).1
theorem len_of {l X : List UInt8} {i : Nat} (h : l.drop i = X) (h0 : X ≠ []) : l.length = i + X.length := by
 have := congrArg List.length h
 rw [List.length_drop] at this
 have : 0 < X.length := List.length_pos_iff.2 h0
 omega
theorem brk_at (u X : List UInt8) : (∀ k, k < u.length -> (brkT u ++ X)[k + 1]? = u[k]?) /\ (brkT u ++ X)[0]? = some 40 /\ (brkT u ++ X)[u.length + 1]? = some 41 /\ ∀ k, (brkT u ++ X)[u.length + 2 + k]? = X[k]? := by
 unfold brkT
 refine ⟨?_, rfl, ?_, ?_⟩
 ·intro k hk
  rw [show (40 :: u ++ [41] ++ X) = 40 :: (u ++ (41 :: X)) by simp, List.getElem?_cons_succ, List.getElem?_append_left hk]
 ·rw [show (40 :: u ++ [41] ++ X) = 40 :: (u ++ (41 :: X)) by simp, List.getElem?_cons_succ, List.getElem?_append_right (Nat.le_refl _)]; simp
 ·intro k
  rw [show (40 :: u ++ [41] ++ X) = 40 :: (u ++ (41 :: X)) by simp, show u.length + 2 + k = (u.length + (1 + k)) + 1 by omega, List.getElem?_cons_succ, List.getElem?_append_right (by omega), show u.length + (1 + k) - u.length = k + 1 by omega, List.getElem?_cons_succ]
theorem comJ_head {t : List UInt8} {ts : List (List UInt8)} : ∃ X, comJ (t :: ts) = t ++ X /\ (ts = [] -> X = []) /\ ∀ u r, ts = u :: r -> X = 44 :: comJ (u :: r) := by
 cases ts with
 | nil => exact ⟨[], by rw [comJ_one, List.append_nil], fun _ => rfl, fun _ _ h => by cases h⟩
 | cons u r => exact ⟨44 :: comJ (u :: r), comJ_cons _ _ _, fun h => (by cases h), fun u' r' h => by cases h; rfl⟩
theorem piece_join (l : List UInt8) : ∀ (us : List (List UInt8)) (u : List UInt8) (i a : Nat), (∀ c ∈ u, c ≠ 41) -> (∀ v ∈ us, ∀ c ∈ v, c ≠ 41) -> l.drop i = comJ (brkT u :: us.map brkT) -> (a = i \/ a = i + 1) ->
  cutAt l i (fp l false a) = brkT u :: us.map brkT
 | us, u, i, a, h1, h1s, hd, ha => by
  obtain ⟨X, hX, hX0, hX1⟩ := comJ_head (t := brkT u) (ts := us.map brkT)
  rw [hX] at hd
  have hat := fun k => at_of hd k
  obtain ⟨b1, b2, b3, b4⟩ := brk_at u X
  have hlen := len_of hd (by unfold brkT; simp)
  have hbl : (brkT u).length = u.length + 2 := by unfold brkT; simp
  rw [List.length_append, hbl] at hlen
  have hskip : fp l false a = fp l false (i + 1 + u.length) := by
   have := fp_skip (l := l) (dbl := false) (i + 1 + u.length - a) a (fun j hj hj2 => ⟨by omega, mp_not (by
    obtain ⟨k, rfl⟩ : ∃ k, j = i + k := ⟨j - i, by omega⟩
    rw [hat k]
    cases k with
    | zero => rw [b2]; decide
    | succ k =>
     rw [b1 k (by omega)]
     intro he
     exact h1 41 (List.mem_of_getElem? he) rfl)⟩)
   rw [this]; congr 1; omega
  have hc := hat (u.length + 1)
  rw [b3, show i + (u.length + 1) = i + 1 + u.length by omega] at hc
  cases us with
  | nil =>
   have hX0 := hX0 rfl
   subst hX0
   have hl2 : l.length = i + 1 + u.length + 1 := by simp at hlen; omega
   have hov : over l (i + 1 + u.length + 1) = i + 1 + u.length + 1 := over_end (by omega)
   have hmp : mp l (i + 1 + u.length) false = none := by
    unfold mp
    rw [if_pos hc]
    simp only [Bool.false_eq_true, if_false, Option.bind_some, hov]
    rw [if_neg (by rw [List.getElem?_eq_none (by omega)]; simp)]
   rw [hskip, fp_none (ltl_at hc) hmp, fp_end (by omega), cutAt, hd, List.append_nil]; rfl
  | cons v vs =>
   have hX1 := hX1 (brkT v) (vs.map brkT) rfl
   obtain ⟨Y, hY, -, -⟩ := comJ_head (t := brkT v) (ts := vs.map brkT)
   have hc1 : l[i + 1 + u.length + 1]? = some 44 := by
    have := hat (u.length + 2 + 0)
    rw [b4 0, hX1] at this
    rw [show i + 1 + u.length + 1 = i + (u.length + 2 + 0) by omega]; exact this
   have hc2 : l[i + 1 + u.length + 2]? = some 40 := by
    have := hat (u.length + 2 + 1)
    rw [b4 1, hX1, hY] at this
    rw [show i + 1 + u.length + 2 = i + (u.length + 2 + 1) by omega]; exact this
   have ov1 : over l (i + 1 + u.length + 1) = i + 1 + u.length + 1 := over_stop hc1 (by decide)
   have ov2 : over l (i + 1 + u.length + 1 + 1) = i + 1 + u.length + 2 := over_stop hc2 (by decide)
   have hmp : mp l (i + 1 + u.length) false = some (i + 1 + u.length + 1, i + 1 + u.length + 2, i + 1 + u.length + 2 + 1) := by
    unfold mp
    rw [if_pos hc]
    simp only [Bool.false_eq_true, if_false, Option.bind_some, ov1, ov2]
    rw [if_pos hc1, if_pos hc2]
   have hd2 : l.drop (i + 1 + u.length + 2) = comJ (brkT v :: vs.map brkT) := by
    have := drop_next (l := l) (i := i) (t := brkT u) (r := comJ (brkT v :: vs.map brkT)) (by rw [hd, hX1])
    rw [hbl] at this
    rw [<- this]; congr 1; omega
   have ih := piece_join l vs v (i + 1 + u.length + 2) (i + 1 + u.length + 2 + 1) (h1s v (by simp)) (fun w hw => h1s w (List.mem_cons_of_mem _ hw)) hd2 (.inr rfl)
   rw [hskip, fp_some (ltl_at hc) hmp, cutAt, ih, hd]
   rw [show i + 1 + u.length + 1 - i = (brkT u).length by rw [hbl]; omega, List.take_left' rfl]
   rfl
theorem pieces_join {us : List (List UInt8)} (h0 : us ≠ []) (h1 : ∀ u ∈ us, ∀ c ∈ u, c ≠ 41) : pieces (comJ (us.map brkT)) false = us.map brkT := by
 cases us with
 | nil => exact absurd rfl h0
 | cons u us => exact piece_join _ us u 0 0 (h1 u (by simp)) (fun v hv => h1 v (List.mem_cons_of_mem _ hv)) rfl (.inl rfl)
def okP : List UInt8 -> Prop
 | [] => False
 | [c] => c = 41
 | c :: d :: r => (c = 41 -> d = 44) /\ okP (d :: r)
theorem okP_ring : ∀ (u : List UInt8), (∀ c ∈ u, c ≠ 41) -> okP (u ++ [41])
 | [], _ => rfl
 | c :: u, h => by
  have hc := h c (by simp)
  have ih := okP_ring u (fun x hx => h x (List.mem_cons_of_mem _ hx))
  cases u with
  | nil => exact ⟨fun e => absurd e hc, ih⟩
  | cons d u => exact ⟨fun e => absurd e hc, ih⟩
theorem okP_app : ∀ (A B : List UInt8), okP A -> okP B -> okP (A ++ 44 :: B)
 | [], _, h, _ => h.elim
 | [c], B, h, hB => by
  cases B with
  | nil => exact hB.elim
  | cons b B => exact ⟨fun _ => rfl, fun e => absurd e (by decide), hB⟩
 | c :: d :: r, B, h, hB => ⟨h.1, okP_app (d :: r) B h.2 hB⟩
theorem okP_next : ∀ {A : List UInt8} {k : Nat}, okP A -> A[k]? = some 41 -> k + 1 < A.length -> A[k + 1]? = some 44
 | [], _, h, _, _ => h.elim
 | [c], k, _, _, hk => by simp at hk
 | c :: d :: r, k, h, hk, hl => by
  cases k with
  | zero => simp at hk; simp [h.1 hk]
  | succ k =>
   rw [List.getElem?_cons_succ] at hk ⊢
   exact okP_next h.2 hk (by simpa using hl)
theorem okP_last : ∀ {A : List UInt8}, okP A -> A[A.length - 1]? = some 41 /\ A ≠ []
 | [], h => h.elim
 | [c], h => by have : c = 41 := h; subst this; exact ⟨rfl, by simp⟩
 | c :: d :: r, h => by
  have := (okP_last h.2).1
  refine ⟨?_, by simp⟩
  rw [show (c :: d :: r).length - 1 = ((d :: r).length - 1) + 1 by simp, List.getElem?_cons_succ]
  exact this
theorem not41_cons {u : List UInt8} (h : ∀ c ∈ u, c ≠ 41) : ∀ c ∈ (40 : UInt8) :: u, c ≠ 41 := by
 intro c hc
 rcases List.mem_cons.1 hc with rfl | hc
 ·decide
 ·exact h c hc
theorem okP_rings : ∀ (us : List (List UInt8)), us ≠ [] -> (∀ u ∈ us, ∀ c ∈ u, c ≠ 41) -> okP (comJ (us.map brkT))
 | [], h, _ => absurd rfl h
 | [u], _, h => by
  rw [List.map_cons, List.map_nil, comJ_one]
  exact okP_ring (40 :: u) (not41_cons (h u (by simp)))
 | u :: v :: us, _, h => by
  rw [List.map_cons, List.map_cons, comJ_cons]
  exact okP_app _ _ (okP_ring (40 :: u) (not41_cons (h u (by simp)))) (okP_rings (v :: us) (by simp) (fun x hx => h x (List.mem_cons_of_mem _ hx)))
structure PIn (C : List UInt8) : Prop where
 ok : okP C
 two : 2 <= C.length
 hd : C[0]? = some 40
theorem poly_join (l : List UInt8) : ∀ (Cs : List (List UInt8)) (C : List UInt8) (i a : Nat), PIn C -> (∀ v ∈ Cs, PIn v) -> l.drop i = comJ (brkT C :: Cs.map brkT) -> (a = i \/ a = i + 2) ->
  cutAt l i (fp l true a) = brkT C :: Cs.map brkT
 | Cs, C, i, a, h1, h1s, hd, ha => by
  obtain ⟨X, hX, hX0, hX1⟩ := comJ_head (t := brkT C) (ts := Cs.map brkT)
  rw [hX] at hd
  have hat := fun k => at_of hd k
  obtain ⟨b1, b2, b3, b4⟩ := brk_at C X
  have h2 := h1.two
  have hlen := len_of hd (by unfold brkT; simp)
  have hbl : (brkT C).length = C.length + 2 := by unfold brkT; simp
  rw [List.length_append, hbl] at hlen
  have hskip : fp l true a = fp l true (i + C.length) := by
   have := fp_skip (l := l) (dbl := true) (i + C.length - a) a (fun j hj hj2 => ⟨by omega, by
    obtain ⟨k, rfl⟩ : ∃ k, j = i + k := ⟨j - i, by omega⟩
    cases k with
    | zero => exact mp_not (by rw [hat 0, b2]; decide)
    | succ k =>
     have e := hat (k + 1)
     rw [b1 k (by omega)] at e
     by_cases h41 : C[k]? = some 41
     ·have hn := okP_next h1.ok h41 (by omega)
      have e2 := hat (k + 1 + 1)
      rw [b1 (k + 1) (by omega), hn] at e2
      have ov : over l (i + (k + 1) + 1) = i + (k + 1 + 1) := over_stop (by rw [show i + (k + 1) + 1 = i + (k + 1 + 1) by omega]; exact e2) (by decide)
      unfold mp
      rw [if_pos (by rw [e]; exact h41)]
      simp only [if_true, ov, e2]
      rw [if_neg (by decide)]; rfl
     ·exact mp_not (by rw [e]; exact h41)⟩)
   rw [this]; congr 1; omega
  have hc : l[i + C.length]? = some 41 := by
   have e := hat (C.length - 1 + 1)
   rw [b1 (C.length - 1) (by omega), (okP_last h1.ok).1] at e
   rw [show i + C.length = i + (C.length - 1 + 1) by omega]; exact e
  have hc1 : l[i + C.length + 1]? = some 41 := by
   have e := hat (C.length + 1)
   rw [b3] at e; exact e
  have ov1 : over l (i + C.length + 1) = i + C.length + 1 := over_stop hc1 (by decide)
  cases Cs with
  | nil =>
   have hX0 := hX0 rfl
   subst hX0
   have hl2 : l.length = i + C.length + 2 := by simp at hlen; omega
   have ov2 : over l (i + C.length + 1 + 1) = i + C.length + 1 + 1 := over_end (by omega)
   have hmp : mp l (i + C.length) true = none := by
    unfold mp
    rw [if_pos hc]
    simp only [if_true, ov1, if_pos hc1, Option.bind_some, ov2]
    rw [if_neg (by rw [List.getElem?_eq_none (by omega)]; simp)]
   have hmp2 : mp l (i + C.length + 1) true = none := by
    unfold mp
    rw [if_pos hc1]
    simp only [if_true, ov2]
    rw [if_neg (by rw [List.getElem?_eq_none (by omega)]; simp)]; rfl
   rw [hskip, fp_none (ltl_at hc) hmp, fp_none (ltl_at hc1) hmp2, fp_end (by omega), cutAt, hd, List.append_nil]; rfl
  | cons v vs =>
   have hX1 := hX1 (brkT v) (vs.map brkT) rfl
   obtain ⟨Y, hY, -, -⟩ := comJ_head (t := brkT v) (ts := vs.map brkT)
   have hv := h1s v (by simp)
   have hc2 : l[i + C.length + 2]? = some 44 := by
    have := hat (C.length + 2 + 0)
    rw [b4 0, hX1] at this; exact this
   have hc3 : l[i + C.length + 3]? = some 40 := by
    have := hat (C.length + 2 + 1)
    rw [b4 1, hX1, hY] at this; exact this
   have hc4 : l[i + C.length + 4]? = some 40 := by
    have := hat (C.length + 2 + 2)
    rw [b4 2, hX1, hY, List.getElem?_cons_succ, (brk_at v Y).1 0 (by have := hv.two; omega), hv.hd] at this; exact this
   have ov2 : over l (i + C.length + 1 + 1) = i + C.length + 2 := over_stop hc2 (by decide)
   have ov3 : over l (i + C.length + 2 + 1) = i + C.length + 3 := over_stop hc3 (by decide)
   have ov4 : over l (i + C.length + 3 + 1) = i + C.length + 4 := over_stop hc4 (by decide)
   have hmp : mp l (i + C.length) true = some (i + C.length + 2, i + C.length + 3, i + C.length + 4 + 1) := by
    unfold mp
    rw [if_pos hc]
    simp only [if_true, ov1, if_pos hc1, Option.bind_some, ov2, if_pos hc2, ov3, if_pos hc3, ov4, if_pos hc4]
   have hd2 : l.drop (i + C.length + 3) = comJ (brkT v :: vs.map brkT) := by
    have := drop_next (l := l) (i := i) (t := brkT C) (r := comJ (brkT v :: vs.map brkT)) (by rw [hd, hX1])
    rw [hbl] at this
    rw [<- this]; congr 1
   have ih := poly_join l vs v (i + C.length + 3) (i + C.length + 4 + 1) hv (fun w hw => h1s w (List.mem_cons_of_mem _ hw)) hd2 (.inr (by omega))
   rw [hskip, fp_some (ltl_at hc) hmp, cutAt, ih, hd]
   rw [show i + C.length + 2 - i = (brkT C).length by rw [hbl]; omega, List.take_left' rfl]
   rfl
theorem polys_join {Cs : List (List UInt8)} (h0 : Cs ≠ []) (h1 : ∀ u ∈ Cs, PIn u) : pieces (comJ (Cs.map brkT)) true = Cs.map brkT := by
 cases Cs with
 | nil => exact absurd rfl h0
 | cons u us => exact poly_join _ us u 0 0 (h1 u (by simp)) (fun v hv => h1 v (List.mem_cons_of_mem _ hv)) rfl (.inl rfl)
def bal : Nat -> List UInt8 -> Option Nat
 | d, [] => some d
 | d, c :: r => if c = 40 then bal (d + 1) r else if c = 41 then (if d = 0 then none else bal (d - 1) r) else if c = 44 then (if d = 0 then none else bal d r) else bal d r
theorem bal_app : ∀ (a b : List UInt8) (d : Nat), bal d (a ++ b) = (bal d a).bind fun e => bal e b
 | [], b, d => rfl
 | c :: a, b, d => by
  rw [List.cons_append, bal, bal]
  split
  ·exact bal_app a b _
  ·split
   ·split
    ·rfl
    ·exact bal_app a b _
   ·split
    ·split
     ·rfl
     ·exact bal_app a b _
    ·exact bal_app a b _
theorem bal_pl : ∀ (t : List UInt8) (d : Nat), Pl t -> bal d t = some d
 | [], d, _ => rfl
 | c :: t, d, h => by
  obtain ⟨h1, h2, h3⟩ := h c (by simp)
  rw [bal, if_neg h1, if_neg h2, if_neg h3, bal_pl t d (fun x hx => h x (List.mem_cons_of_mem _ hx))]
def Bal (t : List UInt8) : Prop := ∀ d, bal d t = some d
def BalIn (t : List UInt8) : Prop := ∀ d, bal (d + 1) t = some (d + 1)
theorem Bal.app {a b : List UInt8} (ha : Bal a) (hb : Bal b) : Bal (a ++ b) := fun d => by rw [bal_app, ha d]; exact hb d
theorem bal_brkT {t : List UInt8} (h : BalIn t) : Bal (brkT t) := by
 intro d
 unfold brkT
 rw [List.cons_append, bal, if_pos rfl, bal_app, h d]
 show bal (d + 1) [41] = _
 rw [bal, if_neg (by decide), if_pos rfl, if_neg (by omega)]; rfl
theorem balIn_comJ : ∀ (ts : List (List UInt8)), (∀ t ∈ ts, Bal t) -> BalIn (comJ ts)
 | [], _ => fun d => rfl
 | [t], h => by rw [comJ_one]; exact fun d => h t (by simp) _
 | t :: u :: r, h => by
  intro d
  rw [comJ_cons, bal_app, h t (by simp) (d + 1)]
  show bal (d + 1) (44 :: comJ (u :: r)) = _
  rw [bal, if_neg (by decide), if_neg (by decide), if_pos rfl, if_neg (by omega)]
  exact balIn_comJ (u :: r) (fun x hx => h x (List.mem_cons_of_mem _ hx)) d
theorem gc_run (l : List UInt8) : ∀ (t r : List UInt8) (i d d' st : Nat), bal d t = some d' -> gc l (t ++ r) i (d : Int) st = gc l r (i + t.length) (d' : Int) st
 | [], r, i, d, d', st, h => by simp [bal] at h; subst h; simp
 | c :: t, r, i, d, d', st, h => by
  rw [bal] at h
  rw [List.cons_append, gc, List.length_cons, show i + (t.length + 1) = i + 1 + t.length by omega]
  split at h
  ·rename_i hc
   rw [if_pos hc, <- gc_run l t r (i + 1) (d + 1) d' st h]; rfl
  ·rename_i hc
   rw [if_neg hc]
   split at h
   ·rename_i hc2
    split at h
    ·cases h
    ·rw [if_pos hc2, <- gc_run l t r (i + 1) (d - 1) d' st h]; congr 1; omega
   ·rename_i hc2
    rw [if_neg hc2]
    split at h
    ·rename_i hc3
     split at h
     ·cases h
     ·rw [if_pos hc3, if_neg (by omega), <- gc_run l t r (i + 1) d d' st h]
    ·rename_i hc3
     rw [if_neg hc3, <- gc_run l t r (i + 1) d d' st h]
theorem gc_join (l : List UInt8) : ∀ (ts : List (List UInt8)) (t : List UInt8) (i : Nat), TG t -> Bal t -> (∀ u ∈ ts, TG u /\ Bal u) -> l.drop i = comJ (t :: ts) -> gc l (comJ (t :: ts)) i 0 i = t :: ts
 | [], t, i, hg, hb, _, hd => by
  rw [comJ_one] at hd ⊢
  have := gc_run l t [] i 0 0 i (hb 0)
  rw [List.append_nil] at this
  rw [show (0 : Int) = ((0 : Nat) : Int) from rfl, this, gc, hd, trim_tg hg]
 | u :: ts, t, i, hg, hb, hs, hd => by
  rw [comJ_cons] at hd ⊢
  rw [show (0 : Int) = ((0 : Nat) : Int) from rfl, gc_run l t (44 :: comJ (u :: ts)) i 0 0 i (hb 0), gc, if_neg (by decide), if_neg (by decide), if_pos rfl, if_pos (show ((0 : Nat) : Int) = 0 from rfl)]
  have ih := gc_join l ts u (i + t.length + 1) (hs u (by simp)).1 (hs u (by simp)).2 (fun x hx => hs x (List.mem_cons_of_mem _ hx)) (drop_next hd)
  rw [show ((0 : Nat) : Int) = 0 from rfl, ih, hd, show i + t.length - i = t.length by omega, List.take_left' rfl, trim_tg hg]
theorem members_join {ts : List (List UInt8)} (h0 : ts ≠ []) (h : ∀ u ∈ ts, TG u /\ Bal u) : members (comJ ts) = ts := by
 cases ts with
 | nil => exact absurd rfl h0
 | cons t ts => exact gc_join _ ts t 0 (h t (by simp)).1 (h t (by simp)).2 (fun x hx => h x (List.mem_cons_of_mem _ hx)) rfl
end Go.Proofs.YtdfolbmoohcblaaGreatDoor
namespace Go.Proofs.YtdfolbmoohcblaaGreatDoor
def VL (ps : List (Nat × Nat)) : Prop := ∀ p ∈ ps, VN p.1 /\ VN p.2
def RL (rss : List (List (Nat × Nat))) : Prop := ∀ ps ∈ rss, ps ≠ [] /\ VL ps
mutual
def WF : Geo -> Prop
 | .point p => VN p.1 /\ VN p.2
 | .line ps => VL ps
 | .poly rss => RL rss
 | .mpoint ps => VL ps
 | .mline rss => RL rss
 | .mpoly xs => ∀ rss ∈ xs, rss ≠ [] /\ RL rss
 | .coll gs => WFs gs
def WFs : List Geo -> Prop
 | [] => True
 | g :: gs => WF g /\ WFs gs
end
def Lo (t : List UInt8) : Prop := ∀ c ∈ t, c.toNat < 128
theorem Lo.app {a b : List UInt8} (ha : Lo a) (hb : Lo b) : Lo (a ++ b) := by
 intro c hc
 rcases List.mem_append.1 hc with hc | hc
 ·exact ha c hc
 ·exact hb c hc
theorem Lo.low {t : List UInt8} (h : Lo t) : low128 t = true := by
 unfold low128
 rw [List.all_eq_true]
 intro c hc
 exact decide_eq_true (h c hc)
theorem lo_of {t : List UInt8} (h : low128 t = true) : Lo t := by
 intro c hc
 unfold low128 at h
 exact of_decide_eq_true (List.all_eq_true.1 h c hc)
theorem lo_brkT {t : List UInt8} (h : Lo t) : Lo (brkT t) := by
 have : brkT t = [40] ++ t ++ [41] := by unfold brkT; simp
 rw [this]
 exact ((lo_of (by decide)).app h).app (lo_of (by decide))
theorem comJ_mem : ∀ {ts : List (List UInt8)} {c : UInt8}, c ∈ comJ ts -> c = 44 \/ ∃ t ∈ ts, c ∈ t
 | [], c, h => by rw [comJ_nil] at h; cases h
 | [t], c, h => by rw [comJ_one] at h; exact .inr ⟨t, by simp, h⟩
 | t :: u :: r, c, h => by
  rw [comJ_cons] at h
  rcases List.mem_append.1 h with h | h
  ·exact .inr ⟨t, by simp, h⟩
  ·rcases List.mem_cons.1 h with h | h
   ·exact .inl h
   ·rcases comJ_mem h with h | ⟨x, hx, hc⟩
    ·exact .inl h
    ·exact .inr ⟨x, List.mem_cons_of_mem _ hx, hc⟩
theorem lo_comJ {ts : List (List UInt8)} (h : ∀ t ∈ ts, Lo t) : Lo (comJ ts) := by
 intro c hc
 rcases comJ_mem hc with rfl | ⟨t, ht, hc⟩
 ·decide
 ·exact h t ht c hc
theorem lo_ptT (p : Nat × Nat) : Lo (ptT p) := by
 intro c hc
 unfold ptT at hc
 rcases List.mem_append.1 hc with hc | hc
 ·exact (nc_not ((fmtT_ncs p.1).1 c hc)).2.2.2.2.2.2
 ·rcases List.mem_cons.1 hc with rfl | hc
  ·decide
  ·exact (nc_not ((fmtT_ncs p.2).1 c hc)).2.2.2.2.2.2
theorem lo_lineT (ps : List (Nat × Nat)) : Lo (lineT ps) := lo_brkT (lo_comJ (fun t ht => by obtain ⟨p, -, rfl⟩ := List.mem_map.1 ht; exact lo_ptT p))
theorem lo_polyT (rss : List (List (Nat × Nat))) : Lo (polyT rss) := lo_brkT (lo_comJ (fun t ht => by obtain ⟨p, -, rfl⟩ := List.mem_map.1 ht; exact lo_lineT p))
structure Nm (nm e : List UInt8) : Prop where
 et : e = nm ++ [32, 69, 77, 80, 84, 89]
 hd : ∃ a m, nm = a :: m /\ sp3 a = false
 pl : Pl nm
 lo : Lo nm
 fe : foldEq e e = true
theorem nmOk {nm e : List UInt8} (h : (e == nm ++ [32, 69, 77, 80, 84, 89] && nm.all (fun c => c != 40 && c != 41 && c != 44 && decide (c.toNat < 128)) && foldEq e e && (match nm with | [] => false | a :: _ => !sp3 a)) = true) : Nm nm e := by
 simp only [Bool.and_eq_true, beq_iff_eq] at h
 obtain ⟨⟨⟨h1, h2⟩, h3⟩, h4⟩ := h
 rw [List.all_eq_true] at h2
 refine ⟨h1, ?_, ?_, ?_, h3⟩
 ·cases nm with
  | nil => cases h4
  | cons a m => exact ⟨a, m, rfl, by simpa using h4⟩
 ·intro c hc
  have := h2 c hc
  simp only [Bool.and_eq_true, bne_iff_ne] at this
  exact ⟨this.1.1.1, this.1.1.2, this.1.2⟩
 ·intro c hc
  have := h2 c hc
  simp only [Bool.and_eq_true, decide_eq_true_eq] at this
  exact this.2
theorem nm_line : Nm nmLine txLine := nmOk (by decide +kernel)
theorem nm_poly : Nm nmPoly txPoly := nmOk (by decide +kernel)
theorem nm_mpoint : Nm nmMPoint txMPoint := nmOk (by decide +kernel)
theorem nm_mline : Nm nmMLine txMLine := nmOk (by decide +kernel)
theorem nm_mpoly : Nm nmMPoly txMPoly := nmOk (by decide +kernel)
theorem nm_coll : Nm nmColl txColl := nmOk (by decide +kernel)
theorem fold_no (nm u r : List UInt8) : foldEq (nm ++ brkT u) (nm ++ 32 :: r) = false := by
 unfold foldEq brkT
 rw [List.zip_append rfl, List.all_append]
 have : ((40 :: u ++ [41]).zip (32 :: r)).all (fun p => eqf p.1 p.2) = false := by
  rw [List.cons_append, List.zip_cons_cons, List.all_cons, show eqf 40 32 = false by decide]; rfl
 rw [this, Bool.and_false, Bool.and_false]
theorem tg_name {nm e : List UInt8} (h : Nm nm e) (t : List UInt8) (b : UInt8) (hb : sp3 b = false) : TG (nm ++ (t ++ [b])) := by
 obtain ⟨a, m, rfl, ha⟩ := h.hd
 exact ⟨a, m ++ t, b, by simp, ha, hb⟩
theorem tg_whole {nm e : List UInt8} (h : Nm nm e) (ts : List (List UInt8)) : TG (wholeT nm e ts) := by
 unfold wholeT
 split
 ·rw [h.et]; exact tg_name h [32, 69, 77, 80, 84] 89 (by decide)
 ·exact tg_name h (40 :: comJ ts) 41 (by decide)
theorem lo_whole {nm e : List UInt8} (h : Nm nm e) {ts : List (List UInt8)} (ht : ∀ t ∈ ts, Lo t) : Lo (wholeT nm e ts) := by
 unfold wholeT
 split
 ·rw [h.et]; exact h.lo.app (lo_of (by decide))
 ·exact h.lo.app (lo_brkT (lo_comJ ht))
theorem bal_whole {nm e : List UInt8} (h : Nm nm e) {ts : List (List UInt8)} (ht : ∀ t ∈ ts, Bal t) : Bal (wholeT nm e ts) := by
 have h1 : Bal nm := fun d => bal_pl _ d h.pl
 unfold wholeT
 split
 ·rw [h.et]; exact h1.app (fun d => rfl)
 ·exact h1.app (bal_brkT (balIn_comJ ts ht))
theorem whole_inv {α : Type} {nm e : List UInt8} (h : Nm nm e) {ts : List (List UInt8)} (ht : ∀ t ∈ ts, Lo t /\ TG t) {k : Nat} (hk : nm.length = k) {R : List UInt8 -> List α -> Prop} {xs : List α} (hw : Whole e k R (wholeT nm e ts) xs) :
  (ts = [] /\ xs = []) \/ (ts ≠ [] /\ R (comJ ts) xs) := by
 have hlow := (lo_whole h (fun t h => (ht t h).1)).low
 by_cases h0 : ts = []
 ·left
  refine ⟨h0, ?_⟩
  have e1 : wholeT nm e ts = e := if_pos h0
  rcases hw with ⟨-, h2⟩ | ⟨h1, -⟩
  ·exact h2
  ·have := h1 hlow
   rw [e1, h.fe] at this
   cases this
 ·right
  refine ⟨h0, ?_⟩
  have e1 : wholeT nm e ts = nm ++ brkT (comJ ts) := if_neg h0
  rw [e1] at hw hlow
  rcases hw with ⟨h1, -⟩ | ⟨-, t, hb, hr⟩
  ·have := h1 hlow
   rw [h.et, fold_no] at this
   cases this
  ·rw [List.drop_left' hk, brk_brkT (tg_comJ ts h0 (fun t h => (ht t h).2))] at hb
   cases hb
   exact hr
theorem whole_bad {nm e : List UInt8} (h : Nm nm e) {ts : List (List UInt8)} (ht : ∀ t ∈ ts, Lo t /\ TG t) {k : Nat} (hk : nm.length = k) {F : List UInt8 -> Prop} (hw : WholeBad e k F (wholeT nm e ts)) : ts ≠ [] /\ F (comJ ts) := by
 have hlow := (lo_whole h (fun t h => (ht t h).1)).low
 obtain ⟨h1, h2⟩ := hw
 have h1 := h1 hlow
 by_cases h0 : ts = []
 ·have e1 : wholeT nm e ts = e := if_pos h0
  rw [e1, h.fe] at h1
  cases h1
 ·refine ⟨h0, ?_⟩
  have e1 : wholeT nm e ts = nm ++ brkT (comJ ts) := if_neg h0
  rw [e1, List.drop_left' hk, brk_brkT (tg_comJ ts h0 (fun t h => (ht t h).2))] at h2
  rcases h2 with h2 | ⟨t, hb, hr⟩
  ·cases h2
  ·cases hb
   exact hr
theorem PtR.only {p q : Nat × Nat} (hp : VN p.1 /\ VN p.2) (h : PtR (ptT p) q) : q = p := (h.2.2 p (ptP_ptT p hp.1 hp.2)).symm
theorem all2_only {α : Type} {f : α -> List UInt8} {R : List UInt8 -> α -> Prop} : ∀ (xs ys : List α), (∀ x ∈ xs, ∀ y, R (f x) y -> y = x) -> All2 R (xs.map f) ys -> ys = xs
 | [], [], _, _ => rfl
 | [], _ :: _, _, h => h.elim
 | _ :: _, [], _, h => h.elim
 | x :: xs, y :: ys, hx, h => by
  have h : R (f x) y /\ All2 R (xs.map f) ys := h
  rw [hx x (by simp) y h.1, all2_only xs ys (fun z hz => hx z (List.mem_cons_of_mem _ hz)) h.2]
theorem pts_pieces {ps : List (Nat × Nat)} (h0 : ps ≠ []) : commaPieces (comJ (ps.map ptT)) = ps.map ptT :=
 comma_join (by simpa using h0) (fun u hu => by obtain ⟨p, -, rfl⟩ := List.mem_map.1 hu; exact tg_ptT p) (fun u hu c hc => by obtain ⟨p, -, rfl⟩ := List.mem_map.1 hu; exact (pl_ptT p c hc).2.2)
theorem LineR.only {ps qs : List (Nat × Nat)} (h0 : ps ≠ []) (hv : VL ps) (h : LineR (comJ (ps.map ptT)) qs) : qs = ps := by
 unfold LineR at h
 rw [pts_pieces h0] at h
 exact all2_only ps qs (fun p hp q hq => PtR.only (hv p hp) hq) h
theorem LineF.no {ps : List (Nat × Nat)} (h0 : ps ≠ []) (hv : VL ps) : ¬ LineF (comJ (ps.map ptT)) := by
 rintro ⟨u, hu, hn⟩
 rw [pts_pieces h0] at hu
 obtain ⟨p, hp, rfl⟩ := List.mem_map.1 hu
 rw [ptP_ptT p (hv p hp).1 (hv p hp).2] at hn
 cases hn
theorem tg_pts {ps : List (Nat × Nat)} (h0 : ps ≠ []) : TG (comJ (ps.map ptT)) := tg_comJ _ (by simpa using h0) (fun u hu => by obtain ⟨p, -, rfl⟩ := List.mem_map.1 hu; exact tg_ptT p)
theorem brk_lineT {ps : List (Nat × Nat)} (h0 : ps ≠ []) : brk (lineT ps) = some (comJ (ps.map ptT)) := brk_brkT (tg_pts h0)
theorem RingR.only {ps qs : List (Nat × Nat)} (h0 : ps ≠ []) (hv : VL ps) (h : RingR (lineT ps) qs) : qs = ps := by
 obtain ⟨t, hb, hl⟩ := h
 rw [brk_lineT h0] at hb
 cases hb
 exact LineR.only h0 hv hl
theorem RingF.no {ps : List (Nat × Nat)} (h0 : ps ≠ []) (hv : VL ps) : ¬ RingF (lineT ps) := by
 rintro (hb | ⟨t, hb, hl⟩)
 ·rw [brk_lineT h0] at hb; cases hb
 ·rw [brk_lineT h0] at hb
  cases hb
  exact LineF.no h0 hv hl
theorem pts41 (ps : List (Nat × Nat)) : ∀ c ∈ comJ (ps.map ptT), c ≠ 41 := by
 intro c hc
 rcases comJ_mem hc with rfl | ⟨t, ht, hc⟩
 ·decide
 ·obtain ⟨p, -, rfl⟩ := List.mem_map.1 ht; exact (pl_ptT p c hc).2.1
theorem lines_map (rss : List (List (Nat × Nat))) : rss.map lineT = (rss.map fun ps => comJ (ps.map ptT)).map brkT := by rw [List.map_map]; rfl
theorem rings_pieces {rss : List (List (Nat × Nat))} (h0 : rss ≠ []) : pieces (comJ (rss.map lineT)) false = rss.map lineT := by
 rw [lines_map]
 exact pieces_join (by simpa using h0) (fun u hu => by obtain ⟨ps, -, rfl⟩ := List.mem_map.1 hu; exact pts41 ps)
theorem PolyR.only {rss qss : List (List (Nat × Nat))} (h0 : rss ≠ []) (hv : RL rss) (h : PolyR false (comJ (rss.map lineT)) qss) : qss = rss := by
 unfold PolyR at h
 rw [rings_pieces h0] at h
 exact all2_only rss qss (fun ps hp qs hq => RingR.only (hv ps hp).1 (hv ps hp).2 hq) h
theorem PolyF.no {rss : List (List (Nat × Nat))} (h0 : rss ≠ []) (hv : RL rss) : ¬ PolyF false (comJ (rss.map lineT)) := by
 rintro ⟨u, hu, hn⟩
 rw [rings_pieces h0] at hu
 obtain ⟨p, hp, rfl⟩ := List.mem_map.1 hu
 exact RingF.no (hv p hp).1 (hv p hp).2 hn
theorem tg_lines {rss : List (List (Nat × Nat))} (h0 : rss ≠ []) : TG (comJ (rss.map lineT)) := tg_comJ _ (by simpa using h0) (fun u hu => by obtain ⟨p, -, rfl⟩ := List.mem_map.1 hu; exact tg_brkT _)
theorem brk_polyT {rss : List (List (Nat × Nat))} (h0 : rss ≠ []) : brk (polyT rss) = some (comJ (rss.map lineT)) := brk_brkT (tg_lines h0)
theorem pin_lines {rss : List (List (Nat × Nat))} (h0 : rss ≠ []) : PIn (comJ (rss.map lineT)) := by
 refine ⟨?_, ?_, ?_⟩
 ·rw [lines_map]
  exact okP_rings _ (by simpa using h0) (fun u hu => by obtain ⟨ps, -, rfl⟩ := List.mem_map.1 hu; exact pts41 ps)
 ·cases rss with
  | nil => exact absurd rfl h0
  | cons ps rss =>
   obtain ⟨X, hX, -⟩ := comJ_head (t := lineT ps) (ts := rss.map lineT)
   rw [List.map_cons, hX, List.length_append]
   have : 2 <= (lineT ps).length := by unfold lineT; simp
   omega
 ·cases rss with
  | nil => exact absurd rfl h0
  | cons ps rss =>
   obtain ⟨X, hX, -⟩ := comJ_head (t := lineT ps) (ts := rss.map lineT)
   rw [List.map_cons, hX]; rfl
theorem polys_map (xs : List (List (List (Nat × Nat)))) : xs.map polyT = (xs.map fun rss => comJ (rss.map lineT)).map brkT := by rw [List.map_map]; rfl
theorem polys_pieces {xs : List (List (List (Nat × Nat)))} (h0 : xs ≠ []) (hv : ∀ rss ∈ xs, rss ≠ [] /\ RL rss) : pieces (comJ (xs.map polyT)) true = xs.map polyT := by
 rw [polys_map]
 exact polys_join (by simpa using h0) (fun u hu => by obtain ⟨rss, hr, rfl⟩ := List.mem_map.1 hu; exact pin_lines (hv rss hr).1)
theorem MPolyR.only {xs ys : List (List (List (Nat × Nat)))} (h0 : xs ≠ []) (hv : ∀ rss ∈ xs, rss ≠ [] /\ RL rss) (h : MPolyR (comJ (xs.map polyT)) ys) : ys = xs := by
 unfold MPolyR at h
 rw [polys_pieces h0 hv] at h
 refine all2_only xs ys (fun rss hr qss hq => ?_) h
 obtain ⟨t, hb, hl⟩ := hq
 rw [brk_polyT (hv rss hr).1] at hb
 cases hb
 exact PolyR.only (hv rss hr).1 (hv rss hr).2 hl
theorem MPolyF.no {xs : List (List (List (Nat × Nat)))} (h0 : xs ≠ []) (hv : ∀ rss ∈ xs, rss ≠ [] /\ RL rss) : ¬ MPolyF (comJ (xs.map polyT)) := by
 rintro ⟨u, hu, hn⟩
 rw [polys_pieces h0 hv] at hu
 obtain ⟨rss, hr, rfl⟩ := List.mem_map.1 hu
 rcases hn with hb | ⟨t, hb, hl⟩
 ·rw [brk_polyT (hv rss hr).1] at hb; cases hb
 ·rw [brk_polyT (hv rss hr).1] at hb
  cases hb
  exact PolyF.no (hv rss hr).1 (hv rss hr).2 hl
def bptT (p : Nat × Nat) : List UInt8 := brkT (ptT p)
theorem bpts_pieces {ps : List (Nat × Nat)} (h0 : ps ≠ []) : commaPieces (comJ (ps.map bptT)) = ps.map bptT :=
 comma_join (by simpa using h0) (fun u hu => by obtain ⟨p, -, rfl⟩ := List.mem_map.1 hu; exact tg_brkT _) (fun u hu c hc => by
  obtain ⟨p, -, rfl⟩ := List.mem_map.1 hu
  unfold bptT brkT at hc
  rcases List.mem_append.1 hc with hc | hc
  ·rcases List.mem_cons.1 hc with rfl | hc
   ·decide
   ·exact (pl_ptT p c hc).2.2
  ·rw [List.mem_singleton.1 hc]; decide)
theorem MPointR.only {ps qs : List (Nat × Nat)} (h0 : ps ≠ []) (hv : VL ps) (h : MPointR (comJ (ps.map bptT)) qs) : qs = ps := by
 unfold MPointR at h
 rw [bpts_pieces h0] at h
 refine all2_only ps qs (fun p hp q hq => ?_) h
 obtain ⟨t, hb, hl⟩ := hq
 rw [show brk (bptT p) = some (ptT p) from brk_brkT (tg_ptT p)] at hb
 cases hb
 exact PtR.only (hv p hp) hl
theorem MPointF.no {ps : List (Nat × Nat)} (h0 : ps ≠ []) (hv : VL ps) : ¬ MPointF (comJ (ps.map bptT)) := by
 rintro ⟨u, hu, hn⟩
 rw [bpts_pieces h0] at hu
 obtain ⟨p, hp, rfl⟩ := List.mem_map.1 hu
 rcases hn with hb | ⟨t, hb, hl⟩
 ·rw [show brk (bptT p) = some (ptT p) from brk_brkT (tg_ptT p)] at hb; cases hb
 ·rw [show brk (bptT p) = some (ptT p) from brk_brkT (tg_ptT p)] at hb
  cases hb
  rw [ptP_ptT p (hv p hp).1 (hv p hp).2] at hl
  cases hl
theorem up_nm {nm : List UInt8} (h1 : nm.length <= 20) (h2 : nm.map up = nm) (r : List UInt8) : ∃ X, up20 (nm ++ r) = nm ++ X := by
 unfold up20
 refine ⟨(r.take (20 - nm.length)).map up ++ List.replicate (20 - (nm ++ r).length) 0, ?_⟩
 rw [List.take_append, List.take_of_length_le h1, List.map_append, h2, List.append_assoc]
theorem kind_point (r : List UInt8) : kindOf (nmPoint ++ r) = 0 := by
 obtain ⟨X, hX⟩ := up_nm (nm := nmPoint) (by decide) (by decide) r
 unfold kindOf; rw [hX]; simp [nmPoint]
theorem kind_line (r : List UInt8) : kindOf (nmLine ++ r) = 1 := by
 obtain ⟨X, hX⟩ := up_nm (nm := nmLine) (by decide) (by decide) r
 unfold kindOf; rw [hX]; simp [nmLine]
theorem kind_poly (r : List UInt8) : kindOf (nmPoly ++ r) = 2 := by
 obtain ⟨X, hX⟩ := up_nm (nm := nmPoly) (by decide) (by decide) r
 unfold kindOf; rw [hX]; simp [nmPoly]
theorem kind_mpoint (r : List UInt8) : kindOf (nmMPoint ++ r) = 3 := by
 obtain ⟨X, hX⟩ := up_nm (nm := nmMPoint) (by decide) (by decide) r
 unfold kindOf; rw [hX]; simp [nmMPoint]
theorem kind_mline (r : List UInt8) : kindOf (nmMLine ++ r) = 4 := by
 obtain ⟨X, hX⟩ := up_nm (nm := nmMLine) (by decide) (by decide) r
 unfold kindOf; rw [hX]; simp [nmMLine]
theorem kind_mpoly (r : List UInt8) : kindOf (nmMPoly ++ r) = 5 := by
 obtain ⟨X, hX⟩ := up_nm (nm := nmMPoly) (by decide) (by decide) r
 unfold kindOf; rw [hX]; simp [nmMPoly]
theorem kind_coll (r : List UInt8) : kindOf (nmColl ++ r) = 6 := by
 obtain ⟨X, hX⟩ := up_nm (nm := nmColl) (by decide) (by decide) r
 unfold kindOf; rw [hX]; simp [nmColl]
theorem whole_nm {nm e : List UInt8} (h : Nm nm e) (ts : List (List UInt8)) : ∃ r, wholeT nm e ts = nm ++ r := by
 unfold wholeT
 split
 ·exact ⟨_, h.et⟩
 ·exact ⟨_, rfl⟩
end Go.Proofs.YtdfolbmoohcblaaGreatDoor
