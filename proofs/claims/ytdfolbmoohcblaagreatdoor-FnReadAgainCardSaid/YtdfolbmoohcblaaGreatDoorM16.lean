/-
For FnReadAgain, part 16: W5j.
-/
import Derived.Test.YtdfolbmoohcblaaGreatDoorM14
import Derived.Test.YtdfolbmoohcblaaGreatDoorM15
set_option linter.all false
namespace Go.Proofs.YtdfolbmoohcblaaGreatDoor
set_option maxHeartbeats 4000000
set_option maxRecDepth 100000
open Go.RowKit
def TP (l : List UInt8) (a : Act) : Prop :=
 match readN l with
 | none => RBad a
 | some r => RSl a r.m r.exp r.neg r.tr r.hex r.n true \/ (r.us = true /\ RBad a)
theorem TP.bad {l : List UInt8} {a : Act} (h : readN l = none) (hb : RBad a) : TP l a := by unfold TP; rw [h]; exact hb
theorem TP.us {l : List UInt8} {a : Act} {r : RF} (h : readN l = some r) (hu : r.us = true) (hb : RBad a) : TP l a := by unfold TP; rw [h]; exact Or.inr ⟨hu, hb⟩
theorem TP.good {l : List UInt8} {a : Act} {r : RF} (h : readN l = some r) (hb : RSl a r.m r.exp r.neg r.tr r.hex r.n true) : TP l a := by unfold TP; rw [h]; exact Or.inl hb
theorem tail_FD (s : ByteArray) (hs : s.size <= 1099511627776) (neg : Bool) (j J pos : Nat) (st : RS) (x : Nat -> Value) (w : World) (Q : Exit -> Act -> World -> Prop)
  (h1 : sgnLen (ls s) = j) (h2 : isHex ((ls s).drop j) = false) (h3 : j = J) (h4 : LRe false (ls s) J pos st) (hneg : neg = decide ((ls s).head? = some 45))
  (hQ : ∀ a, TP (ls s) a -> Q .ret a w) :
  Code.wp Tryz.prog tailR Q (FD s neg st.us st.m st.dot st.dig st.nd st.ndm st.dp st.tr pos x) w := by
 have h3' : (if false = true then j + 2 else j) = J := by simpa using h3
 have hpl := h4.pl
 rw [ls_length] at hpl
 have i1 := h4.inv.nd
 have i2 := h4.inv.lo
 have i3 := h4.inv.hi
 have i4 : st.ndm <= 19 := h4.inv.k
 have i6 := h4.inv.le
 have hnx := fun h => readN_noexp (st := st) h1 h2 h3' h4 h
 have hso := fun n us e h h' => readN_some (st := st) (n := n) (us := us) (e := e) h1 h2 h3' h4 h h'
 have hnd := fun h => readN_nodig (st := st) h1 h2 h3' h4 h
 clear h1 h2 h3 h3' h4
 obtain ⟨us, m, dot, dig, nd, ndm, dp, tr⟩ := st
 dsimp only at i1 i2 i3 i4 i6 hnx hso hnd ⊢
 subst hneg
 cases dig
 ·cases dot
  ·exact td_int_nodig s hs _ us m nd ndm dp tr pos x w Q hpl i1 i2 i3 i4 i6 (fun a h => hQ a (TP.bad (hnd rfl) h))
  ·exact td_dot_nodig s hs _ us m nd ndm dp tr pos x w Q hpl i1 i2 i3 i4 i6 (fun a h => hQ a (TP.bad (hnd rfl) h))
 by_cases hp : pos < s.size
 ·have hc := ls_getElem? s pos hp
  obtain ⟨c, hcc⟩ : ∃ c, s[pos] = c := ⟨_, rfl⟩
  rw [hcc] at hc
  by_cases hE : lo c = 101
  ·have hE' : lo c = (if false = true then 112 else 101) := by simpa using hE
   by_cases hp1 : pos + 1 < s.size
   ·have hc1 := ls_getElem? s (pos + 1) hp1
    obtain ⟨c1, hcc1⟩ : ∃ c1, s[pos + 1] = c1 := ⟨_, rfl⟩
    rw [hcc1] at hc1
    by_cases h43 : c1 = 43
    ·have hk : (if (ls s)[pos + 1]? = some 43 \/ (ls s)[pos + 1]? = some 45 then 1 else 0) = 1 := by rw [hc1, if_pos (Or.inl (by rw [h43]))]
     have hsg : (if (ls s)[pos + 1]? = some 45 then (-1 : Int) else 1) = 1 := by rw [hc1, h43]; rfl
     by_cases hp2 : pos + 1 + 1 < s.size
     ·have hd := ls_getElem? s (pos + 1 + 1) hp2
      obtain ⟨d, hdd⟩ : ∃ d, s[pos + 1 + 1] = d := ⟨_, rfl⟩
      rw [hdd] at hd
      by_cases hdig : isD d = true
      ·have hdr := (isD_iff d).1 hdig
       have hg := expR_good false us (ls s) pos c d 1 hc hE' hk hd hdig
       rw [hsg] at hg
       cases dot
       ·refine td_int_plus_go s hs _ us m nd ndm dp tr pos x w Q hpl i1 i2 i3 i4 i6 c c1 hp hcc hE hp1 hcc1 h43 hp2 d hdd hdr.1 hdr.2 (fun p e u hh hu a hb => hQ a (TP.us (hso _ _ _ rfl hg) ?_ hb)) (fun p e u hh a hb => hQ a (TP.good (hso _ _ _ rfl hg) ?_))
        ·have r2 := hh.r2
         exact r2.trans hu
        ·have r1 := hh.r1
         have r3 := hh.r3
         have r1' : (expL 0 us ((ls s).drop (pos + 1 + 1))).1 = e := r1
         have r3' : pos + 1 + 1 + (expL 0 us ((ls s).drop (pos + 1 + 1))).2.2 = p := r3
         refine rsl_eq hb ?_ ?_
         ·dsimp only; rw [r1']; simp
         ·dsimp only; omega
       ·refine td_dot_plus_go s hs _ us m nd ndm dp tr pos x w Q hpl i1 i2 i3 i4 i6 c c1 hp hcc hE hp1 hcc1 h43 hp2 d hdd hdr.1 hdr.2 (fun p e u hh hu a hb => hQ a (TP.us (hso _ _ _ rfl hg) ?_ hb)) (fun p e u hh a hb => hQ a (TP.good (hso _ _ _ rfl hg) ?_))
        ·have r2 := hh.r2
         exact r2.trans hu
        ·have r1 := hh.r1
         have r3 := hh.r3
         have r1' : (expL 0 us ((ls s).drop (pos + 1 + 1))).1 = e := r1
         have r3' : pos + 1 + 1 + (expL 0 us ((ls s).drop (pos + 1 + 1))).2.2 = p := r3
         refine rsl_eq hb ?_ ?_
         ·dsimp only; rw [r1']; simp
         ·dsimp only; omega
      ·have hdr : ¬ (48 <= d.toNat /\ d.toNat <= 57) := fun h => hdig ((isD_iff d).2 h)
       have hb := hnx (expR_bad false us (ls s) pos c 1 hc hE' hk (by intro d' h; rw [show pos + 1 + 1 = pos + 1 + 1 from rfl, hd] at h; cases h; exact hdig))
       by_cases hlo : d.toNat < 48
       ·cases dot
        ·exact td_int_plus_lo s hs _ us m nd ndm dp tr pos x w Q hpl i1 i2 i3 i4 i6 c c1 hp hcc hE hp1 hcc1 h43 hp2 d hdd hlo (fun a h => hQ a (TP.bad hb h))
        ·exact td_dot_plus_lo s hs _ us m nd ndm dp tr pos x w Q hpl i1 i2 i3 i4 i6 c c1 hp hcc hE hp1 hcc1 h43 hp2 d hdd hlo (fun a h => hQ a (TP.bad hb h))
       ·cases dot
        ·exact td_int_plus_hi s hs _ us m nd ndm dp tr pos x w Q hpl i1 i2 i3 i4 i6 c c1 hp hcc hE hp1 hcc1 h43 hp2 d hdd (by omega) (fun a h => hQ a (TP.bad hb h))
        ·exact td_dot_plus_hi s hs _ us m nd ndm dp tr pos x w Q hpl i1 i2 i3 i4 i6 c c1 hp hcc hE hp1 hcc1 h43 hp2 d hdd (by omega) (fun a h => hQ a (TP.bad hb h))
     ·have hb := hnx (expR_bad false us (ls s) pos c 1 hc hE' hk (by intro d' h; rw [List.getElem?_eq_none (by rw [ls_length]; omega)] at h; cases h))
      cases dot
      ·exact td_int_plus_end s hs _ us m nd ndm dp tr pos x w Q hpl i1 i2 i3 i4 i6 c c1 hp hcc hE hp1 hcc1 h43 hp2 (fun a h => hQ a (TP.bad hb h))
      ·exact td_dot_plus_end s hs _ us m nd ndm dp tr pos x w Q hpl i1 i2 i3 i4 i6 c c1 hp hcc hE hp1 hcc1 h43 hp2 (fun a h => hQ a (TP.bad hb h))
    by_cases h45 : c1 = 45
    ·have hk : (if (ls s)[pos + 1]? = some 43 \/ (ls s)[pos + 1]? = some 45 then 1 else 0) = 1 := by rw [hc1, if_pos (Or.inr (by rw [h45]))]
     have hsg : (if (ls s)[pos + 1]? = some 45 then (-1 : Int) else 1) = -1 := by rw [hc1, h45]; rfl
     by_cases hp2 : pos + 1 + 1 < s.size
     ·have hd := ls_getElem? s (pos + 1 + 1) hp2
      obtain ⟨d, hdd⟩ : ∃ d, s[pos + 1 + 1] = d := ⟨_, rfl⟩
      rw [hdd] at hd
      by_cases hdig : isD d = true
      ·have hdr := (isD_iff d).1 hdig
       have hg := expR_good false us (ls s) pos c d 1 hc hE' hk hd hdig
       rw [hsg] at hg
       cases dot
       ·refine td_int_minus_go s hs _ us m nd ndm dp tr pos x w Q hpl i1 i2 i3 i4 i6 c c1 hp hcc hE hp1 hcc1 h45 hp2 d hdd hdr.1 hdr.2 (fun p e u hh hu a hb => hQ a (TP.us (hso _ _ _ rfl hg) ?_ hb)) (fun p e u hh a hb => hQ a (TP.good (hso _ _ _ rfl hg) ?_))
        ·have r2 := hh.r2
         exact r2.trans hu
        ·have r1 := hh.r1
         have r3 := hh.r3
         have r1' : (expL 0 us ((ls s).drop (pos + 1 + 1))).1 = e := r1
         have r3' : pos + 1 + 1 + (expL 0 us ((ls s).drop (pos + 1 + 1))).2.2 = p := r3
         refine rsl_eq hb ?_ ?_
         ·dsimp only; rw [r1']; simp
         ·dsimp only; omega
       ·refine td_dot_minus_go s hs _ us m nd ndm dp tr pos x w Q hpl i1 i2 i3 i4 i6 c c1 hp hcc hE hp1 hcc1 h45 hp2 d hdd hdr.1 hdr.2 (fun p e u hh hu a hb => hQ a (TP.us (hso _ _ _ rfl hg) ?_ hb)) (fun p e u hh a hb => hQ a (TP.good (hso _ _ _ rfl hg) ?_))
        ·have r2 := hh.r2
         exact r2.trans hu
        ·have r1 := hh.r1
         have r3 := hh.r3
         have r1' : (expL 0 us ((ls s).drop (pos + 1 + 1))).1 = e := r1
         have r3' : pos + 1 + 1 + (expL 0 us ((ls s).drop (pos + 1 + 1))).2.2 = p := r3
         refine rsl_eq hb ?_ ?_
         ·dsimp only; rw [r1']; simp
         ·dsimp only; omega
      ·have hdr : ¬ (48 <= d.toNat /\ d.toNat <= 57) := fun h => hdig ((isD_iff d).2 h)
       have hb := hnx (expR_bad false us (ls s) pos c 1 hc hE' hk (by intro d' h; rw [show pos + 1 + 1 = pos + 1 + 1 from rfl, hd] at h; cases h; exact hdig))
       by_cases hlo : d.toNat < 48
       ·cases dot
        ·exact td_int_minus_lo s hs _ us m nd ndm dp tr pos x w Q hpl i1 i2 i3 i4 i6 c c1 hp hcc hE hp1 hcc1 h45 hp2 d hdd hlo (fun a h => hQ a (TP.bad hb h))
        ·exact td_dot_minus_lo s hs _ us m nd ndm dp tr pos x w Q hpl i1 i2 i3 i4 i6 c c1 hp hcc hE hp1 hcc1 h45 hp2 d hdd hlo (fun a h => hQ a (TP.bad hb h))
       ·cases dot
        ·exact td_int_minus_hi s hs _ us m nd ndm dp tr pos x w Q hpl i1 i2 i3 i4 i6 c c1 hp hcc hE hp1 hcc1 h45 hp2 d hdd (by omega) (fun a h => hQ a (TP.bad hb h))
        ·exact td_dot_minus_hi s hs _ us m nd ndm dp tr pos x w Q hpl i1 i2 i3 i4 i6 c c1 hp hcc hE hp1 hcc1 h45 hp2 d hdd (by omega) (fun a h => hQ a (TP.bad hb h))
     ·have hb := hnx (expR_bad false us (ls s) pos c 1 hc hE' hk (by intro d' h; rw [List.getElem?_eq_none (by rw [ls_length]; omega)] at h; cases h))
      cases dot
      ·exact td_int_minus_end s hs _ us m nd ndm dp tr pos x w Q hpl i1 i2 i3 i4 i6 c c1 hp hcc hE hp1 hcc1 h45 hp2 (fun a h => hQ a (TP.bad hb h))
      ·exact td_dot_minus_end s hs _ us m nd ndm dp tr pos x w Q hpl i1 i2 i3 i4 i6 c c1 hp hcc hE hp1 hcc1 h45 hp2 (fun a h => hQ a (TP.bad hb h))
    ·have hk : (if (ls s)[pos + 1]? = some 43 \/ (ls s)[pos + 1]? = some 45 then 1 else 0) = 0 := by rw [hc1, if_neg (by simp [h43, h45])]
     have hsg : (if (ls s)[pos + 1]? = some 45 then (-1 : Int) else 1) = 1 := by rw [hc1, if_neg (by simp [h45])]
     have hd := hc1
     by_cases hdig : isD c1 = true
     ·have hdr := (isD_iff c1).1 hdig
      have hg := expR_good false us (ls s) pos c c1 0 hc hE' hk hd hdig
      rw [hsg] at hg
      cases dot
      ·refine td_int_none_go s hs _ us m nd ndm dp tr pos x w Q hpl i1 i2 i3 i4 i6 c c1 hp hcc hE hp1 hcc1 h43 h45 c1 hcc1 hdr.1 hdr.2 (fun p e u hh hu a hb => hQ a (TP.us (hso _ _ _ rfl hg) ?_ hb)) (fun p e u hh a hb => hQ a (TP.good (hso _ _ _ rfl hg) ?_))
       ·have r2 := hh.r2
        exact r2.trans hu
       ·have r1 := hh.r1
        have r3 := hh.r3
        have r1' : (expL 0 us ((ls s).drop (pos + 1 + 0))).1 = e := r1
        have r3' : pos + 1 + 0 + (expL 0 us ((ls s).drop (pos + 1 + 0))).2.2 = p := r3
        refine rsl_eq hb ?_ ?_
        ·dsimp only; rw [r1']; simp
        ·dsimp only; omega
      ·refine td_dot_none_go s hs _ us m nd ndm dp tr pos x w Q hpl i1 i2 i3 i4 i6 c c1 hp hcc hE hp1 hcc1 h43 h45 c1 hcc1 hdr.1 hdr.2 (fun p e u hh hu a hb => hQ a (TP.us (hso _ _ _ rfl hg) ?_ hb)) (fun p e u hh a hb => hQ a (TP.good (hso _ _ _ rfl hg) ?_))
       ·have r2 := hh.r2
        exact r2.trans hu
       ·have r1 := hh.r1
        have r3 := hh.r3
        have r1' : (expL 0 us ((ls s).drop (pos + 1 + 0))).1 = e := r1
        have r3' : pos + 1 + 0 + (expL 0 us ((ls s).drop (pos + 1 + 0))).2.2 = p := r3
        refine rsl_eq hb ?_ ?_
        ·dsimp only; rw [r1']; simp
        ·dsimp only; omega
     ·have hdr : ¬ (48 <= c1.toNat /\ c1.toNat <= 57) := fun h => hdig ((isD_iff c1).2 h)
      have hb := hnx (expR_bad false us (ls s) pos c 0 hc hE' hk (by intro d' h; rw [show pos + 1 + 0 = pos + 1 from rfl, hd] at h; cases h; exact hdig))
      by_cases hlo : c1.toNat < 48
      ·cases dot
       ·exact td_int_none_lo s hs _ us m nd ndm dp tr pos x w Q hpl i1 i2 i3 i4 i6 c c1 hp hcc hE hp1 hcc1 h43 h45 c1 hcc1 hlo (fun a h => hQ a (TP.bad hb h))
       ·exact td_dot_none_lo s hs _ us m nd ndm dp tr pos x w Q hpl i1 i2 i3 i4 i6 c c1 hp hcc hE hp1 hcc1 h43 h45 c1 hcc1 hlo (fun a h => hQ a (TP.bad hb h))
      ·cases dot
       ·exact td_int_none_hi s hs _ us m nd ndm dp tr pos x w Q hpl i1 i2 i3 i4 i6 c c1 hp hcc hE hp1 hcc1 h43 h45 c1 hcc1 (by omega) (fun a h => hQ a (TP.bad hb h))
       ·exact td_dot_none_hi s hs _ us m nd ndm dp tr pos x w Q hpl i1 i2 i3 i4 i6 c c1 hp hcc hE hp1 hcc1 h43 h45 c1 hcc1 (by omega) (fun a h => hQ a (TP.bad hb h))
   ·have hb := hnx (expR_bad false us (ls s) pos c 0 hc hE' (by rw [List.getElem?_eq_none (by rw [ls_length]; omega)]; rfl) (by intro d' h; rw [List.getElem?_eq_none (by rw [ls_length]; omega)] at h; cases h))
    cases dot
    ·exact td_int_bad1 s hs _ us m nd ndm dp tr pos x w Q hpl i1 i2 i3 i4 i6 c hp hcc hE hp1 (fun a h => hQ a (TP.bad hb h))
    ·exact td_dot_bad1 s hs _ us m nd ndm dp tr pos x w Q hpl i1 i2 i3 i4 i6 c hp hcc hE hp1 (fun a h => hQ a (TP.bad hb h))
  ·have ho := expR_other false us (ls s) pos c hc (by simpa using hE)
   cases dot
   ·exact td_int_other s hs _ us m nd ndm dp tr pos x w Q hpl i1 i2 i3 i4 i6 c hp hcc hE (fun hu a h => hQ a (TP.us (hso _ _ _ rfl ho) hu h)) (fun a h => hQ a (TP.good (hso _ _ _ rfl ho) (rsl_eq h (by simp) (by simp))))
   ·exact td_dot_other s hs _ us m nd ndm dp tr pos x w Q hpl i1 i2 i3 i4 i6 c hp hcc hE (fun hu a h => hQ a (TP.us (hso _ _ _ rfl ho) hu h)) (fun a h => hQ a (TP.good (hso _ _ _ rfl ho) (rsl_eq h (by simp) (by simp))))
 ·have ho := expR_end false us (ls s) pos (by rw [ls_length]; omega)
  cases dot
  ·exact td_int_end s hs _ us m nd ndm dp tr pos x w Q hpl i1 i2 i3 i4 i6 hp (fun hu a h => hQ a (TP.us (hso _ _ _ rfl ho) hu h)) (fun a h => hQ a (TP.good (hso _ _ _ rfl ho) (rsl_eq h (by simp) (by simp))))
  ·exact td_dot_end s hs _ us m nd ndm dp tr pos x w Q hpl i1 i2 i3 i4 i6 hp (fun hu a h => hQ a (TP.us (hso _ _ _ rfl ho) hu h)) (fun a h => hQ a (TP.good (hso _ _ _ rfl ho) (rsl_eq h (by simp) (by simp))))
theorem tail_FH (s : ByteArray) (hs : s.size <= 1099511627776) (neg : Bool) (j J pos : Nat) (st : RS) (x : Nat -> Value) (w : World) (Q : Exit -> Act -> World -> Prop)
  (h1 : sgnLen (ls s) = j) (h2 : isHex ((ls s).drop j) = true) (h3 : j + 2 = J) (h4 : LRe true (ls s) J pos st) (hneg : neg = decide ((ls s).head? = some 45))
  (hQ : ∀ a, TP (ls s) a -> Q .ret a w) :
  Code.wp Tryz.prog tailR Q (FH s neg st.us st.m st.dot st.dig st.nd st.ndm st.dp st.tr pos x) w := by
 have h3' : (if true = true then j + 2 else j) = J := by simpa using h3
 have hpl := h4.pl
 rw [ls_length] at hpl
 have i1 := h4.inv.nd
 have i2 := h4.inv.lo
 have i3 := h4.inv.hi
 have i4 : st.ndm <= 16 := h4.inv.k
 have i6 := h4.inv.le
 have hnx := fun h => readN_noexp (st := st) h1 h2 h3' h4 h
 have hso := fun n us e h h' => readN_some (st := st) (n := n) (us := us) (e := e) h1 h2 h3' h4 h h'
 have hnd := fun h => readN_nodig (st := st) h1 h2 h3' h4 h
 clear h1 h2 h3 h3' h4
 obtain ⟨us, m, dot, dig, nd, ndm, dp, tr⟩ := st
 dsimp only at i1 i2 i3 i4 i6 hnx hso hnd ⊢
 subst hneg
 cases dig
 ·cases dot
  ·exact th_int_nodig s hs _ us m nd ndm dp tr pos x w Q hpl i1 i2 i3 i4 i6 (fun a h => hQ a (TP.bad (hnd rfl) h))
  ·exact th_dot_nodig s hs _ us m nd ndm dp tr pos x w Q hpl i1 i2 i3 i4 i6 (fun a h => hQ a (TP.bad (hnd rfl) h))
 by_cases hp : pos < s.size
 ·have hc := ls_getElem? s pos hp
  obtain ⟨c, hcc⟩ : ∃ c, s[pos] = c := ⟨_, rfl⟩
  rw [hcc] at hc
  by_cases hE : lo c = 112
  ·have hE' : lo c = (if true = true then 112 else 101) := by simpa using hE
   by_cases hp1 : pos + 1 < s.size
   ·have hc1 := ls_getElem? s (pos + 1) hp1
    obtain ⟨c1, hcc1⟩ : ∃ c1, s[pos + 1] = c1 := ⟨_, rfl⟩
    rw [hcc1] at hc1
    by_cases h43 : c1 = 43
    ·have hk : (if (ls s)[pos + 1]? = some 43 \/ (ls s)[pos + 1]? = some 45 then 1 else 0) = 1 := by rw [hc1, if_pos (Or.inl (by rw [h43]))]
     have hsg : (if (ls s)[pos + 1]? = some 45 then (-1 : Int) else 1) = 1 := by rw [hc1, h43]; rfl
     by_cases hp2 : pos + 1 + 1 < s.size
     ·have hd := ls_getElem? s (pos + 1 + 1) hp2
      obtain ⟨d, hdd⟩ : ∃ d, s[pos + 1 + 1] = d := ⟨_, rfl⟩
      rw [hdd] at hd
      by_cases hdig : isD d = true
      ·have hdr := (isD_iff d).1 hdig
       have hg := expR_good true us (ls s) pos c d 1 hc hE' hk hd hdig
       rw [hsg] at hg
       cases dot
       ·refine th_int_plus_go s hs _ us m nd ndm dp tr pos x w Q hpl i1 i2 i3 i4 i6 c c1 hp hcc hE hp1 hcc1 h43 hp2 d hdd hdr.1 hdr.2 (fun p e u hh hu a hb => hQ a (TP.us (hso _ _ _ rfl hg) ?_ hb)) (fun p e u hh a hb => hQ a (TP.good (hso _ _ _ rfl hg) ?_))
        ·have r2 := hh.r2
         exact r2.trans hu
        ·have r1 := hh.r1
         have r3 := hh.r3
         have r1' : (expL 0 us ((ls s).drop (pos + 1 + 1))).1 = e := r1
         have r3' : pos + 1 + 1 + (expL 0 us ((ls s).drop (pos + 1 + 1))).2.2 = p := r3
         refine rsl_eq hb ?_ ?_
         ·dsimp only; rw [r1']; simp
         ·dsimp only; omega
       ·refine th_dot_plus_go s hs _ us m nd ndm dp tr pos x w Q hpl i1 i2 i3 i4 i6 c c1 hp hcc hE hp1 hcc1 h43 hp2 d hdd hdr.1 hdr.2 (fun p e u hh hu a hb => hQ a (TP.us (hso _ _ _ rfl hg) ?_ hb)) (fun p e u hh a hb => hQ a (TP.good (hso _ _ _ rfl hg) ?_))
        ·have r2 := hh.r2
         exact r2.trans hu
        ·have r1 := hh.r1
         have r3 := hh.r3
         have r1' : (expL 0 us ((ls s).drop (pos + 1 + 1))).1 = e := r1
         have r3' : pos + 1 + 1 + (expL 0 us ((ls s).drop (pos + 1 + 1))).2.2 = p := r3
         refine rsl_eq hb ?_ ?_
         ·dsimp only; rw [r1']; simp
         ·dsimp only; omega
      ·have hdr : ¬ (48 <= d.toNat /\ d.toNat <= 57) := fun h => hdig ((isD_iff d).2 h)
       have hb := hnx (expR_bad true us (ls s) pos c 1 hc hE' hk (by intro d' h; rw [show pos + 1 + 1 = pos + 1 + 1 from rfl, hd] at h; cases h; exact hdig))
       by_cases hlo : d.toNat < 48
       ·cases dot
        ·exact th_int_plus_lo s hs _ us m nd ndm dp tr pos x w Q hpl i1 i2 i3 i4 i6 c c1 hp hcc hE hp1 hcc1 h43 hp2 d hdd hlo (fun a h => hQ a (TP.bad hb h))
        ·exact th_dot_plus_lo s hs _ us m nd ndm dp tr pos x w Q hpl i1 i2 i3 i4 i6 c c1 hp hcc hE hp1 hcc1 h43 hp2 d hdd hlo (fun a h => hQ a (TP.bad hb h))
       ·cases dot
        ·exact th_int_plus_hi s hs _ us m nd ndm dp tr pos x w Q hpl i1 i2 i3 i4 i6 c c1 hp hcc hE hp1 hcc1 h43 hp2 d hdd (by omega) (fun a h => hQ a (TP.bad hb h))
        ·exact th_dot_plus_hi s hs _ us m nd ndm dp tr pos x w Q hpl i1 i2 i3 i4 i6 c c1 hp hcc hE hp1 hcc1 h43 hp2 d hdd (by omega) (fun a h => hQ a (TP.bad hb h))
     ·have hb := hnx (expR_bad true us (ls s) pos c 1 hc hE' hk (by intro d' h; rw [List.getElem?_eq_none (by rw [ls_length]; omega)] at h; cases h))
      cases dot
      ·exact th_int_plus_end s hs _ us m nd ndm dp tr pos x w Q hpl i1 i2 i3 i4 i6 c c1 hp hcc hE hp1 hcc1 h43 hp2 (fun a h => hQ a (TP.bad hb h))
      ·exact th_dot_plus_end s hs _ us m nd ndm dp tr pos x w Q hpl i1 i2 i3 i4 i6 c c1 hp hcc hE hp1 hcc1 h43 hp2 (fun a h => hQ a (TP.bad hb h))
    by_cases h45 : c1 = 45
    ·have hk : (if (ls s)[pos + 1]? = some 43 \/ (ls s)[pos + 1]? = some 45 then 1 else 0) = 1 := by rw [hc1, if_pos (Or.inr (by rw [h45]))]
     have hsg : (if (ls s)[pos + 1]? = some 45 then (-1 : Int) else 1) = -1 := by rw [hc1, h45]; rfl
     by_cases hp2 : pos + 1 + 1 < s.size
     ·have hd := ls_getElem? s (pos + 1 + 1) hp2
      obtain ⟨d, hdd⟩ : ∃ d, s[pos + 1 + 1] = d := ⟨_, rfl⟩
      rw [hdd] at hd
      by_cases hdig : isD d = true
      ·have hdr := (isD_iff d).1 hdig
       have hg := expR_good true us (ls s) pos c d 1 hc hE' hk hd hdig
       rw [hsg] at hg
       cases dot
       ·refine th_int_minus_go s hs _ us m nd ndm dp tr pos x w Q hpl i1 i2 i3 i4 i6 c c1 hp hcc hE hp1 hcc1 h45 hp2 d hdd hdr.1 hdr.2 (fun p e u hh hu a hb => hQ a (TP.us (hso _ _ _ rfl hg) ?_ hb)) (fun p e u hh a hb => hQ a (TP.good (hso _ _ _ rfl hg) ?_))
        ·have r2 := hh.r2
         exact r2.trans hu
        ·have r1 := hh.r1
         have r3 := hh.r3
         have r1' : (expL 0 us ((ls s).drop (pos + 1 + 1))).1 = e := r1
         have r3' : pos + 1 + 1 + (expL 0 us ((ls s).drop (pos + 1 + 1))).2.2 = p := r3
         refine rsl_eq hb ?_ ?_
         ·dsimp only; rw [r1']; simp
         ·dsimp only; omega
       ·refine th_dot_minus_go s hs _ us m nd ndm dp tr pos x w Q hpl i1 i2 i3 i4 i6 c c1 hp hcc hE hp1 hcc1 h45 hp2 d hdd hdr.1 hdr.2 (fun p e u hh hu a hb => hQ a (TP.us (hso _ _ _ rfl hg) ?_ hb)) (fun p e u hh a hb => hQ a (TP.good (hso _ _ _ rfl hg) ?_))
        ·have r2 := hh.r2
         exact r2.trans hu
        ·have r1 := hh.r1
         have r3 := hh.r3
         have r1' : (expL 0 us ((ls s).drop (pos + 1 + 1))).1 = e := r1
         have r3' : pos + 1 + 1 + (expL 0 us ((ls s).drop (pos + 1 + 1))).2.2 = p := r3
         refine rsl_eq hb ?_ ?_
         ·dsimp only; rw [r1']; simp
         ·dsimp only; omega
      ·have hdr : ¬ (48 <= d.toNat /\ d.toNat <= 57) := fun h => hdig ((isD_iff d).2 h)
       have hb := hnx (expR_bad true us (ls s) pos c 1 hc hE' hk (by intro d' h; rw [show pos + 1 + 1 = pos + 1 + 1 from rfl, hd] at h; cases h; exact hdig))
       by_cases hlo : d.toNat < 48
       ·cases dot
        ·exact th_int_minus_lo s hs _ us m nd ndm dp tr pos x w Q hpl i1 i2 i3 i4 i6 c c1 hp hcc hE hp1 hcc1 h45 hp2 d hdd hlo (fun a h => hQ a (TP.bad hb h))
        ·exact th_dot_minus_lo s hs _ us m nd ndm dp tr pos x w Q hpl i1 i2 i3 i4 i6 c c1 hp hcc hE hp1 hcc1 h45 hp2 d hdd hlo (fun a h => hQ a (TP.bad hb h))
       ·cases dot
        ·exact th_int_minus_hi s hs _ us m nd ndm dp tr pos x w Q hpl i1 i2 i3 i4 i6 c c1 hp hcc hE hp1 hcc1 h45 hp2 d hdd (by omega) (fun a h => hQ a (TP.bad hb h))
        ·exact th_dot_minus_hi s hs _ us m nd ndm dp tr pos x w Q hpl i1 i2 i3 i4 i6 c c1 hp hcc hE hp1 hcc1 h45 hp2 d hdd (by omega) (fun a h => hQ a (TP.bad hb h))
     ·have hb := hnx (expR_bad true us (ls s) pos c 1 hc hE' hk (by intro d' h; rw [List.getElem?_eq_none (by rw [ls_length]; omega)] at h; cases h))
      cases dot
      ·exact th_int_minus_end s hs _ us m nd ndm dp tr pos x w Q hpl i1 i2 i3 i4 i6 c c1 hp hcc hE hp1 hcc1 h45 hp2 (fun a h => hQ a (TP.bad hb h))
      ·exact th_dot_minus_end s hs _ us m nd ndm dp tr pos x w Q hpl i1 i2 i3 i4 i6 c c1 hp hcc hE hp1 hcc1 h45 hp2 (fun a h => hQ a (TP.bad hb h))
    ·have hk : (if (ls s)[pos + 1]? = some 43 \/ (ls s)[pos + 1]? = some 45 then 1 else 0) = 0 := by rw [hc1, if_neg (by simp [h43, h45])]
     have hsg : (if (ls s)[pos + 1]? = some 45 then (-1 : Int) else 1) = 1 := by rw [hc1, if_neg (by simp [h45])]
     have hd := hc1
     by_cases hdig : isD c1 = true
     ·have hdr := (isD_iff c1).1 hdig
      have hg := expR_good true us (ls s) pos c c1 0 hc hE' hk hd hdig
      rw [hsg] at hg
      cases dot
      ·refine th_int_none_go s hs _ us m nd ndm dp tr pos x w Q hpl i1 i2 i3 i4 i6 c c1 hp hcc hE hp1 hcc1 h43 h45 c1 hcc1 hdr.1 hdr.2 (fun p e u hh hu a hb => hQ a (TP.us (hso _ _ _ rfl hg) ?_ hb)) (fun p e u hh a hb => hQ a (TP.good (hso _ _ _ rfl hg) ?_))
       ·have r2 := hh.r2
        exact r2.trans hu
       ·have r1 := hh.r1
        have r3 := hh.r3
        have r1' : (expL 0 us ((ls s).drop (pos + 1 + 0))).1 = e := r1
        have r3' : pos + 1 + 0 + (expL 0 us ((ls s).drop (pos + 1 + 0))).2.2 = p := r3
        refine rsl_eq hb ?_ ?_
        ·dsimp only; rw [r1']; simp
        ·dsimp only; omega
      ·refine th_dot_none_go s hs _ us m nd ndm dp tr pos x w Q hpl i1 i2 i3 i4 i6 c c1 hp hcc hE hp1 hcc1 h43 h45 c1 hcc1 hdr.1 hdr.2 (fun p e u hh hu a hb => hQ a (TP.us (hso _ _ _ rfl hg) ?_ hb)) (fun p e u hh a hb => hQ a (TP.good (hso _ _ _ rfl hg) ?_))
       ·have r2 := hh.r2
        exact r2.trans hu
       ·have r1 := hh.r1
        have r3 := hh.r3
        have r1' : (expL 0 us ((ls s).drop (pos + 1 + 0))).1 = e := r1
        have r3' : pos + 1 + 0 + (expL 0 us ((ls s).drop (pos + 1 + 0))).2.2 = p := r3
        refine rsl_eq hb ?_ ?_
        ·dsimp only; rw [r1']; simp
        ·dsimp only; omega
     ·have hdr : ¬ (48 <= c1.toNat /\ c1.toNat <= 57) := fun h => hdig ((isD_iff c1).2 h)
      have hb := hnx (expR_bad true us (ls s) pos c 0 hc hE' hk (by intro d' h; rw [show pos + 1 + 0 = pos + 1 from rfl, hd] at h; cases h; exact hdig))
      by_cases hlo : c1.toNat < 48
      ·cases dot
       ·exact th_int_none_lo s hs _ us m nd ndm dp tr pos x w Q hpl i1 i2 i3 i4 i6 c c1 hp hcc hE hp1 hcc1 h43 h45 c1 hcc1 hlo (fun a h => hQ a (TP.bad hb h))
       ·exact th_dot_none_lo s hs _ us m nd ndm dp tr pos x w Q hpl i1 i2 i3 i4 i6 c c1 hp hcc hE hp1 hcc1 h43 h45 c1 hcc1 hlo (fun a h => hQ a (TP.bad hb h))
      ·cases dot
       ·exact th_int_none_hi s hs _ us m nd ndm dp tr pos x w Q hpl i1 i2 i3 i4 i6 c c1 hp hcc hE hp1 hcc1 h43 h45 c1 hcc1 (by omega) (fun a h => hQ a (TP.bad hb h))
       ·exact th_dot_none_hi s hs _ us m nd ndm dp tr pos x w Q hpl i1 i2 i3 i4 i6 c c1 hp hcc hE hp1 hcc1 h43 h45 c1 hcc1 (by omega) (fun a h => hQ a (TP.bad hb h))
   ·have hb := hnx (expR_bad true us (ls s) pos c 0 hc hE' (by rw [List.getElem?_eq_none (by rw [ls_length]; omega)]; rfl) (by intro d' h; rw [List.getElem?_eq_none (by rw [ls_length]; omega)] at h; cases h))
    cases dot
    ·exact th_int_bad1 s hs _ us m nd ndm dp tr pos x w Q hpl i1 i2 i3 i4 i6 c hp hcc hE hp1 (fun a h => hQ a (TP.bad hb h))
    ·exact th_dot_bad1 s hs _ us m nd ndm dp tr pos x w Q hpl i1 i2 i3 i4 i6 c hp hcc hE hp1 (fun a h => hQ a (TP.bad hb h))
  ·have ho := expR_other true us (ls s) pos c hc (by simpa using hE)
   cases dot
   ·exact th_int_other s hs _ us m nd ndm dp tr pos x w Q hpl i1 i2 i3 i4 i6 c hp hcc hE (fun a h => hQ a (TP.bad (hnx ho) h))
   ·exact th_dot_other s hs _ us m nd ndm dp tr pos x w Q hpl i1 i2 i3 i4 i6 c hp hcc hE (fun a h => hQ a (TP.bad (hnx ho) h))
 ·have ho := expR_end true us (ls s) pos (by rw [ls_length]; omega)
  cases dot
  ·exact th_int_end s hs _ us m nd ndm dp tr pos x w Q hpl i1 i2 i3 i4 i6 hp (fun a h => hQ a (TP.bad (hnx ho) h))
  ·exact th_dot_end s hs _ us m nd ndm dp tr pos x w Q hpl i1 i2 i3 i4 i6 hp (fun a h => hQ a (TP.bad (hnx ho) h))
end Go.Proofs.YtdfolbmoohcblaaGreatDoor
