/-
For FnReadAgain, part 21: W7.
-/
import Derived.Test.YtdfolbmoohcblaaGreatDoorM20
import Derived.Deep.QuietTactic
import Derived.BigQuiet
import Derived.Deep.LoopGhost
set_option linter.all false
namespace Go.Proofs.YtdfolbmoohcblaaGreatDoor
set_option maxHeartbeats 4000000
set_option maxRecDepth 100000
open Go.RowKit
def Cheat (w : World) : Prop := ∃ h o c, w.cell? ⟨16, 0, none⟩ = some (.slice (some ⟨h, o, none⟩) 61 c) /\ ∀ k, 1 <= k -> k <= 60 -> w.cell? ⟨h, o + k * 2, none⟩ = some (.int .i64 (cutD k : Nat)) /\ w.cell? ⟨h, o + k * 2 + 1, none⟩ = some (.string (bs (cutT k)))
theorem Cheat.below {w w' : World} (h : Cheat w) (hb : Below w.heap.size w w') : Cheat w' := by
  obtain ⟨g, o, c, h1, h2⟩ := h
  exact ⟨g, o, c, cell_later hb h1, fun k a b => ⟨cell_later hb (h2 k a b).1, cell_later hb (h2 k a b).2⟩⟩
theorem arr177 : Tryz.prog.arrayLen 177 = 800 := by kernel_rfl
theorem slice_digits (g nd : Nat) (hn : nd <= 800) (W : World) : (Instr.sliceAt 177 (.pointer (some ⟨g, 0, none⟩)) (some (.int .i64 0)) (some (.int .i64 nd)) none).run Tryz.prog W = .ok (.slice (some ⟨g, 0, none⟩) nd 800) W := by
  rw [run_sliceAt_array_lh W 177 ⟨g, 0, none⟩ (by rw [arr177]; exact Tryz.underlying177) .i64 .i64 0 nd (by omega) (by omega) (by rw [arr177]; omega)]
  rw [arr177]
  simp [slicedAt, go_sem, Addr.add]
def LsRel (w : World) (g : Nat) (D : Nat -> Nat) (nd : Nat) (dp : Int) (neg : Bool) (k d : Nat) (n : Nat) (v5 v6 v7 : Value) (wr : World) : Prop :=
  ∃ (r : Nat) (D' : Nat -> Nat) (tr' : Bool), n = r /\ r <= nd /\ v5 = .int .i64 ((r : Int) - 1) /\ v6 = .int .i64 ((r : Int) + d) /\ v7 = .int .u64 (car D k nd r : Nat) /\ Dec wr g D' nd dp neg tr' /\ At g w wr /\ (∀ i, i < r -> D' i = D i) /\
    (∀ i, r + d <= i -> i < nd + d -> i < 800 -> 48 <= D' i /\ D' i <= 57) /\ (r < nd -> r + d < 800 -> D' (r + d) = 48 + dvf D r (nd - r) * 2 ^ k / 10 ^ (nd - (r + 1)) % 10)
def Ls2Rel (w : World) (g : Nat) (N2 nd : Nat) (dp : Int) (neg : Bool) (d : Nat) (n : Nat) (v6 v7 : Value) (wr : World) : Prop :=
  ∃ (W : Nat) (D' : Nat -> Nat) (tr' : Bool), n = W /\ W <= d /\ v6 = .int .i64 W /\ v7 = .int .u64 (N2 / 10 ^ (nd + d - W) : Nat) /\ Dec wr g D' nd dp neg tr' /\ At g w wr /\
    (∀ i, W <= i -> i < nd + d -> i < 800 -> 48 <= D' i /\ D' i <= 57) /\ (D' W = 48 + N2 / 10 ^ (nd + d - (W + 1)) % 10)
def LeftPost (w : World) (g : Nat) (D : Nat -> Nat) (nd : Nat) (dp : Int) (neg : Bool) (k : Nat) (e : Ending) (w' : World) : Prop :=
  e = .returned (.tuple #[]) /\ ∃ (d : Nat) (D' : Nat -> Nat) (n' : Nat) (tr' : Bool), (d = if pil D nd (cutT k) 0 then cutD k - 1 else cutD k) /\ Dec w' g D' n' (dp + d) neg tr' /\ At g w w' /\ Gd D' n' /\ 0 < n' /\ n' <= 800 /\ 49 <= D' 0 /\
    (d = 0 -> D 0 < D' 0)
theorem left_end {w wr w' : World} {g : Nat} {D D' : Nat -> Nat} {nd k d n' : Nat} {dp dp' : Int} {neg tr' : Bool} (hn0 : 0 < nd) (hk1 : 1 <= k) (hd : d = if pil D nd (cutT k) 0 then cutD k - 1 else cutD k) (h0 : 49 <= D 0) (hlo : 10 ^ (nd + d - 1) <= dvf D 0 nd * 2 ^ k) (hhi : dvf D 0 nd * 2 ^ k < 10 ^ (nd + d))
    (hlast : D' 0 = 48 + dvf D 0 nd * 2 ^ k / 10 ^ (nd + d - (0 + 1)) % 10) (hdig : ∀ i, 0 <= i -> i < nd + d -> i < 800 -> 48 <= D' i /\ D' i <= 57) (hat : At g w wr) (hat2 : At g wr w') (hn : n' <= min (nd + d) 800) (hz : ∀ i, n' <= i -> i < min (nd + d) 800 -> D' i = 48)
    (hdec : Dec w' g D' n' dp' neg tr') (hdp : n' ≠ 0 -> dp' = dp + d) : LeftPost w g D nd dp neg k (.returned (.tuple #[])) w' := by
  obtain ⟨f1, f2, f3⟩ := first_digit (by omega) hlo hhi
  rw [Nat.zero_add, f3] at hlast
  have h49 : 49 <= D' 0 := by omega
  have hn0' : 0 < n' := by
    rcases Nat.eq_zero_or_pos n' with h | h
    · subst h; have := hz 0 (Nat.le_refl _) (by omega); omega
    · exact h
  rw [hdp (by omega)] at hdec
  refine ⟨rfl, d, D', n', tr', hd, hdec, hat.trans hat2, fun i hi => hdig i (Nat.zero_le _) (by omega) (by omega), hn0', by omega, h49, ?_⟩
  intro hd0
  have := first_grows hn0 h0 (show 0 < k by omega)
  subst hd0
  rw [Nat.add_zero] at hlast
  omega
theorem leftShift_any (w : World) (g : Nat) (D : Nat -> Nat) (nd : Nat) (dp : Int) (neg tr : Bool) (k : Nat) (h : Dec w g D nd dp neg tr) (hc : Cheat w) (hn0 : 0 < nd) (hn : nd <= 800) (hD : Gd D nd) (h0 : 49 <= D 0) (hk1 : 1 <= k) (hk : k <= 60) (hdp1 : -100000 <= dp) (hdp2 : dp <= 100000) :
    Calls Tryz.prog 128 #[.pointer (some ⟨g, 0, none⟩), .int .u64 k] w (LeftPost w g D nd dp neg k) := by
  obtain ⟨hcut, hcl, hcd⟩ := cut_ok hk1 hk
  obtain ⟨gh, oo, gc, ct0, ct⟩ := hc
  obtain ⟨ct1, ct2⟩ := ct k hk1 hk
  clear ct
  obtain ⟨d, hd, hlo, hhi⟩ := left_digits hD h0 hn0 hcut
  have cn := h.nd
  have hq : ∀ n, Calls Tryz.prog 151 #[.slice (some ⟨g, 0, none⟩) nd 800, .string (bs (cutT k))] (w.drewN n) fun e w'' => e = .returned (.bool (pil D nd (cutT k) 0)) /\ ∃ m, w'' = w.drewN m :=
    fun n => Calls.quiet_of (prefixLess_any (w.drewN n) g D nd dp neg tr (bs (cutT k)) (h.drewN n) hn (by rw [bs_size]; omega))
  have hd1 := hcut.2.2.2.2.1
  generalize bs (cutT k) = T at ct2 hq
  have HDD := Lib.hid hd
  generalize cutD k = δ at ct1 hd hcd hd1
  generalize pil D nd (cutT k) 0 = b at hd hq
  have HH := Lib.hid (And.intro h (And.intro hD (And.intro h0 (And.intro hlo hhi))))
  have HQ := Lib.hid hq
  have hsl := slice_digits g nd hn
  have hkI : (k : Int) < 61 := by omega
  clear h hcut hcl hD hq
  have HE : Hid (∀ D' n' tr' dp' wr w', (D' 0 = 48 + dvf D 0 nd * 2 ^ k / 10 ^ (nd + d - (0 + 1)) % 10) -> (∀ i, 0 <= i -> i < nd + d -> i < 800 -> 48 <= D' i /\ D' i <= 57) -> At g w wr -> At g wr w' -> n' <= min (nd + d) 800 -> (∀ i, n' <= i -> i < min (nd + d) 800 -> D' i = 48) -> Dec w' g D' n' dp' neg tr' -> (n' ≠ 0 -> dp' = dp + d) -> LeftPost w g D nd dp neg k (.returned (.tuple #[])) w') :=
    fun D' n' tr' dp' wr w' a1 a2 a3 a4 a5 a6 a7 a8 => left_end hn0 hk1 HDD.out h0 hlo hhi a1 a2 a3 a4 a5 a6 a7 a8
  clear h0 hlo hhi
  have hcd2 : d <= 30 := by rw [hd]; split <;> omega
  cases b
  case' false =>
    simp only [Bool.false_eq_true, if_false] at hd
    subst hd
  case' true =>
    simp only [if_true] at hd
    have hde : (δ : Int) - 1 = d := by omega
    have HDE := Lib.hid hde
    clear hde hd
  all_goals
    go_enter Tryz.func128, Tryz.ntmps128
    go_wp2_with fail
    go_quiet ((go_at_call 151; exact HQ.out _))
    clear ct0 ct1 ct2 hsl hkI HQ
    go_wp2_with fail
    try rw [HDE.out]
    obtain ⟨hdec, hD, h0, hlo, hhi⟩ := HH.out
    have HS : Hid (LsRel w g D nd dp neg k d nd (.int .i64 ((nd : Int) - 1)) (.int .i64 ((nd : Int) + d)) (.int .u64 0) (w.drewN nq)) := by
      refine ⟨nd, D, tr, rfl, Nat.le_refl _, rfl, rfl, by rw [car_end]; rfl, hdec.drewN _, At.drewN _ _ _, fun _ _ => rfl, fun i h1 h2 => by omega, fun h => by omega⟩
    clear hdec hD h0 hlo hhi cn
    go_loopg [5, 6, 7] nd (fun n v5 v6 v7 wr => LsRel w g D nd dp neg k d n v5 v6 v7 wr)
    case atStart => exact HS.out
    case round =>
      clear HS
      obtain ⟨r, D', tr', hgk, hr, rfl, rfl, rfl, hdec, hat, hsame, hdig, hlast⟩ := hrel
      have hc1 := car_lt (k := k) HH.out.2.1 hr
      have hpk : 2 ^ k <= 2 ^ 60 := Nat.pow_le_pow_right (by decide) hk
      cases r with
      | zero =>
        have e1 : (((0 : Nat) : Int) - 1) = -1 := rfl
        have e2 : (((0 : Nat) : Int) + d) = (d : Int) := by omega
        rw [e1, e2]
        have hHD := HH.out
        obtain ⟨N2, hN2⟩ : ∃ N2, N2 = dvf D 0 nd * 2 ^ k := ⟨_, rfl⟩
        have HS : Hid (Ls2Rel w g N2 nd dp neg d d (.int .i64 d) (.int .u64 (car D k nd 0 : Nat)) wr /\ (∀ W, W <= d -> N2 / 10 ^ (nd + d - W) < 1152921504606846976)) := by
          refine ⟨⟨d, D', tr', rfl, Nat.le_refl _, rfl, ?_, hdec, hat, fun i h1 h2 h3 => hdig i (by omega) h2 h3, ?_⟩, ?_⟩
          · unfold car; rw [Nat.add_sub_cancel, hN2, Nat.sub_zero]
          · rw [hN2]
            have := hlast (by omega) (by omega)
            rw [Nat.zero_add] at this
            rw [this, show nd + d - (d + 1) = nd - (0 + 1) from by omega, Nat.sub_zero]
          · intro W hW
            refine Nat.lt_of_le_of_lt (Nat.div_le_div_left (Nat.pow_le_pow_right (by decide) (show nd <= nd + d - W by omega)) (Nat.pow_pos (by decide))) ?_
            have hc0 := car_lt (k := k) (r := 0) HH.out.2.1 (Nat.zero_le _)
            unfold car at hc0
            rw [Nat.sub_zero, <- hN2] at hc0
            exact Nat.lt_of_lt_of_le hc0 (Nat.le_trans hpk (by decide))
        rw [<- hN2] at hHD HE
        have HF := Lib.hid hHD
        clear hc1 hpk hdec hat hsame hdig hlast e1 e2 hHD hN2 HH
        go_wp2_with fail
        go_loopg [6, 7] d (fun n v6 v7 wr => Ls2Rel w g N2 nd dp neg d n v6 v7 wr)
        case atStart => exact HS.out.1
        case round =>
          have HB := Lib.hid HS.out.2
          clear HS
          obtain ⟨W, D', tr', hgk, hW, rfl, rfl, hdec, hat, hdig, hlast⟩ := hrel
          have hz1 := HB.out W hW
          have uf3 := hdec.unfrozen 803
          have c3 := hdec.trc
          obtain ⟨z, hz⟩ : ∃ z, z = N2 / 10 ^ (nd + d - W) := ⟨_, rfl⟩
          rw [<- hz] at hz1 ⊢
          by_cases hz0 : 0 < z
          · have hzI : (0 : Int) < z := by omega
            have hWp : 0 < W := div_pos_w HF.out.2.2.2.2 (by rw [<- hz]; exact hz0)
            obtain ⟨V, rfl⟩ : ∃ V, W = V + 1 := ⟨W - 1, by omega⟩
            have hnx := div_next (N := N2) hWp (show V + 1 <= nd + d by omega)
            rw [<- hz, Nat.add_sub_cancel] at hnx
            have uf := hdec.unfrozen V
            have cw := hdec.d V (by omega)
            have eV : ((V + 1 : Nat) : Int) = (V : Int) + 1 := by omega
            rw [eV]
            have hV8 : (V : Int) < 800 := by omega
            have HR := Lib.hid (And.intro hz (And.intro hnx (And.intro hdig (And.intro hat hdec))))
            clear hz hnx hdig hat hdec hlast eV hWp
            go_wp2_with fail
            go_roundg (gk - 1)
            case measure => omega
            case rel =>
              obtain ⟨hz, hnx, hdig, hat, hdec⟩ := HR.out
              have ev : (z : Int) - 10 * (z / 10) + 48 = ((48 + z % 10 : Nat) : Int) := by omega
              rw [ev]
              refine ⟨V, upd D' V (48 + z % 10), tr', by omega, by omega, vint (by omega), vint (by rw [<- hnx]; omega), hdec.setD _ _ (by omega) (by omega), hat.set _ _, ?_, ?_⟩
              · intro i hi1 hi2 hi3; unfold upd; split
                · omega
                · exact hdig i (by omega) hi2 hi3
              · unfold upd; rw [if_pos rfl, <- hz]
          · have hz00 : z = 0 := by omega
            have hW0 : W = 0 := div_zero_w HF.out.2.2.2.1 (by omega) (by rw [<- hz]; exact hz00)
            subst hW0
            have cn := hdec.nd
            have cdp := hdec.dp
            have uf0 := hdec.unfrozen 800
            have uf1 := hdec.unfrozen 801
            have HR := Lib.hid (And.intro hdig (And.intro hat (And.intro hdec hlast)))
            have HZ := Lib.hid hz
            clear hdig hat hdec hlast hz hz0 hz1 uf3 c3
            subst hz00
            by_cases h8 : nd + d < 800
            · have h8' : (nd : Int) + d < 800 := by omega
              go_wp2_with fail
              obtain ⟨hdig, hat, hdec, hlast⟩ := HR.out
              have eN : (nd : Int) + d = ((nd + d : Nat) : Int) := by omega
              rw [eN]
              have htr := trim_any _ g D' (nd + d) (dp + d) neg tr' ((hdec.setNd (nd + d)).setDp (dp + d)) (by omega)
              refine htr.mono ?_
              rintro e w' ⟨rfl, n', hn', hdec', hat', hz'⟩
              have HX := Lib.hid (And.intro hn' (And.intro hdec' (And.intro hat' hz')))
              clear hn' hdec' hat' hz' htr hdig hat hdec hlast eN
              go_wp2_with fail
              go_returns
              obtain ⟨hdig, hat, hdec, hlast⟩ := HR.out
              obtain ⟨hn', hdec', hat', hz'⟩ := HX.out
              exact HE.out D' n' tr' _ _ _ hlast hdig hat (((At.refl g wr).set _ _).set _ _ |>.trans hat') (by omega) (fun i h1 h2 => hz' i h1 (by omega)) hdec' (fun h => if_neg h)
            · have h8' : 800 <= (nd : Int) + d := by omega
              go_wp2_with fail
              obtain ⟨hdig, hat, hdec, hlast⟩ := HR.out
              have eN : (nd : Int) + d = ((nd + d : Nat) : Int) := by omega
              rw [eN]
              have htr := trim_any _ g D' 800 (dp + d) neg tr' (((hdec.setNd (nd + d)).setNd 800).setDp (dp + d)) (by omega)
              refine htr.mono ?_
              rintro e w' ⟨rfl, n', hn', hdec', hat', hz'⟩
              have HX := Lib.hid (And.intro hn' (And.intro hdec' (And.intro hat' hz')))
              clear hn' hdec' hat' hz' htr hdig hat hdec hlast eN
              go_wp2_with fail
              go_returns
              obtain ⟨hdig, hat, hdec, hlast⟩ := HR.out
              obtain ⟨hn', hdec', hat', hz'⟩ := HX.out
              exact HE.out D' n' tr' _ _ _ hlast hdig hat ((((At.refl g wr).set _ _).set _ _).set _ _ |>.trans hat') (by omega) (fun i h1 h2 => hz' i h1 (by omega)) hdec' (fun h => if_neg h)
      | succ m =>
        obtain ⟨hs1, hs2⟩ := car_step (k := k) (D := D) (r := m) hr
        have hx := hsame m (by omega)
        have hxd := HH.out.2.1 m hr
        have em : (((m + 1 : Nat) : Int) - 1) = (m : Int) := by omega
        have em2 : (((m + 1 : Nat) : Int) + d) = (m : Int) + 1 + d := by omega
        rw [em, em2]
        have cd := hdec.d m (by omega)
        generalize car D k nd (m + 1) = c at *
        rw [<- hx] at hs1 hs2 hxd
        generalize D' m = x at *
        obtain ⟨hx1, hx2⟩ := hxd
        have hxm : (x - 48) * 2 ^ k <= 9 * 2 ^ k := Nat.mul_le_mul_right _ (by omega)
        obtain ⟨S, hS⟩ : ∃ S, S = (x - 48) * 2 ^ k := ⟨_, rfl⟩
        rw [<- hS] at hs1 hs2 hxm
        have e1 : IntKind.u64.wrap (((x : Int) - 48) * 2 ^ k) = (S : Int) := by
          have : ((x : Int) - 48) * 2 ^ k = (S : Int) := by rw [hS, Int.natCast_mul, Int.natCast_pow, Int.ofNat_sub (by omega)]; rfl
          rw [this]; exact IntWalk.u64_in _ (by constructor <;> omega)
        obtain ⟨y, hy⟩ : ∃ y : Nat, y = c + S := ⟨_, rfl⟩
        have e2 : (c : Int) + S = y := by omega
        have e3 : IntKind.u64.wrap (y : Int) = y := IntWalk.u64_in _ (by constructor <;> omega)
        have hyb : y < 11529215046068469760 := by omega
        rw [<- hy] at hs1 hs2
        have HR := Lib.hid (And.intro hs1 (And.intro hs2 (And.intro hsame (And.intro hdig (And.intro hat hdec)))))
        have HX := Lib.hid hx
        have uf := hdec.unfrozen (m + d)
        have uf3 := hdec.unfrozen 803
        have c3 := hdec.trc
        by_cases hw8 : m + d < 800
        · have hw8' : (m : Int) + 1 + d - 1 < 800 := by omega
          have cw := hdec.d (m + d) hw8
          clear hs1 hs2 hsame hdig hat hdec hlast em em2 hx hS hxm hpk hc1 hy
          go_wp2_with fail
          go_roundg (gk - 1)
          case measure => omega
          case rel =>
            obtain ⟨hs1, hs2, hsame, hdig, hat, hdec⟩ := HR.out
            have ev : (y : Int) - 10 * (y / 10) + 48 = ((48 + y % 10 : Nat) : Int) := by omega
            rw [ev]
            refine ⟨m, upd D' (m + d) (48 + y % 10), tr', by omega, by omega, rfl, vint (by omega), vint (by rw [hs2]; omega), hdec.setD _ _ hw8 (by omega), hat.set _ _, ?_, ?_, ?_⟩
            · intro i hi; unfold upd; rw [if_neg (by omega)]; exact hsame i (by omega)
            · intro i hi1 hi2 hi3; unfold upd; split
              · omega
              · exact hdig i (by omega) hi2 hi3
            · intro _ _; unfold upd; rw [if_pos rfl, hs1]
        · have hw8' : 800 <= (m : Int) + 1 + d - 1 := by omega
          clear hs1 hs2 hsame hdig hat hdec hlast em em2 hx hS hxm hpk hc1 hy
          go_wp2_with fail
          all_goals
            go_roundg (gk - 1)
            case measure => omega
            case rel =>
              obtain ⟨hs1, hs2, hsame, hdig, hat, hdec⟩ := HR.out
              first
              | (refine ⟨m, D', true, by omega, by omega, rfl, vint (by omega), vint (by rw [hs2]; omega), hdec.setTr _, hat.set _ _, fun i hi => hsame i (by omega), fun i hi1 hi2 hi3 => ?_, fun _ h => by omega⟩
                 exact hdig i (by omega) hi2 hi3)
              | (refine ⟨m, D', tr', by omega, by omega, rfl, vint (by omega), vint (by rw [hs2]; omega), hdec, hat, fun i hi => hsame i (by omega), fun i hi1 hi2 hi3 => ?_, fun _ h => by omega⟩
                 exact hdig i (by omega) hi2 hi3)
end Go.Proofs.YtdfolbmoohcblaaGreatDoor
