/-
  The law of the token model: the walk, over letters.
-/
import Derived.Test.Qxb6613076aLeastQ
import Derived.Test.Qxb6613076aLaw9
namespace Go.Proofs.Qxb6613076a
open Go.RowKit
set_option linter.unusedVariables false
set_option maxRecDepth 100000 in
set_option maxHeartbeats 800000 in
theorem law7_out (N h l lim win rate cost ahead T : Int) (w : World) (D : Gives 21 #[.int .u64 h, .int .u64 l, .int .i64 lim, .int .i64 win, .int .i64 rate, .int .i64 cost, .int .i64 ahead] (.bool false)) :
    Calls Try.prog 7 #[.int .i64 N, .int .u64 h, .int .u64 l, .int .i64 lim, .int .i64 win, .int .i64 rate, .int .i64 cost, .int .i64 ahead, .int .i64 T] w fun e w' => e = .returned (.bool true) ∧ Below w.heap.size w w' := by
  go_enter Try.func7, Try.ntmps7
  go_wp2_with fail
  refine (D _).mono ?_
  rintro e w1 ⟨rfl, x1⟩
  have Y : Hid (Below w.heap.size w w1) := x1
  clear x1
  go_wp2_with fail
  go_ret
  exact ⟨rfl, Y.out⟩
theorem keptU {c p : Nat} {V V' : World} {h l : Int} (k : U2 V p h l) (n : p ≠ c) (hk : Kept c c V V') : Kept c c V V' ∧ V'.cell? ⟨p, 0, none⟩ = some (.int .u64 h) ∧ V'.cell? ⟨p, 1, none⟩ = some (.int .u64 l) :=
  ⟨hk, (k.kept hk n n).m0, (k.kept hk n n).m1⟩
theorem keptS2 {x : Nat} {V V1 : World} {R : Prop} {v0 v1 : Value} (k : Kept x x V V1 ∧ R) : Kept x x V ((V1.setCell ⟨x, 0, none⟩ v0).setCell ⟨x, 1, none⟩ v1) :=
  (k.1.setCell ⟨x, 0, none⟩ _ (.inl rfl)).setCell ⟨x, 1, none⟩ _ (.inl rfl)
set_option maxRecDepth 100000 in
set_option maxHeartbeats 6400000 in
theorem law7_words (N h l lim win rate cost ahead T rem ret t0 n1 tn ts tn1 ts1 h1 l1 fh fl qh ql lh ll ph pl nh nl k2 sm dd ch cl ah al eh el wq : Int) (z less okq : Bool) (w : World)
    (D : Gives 21 #[.int .u64 h, .int .u64 l, .int .i64 lim, .int .i64 win, .int .i64 rate, .int .i64 cost, .int .i64 ahead] (.bool true))
    (hlim : IntKind.u64.wrap lim = lim) (hwin : IntKind.u64.wrap win = win) (hrate : IntKind.u64.wrap rate = rate) (hcv : IntKind.u64.wrap cost = cost) (hcav : IntKind.u64.wrap (IntKind.i64.wrap (cost + ahead)) = sm)
    (hdd : Hid (z = true → IntKind.u64.wrap (IntKind.u64.wrap t0 - IntKind.u64.wrap N) = dd))
    (hz : Hid (z = (h != 0 || l != 0))) (hz0 : Hid (z = false → t0 = T ∧ lh = h ∧ ll = l)) (hz1 : Hid (z = true → T < N → t0 = N)) (hz2 : Hid (z = true → ¬ T < N → t0 = T))
    (C22a : Gives 22 #[.int .u64 lim, .int .u64 win] (.agg #[.int .u64 fh, .int .u64 fl]))
    (C22r : Hid (z = true → Gives 22 #[.int .u64 rate, .int .u64 dd] (.agg #[.int .u64 qh, .int .u64 ql])))
    (C23 : Hid (z = true → Gives 23 #[.agg #[.int .u64 h, .int .u64 l], .agg #[.int .u64 qh, .int .u64 ql]] (.agg #[.int .u64 lh, .int .u64 ll])))
    (C22b : Gives 22 #[.int .u64 sm, .int .u64 win] (.agg #[.int .u64 ph, .int .u64 pl]))
    (C24 : Gives 24 #[.agg #[.int .u64 lh, .int .u64 ll], .agg #[.int .u64 ph, .int .u64 pl]] (.agg #[.int .u64 nh, .int .u64 nl]))
    (C25 : Gives 25 #[.agg #[.int .u64 fh, .int .u64 fl], .agg #[.int .u64 nh, .int .u64 nl]] (.bool less))
    (C26 : Gives 26 #[.agg #[.int .u64 lh, .int .u64 ll], .int .u64 win, .int .u64 lim] (.tuple #[.int .u64 k2, .bool true]))
    (N0 : Hid (BNew N tn ts h l))
    (TK : Hid (∀ (W : World) (b : Nat), BB W b tn ts h l →
      Calls Try.prog 28 #[.pointer (some ⟨b, 0, none⟩), .agg #[.int .u8 0, .int .i64 lim, .int .i64 win, .int .i64 rate, .int .u8 0, .int .i64 0, .int .i64 0, .int .i64 0], .int .i64 cost, .int .i64 ahead, .int .i64 T] W fun e w' =>
        e = .returned (.tuple #[.bool (!less), .int .i64 lim, .int .i64 rem, .int .i64 ret]) ∧ Kept b b W w' ∧ BB w' b tn1 ts1 h1 l1))
    (S0 : Hid (∀ (W : World) (b : Nat), BB W b tn1 ts1 h1 l1 → Calls Try.prog 29 #[.pointer (some ⟨b, 0, none⟩)] W fun e w' => e = .returned (.tuple #[.int .i64 n1, .int .u64 h1, .int .u64 l1]) ∧ Below W.heap.size W w'))
    (hk2 : IntKind.i64.wrap k2 = k2)
    (C22c : Gives 22 #[.int .u64 cost, .int .u64 win] (.agg #[.int .u64 ch, .int .u64 cl]))
    (C24b : Gives 24 #[.agg #[.int .u64 lh, .int .u64 ll], .agg #[.int .u64 ch, .int .u64 cl]] (.agg #[.int .u64 ah, .int .u64 al]))
    (ok1 : Hid (less = false → rem = lim - cost - k2 ∧ ret = 0 ∧ n1 = t0 ∧ h1 = ah ∧ l1 = al ∧ IntKind.i64.wrap (lim - cost) = lim - cost ∧ IntKind.i64.wrap (lim - cost - k2) = lim - cost - k2))
    (C23b : Gives 23 #[.agg #[.int .u64 nh, .int .u64 nl], .agg #[.int .u64 fh, .int .u64 fl]] (.agg #[.int .u64 eh, .int .u64 el]))
    (C26b : Gives 26 #[.agg #[.int .u64 eh, .int .u64 el], .int .u64 rate, .int .u64 9223372036854775807] (.tuple #[.int .u64 wq, .bool okq]))
    (ok2 : Hid (less = true → rem = lim - k2 ∧ n1 = N ∧ h1 = h ∧ l1 = l ∧ IntKind.i64.wrap (lim - k2) = lim - k2 ∧ (okq = true → IntKind.i64.wrap wq = ret) ∧ (okq = false → ret = 9223372036854775807))) :
    Calls Try.prog 7 #[.int .i64 N, .int .u64 h, .int .u64 l, .int .i64 lim, .int .i64 win, .int .i64 rate, .int .i64 cost, .int .i64 ahead, .int .i64 T] w fun e w' => e = .returned (.bool true) ∧ Below w.heap.size w w' := by
  go_enter Try.func7, Try.ntmps7
  go_wp2_with fail
  refine (D _).mono ?_
  rintro e w1 ⟨rfl, x1⟩
  have Y1 : Hid (Below w.heap.size w w1) := x1
  clear x1 D
  go_wp2_with fail
  refine (C22a _).mono ?_
  rintro e w2 ⟨rfl, x2⟩
  have Y2 : Hid (Below w.heap.size w w2) := Y1.out.trans (x2.mono Y1.out.size)
  clear x2 Y1 C22a
  go_upto_region 8 with fail
  refine gen_wp _ (fun W => Hid (Below w.heap.size w W ∧ U2 W w2.heap.size fh fl ∧ U2 W (w2.heap.size + 1) h l ∧ U2 W (w2.heap.size + 1 + 1) h l ∧ w.heap.size ≤ w2.heap.size)) ?_ ?_
  · refine ⟨((Y2.out.alloc Y2.out.size _).alloc (by simp; have := Y2.out.size; omega) _).alloc (by simp; have := Y2.out.size; omega) _, ?_, ?_, ?_, Y2.out.size⟩ <;> (constructor <;> simp [go_sem])
  generalize w2.heap.size = F
  rintro W HW
  clear Y2
  have HB : Hid (Below w.heap.size w W) := HW.out.1
  have HF : Hid (U2 W F fh fl) := HW.out.2.1
  have HM : Hid (U2 W (F + 1) h l) := HW.out.2.2.1
  have HL : Hid (U2 W (F + 1 + 1) h l) := HW.out.2.2.2.1
  have hF : w.heap.size ≤ F := HW.out.2.2.2.2
  clear HW
  go_cut [64] (fun x wx => x = .bool z ∧ wx = W)
  case first =>
    by_cases c1 : h = 0
    · have e : z = (l != 0) := by rw [hz.out]; simp [c1]
      subst c1
      go_wp2_with fail
      go_meet
      exact ⟨by rw [e], rfl⟩
    · have c1' : (h != 0) = true := by simpa using c1
      have e : z = true := by rw [hz.out]; simp [c1]
      go_wp2_with fail
      go_meet
      exact ⟨by rw [e], rfl⟩
  case rest =>
  obtain ⟨rfl, rfl⟩ := hcut
  clear hz
  go_upto_if 64 with fail
  go_cut [22] (fun x wx => x = .int .i64 t0 ∧ Hid (Below w.heap.size w wx ∧ U2 wx F fh fl ∧ U2 wx (F + 1 + 1) lh ll))
  case first =>
    cases z with
    | false =>
      obtain ⟨e1, e2, e3⟩ := hz0.out (by simp)
      go_wp2_with fail
      go_meet
      exact ⟨by rw [e1], HB.out, HF.out, by rw [e2, e3]; exact HL.out⟩
    | true =>
      have D1 : IntKind.u64.wrap (IntKind.u64.wrap t0 - IntKind.u64.wrap N) = dd := hdd.out (by simp)
      have C1 : Gives 22 #[.int .u64 rate, .int .u64 dd] (.agg #[.int .u64 qh, .int .u64 ql]) := C22r.out (by simp)
      have C2 : Gives 23 #[.agg #[.int .u64 h, .int .u64 l], .agg #[.int .u64 qh, .int .u64 ql]] (.agg #[.int .u64 lh, .int .u64 ll]) := C23.out (by simp)
      clear hdd C22r C23 hz0
      go_upto_if 67 with fail
      go_cut [22] (fun x wx => x = .int .i64 t0 ∧ wx = wc)
      case first =>
        by_cases c : T < N
        · have e : t0 = N := hz1.out (by simp) (by omega)
          go_wp2_with fail
          go_meet
          exact ⟨by rw [e], rfl⟩
        · have e : t0 = T := hz2.out (by simp) (by omega)
          go_wp2_with fail
          go_meet
          exact ⟨by rw [e], rfl⟩
      case rest =>
        obtain ⟨rfl, rfl⟩ := hcut
        clear hz1 hz2
        have nM : F + 1 ≠ F + 1 + 1 := by omega
        have nF : F ≠ F + 1 + 1 := by omega
        go_upto_region 11 with fail
        obtain ⟨l0, l1', g0, g1⟩ := HL.out
        as_aux_lemma =>
          go_region_held3 (fun V' => Kept (F + 1 + 1) (F + 1 + 1) wc V' ∧ V'.cell? ⟨F + 1, 0, none⟩ = some (.int .u64 h) ∧ V'.cell? ⟨F + 1, 1, none⟩ = some (.int .u64 l))
            (first
            | (exact keptU HM.out nM ((Kept.refl _ _ wc).drew))
            | (exact keptU HM.out nM (keptL (by assumption) (by assumption)))
            | (exact keptU HM.out nM (keptS2 (by assumption))))
            (first
            | (go_at_call 22; refine (C1 _).mono ?_; rintro e w3 ⟨rfl, x3⟩; have U3 : Hid (U2 w3 (F + 1 + 1) h l) := HL.out.later (bdrew x3); obtain ⟨l0, l1', g0, g1⟩ := U3.out)
            | (go_at_call 23; refine (C2 _).mono ?_; rintro e w4 ⟨rfl, x4⟩; have U4 : Hid (U2 w4 (F + 1 + 1) h l) := U3.out.later x4; obtain ⟨l0, l1', g0, g1⟩ := U4.out))
          all_goals
            go_wp2_with fail
            go_meet
            rename_i hH
            exact ⟨rfl, Kept.under HB.out (by omega) hH.1, HF.out.kept hH.1 nF nF, U4.out.put lh ll⟩
  case rest =>
    obtain ⟨rfl, HC⟩ := hcut
    clear HB HF HM HL hdd C22r C23 hz0 hz1 hz2
    have HB : Hid (Below w.heap.size w wc) := HC.out.1
    have HF : Hid (U2 wc F fh fl) := HC.out.2.1
    have HL : Hid (U2 wc (F + 1 + 1) lh ll) := HC.out.2.2
    clear HC
    have hp3 : F + 1 + 1 < wc.heap.size := World.block_lt_of_cell? _ _ HL.out.m0
    go_upto_region 12 with fail
    go_cut [24] (fun x wx => ∃ q : Nat, x = .pointer (some ⟨q, 0, none⟩) ∧ Hid (Below w.heap.size w wx ∧ U2 wx F fh fl ∧ U2 wx (F + 1 + 1) lh ll ∧ U2 wx q nh nl))
    case first =>
      as_aux_lemma =>
        go_region_held3 (fun V' => Below wc.heap.size wc V' ∧ V'.cell? ⟨F + 1 + 1, 0, none⟩ = some (.int .u64 lh) ∧ V'.cell? ⟨F + 1 + 1, 1, none⟩ = some (.int .u64 ll))
          (first
          | (exact sv_start HL.out)
          | (exact sv_later (by assumption) (by assumption))
          | (exact sv_alloc (by assumption))
          | (refine sv_re hp3 ?_ (by assumption); first | (exact Nat.le_refl _) | (omega))
          | (refine sv_set hp3 ?_ (by assumption); first | (exact Nat.le_refl _) | (omega)))
          (first
          | (go_at_call 22; refine (C22b _).mono ?_; rintro e w5 ⟨rfl, x5⟩; obtain ⟨hc5, hf5⟩ := bcell x5; have sz5 := x5.size; (try simp [go_sem] at sz5); (try have hz5 := Nat.lt_of_succ_le sz5))
          | (go_at_call 24; refine (C24 _).mono ?_; rintro e w6 ⟨rfl, x6⟩; obtain ⟨hc6, hf6⟩ := bcell x6; have sz6 := x6.size; (try simp [go_sem] at sz6); (try have hz6 := Nat.lt_of_succ_le sz6)))
        · go_wp2_with fail
          go_meet
          rename_i hH
          exact ⟨_, rfl, HB.out.trans (hH.1.mono HB.out.size), HF.out.later hH.1, HL.out.later hH.1, U2.new w6 nh nl 45⟩
        · go_wp2_with fail
          go_meet
          rename_i hH
          exact ⟨_, rfl, HB.out.trans (hH.1.mono HB.out.size), HF.out.later hH.1, HL.out.later hH.1, ((U2.new w5 0 0 45).later x6).put nh nl⟩
        · go_wp2_with fail
          go_meet
          rename_i hH
          exact ⟨_, rfl, HB.out.trans (hH.1.mono HB.out.size), HF.out.later hH.1, HL.out.later hH.1, ((((U2.new wc 0 0 45).drew).later x5).later x6).put nh nl⟩
    case rest =>
      obtain ⟨q, rfl, HC⟩ := hcut
      clear HB HF HL hp3 C22b C24 hcav
      have HB : Hid (Below w.heap.size w wc) := HC.out.1
      have HF : Hid (U2 wc F fh fl) := HC.out.2.1
      have HL : Hid (U2 wc (F + 1 + 1) lh ll) := HC.out.2.2.1
      have HQ : Hid (U2 wc q nh nl) := HC.out.2.2.2
      clear HC
      have f0 := HF.out.m0
      have f1 := HF.out.m1
      have q0 := HQ.out.m0
      have q1 := HQ.out.m1
      go_wp2_with fail
      refine (C25 _).mono ?_
      rintro e w7 ⟨rfl, x7⟩
      replace HB : Hid (Below w.heap.size w w7) := HB.out.trans (x7.mono HB.out.size)
      replace HF : Hid (U2 w7 F fh fl) := HF.out.later x7
      replace HL : Hid (U2 w7 (F + 1 + 1) lh ll) := HL.out.later x7
      replace HQ : Hid (U2 w7 q nh nl) := HQ.out.later x7
      clear x7 f0 f1 q0 q1 C25
      have f0 := HL.out.m0
      have f1 := HL.out.m1
      go_wp2_with fail
      refine (C26 _).mono ?_
      rintro e w8 ⟨rfl, x8⟩
      replace HB : Hid (Below w.heap.size w w8) := HB.out.trans (x8.mono HB.out.size)
      replace HF : Hid (U2 w8 F fh fl) := HF.out.later x8
      replace HL : Hid (U2 w8 (F + 1 + 1) lh ll) := HL.out.later x8
      replace HQ : Hid (U2 w8 q nh nl) := HQ.out.later x8
      clear x8 f0 f1 C26
      go_wp2_with fail
      refine (N0.out _).mono ?_
      rintro e w9 ⟨b, rfl, hb, x9, hBB⟩
      have B9 : Hid (BB w9 b tn ts h l) := hBB
      have hbb : Hid (w.heap.size ≤ b ∧ F ≠ b ∧ F + 1 + 1 ≠ b ∧ q ≠ b) := by
        have a1 := HB.out.size
        have a2 : F < w8.heap.size := World.block_lt_of_cell? _ _ HF.out.m0
        have a3 : F + 1 + 1 < w8.heap.size := World.block_lt_of_cell? _ _ HL.out.m0
        have a4 : q < w8.heap.size := World.block_lt_of_cell? _ _ HQ.out.m0
        exact ⟨by omega, by omega, by omega, by omega⟩
      replace HB : Hid (Below w.heap.size w w9) := HB.out.trans (x9.mono HB.out.size)
      replace HF : Hid (U2 w9 F fh fl) := HF.out.later x9
      replace HL : Hid (U2 w9 (F + 1 + 1) lh ll) := HL.out.later x9
      replace HQ : Hid (U2 w9 q nh nl) := HQ.out.later x9
      clear x9 hBB hb N0
      go_wp2_with fail
      refine (newPolicy_any lim win rate _).mono ?_
      rintro e w10 ⟨rfl, x10⟩
      replace HB : Hid (Below w.heap.size w w10) := HB.out.trans (x10.mono HB.out.size)
      replace HF : Hid (U2 w10 F fh fl) := HF.out.later x10
      replace HL : Hid (U2 w10 (F + 1 + 1) lh ll) := HL.out.later x10
      replace HQ : Hid (U2 w10 q nh nl) := HQ.out.later x10
      replace B9 : Hid (BB w10 b tn ts h l) := B9.out.later x10
      clear x10
      go_wp2_with fail
      refine (TK.out _ b B9.out).mono ?_
      rintro e w11 ⟨rfl, k11, hBB⟩
      replace HB : Hid (Below w.heap.size w w11) := Kept.under HB.out hbb.out.1 k11
      replace HF : Hid (U2 w11 F fh fl) := HF.out.kept k11 hbb.out.2.1 hbb.out.2.1
      replace HL : Hid (U2 w11 (F + 1 + 1) lh ll) := HL.out.kept k11 hbb.out.2.2.1 hbb.out.2.2.1
      replace HQ : Hid (U2 w11 q nh nl) := HQ.out.kept k11 hbb.out.2.2.2 hbb.out.2.2.2
      have B11 : Hid (BB w11 b tn1 ts1 h1 l1) := hBB
      clear k11 hBB B9 TK hbb
      go_wp2_with fail
      refine (S0.out _ b B11.out).mono ?_
      rintro e w12 ⟨rfl, x12⟩
      replace HB : Hid (Below w.heap.size w w12) := HB.out.trans (x12.mono HB.out.size)
      replace HF : Hid (U2 w12 F fh fl) := HF.out.later x12
      replace HL : Hid (U2 w12 (F + 1 + 1) lh ll) := HL.out.later x12
      replace HQ : Hid (U2 w12 q nh nl) := HQ.out.later x12
      clear x12 B11 S0
      have bl : (lim != lim) = false := by simp
      cases less with
      | false =>
        as_aux_lemma =>
          obtain ⟨rfl, rfl, rfl, rfl, rfl, v1, v2⟩ := ok1.out (by simp)
          clear ok1 ok2 C23b C26b
          have hp3 : F + 1 + 1 < w12.heap.size := World.block_lt_of_cell? _ _ HL.out.m0
          go_upto_region 21 with fail
          go_cut [36] (fun x wx => ∃ q : Nat, x = .pointer (some ⟨q, 0, none⟩) ∧ Hid (Below w.heap.size w wx ∧ U2 wx q h1 l1))
          case first =>
            as_aux_lemma =>
              go_region_held3 (fun V' => Below w12.heap.size w12 V' ∧ V'.cell? ⟨F + 1 + 1, 0, none⟩ = some (.int .u64 lh) ∧ V'.cell? ⟨F + 1 + 1, 1, none⟩ = some (.int .u64 ll))
                (first
                | (exact sv_start HL.out)
                | (exact sv_later (by assumption) (by assumption))
                | (exact sv_alloc (by assumption))
                | (refine sv_re hp3 ?_ (by assumption); first | (exact Nat.le_refl _) | (omega))
                | (refine sv_set hp3 ?_ (by assumption); first | (exact Nat.le_refl _) | (omega)))
                (first
                | (go_at_call 22; refine (C22c _).mono ?_; rintro e w5 ⟨rfl, x5⟩; obtain ⟨hc5, hf5⟩ := bcell x5; have sz5 := x5.size; (try simp [go_sem] at sz5); (try have hz5 := Nat.lt_of_succ_le sz5))
                | (go_at_call 24; refine (C24b _).mono ?_; rintro e w6 ⟨rfl, x6⟩; obtain ⟨hc6, hf6⟩ := bcell x6; have sz6 := x6.size; (try simp [go_sem] at sz6); (try have hz6 := Nat.lt_of_succ_le sz6)))
              · go_wp2_with fail
                go_meet
                rename_i hH
                exact ⟨_, rfl, HB.out.trans (hH.1.mono HB.out.size), U2.new w6 h1 l1 45⟩
              · go_wp2_with fail
                go_meet
                rename_i hH
                exact ⟨_, rfl, HB.out.trans (hH.1.mono HB.out.size), ((U2.new w5 0 0 45).later x6).put h1 l1⟩
              · go_wp2_with fail
                go_meet
                rename_i hH
                exact ⟨_, rfl, HB.out.trans (hH.1.mono HB.out.size), ((((U2.new w12 0 0 45).drew).later x5).later x6).put h1 l1⟩
          case rest =>
            obtain ⟨p, rfl, HC⟩ := hcut
            clear HB HF HL HQ hp3 C22c C24b
            have HB : Hid (Below w.heap.size w wc) := HC.out.1
            obtain ⟨a0, a1, -, -⟩ := HC.out.2
            clear HC
            go_wp2_with fail
            go_ret
            exact ⟨by simp, HB.out⟩
      | true =>
        obtain ⟨rfl, rfl, rfl, rfl, v1, v2, v3⟩ := ok2.out (by simp)
        have HV : Hid ((okq = true → IntKind.i64.wrap wq = ret) ∧ (okq = false → ret = 9223372036854775807)) := ⟨v2, v3⟩
        clear ok1 ok2 C22c C24b v2 v3
        have f0 := HF.out.m0
        have f1 := HF.out.m1
        have q0 := HQ.out.m0
        have q1 := HQ.out.m1
        as_aux_lemma =>
          go_wp2_with fail
          refine (C23b _).mono ?_
          rintro e w13 ⟨rfl, x13⟩
          replace HB : Hid (Below w.heap.size w w13) := HB.out.trans (x13.mono HB.out.size)
          clear x13 HF HL HQ f0 f1 q0 q1 C23b
          go_wp2_with fail
          refine (C26b _).mono ?_
          rintro e w14 ⟨rfl, x14⟩
          replace HB : Hid (Below w.heap.size w w14) := HB.out.trans (x14.mono HB.out.size)
          clear x14 C26b
          cases okq with
          | true =>
            have hv : IntKind.i64.wrap wq = ret := HV.out.1 (by simp)
            go_wp2_with fail
            go_ret
            exact ⟨by simp, HB.out⟩
          | false =>
            obtain rfl : ret = 9223372036854775807 := HV.out.2 (by simp)
            go_wp2_with fail
            go_ret
            exact ⟨by simp, HB.out⟩
end Go.Proofs.Qxb6613076a
