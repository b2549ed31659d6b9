/- symMerge's general part, way 4. -/
import Derived.Test.YtckfgnbilcjdpaaGreatDoorQ12
namespace Go.Proofs.YtckfgnbilcjdpaaGreatDoor
open Go.RowKit Go.Sort
set_option maxRecDepth 100000

set_option maxHeartbeats 8000000 in
theorem sym_g4 (N : Nat) (_IH : Hid (SymFor N)) (g cap : Nat) (M : List Sn) (a m b : Nat) (w : World) (hr : Rows encN 4 94 w g cap M) (hl : M.length ≤ 1000000) (hok : ∀ x ∈ M, SnOk x) (ham : a < m) (hmb : m < b) (hb : b ≤ M.length) (hu : SortR M a m) (hv : SortR M m b) (_hN : b - a ≤ N + 1)
    (_c1 : ¬ m = a + 1) (c2 : ¬ b = m + 1) (mid s0 r0 st en : Nat) (hmid : mid = (a + b) / 2) (hm1 : a < mid) (hm2 : mid < b) (hsr : (mid < m ∧ s0 = mid + m - b ∧ r0 = mid) ∨ (m ≤ mid ∧ s0 = a ∧ r0 = m)) (hs1 : s0 ≤ r0) (hs2 : a ≤ s0) (hs3 : r0 ≤ m) (hs4 : r0 ≤ mid) (hs5 : mid + m ≤ b + s0)
    (hst0 : s0 ≤ st) (hst1 : st ≤ r0) (F1 : ∀ c x y, s0 ≤ c → c < st → M[c]? = some x → M[mid + m - 1 - c]? = some y → leN x y) (F2 : ∀ c x y, st ≤ c → c < r0 → M[c]? = some x → M[mid + m - 1 - c]? = some y → cmpN y x < 0) (hen : en = mid + m - st)
    (k1 : st < m) (k2 : st < mid) (k3 : st ≤ a) (k4 : b + st ≤ mid + m) :
    Calls Tryz.prog 73 #[.slice (some ⟨g, 0, none⟩) M.length cap, .int .i64 a, .int .i64 m, .int .i64 b, .func (.func 53) #[] #[]] w fun e w' => e = .returned (.tuple #[]) ∧ ∃ M', MergeR M M' a b ∧ SortR M' a b ∧ Rows encN 4 94 w' g cap M' ∧ Keeps (fun j => j = g) w w' := by
    have G1 := Lib.hid F1; have G2 := Lib.hid F2
    clear F1 F2
    have HEN := Lib.hid hen
    have he4 : en + st = mid + m := by omega
    have he1 : mid ≤ en := by omega
    have he2 : en ≤ b := by omega
    have he3 : m ≤ en := by omega
    have hsts : st ≤ m := by omega
    have hstm : st ≤ mid := by omega
    clear hen
    have HR := Lib.hid hr; clear hr
    have HOK := Lib.hid hok; clear hok
    have HU := Lib.hid hu; clear hu
    have HV := Lib.hid hv; clear hv
    have hne1 : ((m : Int) - a == 1) = false := by rw [Bool.eq_false_iff]; intro h; rw [beq_iff_eq] at h; omega
    have hne2 : ((b : Int) - m == 1) = false := by rw [Bool.eq_false_iff]; intro h; rw [beq_iff_eq] at h; omega
    have hh' : Hid (((a : Int) + b) / 2 = (mid : Int)) := by rw [Hid]; omega
    have HSR := Lib.hid hsr
    have HMID := Lib.hid hmid
    obtain ⟨nN, hn⟩ : ∃ q, q = mid + m := ⟨_, rfl⟩
    obtain ⟨pN, hp⟩ : ∃ q, q = mid + m - 1 := ⟨_, rfl⟩
    have q1 : IntKind.i64.wrap ((mid : Int) + m) = (nN : Int) := by rw [hn, IntWalk.i64_in _ (by omega)]; omega
    have q2 : IntKind.i64.wrap ((nN : Int) - 1) = (pN : Int) := by rw [hn, hp, IntWalk.i64_in _ (by omega)]; omega
    have q3 : mid < m → IntKind.i64.wrap ((nN : Int) - b) = (s0 : Int) := by
      intro h
      rcases hsr with ⟨_, e, _⟩ | ⟨e, _⟩
      · rw [hn, e, IntWalk.i64_in _ (by omega)]; omega
      · omega
    have q4 : mid < m → r0 = mid := by
      intro h
      rcases hsr with ⟨_, _, e⟩ | ⟨e, _⟩
      · exact e
      · omega
    have q5 : ¬ mid < m → s0 = a ∧ r0 = m := by
      intro h
      rcases hsr with ⟨e, _⟩ | ⟨_, e⟩
      · omega
      · exact e
    have Q3 := Lib.hid q3; have Q4 := Lib.hid q4; have Q5 := Lib.hid q5
    have HN := Lib.hid hn; have HP := Lib.hid hp
    have hn1 : nN = pN + 1 := by omega
    have HN1 := Lib.hid hn1
    clear hmid hsr q3 q4 q5 hn hp hn1
    go_enter Tryz.func73, Tryz.ntmps73
    go_upto_region 25 with (fail)
    rw [hh'.out]
    go_upto_if 140 with (fail)
    go_cut [20, 21] (fun vs vr wx => vs = .int .i64 s0 ∧ vr = .int .i64 r0 ∧ w = wx)
    case first =>
      by_cases h : mid < m
      · have q3 := Q3.out h
        have q4 := Lib.hid (Q4.out h)
        have hd : decide ((mid : Int) < (m : Int)) = true := by simp; omega
        go_wp2_with fail
        go_meet
        case rel => exact ⟨rfl, by rw [q4.out], rfl⟩
      · have q5 := Lib.hid (Q5.out h)
        have hd : decide ((mid : Int) < (m : Int)) = false := by simp; omega
        go_wp2_with fail
        go_meet
        case rel => exact ⟨by rw [q5.out.1], by rw [q5.out.2], rfl⟩
    case rest =>
      obtain ⟨rfl, rfl, rfl⟩ := hcut
      go_wp2
      go_loopw [20, 21] (fun vi vj wx => ∃ (i j : Nat), s0 ≤ i ∧ i ≤ j ∧ j ≤ r0 ∧ vi = .int .i64 i ∧ vj = .int .i64 j ∧ Hid (∀ c x y, s0 ≤ c → c < i → M[c]? = some x → M[pN - c]? = some y → leN x y) ∧ Hid (∀ c x y, j ≤ c → c < r0 → M[c]? = some x → M[pN - c]? = some y → cmpN y x < 0) ∧ Hid (Grew w wx)) (fun vi vj _ => ((intOf vj) - (intOf vi)).toNat)
      case atStart => exact ⟨s0, r0, Nat.le_refl _, hs1, Nat.le_refl _, rfl, rfl, fun c x y h1 h2 => by omega, fun c x y h1 h2 => by omega, Grew.refl _⟩
      case round =>
        obtain ⟨i, j, hi, hij, hj, rfl, rfl, H1, H2, HG⟩ := hrel
        by_cases hlt : i < j
        · obtain ⟨h, hh⟩ : ∃ h, h = (i + j) / 2 := ⟨_, rfl⟩
          have hpn := HP.out
          obtain ⟨x, hx⟩ := get_some (M := M) (q := h) (by omega)
          obtain ⟨pc, hpc⟩ : ∃ q, q = pN - h := ⟨_, rfl⟩
          obtain ⟨y, hy⟩ := get_some (M := M) (q := pc) (by omega)
          go_upto_region 35 with (fail)
          have hh2 : ((i : Int) + j) / 2 = (h : Int) := by omega
          have hi1 : i ≤ h := by omega
          have hi2 : h < j := by omega
          have hpm : m ≤ pc := by omega
          have hpb : pc < b := by omega
          have b1 : (h : Int) < (M.length : Int) := by omega
          have b2 : (pc : Int) < (M.length : Int) := by omega
          have b3 : h < M.length := by omega
          have b4 : pc < M.length := by omega
          have q6 : IntKind.i64.wrap ((pN : Int) - h) = (pc : Int) := by rw [hpc, IntWalk.i64_in _ (by omega)]; omega
          rw [hh2]
          have HPC := Lib.hid hpc
          clear hh2 hh hpc hpn
          have hrw : Rows encN 4 94 wr g cap M := HR.out.below HG.out.below
          have x0 := hrw.grownCell hx 0 _ rfl
          have x1 := hrw.grownCell hx 1 _ rfl
          have x2 := hrw.grownCell hx 2 _ rfl
          have x3 := hrw.grownCell hx 3 _ rfl
          have y0 := hrw.grownCell hy 0 _ rfl
          have y1 := hrw.grownCell hy 1 _ rfl
          have y2 := hrw.grownCell hy 2 _ rfl
          have y3 := hrw.grownCell hy 3 _ rfl
          simp only [Nat.add_zero] at x0 y0
          have hcall : ∀ n os, Calls Tryz.prog 53 #[.agg #[.string (bs y.name), .string (bs y.value), .int .i64 y.plen, .int .i64 y.born], .agg #[.string (bs x.name), .string (bs x.value), .int .i64 x.plen, .int .i64 x.born]] (grow (wr.drewN n) os) fun e w' => e = .returned (.int .i64 (cmpN y x)) ∧ ∃ q os', w' = grow ((grow (wr.drewN n) os).drewN q) os' :=
            fun n os => (cmp53 y x (HOK.out y (List.mem_of_getElem? hy)) (HOK.out x (List.mem_of_getElem? hx)) _).mono (fun _ _ h => h)
          have HCALL := Lib.hid hcall; clear hcall hrw
          have HXX := Lib.hid hx; have HYY := Lib.hid hy; clear hx hy
          have HGR : Hid (∀ n os, Grew w (grow (wr.drewN n) os)) := fun n os => HG.out.trans ⟨n, os, rfl⟩
          have mixed : Tryz.prog.follows .mixedOrders = true := by kernel_rfl
          cases hcmp : decide (cmpN y x < 0) with
          | false =>
            go_quiet_grown (exact Calls.grown_of (HCALL.out _ _))
            have r1 : Hid (∀ c x y, s0 ≤ c → c < h + 1 → M[c]? = some x → M[pN - c]? = some y → leN x y) := by
              intro c x' y' h1 h2 hcx hcy
              have hpc := HPC.out
              by_cases e : c < i
              · exact H1.out c x' y' h1 e hcx hcy
              · have hle : leN x y := of_decide_eq_false hcmp
                by_cases e2 : c = h
                · subst e2; rw [HXX.out] at hcx; cases hcx; rw [← hpc, HYY.out] at hcy; cases hcy; exact hle
                · exact leN_trans (HU.out c h x' x (by omega) (by omega) (by omega) hcx HXX.out) (leN_trans hle (HV.out pc (pN - c) y y' (by omega) (by have := HP.out; omega) (by have := HP.out; omega) HYY.out hcy))
            have r2 := Lib.hid (HGR.out nq osq)
            clear x0 x1 x2 x3 y0 y1 y2 y3
            go_wp2
            exact ⟨⟨h + 1, j, by omega, by omega, hj, by go_num, rfl, r1, H2, r2⟩, by simp [intOf]; omega⟩
          | true =>
            go_quiet_grown (exact Calls.grown_of (HCALL.out _ _))
            have r1 : Hid (∀ c x y, h ≤ c → c < r0 → M[c]? = some x → M[pN - c]? = some y → cmpN y x < 0) := by
              intro c x' y' h1 h2 hcx hcy
              have hpc := HPC.out
              by_cases e : j ≤ c
              · exact H2.out c x' y' e h2 hcx hcy
              · have hge := of_decide_eq_true hcmp
                by_cases e2 : c = h
                · subst e2; rw [HXX.out] at hcx; cases hcx; rw [← hpc, HYY.out] at hcy; cases hcy; exact hge
                · have h3 : leN y' y := HV.out (pN - c) pc y' y (by have := HP.out; omega) (by have := HP.out; omega) (by omega) hcy HYY.out
                  have h4 : leN x x' := HU.out h c x x' (by omega) (by omega) (by omega) HXX.out hcx
                  exact ltN_trans h3 (ltN_trans2 hge h4)
            have r2 := Lib.hid (HGR.out nq osq)
            clear x0 x1 x2 x3 y0 y1 y2 y3
            go_wp2
            exact ⟨⟨i, h, hi, hi1, by omega, rfl, rfl, H1, r1, r2⟩, by simp [intOf]; omega⟩
        · have hije : i = j := by omega
          subst hije
          have hkp0 : Hid (Keeps (fun j => j = g) w wr) := (Keeps.refl _ w).below HG.out.below
          have hrw0 : Hid (Rows encN 4 94 wr g cap M) := HR.out.below HG.out.below
          have hf : Hid (Found M s0 r0 (mid + m - 1) i) := by
            rw [← HP.out]
            exact ⟨H1.out, fun c x y h1 h2 hx hy => ltN_le (H2.out c x y h1 h2 hx hy)⟩
          have hist : i = st := by
            rcases Nat.lt_trichotomy i st with h | h | h
            · exfalso
              have hpn := HP.out
              obtain ⟨x, hx⟩ := get_some (M := M) (q := i) (by omega)
              obtain ⟨y, hy⟩ := get_some (M := M) (q := pN - i) (by omega)
              have h1 := H2.out i x y (Nat.le_refl _) (by omega) hx hy
              exact G1.out i x y (by omega) h hx (by rw [← hpn]; exact hy) h1
            · exact h
            · exfalso
              have hpn := HP.out
              obtain ⟨x, hx⟩ := get_some (M := M) (q := st) (by omega)
              obtain ⟨y, hy⟩ := get_some (M := M) (q := pN - st) (by omega)
              have h1 := H1.out st x y (by omega) h hx hy
              exact h1 (G2.out st x y (Nat.le_refl _) (by omega) hx (by rw [← hpn]; exact hy))
          subst hist
          have hn1 := HN.out
          have q7 : IntKind.i64.wrap ((nN : Int) - i) = (en : Int) := by rw [HEN.out, hn1, IntWalk.i64_in _ (by omega)]; omega
          have CROSS : Hid (∀ M1, rotAt M M1 i m en → SortR M1 a i ∧ SortR M1 i mid ∧ SortR M1 mid en ∧ SortR M1 en b ∧ (∀ p q x y, a ≤ p → p < mid → mid ≤ q → q < b → M1[p]? = some x → M1[q]? = some y → leN x y)) := by
            intro M1 h1
            have hen := HEN.out
            rw [hen] at h1 ⊢
            exact sym_cross hb HU.out HV.out HMID.out ham hmb HSR.out hst0 hst1 hf.out h1
          clear hn1 HG H1 H2 G1 G2
          have d1 : decide ((i : Int) < (m : Int)) = true := by simp; omega
          have d2 : decide ((m : Int) < (en : Int)) = true := by simp; omega
          have hc := rotate_any g cap M i m en (.func (.func 53) #[] #[]) wr hrw0.out hl (by omega) (by omega) (by omega)
          have HC := Lib.hid hc; clear hc
          go_wp2_with fail
          refine HC.out.mono ?_
          rintro e w5 ⟨rfl, M1, hrot, hr5, hk5⟩
          have HROT := Lib.hid hrot
          have hML1 : M1.length = M.length := hrot.1
          have HR5 := Lib.hid hr5
          have HK5 : Hid (Keeps (fun j => j = g) w w5) := hkp0.out.trans hk5 (fun _ h => Or.inl h)
          clear hrot hr5 hk5 HC d1 d2
          have hcr := CROSS.out M1 HROT.out
          have HCR := Lib.hid hcr
          have HM1 : Hid (MergeR M M1 a b) := (MergeR.rot HROT.out (by omega) (by omega)).widen (by omega) (by omega)
          have hok1 := snOk_perm HOK.out HROT.out.2.1
          have HOK1 := Lib.hid hok1
          clear hcr hok1
          have HM2a : Hid (MergeR M1 M1 a mid) := MergeR.refl _ _ _
          have HS2a : Hid (SortR M1 a mid) := by
            have h := HCR.out
            by_cases c : a < i
            · have : i = mid := by omega
              rw [this] at h; exact h.1
            · have : a = i := by omega
              rw [this]; exact h.2.1
          obtain ⟨M2, hM2⟩ : ∃ M2, M2 = M1 := ⟨_, rfl⟩
          obtain ⟨w6, hw6⟩ : ∃ w6, w6 = w5 := ⟨_, rfl⟩
          have HM2 : Hid (MergeR M1 M2 a mid) := by rw [hM2]; exact HM2a.out
          have HS2 : Hid (SortR M2 a mid) := by rw [hM2]; exact HS2a.out
          have hML2 : M2.length = M.length := by rw [hM2]; exact hML1
          have HR6 : Hid (Rows encN 4 94 w6 g cap M2) := by rw [hM2, hw6]; exact HR5.out
          have HK6 : Hid (Keeps (fun j => j = g) w w6) := by rw [hw6]; exact HK5.out
          rw [← hw6]
          clear hM2 hw6 HM2a HS2a
          have e1 : decide ((a : Int) < (i : Int)) = false := by simp; omega
          have HS3 : Hid (SortR M2 mid en ∧ SortR M2 en b) := ⟨HCR.out.2.2.1.out HM2.out (Or.inr (Nat.le_refl _)), HCR.out.2.2.2.1.out HM2.out (Or.inr (by omega))⟩
          have f1 : decide ((mid : Int) < (en : Int)) = true := by simp; omega
          have f2 : decide ((en : Int) < (b : Int)) = false := by simp; omega
          have HS4 : Hid (SortR M2 mid b) := by
            have : en = b := by omega
            rw [← this]; exact HS3.out.1
          have hfin : Hid (MergeR M M2 a b ∧ SortR M2 a b) := ⟨HM1.out.trans (HM2.out.widen (Nat.le_refl _) (by omega)), sym_done HM2.out HS2.out (MergeR.refl _ mid b) HS4.out HCR.out.2.2.2.2⟩
          go_wp2
          go_end0
          exact ⟨rfl, M2, hfin.out.1, hfin.out.2, HR6.out, HK6.out⟩
end Go.Proofs.YtckfgnbilcjdpaaGreatDoor
