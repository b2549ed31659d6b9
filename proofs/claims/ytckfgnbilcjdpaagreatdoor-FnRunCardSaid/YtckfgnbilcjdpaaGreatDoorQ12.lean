/- symMerge. -/
import Derived.Test.YtckfgnbilcjdpaaGreatDoorQ11
namespace Go.Proofs.YtckfgnbilcjdpaaGreatDoor
open Go.RowKit Go.Sort
set_option maxRecDepth 100000

/-- The cells of one of a row in every world behind draws and new blocks. -/
theorem Rows.grownCell {w : World} {g cap : Nat} {M : List Sn} (h : Rows encN 4 94 w g cap M) {i : Nat} {x : Sn} (hi : M[i]? = some x) (c : Nat) (u : Value) (hu : (encN x)[c]? = some u) : ∀ n os, (grow (w.drewN n) os).cell? ⟨g, i * 4 + c, none⟩ = some u := by
  intro n os
  have hb := (show Grew w (grow (w.drewN n) os) from ⟨n, os, rfl⟩).below
  rw [hb.cell (show (⟨g, i * 4 + c, none⟩ : Addr).block < _ from h.lt)]
  exact h.rowGet hi c u hu

theorem set2_get {M : List Sn} {p q : Nat} {x y : Sn} (hp : p < M.length) (hq : q < M.length) (r : Nat) : ((M.set p y).set q x)[r]? = if r = q then some x else if r = p then some y else M[r]? := by
  rw [List.getElem?_set, List.getElem?_set]
  by_cases e1 : q = r
  · subst e1; rw [if_pos rfl, if_pos (by simpa using hq), if_pos rfl]
  · rw [if_neg e1, if_neg (show ¬ r = q from fun e => e1 e.symm)]
    by_cases e2 : p = r
    · subst e2; rw [if_pos rfl, if_pos hp, if_pos rfl]
    · rw [if_neg e2, if_neg (show ¬ r = p from fun e => e2 e.symm)]
theorem set2_perm {M : List Sn} {p q : Nat} {x y : Sn} (hx : M[p]? = some x) (hy : M[q]? = some y) : ((M.set p y).set q x).Perm M := by
  obtain ⟨hp, rfl⟩ := List.getElem?_eq_some_iff.1 hx
  obtain ⟨hq, rfl⟩ := List.getElem?_eq_some_iff.1 hy
  exact List.set_set_perm hp hq
theorem rot_next {M M1 : List Sn} {a m k : Nat} (hm : m = a + 1) (h : rotAt M M1 a m (k + 1)) (ha : a ≤ k) (hk : k + 1 < M.length) {x y : Sn} (hx : M1[k]? = some x) (hy : M1[k + 1]? = some y) : rotAt M ((M1.set k y).set (k + 1) x) a m (k + 2) := by
  subst hm
  obtain ⟨r1, r2, r3⟩ := h
  refine ⟨by simp [r1], (set2_perm hx hy).trans r2, fun q => ?_⟩
  rw [r3] at hx hy
  rw [set2_get (by omega) (by omega), r3]
  unfold rotF at *
  rw [if_neg (by omega), if_pos (by omega), show a + (k - (a + (k + 1 - (a + 1)))) = a by omega] at hx
  rw [if_neg (by omega), if_neg (by omega)] at hy
  by_cases c1 : q = k + 1
  · subst c1; rw [if_pos rfl, if_neg (by omega), if_pos (by omega), ← hx]; congr 1; omega
  · rw [if_neg c1]
    by_cases c2 : q = k
    · subst c2; rw [if_pos rfl, if_pos (by omega), ← hy]; congr 1; omega
    · rw [if_neg c2]
      by_cases c3 : a ≤ q ∧ q < k
      · rw [if_pos (by omega), if_pos (by omega)]
      · rw [if_neg (by omega), if_neg (by omega), if_neg (by omega), if_neg (by omega)]
theorem rot_prev {M M1 : List Sn} {m k : Nat} (h : rotAt M M1 k m (m + 1)) (hk0 : 0 < k) (hk : k ≤ m) (hl : m < M.length) {x y : Sn} (hx : M1[k]? = some x) (hy : M1[k - 1]? = some y) : rotAt M ((M1.set k y).set (k - 1) x) (k - 1) m (m + 1) := by
  obtain ⟨r1, r2, r3⟩ := h
  refine ⟨by simp [r1], (set2_perm hx hy).trans r2, fun q => ?_⟩
  rw [r3] at hx hy
  rw [set2_get (by omega) (by omega), r3]
  unfold rotF at *
  rw [if_pos (by omega), show m + (k - k) = m by omega] at hx
  rw [if_neg (by omega), if_neg (by omega)] at hy
  by_cases c1 : q = k - 1
  · subst c1; rw [if_pos rfl, if_pos (by omega), ← hx]; congr 1; omega
  · rw [if_neg c1]
    by_cases c2 : q = k
    · subst c2; rw [if_pos rfl, if_neg (by omega), if_pos (by omega), ← hy]; congr 1; omega
    · rw [if_neg c2]
      by_cases c3 : k < q ∧ q < m + 1
      · rw [if_neg (by omega), if_pos (by omega), if_neg (by omega), if_pos (by omega)]; congr 1; omega
      · rw [if_neg (by omega), if_neg (by omega), if_neg (by omega), if_neg (by omega)]

/-- What is known when a contract of symMerge is at hand for smaller runs. -/
def SymFor (N : Nat) : Prop := ∀ (g cap : Nat) (M : List Sn) (a m b : Nat) (w : World), Rows encN 4 94 w g cap M → M.length ≤ 1000000 → (∀ x ∈ M, SnOk x) → a < m → m < b → b ≤ M.length → SortR M a m → SortR M m b → b - a ≤ N →
  Calls Tryz.prog 73 #[.slice (some ⟨g, 0, none⟩) M.length cap, .int .i64 a, .int .i64 m, .int .i64 b, .func (.func 53) #[] #[]] w fun e w' => e = .returned (.tuple #[]) ∧ ∃ M', MergeR M M' a b ∧ SortR M' a b ∧ Rows encN 4 94 w' g cap M' ∧ Keeps (fun j => j = g) w w'

set_option maxHeartbeats 4000000 in
theorem sym_left (g cap : Nat) (M : List Sn) (a m b : Nat) (w : World) (hr : Rows encN 4 94 w g cap M) (hl : M.length ≤ 1000000) (hok : ∀ x ∈ M, SnOk x) (ham : m = a + 1) (hmb : m < b) (hb : b ≤ M.length) (hv : SortR M m b) :
    Calls Tryz.prog 73 #[.slice (some ⟨g, 0, none⟩) M.length cap, .int .i64 a, .int .i64 m, .int .i64 b, .func (.func 53) #[] #[]] w fun e w' => e = .returned (.tuple #[]) ∧ ∃ M', MergeR M M' a b ∧ SortR M' a b ∧ Rows encN 4 94 w' g cap M' ∧ Keeps (fun j => j = g) w w' := by
  have HR := Lib.hid hr; clear hr
  have HOK := Lib.hid hok; clear hok
  have HV := Lib.hid hv; clear hv
  have hma : a < m := by omega
  have heq : ((m : Int) - a == 1) = true := by rw [beq_iff_eq]; omega
  have HAM := Lib.hid ham
  obtain ⟨y, hy⟩ := get_some (M := M) (q := a) (by omega)
  clear ham
  have HY := Lib.hid hy; clear hy
  go_enter Tryz.func73, Tryz.ntmps73
  go_wp2
  go_loopw [10, 11] (fun vi vj wx => ∃ (i j : Nat), m ≤ i ∧ i ≤ j ∧ j ≤ b ∧ vi = .int .i64 i ∧ vj = .int .i64 j ∧ Hid (∀ p x, m ≤ p → p < i → M[p]? = some x → cmpN x y < 0) ∧ Hid (∀ p x, j ≤ p → p < b → M[p]? = some x → ¬ cmpN x y < 0) ∧ Hid (Grew w wx)) (fun vi vj _ => ((intOf vj) - (intOf vi)).toNat)
  case atStart => exact ⟨m, b, Nat.le_refl _, by omega, Nat.le_refl _, rfl, rfl, fun p x h1 h2 => by omega, fun p x h1 h2 => by omega, Grew.refl _⟩
  case round =>
    obtain ⟨i, j, hi, hij, hj, rfl, rfl, H1, H2, HG⟩ := hrel
    by_cases hlt : i < j
    · obtain ⟨h, hh⟩ : ∃ h, h = (i + j) / 2 := ⟨_, rfl⟩
      obtain ⟨x, hx⟩ := get_some (M := M) (q := h) (by omega)
      go_upto_region 5 with (fail)
      have hh' : ((i : Int) + j) / 2 = (h : Int) := by omega
      have hi1 : i ≤ h := by omega
      have hi2 : h < j := by omega
      have b1 : (h : Int) < (M.length : Int) := by omega
      have b2 : (a : Int) < (M.length : Int) := by omega
      have b3 : h < M.length := by omega
      have b4 : a < M.length := by omega
      rw [hh']
      clear hh' hh
      have hrw : Rows encN 4 94 wr g cap M := HR.out.below HG.out.below
      have x0 := hrw.grownCell hx 0 _ rfl
      have x1 := hrw.grownCell hx 1 _ rfl
      have x2 := hrw.grownCell hx 2 _ rfl
      have x3 := hrw.grownCell hx 3 _ rfl
      have y0 := hrw.grownCell HY.out 0 _ rfl
      have y1 := hrw.grownCell HY.out 1 _ rfl
      have y2 := hrw.grownCell HY.out 2 _ rfl
      have y3 := hrw.grownCell HY.out 3 _ rfl
      simp only [Nat.add_zero] at x0 y0
      have hcall : ∀ n os, Calls Tryz.prog 53 #[.agg #[.string (bs x.name), .string (bs x.value), .int .i64 x.plen, .int .i64 x.born], .agg #[.string (bs y.name), .string (bs y.value), .int .i64 y.plen, .int .i64 y.born]] (grow (wr.drewN n) os) fun e w' => e = .returned (.int .i64 (cmpN x y)) ∧ ∃ q os', w' = grow ((grow (wr.drewN n) os).drewN q) os' :=
        fun n os => (cmp53 x y (HOK.out x (List.mem_of_getElem? hx)) (HOK.out y (List.mem_of_getElem? HY.out)) _).mono (fun _ _ h => h)
      have HCALL := Lib.hid hcall; clear hcall hrw
      have HXX := Lib.hid hx; clear hx
      have HGR : Hid (∀ n os, Grew w (grow (wr.drewN n) os)) := fun n os => HG.out.trans ⟨n, os, rfl⟩
      cases hcmp : decide (cmpN x y < 0) with
      | true =>
        have mixed : Tryz.prog.follows .mixedOrders = true := by kernel_rfl
        go_quiet_grown (exact Calls.grown_of (HCALL.out _ _))
        have r1 : Hid (∀ p x, m ≤ p → p < h + 1 → M[p]? = some x → cmpN x y < 0) := by
          intro p x' h1 h2 hp
          by_cases c : p < i
          · exact H1.out p x' h1 c hp
          · have hlt := of_decide_eq_true hcmp
            by_cases e : p = h
            · subst e; rw [HXX.out] at hp; cases hp; exact hlt
            · exact ltN_trans (HV.out p h x' x h1 (by omega) (by omega) hp HXX.out) hlt
        have r2 := Lib.hid (HGR.out nq osq)
        clear x0 x1 x2 x3 y0 y1 y2 y3
        go_wp2
        exact ⟨⟨h + 1, j, by omega, by omega, hj, by go_num, rfl, r1, H2, r2⟩, by simp [intOf]; omega⟩
      | false =>
        have mixed : Tryz.prog.follows .mixedOrders = true := by kernel_rfl
        go_quiet_grown (exact Calls.grown_of (HCALL.out _ _))
        have r1 : Hid (∀ p x, h ≤ p → p < b → M[p]? = some x → ¬ cmpN x y < 0) := by
          intro p x' h1 h2 hp
          by_cases c : j ≤ p
          · exact H2.out p x' c h2 hp
          · have hge := of_decide_eq_false hcmp
            by_cases e : p = h
            · subst e; rw [HXX.out] at hp; cases hp; exact hge
            · exact fun hlt => hge (ltN_trans (HV.out h p x x' (by omega) (by omega) h2 HXX.out hp) hlt)
        have r2 := Lib.hid (HGR.out nq osq)
        clear x0 x1 x2 x3 y0 y1 y2 y3
        go_wp2
        exact ⟨⟨i, h, hi, hi1, by omega, rfl, rfl, H1, r1, r2⟩, by simp [intOf]; omega⟩
    · have hije : i = j := by omega
      subst hije
      have hkp0 : Hid (Keeps (fun j => j = g) w wr) := (Keeps.refl _ w).below HG.out.below
      have hrw0 : Hid (Rows encN 4 94 wr g cap M) := HR.out.below HG.out.below
      clear HG
      go_wp2
      go_loopw [13] (fun vk wx => ∃ (k : Nat) (M1 : List Sn), a ≤ k ∧ k + 1 ≤ i ∧ vk = .int .i64 k ∧ Hid (rotAt M M1 a m (k + 1)) ∧ Hid (Rows encN 4 94 wx g cap M1) ∧ Hid (Keeps (fun j => j = g) w wx)) (fun vk _ => i - (intOf vk).toNat)
      case atStart =>
        have hh := HAM.out
        exact ⟨a, M, Nat.le_refl _, by omega, rfl, by rw [← hh]; exact rotAt.none (Or.inr rfl) (by omega) (Nat.le_refl _), hrw0, hkp0⟩
      case round =>
        obtain ⟨k, M1, hk, hki, rfl, hrot, hrw, hkp⟩ := hrel
        have hML := hrot.out.1
        by_cases hlt2 : k + 1 < i
        · obtain ⟨pb, hpb⟩ : ∃ q, q = k + 1 := ⟨_, rfl⟩
          obtain ⟨x, hx⟩ := get_some (M := M1) (q := k) (by omega)
          obtain ⟨z, hz⟩ := get_some (M := M1) (q := pb) (by omega)
          have q2 : IntKind.i64.wrap ((k : Int) + 1) = (pb : Int) := by rw [hpb, IntWalk.i64_in _ (by omega)]; omega
          have lt1 : decide ((k : Int) < (i : Int) - 1) = true := by simp; omega
          go_upto_region 11 with (fail)
          have hrd : Rows encN 4 94 wr.drew g cap M1 := hrw.out.keeps ((Keeps.refl (fun _ => False) wr).drew) (fun h => h)
          have rx := hrw.out.rowGet hx
          have rz := hrw.out.rowGet hz
          have x0 := rx 0 _ rfl
          have x1 := rx 1 _ rfl
          have x2 := rx 2 _ rfl
          have x3 := rx 3 _ rfl
          have y0 := rz 0 _ rfl
          have y1 := rz 1 _ rfl
          have y2 := rz 2 _ rfl
          have y3 := rz 3 _ rfl
          rw [Nat.add_zero] at x0 y0
          have hfz : ∀ o, wr.frozen? ⟨g, o, none⟩ = false := by obtain ⟨f, h0, _⟩ := hrw.out; exact fun o => h0.frozen o
          have hrd3 := (hrd.setCells encN_len (i := k) z).setCells encN_len (i := pb) x
          have HR3 := Lib.hid hrd3
          have HK3 : Hid (Keeps (fun j => j = g) w ((wr.drew.setCells g (k * 4) (encN z)).setCells g (pb * 4) (encN x))) := Keeps.setCells (S := fun j => j = g) (b := g) (Or.inl rfl) _ _ (Keeps.setCells (S := fun j => j = g) (b := g) (Or.inl rfl) _ _ hkp.out.drew)
          simp only [Hid, encN, cells4, drew_set] at HR3 HK3
          have HR4 := Lib.hid HR3
          have HK4 := Lib.hid HK3
          have hst := rot_next HAM.out hrot.out hk (by omega) hx (by rw [← hpb]; exact hz)
          rw [← hpb] at hst
          rw [show k + 2 = pb + 1 by omega] at hst
          have HST := Lib.hid hst
          have i1 : (k : Int) < (M.length : Int) := by omega
          have i2 : (pb : Int) < (M.length : Int) := by omega
          have hki2 : a ≤ pb := by omega
          have hki3 : pb + 1 ≤ i := by omega
          have n0 : ¬ k = pb := by omega
          have n1 : ¬ pb = k := by omega
          have n2 : ¬ k * 4 + 1 = pb * 4 := by omega
          have n3 : ¬ k * 4 + 2 = pb * 4 := by omega
          have n4 : ¬ k * 4 + 3 = pb * 4 := by omega
          have n5 : ¬ k * 4 = pb * 4 + 1 := by omega
          have n6 : ¬ k * 4 = pb * 4 + 2 := by omega
          have n7 : ¬ k * 4 = pb * 4 + 3 := by omega
          have n8 : ¬ pb * 4 + 1 = k * 4 := by omega
          have n9 : ¬ pb * 4 + 2 = k * 4 := by omega
          have n10 : ¬ pb * 4 + 3 = k * 4 := by omega
          have n11 : ¬ pb * 4 = k * 4 + 1 := by omega
          have n12 : ¬ pb * 4 = k * 4 + 2 := by omega
          have n13 : ¬ pb * 4 = k * 4 + 3 := by omega
          have hms : k < pb := by omega
          clear hrd hrd3 hrw hkp hrot hx hz rx rz hst hpb HR3 HK3
          go_region
          all_goals go_wp2
          exact ⟨⟨pb, _, hki2, hki3, by go_num, HST, HR4, HK4⟩, by simp [intOf]; omega⟩
        · have lt1 : decide ((k : Int) < (i : Int) - 1) = false := by simp; omega
          have hke : k + 1 = i := by omega
          rw [hke] at hrot
          have hfin : Hid (MergeR M M1 a b ∧ SortR M1 a b) := by
            have hh := HAM.out
            refine ⟨(MergeR.rot hrot.out (by omega) (by omega)).widen (Nat.le_refl _) (by omega), ?_⟩
            refine single_left (i := i) hb (by rw [← hh]; exact HV.out) (by rw [← hh]; exact hrot.out) (by omega) (by omega) ?_ ?_
            · intro p x y' h1 h2 hp hy'
              rw [HY.out] at hy'; cases hy'
              exact ltN_le (H1.out p x (by omega) h2 hp)
            · intro p x y' h1 h2 hp hy'
              rw [HY.out] at hy'; cases hy'
              have hq := H2.out p x h1 h2 hp
              show ¬ _
              omega
          go_wp2
          refine bodyPost_ret (results_none rfl _ _ _) rfl ?_
          exact ⟨rfl, M1, hfin.out.1, hfin.out.2, hrw.out, hkp.out⟩
end Go.Proofs.YtckfgnbilcjdpaaGreatDoor
/- symMerge, the right run of one. -/
namespace Go.Proofs.YtckfgnbilcjdpaaGreatDoor
open Go.RowKit Go.Sort
set_option maxRecDepth 100000

theorem snOk_perm {M M1 : List Sn} (h : ∀ x ∈ M, SnOk x) (hp : M1.Perm M) : ∀ x ∈ M1, SnOk x := fun x hx => h x (hp.mem_iff.1 hx)
theorem ltN_trans2 {x y z : Sn} (h1 : cmpN x y < 0) (h2 : leN y z) : cmpN x z < 0 := by
  rw [leN_iff] at h2; unfold cmpN at *; split at h1 <;> split <;> omega

set_option maxHeartbeats 4000000 in
theorem sym_right (g cap : Nat) (M : List Sn) (a m b : Nat) (w : World) (hr : Rows encN 4 94 w g cap M) (hl : M.length ≤ 1000000) (hok : ∀ x ∈ M, SnOk x) (ham : a + 1 < m) (hmb : b = m + 1) (hb : b ≤ M.length) (hv : SortR M a m) :
    Calls Tryz.prog 73 #[.slice (some ⟨g, 0, none⟩) M.length cap, .int .i64 a, .int .i64 m, .int .i64 b, .func (.func 53) #[] #[]] w fun e w' => e = .returned (.tuple #[]) ∧ ∃ M', MergeR M M' a b ∧ SortR M' a b ∧ Rows encN 4 94 w' g cap M' ∧ Keeps (fun j => j = g) w w' := by
  have HR := Lib.hid hr; clear hr
  have HOK := Lib.hid hok; clear hok
  have HV := Lib.hid hv; clear hv
  have hma : m < b := by omega
  have hne : ((m : Int) - a == 1) = false := by rw [Bool.eq_false_iff]; intro h; rw [beq_iff_eq] at h; omega
  have heq : ((b : Int) - m == 1) = true := by rw [beq_iff_eq]; omega
  have HAM := Lib.hid hmb
  obtain ⟨y, hy⟩ := get_some (M := M) (q := m) (by omega)
  clear hmb
  have HY := Lib.hid hy; clear hy
  go_enter Tryz.func73, Tryz.ntmps73
  go_wp2
  go_loopw [14, 15] (fun vi vj wx => ∃ (i j : Nat), a ≤ i ∧ i ≤ j ∧ j ≤ m ∧ vi = .int .i64 i ∧ vj = .int .i64 j ∧ Hid (∀ p x, a ≤ p → p < i → M[p]? = some x → leN x y) ∧ Hid (∀ p x, j ≤ p → p < m → M[p]? = some x → cmpN y x < 0) ∧ Hid (Grew w wx)) (fun vi vj _ => ((intOf vj) - (intOf vi)).toNat)
  case atStart => exact ⟨a, m, Nat.le_refl _, by omega, Nat.le_refl _, rfl, rfl, fun p x h1 h2 => by omega, fun p x h1 h2 => by omega, Grew.refl _⟩
  case round =>
    obtain ⟨i, j, hi, hij, hj, rfl, rfl, H1, H2, HG⟩ := hrel
    by_cases hlt : i < j
    · obtain ⟨h, hh⟩ : ∃ h, h = (i + j) / 2 := ⟨_, rfl⟩
      obtain ⟨x, hx⟩ := get_some (M := M) (q := h) (by omega)
      go_upto_region 17 with (fail)
      have hh' : ((i : Int) + j) / 2 = (h : Int) := by omega
      have hi1 : i ≤ h := by omega
      have hi2 : h < j := by omega
      have b1 : (h : Int) < (M.length : Int) := by omega
      have b2 : (m : Int) < (M.length : Int) := by omega
      have b3 : h < M.length := by omega
      have b4 : m < M.length := by omega
      rw [hh']
      clear hh' hh
      have hrw : Rows encN 4 94 wr g cap M := HR.out.below HG.out.below
      have x0 := hrw.grownCell hx 0 _ rfl
      have x1 := hrw.grownCell hx 1 _ rfl
      have x2 := hrw.grownCell hx 2 _ rfl
      have x3 := hrw.grownCell hx 3 _ rfl
      have y0 := hrw.grownCell HY.out 0 _ rfl
      have y1 := hrw.grownCell HY.out 1 _ rfl
      have y2 := hrw.grownCell HY.out 2 _ rfl
      have y3 := hrw.grownCell HY.out 3 _ rfl
      simp only [Nat.add_zero] at x0 y0
      have hcall : ∀ n os, Calls Tryz.prog 53 #[.agg #[.string (bs y.name), .string (bs y.value), .int .i64 y.plen, .int .i64 y.born], .agg #[.string (bs x.name), .string (bs x.value), .int .i64 x.plen, .int .i64 x.born]] (grow (wr.drewN n) os) fun e w' => e = .returned (.int .i64 (cmpN y x)) ∧ ∃ q os', w' = grow ((grow (wr.drewN n) os).drewN q) os' :=
        fun n os => (cmp53 y x (HOK.out y (List.mem_of_getElem? HY.out)) (HOK.out x (List.mem_of_getElem? hx)) _).mono (fun _ _ h => h)
      have HCALL := Lib.hid hcall; clear hcall hrw
      have HXX := Lib.hid hx; clear hx
      have HGR : Hid (∀ n os, Grew w (grow (wr.drewN n) os)) := fun n os => HG.out.trans ⟨n, os, rfl⟩
      cases hcmp : decide (cmpN y x < 0) with
      | false =>
        have mixed : Tryz.prog.follows .mixedOrders = true := by kernel_rfl
        go_quiet_grown (exact Calls.grown_of (HCALL.out _ _))
        have r1 : Hid (∀ p x, a ≤ p → p < h + 1 → M[p]? = some x → leN x y) := by
          intro p x' h1 h2 hp
          by_cases c : p < i
          · exact H1.out p x' h1 c hp
          · have hlt : leN x y := of_decide_eq_false hcmp
            by_cases e : p = h
            · subst e; rw [HXX.out] at hp; cases hp; exact hlt
            · exact leN_trans (HV.out p h x' x h1 (by omega) (by omega) hp HXX.out) hlt
        have r2 := Lib.hid (HGR.out nq osq)
        clear x0 x1 x2 x3 y0 y1 y2 y3
        go_wp2
        exact ⟨⟨h + 1, j, by omega, by omega, hj, by go_num, rfl, r1, H2, r2⟩, by simp [intOf]; omega⟩
      | true =>
        have mixed : Tryz.prog.follows .mixedOrders = true := by kernel_rfl
        go_quiet_grown (exact Calls.grown_of (HCALL.out _ _))
        have r1 : Hid (∀ p x, h ≤ p → p < m → M[p]? = some x → cmpN y x < 0) := by
          intro p x' h1 h2 hp
          by_cases c : j ≤ p
          · exact H2.out p x' c h2 hp
          · have hge := of_decide_eq_true hcmp
            by_cases e : p = h
            · subst e; rw [HXX.out] at hp; cases hp; exact hge
            · exact ltN_trans2 hge (HV.out h p x x' (by omega) (by omega) h2 HXX.out hp)
        have r2 := Lib.hid (HGR.out nq osq)
        clear x0 x1 x2 x3 y0 y1 y2 y3
        go_wp2
        exact ⟨⟨i, h, hi, hi1, by omega, rfl, rfl, H1, r1, r2⟩, by simp [intOf]; omega⟩
    · have hije : i = j := by omega
      subst hije
      have hkp0 : Hid (Keeps (fun j => j = g) w wr) := (Keeps.refl _ w).below HG.out.below
      have hrw0 : Hid (Rows encN 4 94 wr g cap M) := HR.out.below HG.out.below
      clear HG
      go_wp2
      go_loopw [17] (fun vk wx => ∃ (k : Nat) (M1 : List Sn), i ≤ k ∧ k ≤ m ∧ vk = .int .i64 k ∧ Hid (rotAt M M1 k m (m + 1)) ∧ Hid (Rows encN 4 94 wx g cap M1) ∧ Hid (Keeps (fun j => j = g) w wx)) (fun vk _ => (intOf vk).toNat)
      case atStart =>
        exact ⟨m, M, by omega, Nat.le_refl _, rfl, rotAt.none (Or.inl rfl) (Nat.le_refl _) (by omega), hrw0, hkp0⟩
      case round =>
        obtain ⟨k, M1, hk, hki, rfl, hrot, hrw, hkp⟩ := hrel
        have hML := hrot.out.1
        by_cases hlt2 : i < k
        · obtain ⟨pb, hpb⟩ : ∃ q, q = k - 1 := ⟨_, rfl⟩
          obtain ⟨x, hx⟩ := get_some (M := M1) (q := k) (by omega)
          obtain ⟨z, hz⟩ := get_some (M := M1) (q := pb) (by omega)
          have q2 : IntKind.i64.wrap ((k : Int) - 1) = (pb : Int) := by rw [hpb, IntWalk.i64_in _ (by omega)]; omega
          have lt1 : decide ((i : Int) < (k : Int)) = true := by simp; omega
          go_upto_region 23 with (fail)
          have hrd : Rows encN 4 94 wr.drew g cap M1 := hrw.out.keeps ((Keeps.refl (fun _ => False) wr).drew) (fun h => h)
          have rx := hrw.out.rowGet hx
          have rz := hrw.out.rowGet hz
          have x0 := rx 0 _ rfl
          have x1 := rx 1 _ rfl
          have x2 := rx 2 _ rfl
          have x3 := rx 3 _ rfl
          have y0 := rz 0 _ rfl
          have y1 := rz 1 _ rfl
          have y2 := rz 2 _ rfl
          have y3 := rz 3 _ rfl
          rw [Nat.add_zero] at x0 y0
          have hfz : ∀ o, wr.frozen? ⟨g, o, none⟩ = false := by obtain ⟨f, h0, _⟩ := hrw.out; exact fun o => h0.frozen o
          have hrd3 := (hrd.setCells encN_len (i := k) z).setCells encN_len (i := pb) x
          have HR3 := Lib.hid hrd3
          have HK3 : Hid (Keeps (fun j => j = g) w ((wr.drew.setCells g (k * 4) (encN z)).setCells g (pb * 4) (encN x))) := Keeps.setCells (S := fun j => j = g) (b := g) (Or.inl rfl) _ _ (Keeps.setCells (S := fun j => j = g) (b := g) (Or.inl rfl) _ _ hkp.out.drew)
          simp only [Hid, encN, cells4, drew_set] at HR3 HK3
          have HR4 := Lib.hid HR3
          have HK4 := Lib.hid HK3
          have hst := rot_prev hrot.out (by omega) hki (by omega) hx (by rw [← hpb]; exact hz)
          rw [← hpb] at hst
          have HST := Lib.hid hst
          have i1 : (k : Int) < (M.length : Int) := by omega
          have i2 : (pb : Int) < (M.length : Int) := by omega
          have hki2 : i ≤ pb := by omega
          have hki3 : pb ≤ m := by omega
          have n0 : ¬ k = pb := by omega
          have n1 : ¬ pb = k := by omega
          have n2 : ¬ k * 4 + 1 = pb * 4 := by omega
          have n3 : ¬ k * 4 + 2 = pb * 4 := by omega
          have n4 : ¬ k * 4 + 3 = pb * 4 := by omega
          have n5 : ¬ k * 4 = pb * 4 + 1 := by omega
          have n6 : ¬ k * 4 = pb * 4 + 2 := by omega
          have n7 : ¬ k * 4 = pb * 4 + 3 := by omega
          have n8 : ¬ pb * 4 + 1 = k * 4 := by omega
          have n9 : ¬ pb * 4 + 2 = k * 4 := by omega
          have n10 : ¬ pb * 4 + 3 = k * 4 := by omega
          have n11 : ¬ pb * 4 = k * 4 + 1 := by omega
          have n12 : ¬ pb * 4 = k * 4 + 2 := by omega
          have n13 : ¬ pb * 4 = k * 4 + 3 := by omega
          have hms : pb < k := by omega
          clear hrd hrd3 hrw hkp hrot hx hz rx rz hst hpb HR3 HK3
          go_region
          all_goals go_wp2
          exact ⟨⟨pb, _, hki2, hki3, by go_num, HST, HR4, HK4⟩, by simp [intOf]; omega⟩
        · have lt1 : decide ((i : Int) < (k : Int)) = false := by simp; omega
          have hke : k = i := by omega
          subst hke
          have hfin : Hid (MergeR M M1 a b ∧ SortR M1 a b) := by
            have hh := HAM.out
            rw [hh]
            refine ⟨(MergeR.rot hrot.out (by omega) (by omega)).widen (by omega) (Nat.le_refl _), ?_⟩
            refine single_right (i := k) (by omega) HV.out hrot.out hi (by omega) ?_ ?_
            · intro p x y' h1 h2 hp hy'
              rw [HY.out] at hy'; cases hy'
              exact H1.out p x h1 h2 hp
            · intro p x y' h1 h2 hp hy'
              rw [HY.out] at hy'; cases hy'
              exact ltN_le (H2.out p x h1 h2 hp)
          go_wp2
          refine bodyPost_ret (results_none rfl _ _ _) rfl ?_
          exact ⟨rfl, M1, hfin.out.1, hfin.out.2, hrw.out, hkp.out⟩
end Go.Proofs.YtckfgnbilcjdpaaGreatDoor
