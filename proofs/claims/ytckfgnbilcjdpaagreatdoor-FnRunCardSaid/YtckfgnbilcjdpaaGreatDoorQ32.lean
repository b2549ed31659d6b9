/- Clone, IndexFunc and Delete over sent cookies. -/
import Derived.Test.YtckfgnbilcjdpaaGreatDoorQ27
import Derived.ArgAppend
import Derived.Deep.RegionHeld3
import Derived.Deep.CutBlock
import Derived.Deep.QuietTactic
import Derived.BigQuiet
namespace Go.Proofs.YtckfgnbilcjdpaaGreatDoor
open Go.RowKit Go.Sort
set_option maxRecDepth 100000

set_option maxHeartbeats 1000000 in
theorem cloneN_any (base : Nat) (v : Value) (L : List Sn) (w : World) (hr : RowOf w base 94 encN 4 v L) (hl : L.length ≤ 1000000) :
    Calls Tryz.prog 41 #[v] w fun e w' => ∃ v', e = .returned v' ∧ RowOf w' w.heap.size 94 encN 4 v' L ∧ RowKit.Below w.heap.size w w' := by
  rcases hr.form with ⟨rfl, rfl⟩ | ⟨g, cap, rfl, h1, h2⟩
  · refine Calls.mono (show Calls Tryz.prog 41 _ _ _ from AnyE.slices_Clone_nil (P := Tryz.prog) cloS 0 0 w) ?_
    rintro e w' ⟨rfl, rfl⟩
    exact ⟨_, rfl, RowOf.nil _ _ _ _ _, Below.refl _ _⟩
  · obtain ⟨i, hi, hz, hs, hb⟩ := info_parts info94
    have hrow := hr.rowAt encN_len
    refine Calls.mono (show Calls Tryz.prog 41 _ _ _ from AnyE.slices_Clone (P := Tryz.prog) cloS i (.agg #[.string ⟨#[]⟩, .string ⟨#[]⟩, .int .i64 0, .int .i64 0]) 4 48 hi hz hs hb rfl (by decide) Tryz.sizeOf94 g 0 L.length cap (L.flatMap encN) w (flat_length encN_len L) (by simp only [maxLen]; omega) (by omega)
      (fun j u hj => by
        obtain ⟨q, d, hq, hd, rfl, hu⟩ := flat_at encN_len _ _ _ hj
        have := hrow q hq d u hu
        rw [Nat.zero_add]; exact this) (fun u hu => by
        obtain ⟨x, _, hx⟩ := List.mem_flatMap.1 hu
        exact encN_one x u hx)) ?_
    rintro e w' ⟨v', rfl, ho, _, hb'⟩
    exact ⟨v', rfl, ho, hb'⟩

/-- What is asked of a predicate of sent cookies. -/
def PredN (g : Nat) (lb : Array Value) (p : Sn → Bool) (w : World) (L : List Sn) : Prop :=
  ∀ (W : World) (x : Sn), x ∈ L → RowKit.Below w.heap.size w W → Calls Tryz.prog g (#[.agg (encN x).toArray] ++ lb) W fun e w' => e = .returned (.bool (p x)) ∧ RowKit.Below W.heap.size W w'

set_option maxHeartbeats 4000000 in
theorem indexN_any (g : Nat) (eg : ∀ args w, (callFunc g args).run Tryz.prog w = .ok (.enter g args) w) (lb : Array Value) (p : Sn → Bool) (base : Nat) (v : Value) (L : List Sn) (w : World) (hr : RowOf w base 94 encN 4 v L) (hl : L.length ≤ 1000000)
    (hp : PredN g lb p w L) :
    Calls Tryz.prog 42 #[v, .func (.func g) #[] lb] w fun e w' => e = .returned (.int .i64 (idxP p L)) ∧ RowKit.Below w.heap.size w w' := by
  have hv : ∃ A cap, v = .slice A L.length cap := by
    rcases hr.form with ⟨rfl, rfl⟩ | ⟨g, cap, rfl, _, _⟩
    · exact ⟨none, 0, rfl⟩
    · exact ⟨_, cap, rfl⟩
  obtain ⟨A, cap, rfl⟩ := hv
  have hrow : ∀ j (h : j < L.length), ∃ b, A = some ⟨b, 0, none⟩ ∧ b < w.heap.size ∧ RowAt w b (0 + j * 4) (encN L[j]) := by
    intro j h
    rcases hr.form with ⟨_, h2⟩ | ⟨b, cap', h1, h2, h3⟩
    · rw [h2] at h; exact absurd h (Nat.not_lt_zero _)
    · cases h1
      exact ⟨b, rfl, h3, by rw [Nat.zero_add]; exact hr.rowAt encN_len j h⟩
  have HR := Lib.hid hrow; clear hrow hr
  have HP := Lib.hid hp; clear hp
  have HC := Lib.hid (idxP_cases p L)
  go_enter Tryz.func42, Tryz.ntmps42
  go_wp2
  go_loopw [8] (fun i wx => ∃ j : Nat, j ≤ L.length ∧ i = .int .i64 j ∧ Hid (∀ q (h : q < j) (h2 : q < L.length), p L[q] = false) ∧ Hid (RowKit.Below w.heap.size w wx)) (fun i _ => L.length - (intOf i).toNat)
  case atStart => exact ⟨0, Nat.zero_le _, rfl, fun q h => absurd h (Nat.not_lt_zero _), Below.refl _ _⟩
  case round =>
    obtain ⟨j, hj, rfl, HF, HB⟩ := hrel
    by_cases hlt : j < L.length
    · obtain ⟨b, rfl, hb, hrow⟩ := HR.out j hlt
      have HL := Lib.hid (loadAt_agg Tryz.isAgg94 Tryz.sizeOf94 (hrow.below HB.out) rfl)
      have hcall := HP.out wr L[j] (List.getElem_mem hlt) HB.out
      have HCALL := Lib.hid hcall; clear hcall hrow
      rw [Nat.zero_add] at HL
      go_wp2_with (first | ((with_reducible refine wpL_load HL.out ?_ ?_); rfl))
      refine HCALL.out.mono ?_
      rintro e w1 ⟨rfl, hb1⟩
      have HB1 : Hid (RowKit.Below w.heap.size w w1) := HB.out.trans (hb1.mono HB.out.size)
      clear hb1
      cases hpj : p L[j] with
      | true =>
        have hres : Hid (idxP p L = (j : Int)) := by
          rcases HC.out with ⟨_, h⟩ | ⟨i, hi, h1, h2, h3⟩
          · have := h _ (List.getElem_mem hlt); rw [hpj] at this; cases this
          · rcases Nat.lt_trichotomy i j with h | h | h
            · have := HF.out i h hi; rw [h2] at this; cases this
            · subst h; exact h1
            · have := h3 j h; rw [hpj] at this; cases this
        clear hpj
        go_wp2
        go_ret
        exact ⟨ret_int hres.out.symm, HB1.out⟩
      | false =>
        have hf : Hid (∀ q (h : q < j + 1) (h2 : q < L.length), p L[q] = false) := by
          intro q h h2
          by_cases e : q = j
          · subst e; exact hpj
          · exact HF.out q (by omega) h2
        clear hpj
        go_wp2
        exact ⟨⟨j + 1, by omega, by go_num, hf, HB1⟩, by simp [intOf]; omega⟩
    · obtain rfl : j = L.length := by omega
      have hres : Hid (idxP p L = -1) := by
        rcases HC.out with ⟨h, _⟩ | ⟨i, hi, h1, h2, h3⟩
        · exact h
        · have := HF.out i hi hi; rw [h2] at this; cases this
      go_wp2
      go_ret
      exact ⟨ret_int hres.out.symm, HB.out⟩

/-- clear of structs of a row. -/
theorem Rows.clearN {α : Type} {enc : α → List Value} {k : Nat} {T : TypeId} {w : World} {g cap : Nat} {M : List α} {t : TypeId} {z : Value} (hu : Tryz.prog.underlying t = some (.slice T)) (hv : ∀ w, (zeroValue T).run Tryz.prog w = .ok z w) (hz : z.cells.size = k) (h1 : ∀ u ∈ z.cells.toList, u.oneCell' = true)
    (h : Rows enc k T w g cap M) {m q : Nat} (hm : m + (q + 1) ≤ cap) :
    ∃ vs, ∀ (ty : TypeId) (c : Nat), (Builtin.clear_ #[t] ty #[.slice (some ⟨g, m * k, none⟩) (q + 1) c]).run Tryz.prog w = .ok (.tuple #[]) (w.setCells g (m * k) vs) := by
  obtain ⟨f, h0, h2, h3, h4⟩ := h
  have hlen : (Builtin.zeroCells z.cells (q + 1)).toList.length = (q + 1) * k := by
    simp [Builtin.zeroCells, hz]
  have hone : ∀ u ∈ (Builtin.zeroCells z.cells (q + 1)).toList, u.oneCell' = true := by
    intro u hu
    rw [Builtin.zeroCells, Array.toList_map, List.mem_map] at hu
    obtain ⟨j, hj, rfl⟩ := hu
    have hj' : j < (q + 1) * z.cells.size := by simpa using hj
    have hpos : 0 < z.cells.size := by
      rcases Nat.eq_zero_or_pos z.cells.size with h | h
      · rw [h] at hj'; simp at hj'
      · exact h
    have hlt := Nat.mod_lt j hpos
    rw [getElem!_pos z.cells _ hlt]
    exact h1 _ (by simp)
  have hle : m * k + (q + 1) * k ≤ cap * k := by rw [← Nat.add_mul]; exact Nat.mul_le_mul_right k hm
  have hst := run_storeCells_cells (P := Tryz.prog) g (m * k) (Builtin.zeroCells z.cells (q + 1)).toList 0 w (fun j hj => by
    rw [hlen] at hj
    rw [show m * k + 0 + j = m * k + j by omega, h0.cell (by omega)]; rfl) (fun j hj => h0.frozen _) hone
  simp only [Nat.add_zero] at hst
  refine ⟨(Builtin.zeroCells z.cells (q + 1)).toList, fun ty c => ?_⟩
  simp [Builtin.clear_, run_underlying hu, hv, hst]

/-- The structs behind a place are moved up by one. -/
theorem Rows.move {w : World} {g cap : Nat} {L : List Sn} (h : Rows encN 4 94 w g cap L) {i m : Nat} (hm : L.length = m + 1) (hi : i ≤ m) :
    ∃ w2, (∀ ty n c, n = m - i → (Builtin.append_ #[35, 35] ty #[.slice (some ⟨g, 0, none⟩) i cap, .slice (some ⟨g, (i + 1) * 4, none⟩) n c]).run Tryz.prog w = .ok (.slice (some ⟨g, 0, none⟩) m cap) w2) ∧
      (m = i → ∀ ty a n c, n = 0 → (Builtin.append_ #[35, 35] ty #[.slice (some ⟨g, 0, none⟩) i cap, .slice a n c]).run Tryz.prog w = .ok (.slice (some ⟨g, 0, none⟩) m cap) w2) ∧
      Rows encN 4 94 w2 g cap (L.take i ++ L.drop (i + 1)) ∧ Keeps (fun j => j = g) w w2 := by
  have hrow : RowOf w 0 94 encN 4 (.slice (some ⟨g, 0, none⟩) i cap) (L.take i) := h.toRow encN_len (Nat.zero_le _) (by omega)
  obtain ⟨f, h0, h1, h2, h3⟩ := h
  obtain ⟨inf, hi0, hz, hs, hb⟩ := info_parts info94
  have hnl : (L.drop (i + 1)).length = m - i := by rw [List.length_drop]; omega
  have hfl : ((L.drop (i + 1)).flatMap encN).length = (m - i) * 4 := by rw [flat_length encN_len, hnl]
  refine ⟨w.setCells g (i * 4) ((L.drop (i + 1)).flatMap encN), ?_, ?_, ?_, Keeps.setCells (S := fun j => j = g) (b := g) (Or.inl rfl) _ _ (Keeps.refl _ _)⟩
  · intro ty n c hn
    subst hn
    have hcell : ∀ o, o < cap * 4 → w.cell? ⟨g, o, none⟩ = some (f o) := fun o ho => h0.cell ho
    have := run_append_room_cells (P := Tryz.prog) (w := w) 35 ty 94 inf Tryz.underlying35 hi0 g 0 i cap ⟨g, (i + 1) * 4, none⟩ (m - i) c ((L.drop (i + 1)).flatMap encN) (by rw [hfl, hs])
      (fun j u hj => by
        obtain ⟨q, d, hq, hd, rfl, hu⟩ := flat_at encN_len _ _ _ hj
        rw [hnl] at hq
        rw [List.getElem_drop] at hu
        rw [Addr.add_lit, hcell _ (by omega), show (i + 1) * 4 + (q * 4 + d) = (i + 1 + q) * 4 + d by omega, h3 (i + 1 + q) (by omega) d u hu])
      (fun u hu => by
        obtain ⟨x, _, hx⟩ := List.mem_flatMap.1 hu
        exact encN_one x u hx)
      (by omega)
      (fun j hj => by rw [hfl] at hj; rw [hs, hcell _ (by omega)]; rfl)
      (fun j hj => h0.frozen _)
    rw [this, hs, Nat.zero_add, show i + (m - i) = m by omega]
  · intro hmi ty a n c hn
    subst hn; subst hmi
    rw [List.drop_of_length_le (by omega)]
    exact append_none Tryz.underlying35 hi0 a c hrow ty
  · refine ⟨_, Go.rowIs_setCells ((L.drop (i + 1)).flatMap encN) (i * 4) w f h0, by rw [List.length_append, List.length_take, hnl]; omega, h2, ?_⟩
    intro j hj c u hu
    have hc : c < 4 := by have := (List.getElem?_eq_some_iff.1 hu).1; rwa [encN_len] at this
    rw [List.length_append, List.length_take, hnl] at hj
    rw [hfl]
    by_cases hji : j < i
    · rw [if_neg (by omega)]
      rw [List.getElem_append_left (by rw [List.length_take]; omega), List.getElem_take] at hu
      exact h3 j (by omega) c u hu
    · rw [if_pos (by omega)]
      rw [List.getElem_append_right (by rw [List.length_take]; omega)] at hu
      have hlt : j - i < (L.drop (i + 1)).length := by rw [hnl]; omega
      have e1 : (L.drop (i + 1))[j - (L.take i).length]'(by rw [List.length_take]; omega) = (L.drop (i + 1))[j - i] := by
        congr 1; rw [List.length_take]; omega
      rw [e1] at hu
      have := flat_put encN_len (L.drop (i + 1)) (j - i) c hlt hc
      rw [show j * 4 + c - i * 4 = (j - i) * 4 + c by omega, this, hu]; rfl

set_option maxHeartbeats 4000000 in
theorem deleteN_any (base g cap : Nat) (L : List Sn) (i : Nat) (w : World) (hr : RowOf w base 94 encN 4 (.slice (some ⟨g, 0, none⟩) L.length cap) L) (hl : L.length ≤ 1000000) (hi : i < L.length) :
    Calls Tryz.prog 44 #[.slice (some ⟨g, 0, none⟩) L.length cap, .int .i64 i, .int .i64 ((i : Int) + 1)] w fun e w' => ∃ v', e = .returned v' ∧ RowOf w' base 94 encN 4 v' (L.take i ++ L.drop (i + 1)) ∧ Keeps (fun j => j = g) w w' ∧ (∀ j, v'.ownBlock = some j → j = g) := by
  obtain ⟨m, hm⟩ : ∃ m, L.length = m + 1 := ⟨L.length - 1, by omega⟩
  obtain ⟨_, hbg, hrows⟩ := hr.rows encN_len
  have hcap := hrows.len
  have hd : RowKit.Below w.heap.size w w.drew := (Below.refl _ w).drew
  obtain ⟨w2, hmv, hmv0, hrw2, hk2⟩ := (hrows.below hd).move (i := i) hm (by omega)
  have hl2 : (L.take i ++ L.drop (i + 1)).length = m := by rw [List.length_append, List.length_take, List.length_drop]; omega
  obtain ⟨vs, hcl⟩ := hrw2.clearN (t := 35) (z := .agg #[.string ⟨#[]⟩, .string ⟨#[]⟩, .int .i64 0, .int .i64 0]) Tryz.underlying35 Tryz.zeroValue94 rfl (by simp [Value.oneCell', Value.cells]) (m := m) (q := 0) (by omega)
  have hrow3 : Hid (RowOf (w2.setCells g (m * 4) vs) base 94 encN 4 (.slice (some ⟨g, 0, none⟩) m cap) (L.take i ++ L.drop (i + 1))) := by
    have h1 := hrw2.cut (o := m * 4) (vs := vs) (m := m) encN_len (Nat.le_refl _) (by omega)
    have h2 := h1.toRow encN_len hbg (m := m) (by rw [List.length_take]; omega)
    rw [List.take_take, Nat.min_self, List.take_of_length_le (by omega)] at h2
    exact h2
  have hk3 : Hid (Keeps (fun j => j = g) w (w2.setCells g (m * 4) vs)) := by
    have h1 : Keeps (fun j => j = g) w w2 := ((Keeps.refl (fun j => j = g) w).drew).trans hk2 (fun j hj => Or.inl hj)
    exact Keeps.setCells (S := fun j => j = g) (b := g) (Or.inl rfl) _ _ h1
  have HMV : Hid (∀ ty a n c, a = some ⟨g, (i + 1) * 4, none⟩ → n = m - i → (Builtin.append_ #[35, 35] ty #[.slice (some ⟨g, 0, none⟩) i cap, .slice a n c]).run Tryz.prog w.drew = .ok (.slice (some ⟨g, 0, none⟩) m cap) w2) := by
    intro ty a n c ha hn; rw [ha]; exact hmv ty n c hn
  have HMV0 := Lib.hid hmv0
  have HCL : Hid (∀ ty n c, n = 1 → (Builtin.clear_ #[35] ty #[.slice (some ⟨g, m * 4, none⟩) n c]).run Tryz.prog w2 = .ok (.tuple #[]) (w2.setCells g (m * 4) vs)) := by
    intro ty n c hn; rw [hn]; exact hcl ty c
  have him : i ≤ m := by omega
  have hmc : m + 1 ≤ cap := by omega
  rw [hm] at hl ⊢
  have hne : ((i : Int) == (i : Int) + 1) = false := by rw [Bool.eq_false_iff]; intro h; rw [beq_iff_eq] at h; omega
  clear hr hrows hd hmv hmv0 hrw2 hk2 hl2 hcl hm hi
  go_enter Tryz.func44, Tryz.ntmps44
  go_wp2_with fail
  have q3 : IntKind.i64.wrap ((i : Int) + 1) = (i : Int) + 1 := IntWalk.i64_in _ (by omega)
  have b1 : i ≤ cap := by omega
  have b2 : i + 1 ≤ m + 1 := by omega
  have b3 : ((i : Int) + 1).toNat = i + 1 := by omega
  have b4 : (0 : Int) ≤ (i : Int) + 1 := by omega
  have b5 : (i : Int) + 1 ≤ (m : Int) + 1 := by omega
  have b6 : (i : Int) ≤ (cap : Int) := by omega
  have b7 : (i : Int) + 1 ≤ (cap : Int) := by omega
  by_cases hcc : cap = i + 1
  · have him2 : m = i := by omega
    have HMV2 := Lib.hid (HMV0.out him2)
    have HIM := Lib.hid him2; clear him2
    have b10 : cap - (i + 1) = 0 := by omega
    have b11 : cap ≤ i + 1 := by omega
    have HCC := Lib.hid hcc
    clear hcc
    go_region_held3 (fun _ => True) (trivial) (first | (refine step_append_run (HMV2.out _ _ _ _ ?_) rfl rfl ?_; (first | rfl | (have := HIM.out; omega))))
    all_goals go_wp2_with (first | ((refine wpL_clear (HCL.out _ _ _ ?_) rfl ?_); (first | rfl | omega)))
    all_goals go_ret
    all_goals first | exact ⟨_, rfl, hrow3.out, hk3.out, fun q h => by cases h; rfl⟩ | (have h3 := hrow3.out; rw [HCC.out] at h3; exact ⟨_, rfl, h3, hk3.out, fun q h => by cases h; rfl⟩)
  · have b8 : i + 1 < cap := by omega
    have b9 : (i : Int) + 1 < (cap : Int) := by omega
    have b10 : ¬ cap - (i + 1) = 0 := by omega
    have b11 : ¬ cap ≤ i + 1 := by omega
    go_region_held3 (fun _ => True) (trivial) (first | (refine step_append_run (HMV.out _ _ _ _ ?_ ?_) rfl rfl ?_; (first | rfl | omega); (first | rfl | omega)))
    all_goals go_wp2_with (first | ((refine wpL_clear (HCL.out _ _ _ ?_) rfl ?_); (first | rfl | omega)))
    all_goals go_ret
    all_goals exact ⟨_, rfl, hrow3.out, hk3.out, fun q h => by cases h; rfl⟩
end Go.Proofs.YtckfgnbilcjdpaaGreatDoor
/- The contract of the reference's Matches. -/
namespace Go.Proofs.YtckfgnbilcjdpaaGreatDoor
open Go.RowKit Go.Sort
set_option maxRecDepth 100000

theorem sameN_ands (n v : List UInt8) (h s : Sn) : sameN n v h s = (if (s.name == n && s.value == v) then (if s.plen == h.plen then s.born == h.born else false) else false) := by
  unfold sameN
  cases (s.name == n && s.value == v) <;> cases (s.plen == h.plen) <;> cases (s.born == h.born) <;> rfl

set_option maxHeartbeats 4000000 in
theorem same43 (x h : Sn) (n v : List UInt8) (pb lb g m cap : Nat) (w : World) (hp : BlkAt w pb [.string (bs n), .string (bs v)]) (hl : w.cell? ⟨lb, 0, none⟩ = some (.slice (some ⟨g, 0, none⟩) (m + 1) cap))
    (hh : RowAt w g 0 (encN h)) :
    Calls Tryz.prog 43 #[.agg (encN x).toArray, .pointer (some ⟨pb, 0, none⟩), .pointer (some ⟨lb, 0, none⟩)] w fun e w' => e = .returned (.bool (sameN n v h x)) ∧ RowKit.Below w.heap.size w w' := by
  have hb0 : RowKit.Below w.heap.size w (w.alloc (.cells (encN x).toArray 94)) := (Below.refl _ _).alloc (Nat.le_refl _) _
  have hX := BlkAt.made w (encN x) 94
  have p0 := (hp.below hb0).cell 0 rfl
  have p1 := (hp.below hb0).cell 1 rfl
  have l0 : (w.alloc (.cells (encN x).toArray 94)).cell? ⟨lb, 0, none⟩ = some (.slice (some ⟨g, 0, none⟩) (m + 1) cap) := by rw [hb0.cell (World.block_lt_of_cell? w _ hl)]; exact hl
  have h2 := (hh.below hb0) 2 _ rfl
  have h3 := (hh.below hb0) 3 _ rfl
  have HB := Lib.hid hb0
  have HS := Lib.hid (sameN_ands n v h x)
  have x0 := hX.cell 0 rfl
  have x1 := hX.cell 1 rfl
  have x2 := hX.cell 2 rfl
  have x3 := hX.cell 3 rfl
  rw [Nat.zero_add] at h2 h3
  clear hb0 hX hp hl hh
  simp only [encN] at HB p0 p1 l0 h2 h3 x0 x1 x2 x3 ⊢
  have EP := Lib.hid (eqPair x.name x.value n v)
  have GP := Lib.hid (fun a b => guardPair a b x.name x.value n v)
  cases c0 : (x.name == n && x.value == v) with
  | false =>
    rw [c0] at HS EP
    have hq : Hid (sameN n v h x = false) := by rw [Hid, HS.out]; rfl
    clear c0
    have ep := EP.out
    have gp := GP.out
    go_enter Tryz.func43, Tryz.ntmps43
    go_upto_region 1 with (fail)
    go_quiet (fail)
    all_goals go_wp2
    all_goals go_ret
    all_goals exact ⟨ret_bool hq.out.symm, HB.out.dN _⟩
  | true =>
    rw [c0] at HS EP
    clear c0
    cases c1 : (x.plen == h.plen) with
    | false =>
      have hq : Hid (sameN n v h x = false) := by rw [Hid, HS.out, c1]; rfl
      have ep := EP.out
      have gp := GP.out
      go_enter Tryz.func43, Tryz.ntmps43
      go_upto_region 1 with (fail)
      go_quiet (fail)
      all_goals go_wp2
      all_goals go_ret
      all_goals exact ⟨ret_bool hq.out.symm, HB.out.dN _⟩
    | true =>
      have hq : Hid (sameN n v h x = (x.born == h.born)) := by rw [Hid, HS.out, c1]; rfl
      have ep := EP.out
      have gp := GP.out
      go_enter Tryz.func43, Tryz.ntmps43
      go_upto_region 1 with (fail)
      go_quiet (fail)
      all_goals go_wp2
      all_goals go_ret
      all_goals exact ⟨ret_bool hq.out.symm, HB.out.dN _⟩

theorem storeNewPr (w : World) (x : Ent) :
    (Instr.storeAt 68 (.pointer (some ⟨w.heap.size, 0, none⟩)) (.agg (encPr x).toArray)).run Tryz.prog (w.alloc (.cells #[.string ⟨#[]⟩, .string ⟨#[]⟩] 68)) = .ok () (w.alloc (.cells (encPr x).toArray 68)) :=
  storeNew_gen Tryz.sizeOf68 [.string ⟨#[]⟩, .string ⟨#[]⟩] _ rfl rfl (fun u hu => by simp only [encPr, List.mem_cons, List.not_mem_nil, or_false] at hu; rcases hu with rfl | rfl <;> rfl) w

set_option maxHeartbeats 8000000 in
theorem matches_any (b0 b1 : Nat) (v0 v1 : Value) (E : List Ent) (M : List Sn) (w : World) (h0 : RowOf w b0 68 encPr 2 v0 E) (h1 : RowOf w b1 94 encN 4 v1 M) (hl : E.length ≤ 1000000) (hp : (E.map snE).Perm M) (hE : (E.map snE).Pairwise leN) (hM : M.Pairwise leN) :
    Calls Tryz.prog 10 #[v0, v1] w fun e w' => e = .returned (.bool true) ∧ RowKit.Below w.heap.size w w' := by
  have hlen : M.length = E.length := by rw [← hp.length_eq, List.length_map]
  have HC := Lib.hid (cloneN_any b1 v1 M w h1 (by omega))
  have hrow : ∀ j (h : j < E.length), ∃ b, v0 = .slice (some ⟨b, 0, none⟩) E.length (match v0 with | .slice _ _ c => c | _ => 0) ∧ RowAt w b (j * 2) (encPr E[j]) := by
    intro j h
    rcases h0.form with ⟨_, h2⟩ | ⟨b, cap', rfl, h2, h3⟩
    · rw [h2] at h; exact absurd h (Nat.not_lt_zero _)
    · exact ⟨b, rfl, h0.rowAt (enc := encPr) (k := 2) (fun _ => rfl) j h⟩
  obtain ⟨A0, c0, rfl⟩ : ∃ A cap, v0 = .slice A E.length cap := by
    rcases h0.form with ⟨rfl, rfl⟩ | ⟨g, cap, rfl, _, _⟩
    · exact ⟨none, 0, rfl⟩
    · exact ⟨_, cap, rfl⟩
  obtain ⟨A1, c1, rfl⟩ : ∃ A cap, v1 = .slice A E.length cap := by
    rcases h1.form with ⟨rfl, h2⟩ | ⟨g, cap, rfl, _, _⟩
    · rw [h2] at hlen; exact ⟨none, 0, by rw [← hlen]; rfl⟩
    · exact ⟨_, cap, by rw [hlen]⟩
  have HROW : Hid (∀ j (h : j < E.length), ∃ b, A0 = some ⟨b, 0, none⟩ ∧ RowAt w b (j * 2) (encPr E[j])) := by
    intro j h
    obtain ⟨b, e, hr⟩ := hrow j h
    cases e; exact ⟨b, rfl, hr⟩
  have HP := Lib.hid hp
  have HE := Lib.hid hE
  have HM := Lib.hid hM
  clear hrow h0 h1 hp hE hM hlen
  go_enter Tryz.func10, Tryz.ntmps10
  go_upto_region 3 with (fail)
  go_wp2_with fail
  refine HC.out.mono ?_
  rintro e w1 ⟨vl, rfl, hrl, hb1⟩
  obtain ⟨A5, c5, rfl⟩ : ∃ A cap, vl = .slice A M.length cap := by
    rcases hrl.form with ⟨rfl, rfl⟩ | ⟨g, cap, rfl, _, _⟩
    · exact ⟨none, 0, rfl⟩
    · exact ⟨_, cap, rfl⟩
  have HR1 := Lib.hid hrl
  have HB1 := Lib.hid hb1
  clear hrl hb1 HC
  go_upto_region 4 with (fail)
  have hL2 : Hid (BlkAt (w1.alloc (.cells #[.slice A5 M.length c5] 35)) w1.heap.size [.slice A5 M.length c5]) := BlkAt.made w1 _ 35
  have hR2 := Lib.hid (HR1.out.alloc (.cells #[.slice A5 M.length c5] 35))
  have hB2 := Lib.hid (HB1.out.alloc HB1.out.size (.cells #[.slice A5 M.length c5] 35))
  have hn2 : Hid (∀ g, Value.ownBlock (.slice A5 M.length c5) = some g → g ≠ w1.heap.size ∧ w.heap.size ≤ g) := fun g hg => by
    have := HR1.out.own g hg
    exact ⟨by omega, this.1⟩
  have hbw : w.heap.size ≤ w1.heap.size := HB1.out.size
  clear HR1 HB1
  generalize w1.alloc (.cells #[.slice A5 M.length c5] 35) = w2 at hL2 hR2 hB2 ⊢
  generalize w1.heap.size = lb at hL2 hn2 hbw ⊢
  go_wp2
  go_loopw [18] (fun i wx => ∃ (j : Nat) (A : Option Addr) (cap : Nat) (L : List Sn), j ≤ E.length ∧ i = .int .i64 j ∧ Hid (BlkAt wx lb [.slice A L.length cap]) ∧ Hid (RowOf wx w.heap.size 94 encN 4 (.slice A L.length cap) L) ∧ Hid (((E.drop j).map snE).Perm L) ∧ Hid (L.Pairwise leN) ∧ Hid (RowKit.Below w.heap.size w wx) ∧ Hid (∀ g, Value.ownBlock (.slice A L.length cap) = some g → g ≠ lb)) (fun i _ => E.length - (intOf i).toNat)
  case atStart => exact ⟨0, A5, c5, M, Nat.zero_le _, rfl, hL2.out, hR2.out, (show ((E.drop 0).map snE).Perm M from HP.out), HM.out, hB2.out, fun g hg => (hn2.out g hg).1⟩
  case round =>
    clear hL2 hR2 hB2 hn2
    obtain ⟨j, A, cap, L, hj, rfl, hL, hR, hP, hS, hB, hn⟩ := hrel
    by_cases hlt : j < E.length
    · obtain ⟨b, rfl, hrow⟩ := HROW.out j hlt
      obtain ⟨x, hx⟩ : ∃ x, x = E[j] := ⟨_, rfl⟩
      rw [← hx] at hrow
      have hPx : ((snE x) :: (E.drop (j + 1)).map snE).Perm L := by
        have := hP.out
        rw [List.drop_eq_getElem_cons hlt, List.map_cons, ← hx] at this
        exact this
      have hSx : ((snE x) :: (E.drop (j + 1)).map snE).Pairwise leN := by
        have h1 : (E.drop j).map snE = (snE x) :: (E.drop (j + 1)).map snE := by rw [List.drop_eq_getElem_cons hlt, List.map_cons, ← hx]
        rw [← h1, List.map_drop]
        exact HE.out.sublist (List.drop_sublist _ _)
      obtain ⟨hd, R, hLc, i, hi, hix, hp2, hs2⟩ := match_step hPx hSx hS.out
      have hll : L.length ≤ 1000000 := by
        have := hP.out.length_eq
        rw [List.length_map, List.length_drop] at this; omega
      have HL := Lib.hid (loadAt_agg Tryz.isAgg68 Tryz.sizeOf68 (hrow.below hB.out) rfl)
      obtain ⟨g, hg⟩ : ∃ g, A = some ⟨g, 0, none⟩ := by
        rcases hR.out.form with ⟨_, h2⟩ | ⟨g, cap', h1, _, _⟩
        · rw [h2] at hi; exact absurd hi (Nat.not_lt_zero _)
        · cases h1; exact ⟨g, rfl⟩
      subst hg
      have HIX := Lib.hid hix
      have HP2 := Lib.hid hp2
      have HS2 := Lib.hid hs2
      have HLC := Lib.hid hLc
      clear hrow hx hPx hSx hix hp2 hs2 hLc hP hS
      go_upto_region 7 with (first | ((with_reducible refine wpL_load HL.out ?_ ?_); rfl) | ((with_reducible refine wpL_store (storeNewPr _ x) ?_ ?_ ?_); rfl; rfl))
      rw [put_none]
      have hP3 : Hid (BlkAt (wr.alloc (.cells (encPr x).toArray 68)) wr.heap.size (encPr x)) := BlkAt.made wr _ 68
      have hL3 := Lib.hid (hL.out.alloc (.cells (encPr x).toArray 68))
      have hR3 := Lib.hid (hR.out.alloc (.cells (encPr x).toArray 68))
      have hB3 := Lib.hid (hB.out.alloc hB.out.size (.cells (encPr x).toArray 68))
      clear hL hR hB HL
      generalize wr.alloc (.cells (encPr x).toArray 68) = w3 at hP3 hL3 hR3 hB3 ⊢
      generalize wr.heap.size = pb at hP3 ⊢
      have l0 := hL3.out.cell 0 rfl
      have hpn : PredN 43 #[.pointer (some ⟨pb, 0, none⟩), .pointer (some ⟨lb, 0, none⟩)] (sameN x.name x.value hd) w3 L := by
        intro W y _ hW
        obtain ⟨m, hm⟩ : ∃ m, L.length = m + 1 := ⟨L.length - 1, by omega⟩
        refine same43 y hd x.name x.value pb lb g m cap W (hP3.out.below hW) ?_ ?_
        · rw [← hm]; exact (hL3.out.below hW).cell 0 rfl
        · have := (hR3.out.below hW).rowAt encN_len 0 (by omega)
          rw [Nat.zero_mul] at this
          have h0 : L[0]'(by omega) = hd := by
            have hLC := HLC.out
            subst hLC
            rfl
          rw [h0] at this; exact this
      have HIDX := Lib.hid (indexN_any 43 (enters_of Tryz.func43 (by kernel_rfl) rfl) #[.pointer (some ⟨pb, 0, none⟩), .pointer (some ⟨lb, 0, none⟩)] (sameN x.name x.value hd) w.heap.size (.slice (some ⟨g, 0, none⟩) L.length cap) L w3 hR3.out hll hpn)
      clear hpn
      go_wp2_with fail
      refine HIDX.out.mono ?_
      rintro e w4 ⟨rfl, hb4⟩
      rw [show idxP (sameN x.name x.value hd) L = (i : Int) from HIX.out]
      have hL4 := Lib.hid (hL3.out.below hb4)
      have hR4 := Lib.hid (hR3.out.below hb4)
      have hB4 := Lib.hid (hB3.out.trans (hb4.mono hB3.out.size))
      clear hL3 hR3 hB3 hP3 l0 hb4 HIDX
      have l0 := hL4.out.cell 0 rfl
      have HDEL := Lib.hid (deleteN_any w.heap.size g cap L i w4 hR4.out hll hi)
      have q1 : IntKind.i64.wrap ((i : Int) + 1) = (i : Int) + 1 := IntWalk.i64_in _ (by omega)
      go_wp2_with fail
      refine HDEL.out.mono ?_
      rintro e w5 ⟨v5, rfl, hr5, hk5, ho5⟩
      obtain ⟨A6, c6, rfl⟩ : ∃ A cap, v5 = .slice A (L.take i ++ L.drop (i + 1)).length cap := by
        rcases hr5.form with ⟨h1, h2⟩ | ⟨g, cap, h1, _, _⟩
        · rw [h2]; exact ⟨none, 0, h1⟩
        · exact ⟨_, cap, h1⟩
      have hgl : g ≠ lb := hn.out g rfl
      have hL5 := Lib.hid (hL4.out.keeps hk5 (fun e => hgl e.symm))
      have hgw : w.heap.size ≤ g := (hR4.out.own g rfl).1
      have hB5 := Lib.hid (hB4.out.trans (hk5.toBelow hB4.out.size (fun k hk => by rw [hk]; exact hgw)))
      have hn5 : Hid (∀ q, Value.ownBlock (.slice A6 (L.take i ++ L.drop (i + 1)).length c6) = some q → q ≠ lb) := fun q hq => by rw [ho5 q hq]; exact hgl
      have hR5 := Lib.hid hr5
      obtain ⟨L2, hL2e⟩ : ∃ L2, L2 = L.take i ++ L.drop (i + 1) := ⟨_, rfl⟩
      rw [← hL2e] at HP2 HS2 hn5 hR5 ⊢
      obtain ⟨k0, f0⟩ := hL5.out 0 _ rfl
      have hlw : lb < w5.heap.size := World.block_lt_of_cell? w5 _ k0
      have hL6 := Lib.hid (hL5.out.setCell 0 (.slice A6 L2.length c6) (by simp))
      have hR6 : Hid (RowOf (w5.setCell ⟨lb, 0, none⟩ (.slice A6 L2.length c6)) w.heap.size 94 encN 4 (.slice A6 L2.length c6) L2) :=
        hR5.out.keepsOwn ((Keeps.refl (fun k => k = lb) w5).setCell (b := lb) (Or.inl rfl) 0 _) (fun q hq e => hn5.out q hq e)
      have hB6 := Lib.hid (hB5.out.trans (((Keeps.refl (fun k => k = lb) w5).setCell (b := lb) (Or.inl rfl) 0 (.slice A6 L2.length c6)).toBelow hB5.out.size (fun k hk => by rw [hk]; exact hbw)))
      clear hr5 hk5 ho5 hL4 hR4 hB4 HDEL hL2e hR5 hB5 hL5 l0 hn HIX
      go_wp2
      exact ⟨⟨j + 1, A6, c6, L2, by omega, by go_num, hL6, hR6, HP2, HS2, hB6, hn5⟩, by simp [intOf]; omega⟩
    · obtain rfl : j = E.length := by omega
      go_wp2
      go_ret
      exact ⟨rfl, hB.out⟩
end Go.Proofs.YtckfgnbilcjdpaaGreatDoor
