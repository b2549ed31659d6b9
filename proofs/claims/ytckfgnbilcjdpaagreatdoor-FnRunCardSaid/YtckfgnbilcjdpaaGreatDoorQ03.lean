/- The order in which the jar hands out entries: the closure of cookies. -/
import Derived.Test.YtckfgnbilcjdpaaGreatDoorQ02
import Derived.Sort.LotA
namespace Go.Proofs.YtckfgnbilcjdpaaGreatDoor
open Go.RowKit Go.Sort
set_option maxRecDepth 100000

/-- A world behind draws and new blocks. -/
def Grew (a w : World) : Prop := ∃ q os, w = grow (a.drewN q) os
theorem Grew.refl (w : World) : Grew w w := ⟨0, #[], by simp [grow, World.drewN]⟩
theorem Grew.alloc {a w : World} (h : Grew a w) (o : Obj) : Grew a (w.alloc o) := by
  obtain ⟨q, os, rfl⟩ := h
  refine ⟨q, os.push o, ?_⟩
  have h : ((a.drewN q).heap ++ os).push o = (a.drewN q).heap ++ os.push o := by simp
  unfold grow World.alloc
  rw [h]
theorem Grew.dN {a w : World} (h : Grew a w) (n : Nat) : Grew a (w.drewN n) := by
  obtain ⟨q, os, rfl⟩ := h
  refine ⟨q + n, os, ?_⟩
  simp [grow, World.drewN, Nat.add_assoc]
theorem Grew.drew {a w : World} (h : Grew a w) : Grew a w.drew := h.dN 1
theorem Grew.trans {a b c : World} (h : Grew a b) (k : Grew b c) : Grew a c := by
  obtain ⟨q, os, rfl⟩ := h
  obtain ⟨q', os', rfl⟩ := k
  refine ⟨q + q', os ++ os', ?_⟩
  simp [grow, World.drewN, Nat.add_assoc, Array.append_assoc]
theorem Grew.below {a w : World} (h : Grew a w) : Below a.heap.size a w := by
  obtain ⟨q, os, rfl⟩ := h
  refine ⟨rfl, rfl, rfl, by simp [grow, World.drewN], fun k hk => ?_⟩
  show (a.heap ++ os)[k]? = a.heap[k]?
  rw [Array.getElem?_append_left hk]

set_option maxHeartbeats 1000000 in
theorem compare_ex (a b : Int) (w : World) :
    Calls Tryz.prog 68 #[tm a 0, tm b 0] w fun e w' => e = .returned (.int .i64 (cmpT a b)) ∧ Grew w w' := by
  have he := eqTime a 0 b 0
  have hg := fun x y => guardTime x y a 0 b 0
  by_cases h1 : a < b
  · have HC : Hid (cmpT a b = -1) := by rw [Hid, cmpT, if_pos h1]
    go_enter Tryz.func68, Tryz.ntmps68
    go_wp2
    go_ret
    exact ⟨ret_int HC.out.symm, ((Grew.refl _).alloc _).alloc _⟩
  · have h1' : decide (a < b) = false := decide_eq_false h1
    by_cases h2 : a = b
    · have h2' : (a == b) = true := beq_iff_eq.2 h2
      have HC : Hid (cmpT a b = 0) := by rw [Hid, cmpT, if_neg h1, if_pos h2]
      clear h2
      go_enter Tryz.func68, Tryz.ntmps68
      go_wp2
      go_ret
      exact ⟨ret_int HC.out.symm, ((Grew.refl _).alloc _).alloc _⟩
    · have h2' : (a == b) = false := by rw [Bool.eq_false_iff]; intro h; exact h2 (beq_iff_eq.1 h)
      have HC : Hid (cmpT a b = 1) := by rw [Hid, cmpT, if_neg h1, if_neg h2]
      clear h2
      go_enter Tryz.func68, Tryz.ntmps68
      go_wp2
      go_ret
      exact ⟨ret_int HC.out.symm, ((Grew.refl _).alloc _).alloc _⟩

/-- Which of two entries stands first. -/
def cmpSel (x y : Ent) : Int :=
  if x.path = y.path then (if cmpT x.crs y.crs = 0 then (if x.seq < y.seq then -1 else if y.seq < x.seq then 1 else 0) else cmpT x.crs y.crs)
  else if Op.bytesLess y.path x.path then -1 else 1

theorem cmpT_lt (a b : Int) : cmpT a b < 0 ↔ a < b := by
  unfold cmpT; repeat' split
  all_goals omega
theorem cmpT_eq (a b : Int) : cmpT a b = 0 ↔ a = b := by
  unfold cmpT; repeat' split
  all_goals omega

theorem ltSel (x y : Ent) : ltOf cmpSel x y = true ↔ (y.path < x.path ∨ x.path = y.path ∧ (x.crs < y.crs ∨ x.crs = y.crs ∧ x.seq < y.seq)) := by
  unfold ltOf cmpSel
  rw [decide_eq_true_iff]
  by_cases h : x.path = y.path
  · rw [if_pos h]
    have hirr : ¬ y.path < x.path := by rw [h]; exact List.lt_irrefl _
    by_cases h2 : cmpT x.crs y.crs = 0
    · rw [if_pos h2]
      have h3 := (cmpT_eq _ _).1 h2
      simp only [h, h3, true_and, Int.lt_irrefl, false_or]
      repeat' split
      all_goals (constructor <;> intro hh)
      all_goals first | omega | (rcases hh with hh | hh; exact absurd (h ▸ hh) (List.lt_irrefl _); omega) | (exact Or.inr (by assumption)) | skip
    · rw [if_neg h2, cmpT_lt]
      have h3 : x.crs ≠ y.crs := fun e => h2 ((cmpT_eq _ _).2 e)
      constructor
      · intro hh; exact Or.inr ⟨h, Or.inl hh⟩
      · rintro (hh | ⟨_, hh | ⟨hh, _⟩⟩)
        · exact absurd hh hirr
        · exact hh
        · exact absurd hh h3
  · rw [if_neg h, bytesLess_eq]
    by_cases h2 : y.path < x.path
    · simp [h2]
    · simp [h2, h]

theorem strTri (a b : List UInt8) : a < b ∨ a = b ∨ b < a := by
  by_cases h1 : a < b
  · exact Or.inl h1
  · by_cases h2 : b < a
    · exact Or.inr (Or.inr h2)
    · exact Or.inr (Or.inl (List.le_antisymm (List.not_lt.1 h2) (List.not_lt.1 h1)))

theorem swoSel : SWO (ltOf cmpSel) where
  irrefl x := by
    rw [Bool.eq_false_iff]; intro h
    rcases (ltSel x x).1 h with h | ⟨_, h | ⟨_, h⟩⟩
    · exact List.lt_irrefl _ h
    · omega
    · omega
  trans x y z h1 h2 := by
    rw [ltSel] at *
    rcases h1 with h1 | ⟨e1, h1⟩ <;> rcases h2 with h2 | ⟨e2, h2⟩
    · exact Or.inl (List.lt_trans h2 h1)
    · exact Or.inl (e2 ▸ h1)
    · exact Or.inl (e1 ▸ h2)
    · exact Or.inr ⟨e1.trans e2, by omega⟩
  ntrans x y z h1 h2 := by
    rw [Bool.eq_false_iff] at *
    intro h
    rw [ltSel] at h
    rw [ne_eq, ltSel] at h1 h2
    rcases strTri x.path y.path with t | t | t
    · rcases strTri y.path z.path with u | u | u
      · rcases h with h | ⟨h, _⟩
        · exact List.lt_irrefl _ (List.lt_trans h (List.lt_trans t u))
        · exact List.lt_irrefl _ (h ▸ List.lt_trans t u)
      · rcases h with h | ⟨h, _⟩
        · exact List.lt_irrefl _ (List.lt_trans h (u ▸ t))
        · exact List.lt_irrefl _ (h ▸ (u ▸ t : x.path < z.path))
      · exact h2 (Or.inl u)
    · rcases strTri y.path z.path with u | u | u
      · rcases h with h | ⟨h, _⟩
        · exact List.lt_irrefl _ (List.lt_trans h (t ▸ u))
        · exact List.lt_irrefl _ (h ▸ (t ▸ u : x.path < z.path))
      · rcases h with h | ⟨_, h⟩
        · exact List.lt_irrefl _ ((t.trans u) ▸ h)
        · have g1 : ¬ (x.crs < y.crs ∨ x.crs = y.crs ∧ x.seq < y.seq) := fun g => h1 (Or.inr ⟨t, g⟩)
          have g2 : ¬ (y.crs < z.crs ∨ y.crs = z.crs ∧ y.seq < z.seq) := fun g => h2 (Or.inr ⟨u, g⟩)
          omega
      · exact h2 (Or.inl u)
    · exact h1 (Or.inl t)

set_option maxHeartbeats 4000000 in
theorem closure67 (x y : Ent) (w : World) :
    Calls Tryz.prog 67 #[.agg (encE x).toArray, .agg (encE y).toArray] w fun e w' => e = .returned (.int .i64 (cmpSel x y)) ∧ Grew w w' := by
  have hG : Hid (Grew w ((w.alloc (.cells (encE x).toArray 118)).alloc (.cells (encE y).toArray 118))) := ((Grew.refl _).alloc _).alloc _
  have hX : Hid (BlkAt ((w.alloc (.cells (encE x).toArray 118)).alloc (.cells (encE y).toArray 118)) w.heap.size (encE x)) := (BlkAt.made w (encE x) 118).alloc _
  have hY : Hid (BlkAt ((w.alloc (.cells (encE x).toArray 118)).alloc (.cells (encE y).toArray 118)) (w.heap.size + 1) (encE y)) := by
    have := BlkAt.made (w.alloc (.cells (encE x).toArray 118)) (encE y) 118
    rw [Hid]; simpa using this
  go_enter Tryz.func67, Tryz.ntmps67
  go_upto_region 1 with (fail)
  generalize (w.alloc (.cells (encE x).toArray 118)).alloc (.cells (encE y).toArray 118) = w2 at hG hX hY ⊢
  generalize w.heap.size + 1 = by2 at hY ⊢
  generalize w.heap.size = bx at hX ⊢
  have x4 := hX.out.cell 4 rfl
  have x11 := hX.out.cell 11 rfl
  have x12 := hX.out.cell 12 rfl
  have x15 := hX.out.cell 15 rfl
  have y4 := hY.out.cell 4 rfl
  have y11 := hY.out.cell 11 rfl
  have y12 := hY.out.cell 12 rfl
  have y15 := hY.out.cell 15 rfl
  by_cases hp : x.path = y.path
  · have hp1 : (x.path == y.path) = true := beq_iff_eq.2 hp
    have hp2 : (x.path != y.path) = false := by rw [bne, hp1]; rfl
    by_cases hc : cmpT x.crs y.crs = 0
    · have hc1 : (cmpT x.crs y.crs == 0) = true := beq_iff_eq.2 hc
      have hc2 : (cmpT x.crs y.crs != 0) = false := by rw [bne, hc1]; rfl
      by_cases h1 : x.seq < y.seq
      · have HC : Hid (cmpSel x y = -1) := by rw [Hid, cmpSel, if_pos hp, if_pos hc, if_pos h1]
        have h1' : decide (x.seq < y.seq) = true := decide_eq_true h1
        clear hp hc h1
        go_wp2_with (fail)
        refine (compare_ex _ _ _).mono ?_
        rintro e w3 ⟨rfl, hg⟩
        have hgg := Lib.hid hg
        have X15 : w3.cell? ⟨bx, 15, none⟩ = some (.int .u64 x.seq) := by rw [hg.below.cell (World.block_lt_of_cell? w2 _ x15)]; exact x15
        have Y15 : w3.cell? ⟨by2, 15, none⟩ = some (.int .u64 y.seq) := by rw [hg.below.cell (World.block_lt_of_cell? w2 _ y15)]; exact y15
        clear hg
        go_wp2
        go_ret
        exact ⟨ret_int HC.out.symm, hG.out.trans hgg.out⟩
      · have h1' : decide (x.seq < y.seq) = false := decide_eq_false h1
        by_cases h2 : y.seq < x.seq
        · have HC : Hid (cmpSel x y = 1) := by rw [Hid, cmpSel, if_pos hp, if_pos hc, if_neg h1, if_pos h2]
          have h2' : decide (y.seq < x.seq) = true := decide_eq_true h2
          clear hp hc h1
          go_wp2_with (fail)
          refine (compare_ex _ _ _).mono ?_
          rintro e w3 ⟨rfl, hg⟩
          have hgg := Lib.hid hg
          have X15 : w3.cell? ⟨bx, 15, none⟩ = some (.int .u64 x.seq) := by rw [hg.below.cell (World.block_lt_of_cell? w2 _ x15)]; exact x15
          have Y15 : w3.cell? ⟨by2, 15, none⟩ = some (.int .u64 y.seq) := by rw [hg.below.cell (World.block_lt_of_cell? w2 _ y15)]; exact y15
          clear hg
          go_wp2
          go_ret
          exact ⟨ret_int HC.out.symm, hG.out.trans hgg.out⟩
        · have HC : Hid (cmpSel x y = 0) := by rw [Hid, cmpSel, if_pos hp, if_pos hc, if_neg h1, if_neg h2]
          have h2' : decide (y.seq < x.seq) = false := decide_eq_false h2
          clear hp hc h1
          go_wp2_with (fail)
          refine (compare_ex _ _ _).mono ?_
          rintro e w3 ⟨rfl, hg⟩
          have hgg := Lib.hid hg
          have X15 : w3.cell? ⟨bx, 15, none⟩ = some (.int .u64 x.seq) := by rw [hg.below.cell (World.block_lt_of_cell? w2 _ x15)]; exact x15
          have Y15 : w3.cell? ⟨by2, 15, none⟩ = some (.int .u64 y.seq) := by rw [hg.below.cell (World.block_lt_of_cell? w2 _ y15)]; exact y15
          clear hg
          go_wp2
          go_ret
          exact ⟨ret_int HC.out.symm, hG.out.trans hgg.out⟩
    · have hc1 : (cmpT x.crs y.crs == 0) = false := by rw [beq_eq_false_iff_ne]; exact hc
      have hc2 : (cmpT x.crs y.crs != 0) = true := by rw [bne, hc1]; rfl
      have HC : Hid (cmpSel x y = cmpT x.crs y.crs) := by rw [Hid, cmpSel, if_pos hp, if_neg hc]
      clear hp hc
      go_wp2_with (fail)
      refine (compare_ex _ _ _).mono ?_
      rintro e w3 ⟨rfl, hg⟩
      have hgg := Lib.hid hg
      have X15 : w3.cell? ⟨bx, 15, none⟩ = some (.int .u64 x.seq) := by rw [hg.below.cell (World.block_lt_of_cell? w2 _ x15)]; exact x15
      have Y15 : w3.cell? ⟨by2, 15, none⟩ = some (.int .u64 y.seq) := by rw [hg.below.cell (World.block_lt_of_cell? w2 _ y15)]; exact y15
      clear hg
      go_wp2
      go_ret
      exact ⟨ret_int HC.out.symm, hG.out.trans hgg.out⟩
  · have hp1 : (x.path == y.path) = false := by rw [beq_eq_false_iff_ne]; exact hp
    have hp2 : (x.path != y.path) = true := by rw [bne, hp1]; rfl
    cases hl : Op.bytesLess y.path x.path with
    | true =>
      have HC : Hid (cmpSel x y = -1) := by rw [Hid, cmpSel, if_neg hp, hl]; rfl
      clear hp
      go_wp2
      go_ret
      exact ⟨ret_int HC.out.symm, hG.out⟩
    | false =>
      have HC : Hid (cmpSel x y = 1) := by rw [Hid, cmpSel, if_neg hp, hl]; rfl
      clear hp
      go_wp2
      go_ret
      exact ⟨ret_int HC.out.symm, hG.out⟩
end Go.Proofs.YtckfgnbilcjdpaaGreatDoor
