/- Rows of structs that are written in place. -/
import Derived.Test.YtckfgnbilcjdpaaGreatDoorQ06
import Derived.Test.YtckfgnbilcjdpaaGreatDoorQ03
import Derived.Lib.LazyBuf
import Derived.Deep.RegionHeld3
import Derived.StillTailTactics
namespace Go.Proofs.YtckfgnbilcjdpaaGreatDoor
open Go.RowKit
set_option maxRecDepth 100000

section
variable {α : Type} {enc : α → List Value} {k : Nat} {T : TypeId}

/-- Block g is a row of room cap that holds the structs M ahead. -/
def Rows (enc : α → List Value) (k : Nat) (T : TypeId) (w : World) (g cap : Nat) (M : List α) : Prop :=
  ∃ f, w.rowIs g T (cap * k) f ∧ M.length ≤ cap ∧ cap ≤ maxLen ∧ ∀ i (h : i < M.length) c u, (enc M[i])[c]? = some u → f (i * k + c) = u

theorem flat_at (hk : ∀ x, (enc x).length = k) : ∀ (L : List α) (j : Nat) (u : Value), (L.flatMap enc)[j]? = some u → ∃ i c, ∃ h : i < L.length, c < k ∧ j = i * k + c ∧ (enc L[i])[c]? = some u
  | [], j, u, h => by simp at h
  | a :: r, j, u, h => by
    rw [List.flatMap_cons] at h
    by_cases hj : j < k
    · rw [List.getElem?_append_left (by rw [hk]; exact hj)] at h
      exact ⟨0, j, by simp, hj, by omega, h⟩
    · rw [List.getElem?_append_right (by rw [hk]; omega), hk] at h
      obtain ⟨i, c, hi, hc, e, hu⟩ := flat_at hk r (j - k) u h
      refine ⟨i + 1, c, by simp; omega, hc, ?_, by simpa using hu⟩
      rw [Nat.add_mul, Nat.one_mul]; omega

theorem flat_put (hk : ∀ x, (enc x).length = k) : ∀ (L : List α) (i c : Nat) (h : i < L.length), c < k → (L.flatMap enc)[i * k + c]? = (enc L[i])[c]?
  | a :: r, 0, c, _, hc => by rw [List.flatMap_cons, Nat.zero_mul, Nat.zero_add, List.getElem?_append_left (by rw [hk]; exact hc)]; rfl
  | a :: r, i + 1, c, h, hc => by
    rw [List.flatMap_cons, List.getElem?_append_right (by rw [hk, Nat.add_mul]; omega), hk, show (i + 1) * k + c - k = i * k + c by rw [Nat.add_mul]; omega, flat_put hk r i c (by simpa using h) hc]
    rfl
theorem flat_length (hk : ∀ x, (enc x).length = k) (L : List α) : (L.flatMap enc).length = L.length * k := flat_len enc k hk L

theorem RowOf.rows (hk : ∀ x, (enc x).length = k) {w : World} {base g n cap : Nat} {L : List α} (h : RowOf w base T enc k (.slice (some ⟨g, 0, none⟩) n cap) L) : n = L.length ∧ base ≤ g ∧ Rows enc k T w g cap L := by
  rcases h.2 with ⟨e, _⟩ | ⟨g', cap', cur, e, hb, hg, h1, h2, h3, h4⟩
  · cases e
  · cases e
    refine ⟨rfl, hb, fun i => cur[i]?.getD undef, ⟨cur, hg, h3, fun i hi => ?_⟩, h1, h2, ?_⟩
    · rw [Array.getElem?_eq_getElem (by omega)]; simp [Array.getElem?_eq_getElem (show i < cur.size by omega)]
    · intro i hi c u hu
      have hc : c < k := by have := (List.getElem?_eq_some_iff.1 hu).1; rwa [hk] at this
      have hlt : i * k + c < L.length * k := by
        have : (i + 1) * k ≤ L.length * k := Nat.mul_le_mul_right k hi
        rw [Nat.add_mul] at this; omega
      have h5 := flat_put hk L i c hi hc
      rw [hu, ← h4, List.getElem?_take_of_lt hlt, Array.getElem?_toList] at h5
      show cur[i * k + c]?.getD undef = u
      rw [h5]; rfl

theorem Rows.toRow (hk : ∀ x, (enc x).length = k) {w : World} {base g cap m : Nat} {M : List α} (h : Rows enc k T w g cap M) (hb : base ≤ g) (hm : m ≤ M.length) : RowOf w base T enc k (.slice (some ⟨g, 0, none⟩) m cap) (M.take m) := by
  obtain ⟨f, ⟨cur, hg, hs, hc⟩, h1, h2, h3⟩ := h
  have hml : (M.take m).length = m := by rw [List.length_take]; omega
  refine ⟨flat_length hk _, Or.inr ⟨g, cap, cur, by rw [hml], hb, hg, by omega, h2, hs, ?_⟩⟩
  rw [hml]
  have hmk : m * k ≤ cap * k := Nat.mul_le_mul_right k (by omega)
  apply List.ext_getElem?
  intro j
  by_cases hj : j < m * k
  · rw [List.getElem?_take_of_lt hj, Array.getElem?_toList, hc j (by omega)]
    obtain ⟨u, hu⟩ : ∃ u, ((M.take m).flatMap enc)[j]? = some u := ⟨_, List.getElem?_eq_getElem (by rw [flat_length hk, hml]; exact hj)⟩
    rw [hu]
    obtain ⟨i, c, hi, hck, rfl, hu'⟩ := flat_at hk _ _ _ hu
    have hi' : i < M.length := by omega
    rw [List.getElem_take] at hu'
    rw [h3 i hi' c u hu']
  · rw [List.getElem?_eq_none (by rw [List.length_take]; omega), List.getElem?_eq_none (by rw [flat_length hk, hml]; omega)]

theorem Rows.below {w w' : World} {g cap : Nat} {M : List α} (h : Rows enc k T w g cap M) (hb : Below w.heap.size w w') : Rows enc k T w' g cap M := by
  obtain ⟨f, h0, h1, h2, h3⟩ := h
  exact ⟨f, h0.of_block (hb.block g h0.lt), h1, h2, h3⟩
theorem Rows.keeps {S : Nat → Prop} {w w' : World} {g cap : Nat} {M : List α} (h : Rows enc k T w g cap M) (hb : Keeps S w w') (hs : ¬ S g) : Rows enc k T w' g cap M := by
  obtain ⟨f, h0, h1, h2, h3⟩ := h
  exact ⟨f, h0.of_block (hb.block g h0.lt hs), h1, h2, h3⟩
theorem Rows.alloc {w : World} {g cap : Nat} {M : List α} (h : Rows enc k T w g cap M) (o : Obj) : Rows enc k T (w.alloc o) g cap M := h.below ((Below.refl _ _).alloc (Nat.le_refl _) o)
theorem Rows.lt {w : World} {g cap : Nat} {M : List α} (h : Rows enc k T w g cap M) : g < w.heap.size := by obtain ⟨f, h0, _⟩ := h; exact h0.lt
theorem Rows.len {w : World} {g cap : Nat} {M : List α} (h : Rows enc k T w g cap M) : M.length ≤ cap := by obtain ⟨f, _, h1, _⟩ := h; exact h1
theorem Rows.setOther {w : World} {g cap b o : Nat} {vs : List Value} {M : List α} (h : Rows enc k T w g cap M) (hb : g ≠ b) : Rows enc k T (w.setCells b o vs) g cap M := by
  obtain ⟨f, h0, h1, h2, h3⟩ := h
  exact ⟨f, Go.rowIs_setCells_other hb vs o w h0, h1, h2, h3⟩

theorem Rows.row {w : World} {g cap : Nat} {M : List α} (hk : ∀ x, (enc x).length = k) (h : Rows enc k T w g cap M) {i : Nat} (hi : i < M.length) : RowAt w g (i * k) (enc M[i]) := by
  obtain ⟨f, h0, h1, h2, h3⟩ := h
  intro c u hu
  have hc : c < k := by have := (List.getElem?_eq_some_iff.1 hu).1; rwa [hk] at this
  have : (i + 1) * k ≤ cap * k := Nat.mul_le_mul_right k (by omega)
  rw [Nat.add_mul] at this
  rw [h0.cell (by omega), h3 i hi c u hu]

theorem Rows.setCells {w : World} {g cap : Nat} {M : List α} (hk : ∀ x, (enc x).length = k) (h : Rows enc k T w g cap M) {i : Nat} (x : α) : Rows enc k T (w.setCells g (i * k) (enc x)) g cap (M.set i x) := by
  obtain ⟨f, h0, h1, h2, h3⟩ := h
  refine ⟨_, Go.rowIs_setCells (enc x) (i * k) w f h0, by simpa using h1, h2, ?_⟩
  intro j hj c u hu
  have hj' : j < M.length := by simpa using hj
  have hc : c < k := by have := (List.getElem?_eq_some_iff.1 hu).1; rwa [hk] at this
  rw [hk]
  by_cases e : i = j
  · subst e
    rw [List.getElem_set_self] at hu
    rw [if_pos (by omega), show i * k + c - i * k = c by omega, hu]; rfl
  · rw [List.getElem_set_ne e] at hu
    rw [if_neg, h3 j hj' c u hu]
    rintro ⟨h4, h5⟩
    rcases Nat.lt_or_ge i j with h6 | h6
    · have : (i + 1) * k ≤ j * k := Nat.mul_le_mul_right k h6
      rw [Nat.add_mul] at this; omega
    · have : (j + 1) * k ≤ i * k := Nat.mul_le_mul_right k (by omega)
      rw [Nat.add_mul] at this; omega

theorem Rows.cut {w : World} {g cap m o : Nat} {vs : List Value} {M : List α} (hk : ∀ x, (enc x).length = k) (h : Rows enc k T w g cap M) (ho : m * k ≤ o) (hm : m ≤ M.length) : Rows enc k T (w.setCells g o vs) g cap (M.take m) := by
  obtain ⟨f, h0, h1, h2, h3⟩ := h
  refine ⟨_, Go.rowIs_setCells vs o w f h0, by rw [List.length_take]; omega, h2, ?_⟩
  intro j hj c u hu
  have hj' : j < m := by rw [List.length_take] at hj; omega
  have hc : c < k := by have := (List.getElem?_eq_some_iff.1 hu).1; rwa [hk] at this
  rw [List.getElem_take] at hu
  have : (j + 1) * k ≤ m * k := Nat.mul_le_mul_right k hj'
  rw [Nat.add_mul] at this
  rw [if_neg (by omega), h3 j (by omega) c u hu]

/-- A store of a struct into its place of a row. -/
theorem Rows.store {w : World} {g cap : Nat} {M : List α} (hk : ∀ x, (enc x).length = k) (hone : ∀ x, ∀ u ∈ enc x, u.oneCell' = true) (hz : ∀ w, (Go.sizeOf T).run Tryz.prog w = .ok k w) (h : Rows enc k T w g cap M) {i : Nat} (hi : i < M.length) (x : α) :
    (Instr.storeAt T (.pointer (some ⟨g, i * k, none⟩)) (.agg (enc x).toArray)).run Tryz.prog w = .ok () (w.setCells g (i * k) (enc x)) := by
  obtain ⟨f, h0, h1, h2, h3⟩ := h
  have hle : (i + 1) * k ≤ cap * k := Nat.mul_le_mul_right k (by omega)
  rw [Nat.add_mul] at hle
  have hs := run_storeCells_cells (P := Tryz.prog) g (i * k) (enc x) 0 w (fun j hj => by
    rw [hk] at hj
    rw [show i * k + 0 + j = i * k + j by omega, h0.cell (by omega)]; rfl) (fun j hj => h0.frozen _) (hone x)
  simp only [Instr.storeAt, Instr.sureAddr, storeVar, Sem.run_bind, Sem.run_pure, Result.andThen, Value.cells, hz]
  have := hk x
  simp [hs, this]

theorem Rows.load {w : World} {g cap : Nat} {M : List α} (hk : ∀ x, (enc x).length = k) (ha : ∀ w, (isAgg T).run Tryz.prog w = .ok true w) (hz : ∀ w, (Go.sizeOf T).run Tryz.prog w = .ok k w) (h : Rows enc k T w g cap M) {i : Nat} (hi : i < M.length) :
    (Instr.loadAt T (.pointer (some ⟨g, i * k, none⟩))).run Tryz.prog w = .ok (.agg (enc M[i]).toArray) w := loadAt_agg ha hz (h.row hk hi) (hk _)

/-- clear of the last structs of a row. -/
theorem Rows.clear {w : World} {g cap : Nat} {M : List α} {t : TypeId} {z : Value} (_hk : ∀ x, (enc x).length = k) (hu : Tryz.prog.underlying t = some (.slice T)) (hv : ∀ w, (zeroValue T).run Tryz.prog w = .ok z w) (hz : z.cells.size = k) (h1 : ∀ u ∈ z.cells.toList, u.oneCell' = true)
    (h : Rows enc k T w g cap M) {m : Nat} (hm : m ≤ M.length) (ty : TypeId) (c : Nat) :
    ∃ vs, (Builtin.clear_ #[t] ty #[.slice (some ⟨g, m * k, none⟩) (M.length - m) c]).run Tryz.prog w = .ok (.tuple #[]) (w.setCells g (m * k) vs) := by
  obtain ⟨f, h0, h2, h3, h4⟩ := h
  by_cases hn : M.length - m = 0
  · refine ⟨[], ?_⟩
    rw [hn]
    simp [Builtin.clear_, run_underlying hu]
    rfl
  · have hlen : (Builtin.zeroCells z.cells (M.length - m)).toList.length = (M.length - m) * k := by
      simp [Builtin.zeroCells, hz]
    have hone : ∀ u ∈ (Builtin.zeroCells z.cells (M.length - m)).toList, u.oneCell' = true := by
      intro u hu
      rw [Builtin.zeroCells, Array.toList_map, List.mem_map] at hu
      obtain ⟨j, hj, rfl⟩ := hu
      have hj' : j < (M.length - m) * z.cells.size := by simpa using hj
      have hpos : 0 < z.cells.size := by
        rcases Nat.eq_zero_or_pos z.cells.size with h | h
        · rw [h] at hj'; simp at hj'
        · exact h
      have hlt := Nat.mod_lt j hpos
      rw [getElem!_pos z.cells _ hlt]
      exact h1 _ (by simp)
    have hle : m * k + (M.length - m) * k ≤ cap * k := by rw [← Nat.add_mul]; exact Nat.mul_le_mul_right k (by omega)
    have hst := run_storeCells_cells (P := Tryz.prog) g (m * k) (Builtin.zeroCells z.cells (M.length - m)).toList 0 w (fun j hj => by
      rw [hlen] at hj
      rw [show m * k + 0 + j = m * k + j by omega, h0.cell (by omega)]; rfl) (fun j hj => h0.frozen _) hone
    simp only [Nat.add_zero] at hst
    refine ⟨(Builtin.zeroCells z.cells (M.length - m)).toList, ?_⟩
    obtain ⟨q, hq⟩ : ∃ q, M.length - m = q + 1 := ⟨M.length - m - 1, by omega⟩
    rw [hq] at hst ⊢
    simp [Builtin.clear_, run_underlying hu, hv, hst]
end
end Go.Proofs.YtckfgnbilcjdpaaGreatDoor
/- The cookies that the reference sends: their order, and the exchange of two runs of a row. -/
namespace Go.Proofs.YtckfgnbilcjdpaaGreatDoor
open Go.RowKit Go.Sort
set_option maxRecDepth 100000

/-- A cookie that is sent, by the reference. -/
structure Sn where
  name : List UInt8
  value : List UInt8
  plen : Int
  born : Int
  deriving Inhabited
def encN (x : Sn) : List Value := [.string (bs x.name), .string (bs x.value), .int .i64 x.plen, .int .i64 x.born]
theorem encN_len (x : Sn) : (encN x).length = 4 := rfl
theorem encN_one (x : Sn) : ∀ u ∈ encN x, u.oneCell' = true := by
  intro u hu
  simp only [encN, List.mem_cons, List.not_mem_nil, or_false] at hu
  rcases hu with rfl | rfl | rfl | rfl <;> rfl
/-- Numbers that can be set against each other. -/
def SnOk (x : Sn) : Prop := 0 ≤ x.plen ∧ x.plen ≤ 4294967296 ∧ 0 ≤ x.born ∧ x.born ≤ 4294967296
def cmpN (x y : Sn) : Int := if x.plen ≠ y.plen then y.plen - x.plen else x.born - y.born
/-- One stands ahead of the other, or is as good. -/
def leN (x y : Sn) : Prop := ¬ cmpN y x < 0
theorem leN_iff (x y : Sn) : leN x y ↔ y.plen < x.plen ∨ (x.plen = y.plen ∧ x.born ≤ y.born) := by
  unfold leN cmpN; split <;> omega
theorem leN_trans {x y z : Sn} (h1 : leN x y) (h2 : leN y z) : leN x z := by rw [leN_iff] at *; omega
theorem leN_refl (x : Sn) : leN x x := by rw [leN_iff]; omega
theorem leN_total (x y : Sn) : leN x y ∨ leN y x := by rw [leN_iff, leN_iff]; omega
theorem ltN_le {x y : Sn} (h : cmpN x y < 0) : leN x y := by
  rw [leN_iff]; unfold cmpN at h; split at h <;> omega

set_option maxHeartbeats 1000000 in
theorem cmp53 (x y : Sn) (hx : SnOk x) (hy : SnOk y) (w : World) :
    Calls Tryz.prog 53 #[.agg (encN x).toArray, .agg (encN y).toArray] w fun e w' => e = .returned (.int .i64 (cmpN x y)) ∧ Grew w w' := by
  have hg : Hid (Grew w ((w.alloc (.cells (encN x).toArray 94)).alloc (.cells (encN y).toArray 94))) := ((Grew.refl _).alloc _).alloc _
  obtain ⟨a1, a2, a3, a4⟩ := hx
  obtain ⟨b1, b2, b3, b4⟩ := hy
  have q1 : IntKind.i64.wrap (y.plen - x.plen) = y.plen - x.plen := IntWalk.i64_in _ (by omega)
  have q2 : IntKind.i64.wrap (x.born - y.born) = x.born - y.born := IntWalk.i64_in _ (by omega)
  simp only [encN] at hg ⊢
  cases h : (x.plen != y.plen) with
  | true =>
    have HC : Hid (cmpN x y = y.plen - x.plen) := by rw [Hid, cmpN, if_pos (by simpa using h)]
    go_enter Tryz.func53, Tryz.ntmps53
    go_wp2
    go_ret
    exact ⟨ret_int HC.out.symm, hg.out⟩
  | false =>
    have HC : Hid (cmpN x y = x.born - y.born) := by rw [Hid, cmpN, if_neg (by simpa using h)]
    go_enter Tryz.func53, Tryz.ntmps53
    go_wp2
    go_ret
    exact ⟨ret_int HC.out.symm, hg.out⟩

/-- What n exchanges have made: from a on, from b on. -/
def swapAt (M M' : List Sn) (a b n : Nat) : Prop :=
  M'.length = M.length ∧ M'.Perm M ∧ ∀ q, M'[q]? = if a ≤ q ∧ q < a + n then M[b + (q - a)]? else if b ≤ q ∧ q < b + n then M[a + (q - b)]? else M[q]?
theorem swapAt.zero (M : List Sn) (a b : Nat) : swapAt M M a b 0 := ⟨rfl, List.Perm.refl _, fun q => by rw [if_neg (by omega), if_neg (by omega)]⟩
theorem swapAt.step {M M' : List Sn} {a b n : Nat} (h : swapAt M M' a b n) (hab : a + n < b) (hb : b + n < M.length) (x y : Sn) (hx : M'[a + n]? = some x) (hy : M'[b + n]? = some y) : swapAt M ((M'.set (a + n) y).set (b + n) x) a b (n + 1) := by
  obtain ⟨h1, h2, h3⟩ := h
  have hla : a + n < M'.length := by omega
  have hlb : b + n < M'.length := by omega
  rw [List.getElem?_eq_getElem hla] at hx
  rw [List.getElem?_eq_getElem hlb] at hy
  obtain rfl := Option.some.inj hx
  obtain rfl := Option.some.inj hy
  refine ⟨by simp [h1], (List.set_set_perm hla hlb).trans h2, fun q => ?_⟩
  have ha3 := h3 (a + n)
  have hb3 := h3 (b + n)
  rw [if_neg (by omega), if_neg (by omega), List.getElem?_eq_getElem hla] at ha3
  rw [if_neg (by omega), if_neg (by omega), List.getElem?_eq_getElem hlb] at hb3
  rw [List.getElem?_set, List.getElem?_set]
  by_cases e1 : b + n = q
  · subst e1
    rw [if_pos rfl, if_pos (by simpa using hlb), if_neg (by omega), if_pos (by omega), show b + n - b = n by omega, ha3]
  · rw [if_neg e1]
    by_cases e2 : a + n = q
    · subst e2
      rw [if_pos rfl, if_pos hla, if_pos (by omega), show a + n - a = n by omega, hb3]
    · rw [if_neg e2, h3 q]
      by_cases c1 : a ≤ q ∧ q < a + n
      · rw [if_pos c1, if_pos (by omega)]
      · by_cases c2 : b ≤ q ∧ q < b + n
        · rw [if_neg c1, if_pos c2, if_neg (by omega), if_pos (by omega)]
        · rw [if_neg c1, if_neg c2, if_neg (by omega), if_neg (by omega)]

section
variable {ops : Array Oper} {a : Act} {K : Act → World → Prop} {Q : Exit → Act → World → Prop} {E : Prop} {w w' : World}
/-- A load whose run is known, at a step of a region that draws its order. -/
theorem step_load_run {t : TypeId} {v0 v : Value} {x : Operand} {dst : Option Tmp} {ty : TypeId} {pos : String} {after : Array Edge} (h : (Instr.loadAt t v0).run Tryz.prog w = .ok v w') (he : a.eval x = v0) (k : K (a.put dst v) w') :
    if Region.wanted ⟨dst, .load t x, ty, pos, after, none⟩ (yielded ops a.tmps) = true then Oper.wp Tryz.prog ⟨dst, .load t x, ty, pos, after, none⟩ a w K Q else E := by
  rw [if_pos (by simp [Region.wanted])]
  have hr : (execOp a.eval ⟨dst, .load t x, ty, pos, after, none⟩).run Tryz.prog w = .ok (.value v) w' := by
    simp only [execOp, he, Sem.run_bind, h, Result.andThen, Sem.run_pure]
  simp only [Oper.wp, hr, Oper.upon]
  exact k
/-- A store whose run is known. -/
theorem step_store_run {t : TypeId} {v0 v1 : Value} {x y : Operand} {dst : Option Tmp} {ty : TypeId} {pos : String} {after : Array Edge} (h : (Instr.storeAt t v0 v1).run Tryz.prog w = .ok () w') (he : a.eval x = v0) (he' : a.eval y = v1) (k : K (a.put dst undef) w') :
    if Region.wanted ⟨dst, .store t x y, ty, pos, after, none⟩ (yielded ops a.tmps) = true then Oper.wp Tryz.prog ⟨dst, .store t x y, ty, pos, after, none⟩ a w K Q else E := by
  rw [if_pos (by simp [Region.wanted])]
  have hr : (execOp a.eval ⟨dst, .store t x y, ty, pos, after, none⟩).run Tryz.prog w = .ok .skip w' := by
    simp only [execOp, he, he', Sem.run_bind, h, Result.andThen, Sem.run_pure]
  simp only [Oper.wp, hr, Oper.upon]
  exact k
end
theorem Rows.loadN {w : World} {g cap : Nat} {M : List Sn} (h : Rows encN 4 94 w g cap M) {i : Nat} {x : Sn} (hi : M[i]? = some x) : (Instr.loadAt 94 (.pointer (some ⟨g, i * 4, none⟩))).run Tryz.prog w = .ok (.agg (encN x).toArray) w := by
  obtain ⟨hl, rfl⟩ := List.getElem?_eq_some_iff.1 hi
  exact h.load encN_len Tryz.isAgg94 Tryz.sizeOf94 hl

theorem Rows.rowGet {w : World} {g cap : Nat} {M : List Sn} (h : Rows encN 4 94 w g cap M) {i : Nat} {x : Sn} (hi : M[i]? = some x) : RowAt w g (i * 4) (encN x) := by
  obtain ⟨hl, rfl⟩ := List.getElem?_eq_some_iff.1 hi
  exact h.row encN_len hl

theorem cells4 (w : World) (g o : Nat) (v0 v1 v2 v3 : Value) : w.setCells g o [v0, v1, v2, v3] = (((w.setCell ⟨g, o, none⟩ v0).setCell ⟨g, o + 1, none⟩ v1).setCell ⟨g, o + 2, none⟩ v2).setCell ⟨g, o + 3, none⟩ v3 := by
  simp only [World.setCells]
theorem drew_set (w : World) (a : Addr) (v : Value) : w.drew.setCell a v = (w.setCell a v).drew := by
  cases w; rfl

set_option maxHeartbeats 2000000 in
theorem swapRange_any (g cap : Nat) (M : List Sn) (a b n : Nat) (cb : Value) (w : World) (hr : Rows encN 4 94 w g cap M) (hl : M.length ≤ 1000000) (hab : a + n ≤ b) (hb : b + n ≤ M.length) :
    Calls Tryz.prog 112 #[.slice (some ⟨g, 0, none⟩) M.length cap, .int .i64 a, .int .i64 b, .int .i64 n, cb] w fun e w' => e = .returned (.tuple #[]) ∧ ∃ M', swapAt M M' a b n ∧ Rows encN 4 94 w' g cap M' ∧ Keeps (fun j => j = g) w w' := by
  have HR := Lib.hid hr; clear hr
  have hcap := HR.out.len
  go_enter Tryz.func112, Tryz.ntmps112
  go_wp2
  go_loopw [10] (fun i wx => ∃ (j : Nat) (M' : List Sn), j ≤ n ∧ i = .int .i64 j ∧ Hid (swapAt M M' a b j) ∧ Hid (Rows encN 4 94 wx g cap M') ∧ Hid (Keeps (fun j => j = g) w wx)) (fun i _ => n - (intOf i).toNat)
  case atStart => exact ⟨0, M, Nat.zero_le _, rfl, swapAt.zero M a b, HR.out, Keeps.refl _ _⟩
  case round =>
    obtain ⟨j, M', hj, rfl, hsw, hrw, hkp⟩ := hrel
    by_cases hlt : j < n
    · have hML := hsw.out.1
      have ha' : a + j < M'.length := by omega
      have hb' : b + j < M'.length := by omega
      obtain ⟨x, hx⟩ : ∃ x, M'[a + j]? = some x := ⟨_, List.getElem?_eq_getElem ha'⟩
      obtain ⟨y, hy⟩ : ∃ y, M'[b + j]? = some y := ⟨_, List.getElem?_eq_getElem hb'⟩
      obtain ⟨pa, hpa⟩ : ∃ q, q = a + j := ⟨_, rfl⟩
      obtain ⟨pb, hpb⟩ : ∃ q, q = b + j := ⟨_, rfl⟩
      have q1 : IntKind.i64.wrap ((a : Int) + j) = (pa : Int) := by rw [hpa, IntWalk.i64_in _ (by omega)]; omega
      have q2 : IntKind.i64.wrap ((b : Int) + j) = (pb : Int) := by rw [hpb, IntWalk.i64_in _ (by omega)]; omega
      rw [← hpa] at ha' hx
      rw [← hpb] at hb' hy
      go_upto_region 3 with (fail)
      have hrd : Rows encN 4 94 wr.drew g cap M' := hrw.out.keeps ((Keeps.refl (fun _ => False) wr).drew) (fun h => h)
      have rx := hrw.out.rowGet hx
      have ry := hrw.out.rowGet hy
      have x0 := rx 0 _ rfl
      have x1 := rx 1 _ rfl
      have x2 := rx 2 _ rfl
      have x3 := rx 3 _ rfl
      have y0 := ry 0 _ rfl
      have y1 := ry 1 _ rfl
      have y2 := ry 2 _ rfl
      have y3 := ry 3 _ rfl
      rw [Nat.add_zero] at x0 y0
      have hfz : ∀ o, wr.frozen? ⟨g, o, none⟩ = false := by obtain ⟨f, h0, _⟩ := hrw.out; exact fun o => h0.frozen o
      have hrd3 := (hrd.setCells encN_len (i := pa) y).setCells encN_len (i := pb) x
      have HR3 := Lib.hid hrd3
      have HK3 : Hid (Keeps (fun j => j = g) w ((wr.drew.setCells g (pa * 4) (encN y)).setCells g (pb * 4) (encN x))) := Keeps.setCells (S := fun j => j = g) (b := g) (Or.inl rfl) _ _ (Keeps.setCells (S := fun j => j = g) (b := g) (Or.inl rfl) _ _ hkp.out.drew)
      simp only [Hid, encN, cells4, drew_set] at HR3 HK3
      have HR4 := Lib.hid HR3
      have HK4 := Lib.hid HK3
      have hst := hsw.out.step (by omega) (by omega) x y (by rw [← hpa]; exact hx) (by rw [← hpb]; exact hy)
      rw [← hpa, ← hpb] at hst
      have HSW := Lib.hid hst
      have i1 : (pa : Int) < (M.length : Int) := by omega
      have i2 : (pb : Int) < (M.length : Int) := by omega
      have n0 : ¬ pa = pb := by omega
      have n1 : ¬ pb = pa := by omega
      have n2 : ¬ pa * 4 + 1 = pb * 4 := by omega
      have n3 : ¬ pa * 4 + 2 = pb * 4 := by omega
      have n4 : ¬ pa * 4 + 3 = pb * 4 := by omega
      have n5 : ¬ pa * 4 = pb * 4 + 1 := by omega
      have n6 : ¬ pa * 4 = pb * 4 + 2 := by omega
      have n7 : ¬ pa * 4 = pb * 4 + 3 := by omega
      have n8 : ¬ pb * 4 + 1 = pa * 4 := by omega
      have n9 : ¬ pb * 4 + 2 = pa * 4 := by omega
      have n10 : ¬ pb * 4 + 3 = pa * 4 := by omega
      have n11 : ¬ pb * 4 = pa * 4 + 1 := by omega
      have n12 : ¬ pb * 4 = pa * 4 + 2 := by omega
      have n13 : ¬ pb * 4 = pa * 4 + 3 := by omega
      clear hrd hrd3 hrw hkp hsw hx hy rx ry hst hpa hpb HR3 HK3
      go_region
      all_goals go_wp2
      exact ⟨⟨j + 1, _, by omega, by go_num, HSW, HR4, HK4⟩, by simp [intOf]; omega⟩
    · obtain rfl : j = n := by omega
      go_wp2
      go_end0
      exact ⟨rfl, M', hsw.out, hrw.out, hkp.out⟩
end Go.Proofs.YtckfgnbilcjdpaaGreatDoor
/- Two runs of a row change places: rotate. -/
namespace Go.Proofs.YtckfgnbilcjdpaaGreatDoor
open Go.RowKit Go.Sort
set_option maxRecDepth 100000

def swapF {α : Type} (f : Nat → α) (a b n q : Nat) : α := if a ≤ q ∧ q < a + n then f (b + (q - a)) else if b ≤ q ∧ q < b + n then f (a + (q - b)) else f q
def rotF {α : Type} (f : Nat → α) (a m b q : Nat) : α := if a ≤ q ∧ q < a + (b - m) then f (m + (q - a)) else if a + (b - m) ≤ q ∧ q < b then f (a + (q - (a + (b - m)))) else f q

theorem rot_left {α : Type} {f g : Nat → α} {m i j : Nat} (hg : ∀ q, g q = swapF f (m - i) m j q) (hij : j < i) (hi : i ≤ m) (q : Nat) : rotF g (m - (i - j)) m (m + j) q = rotF f (m - i) m (m + j) q := by
  unfold rotF
  rw [hg, hg, hg]
  unfold swapF
  by_cases c1 : q < m - i
  · rw [if_neg (by omega), if_neg (by omega), if_neg (by omega), if_neg (by omega), if_neg (by omega), if_neg (by omega)]
  · by_cases c2 : q < m - i + j
    · rw [if_neg (by omega), if_neg (by omega), if_pos (by omega), if_pos (by omega)]
    · by_cases c3 : q < m - (i - j) + j
      · rw [if_pos (by omega), if_neg (by omega), if_pos (by omega), if_neg (by omega), if_pos (by omega)]
        congr 1; omega
      · by_cases c4 : q < m + j
        · rw [if_neg (by omega), if_pos (by omega), if_neg (by omega), if_neg (by omega), if_neg (by omega), if_pos (by omega)]
          congr 1; omega
        · rw [if_neg (by omega), if_neg (by omega), if_neg (by omega), if_neg (by omega), if_neg (by omega), if_neg (by omega)]
theorem rot_right {α : Type} {f g : Nat → α} {m i j : Nat} (hg : ∀ q, g q = swapF f (m - i) (m + j - i) i q) (hij : i < j) (hi : i ≤ m) (q : Nat) : rotF g (m - i) m (m + (j - i)) q = rotF f (m - i) m (m + j) q := by
  unfold rotF
  rw [hg, hg, hg]
  unfold swapF
  by_cases c1 : q < m - i
  · rw [if_neg (by omega), if_neg (by omega), if_neg (by omega), if_neg (by omega), if_neg (by omega), if_neg (by omega)]
  · by_cases c2 : q < m - i + (j - i)
    · rw [if_pos (by omega), if_neg (by omega), if_neg (by omega), if_pos (by omega)]
    · by_cases c3 : q < m + (j - i)
      · rw [if_neg (by omega), if_pos (by omega), if_pos (by omega), if_pos (by omega)]
        congr 1; omega
      · by_cases c4 : q < m + j
        · rw [if_neg (by omega), if_neg (by omega), if_neg (by omega), if_pos (by omega), if_neg (by omega), if_pos (by omega)]
          congr 1; omega
        · rw [if_neg (by omega), if_neg (by omega), if_neg (by omega), if_neg (by omega), if_neg (by omega), if_neg (by omega)]
theorem rot_end {α : Type} {f g : Nat → α} {m i : Nat} (hg : ∀ q, g q = swapF f (m - i) m i q) (hi : i ≤ m) (q : Nat) : g q = rotF f (m - i) m (m + i) q := by
  rw [hg]
  unfold swapF rotF
  by_cases c1 : q < m - i
  · rw [if_neg (by omega), if_neg (by omega), if_neg (by omega), if_neg (by omega)]
  · by_cases c2 : q < m
    · rw [if_pos (by omega), if_pos (by omega)]
    · by_cases c3 : q < m + i
      · rw [if_neg (by omega), if_pos (by omega), if_neg (by omega), if_pos (by omega)]
        congr 1; omega
      · rw [if_neg (by omega), if_neg (by omega), if_neg (by omega), if_neg (by omega)]

/-- What rotate makes. -/
def rotAt (M M' : List Sn) (a m b : Nat) : Prop := M'.length = M.length ∧ M'.Perm M ∧ ∀ q, M'[q]? = rotF (fun x => M[x]?) a m b q

set_option maxHeartbeats 4000000 in
theorem rotate_any (g cap : Nat) (M : List Sn) (a m b : Nat) (cb : Value) (w : World) (hr : Rows encN 4 94 w g cap M) (hl : M.length ≤ 1000000) (ham : a < m) (hmb : m < b) (hb : b ≤ M.length) :
    Calls Tryz.prog 91 #[.slice (some ⟨g, 0, none⟩) M.length cap, .int .i64 a, .int .i64 m, .int .i64 b, cb] w fun e w' => e = .returned (.tuple #[]) ∧ ∃ M', rotAt M M' a m b ∧ Rows encN 4 94 w' g cap M' ∧ Keeps (fun j => j = g) w w' := by
  have HR := Lib.hid hr; clear hr
  go_enter Tryz.func91, Tryz.ntmps91
  go_wp2
  go_loopw [10, 11] (fun vi vj wx => ∃ (i j : Nat) (M1 : List Sn), 0 < i ∧ 0 < j ∧ i ≤ m - a ∧ j ≤ b - m ∧ vi = .int .i64 i ∧ vj = .int .i64 j ∧ Hid (M1.length = M.length ∧ M1.Perm M ∧ ∀ q, rotF (fun x => M1[x]?) (m - i) m (m + j) q = rotF (fun x => M[x]?) a m b q) ∧ Hid (Rows encN 4 94 wx g cap M1) ∧ Hid (Keeps (fun j => j = g) w wx)) (fun vi vj _ => (intOf vi).toNat + (intOf vj).toNat)
  case atStart =>
    refine ⟨m - a, b - m, M, by omega, by omega, Nat.le_refl _, Nat.le_refl _, by congr 1; omega, by congr 1; omega, ⟨rfl, List.Perm.refl _, fun q => ?_⟩, HR.out, Keeps.refl _ _⟩
    rw [show m - (m - a) = a by omega, show m + (b - m) = b by omega]
  case round =>
    obtain ⟨i, j, M1, hi0, hj0, hi, hj, rfl, rfl, HM, hrw, hkp⟩ := hrel
    have hML := HM.out.1
    rcases Nat.lt_trichotomy i j with h | h | h
    · have hne : ((i : Int) != (j : Int)) = true := by rw [bne_iff_ne]; omega
      have hgt : decide ((j : Int) < (i : Int)) = false := by simp; omega
      have hc := swapRange_any g cap M1 (m - i) (m + j - i) i cb wr hrw.out (by omega) (by omega) (by omega)
      rw [show ((m - i : Nat) : Int) = (m : Int) - i by omega, show ((m + j - i : Nat) : Int) = (m : Int) + j - i by omega, hML] at hc
      have HC := Lib.hid hc; clear hc
      go_wp2_with fail
      refine HC.out.mono ?_
      rintro e w2 ⟨rfl, M2, hsw, hr2, hk2⟩
      have HM2 : Hid (M2.length = M.length ∧ M2.Perm M ∧ ∀ q, rotF (fun x => M2[x]?) (m - i) m (m + (j - i)) q = rotF (fun x => M[x]?) a m b q) := by
        obtain ⟨a1, a2, a3⟩ := HM.out
        obtain ⟨b1, b2, b3⟩ := hsw
        exact ⟨by omega, b2.trans a2, fun q => by rw [← a3 q]; exact rot_right (f := fun x => M1[x]?) (g := fun x => M2[x]?) b3 h (by omega) q⟩
      have HR2 := Lib.hid hr2
      have HK2 : Hid (Keeps (fun j => j = g) w w2) := hkp.out.trans hk2 (fun _ h => Or.inl h)
      clear hsw hr2 hk2
      go_wp2
      exact ⟨⟨i, j - i, M2, hi0, by omega, hi, by omega, rfl, by congr 1; omega, HM2, HR2, HK2⟩, by simp [intOf]; omega⟩
    · subst h
      have hne : ((i : Int) != (i : Int)) = false := by simp
      have hc := swapRange_any g cap M1 (m - i) m i cb wr hrw.out (by omega) (by omega) (by omega)
      rw [show ((m - i : Nat) : Int) = (m : Int) - i by omega, hML] at hc
      have HC := Lib.hid hc; clear hc
      go_wp2_with fail
      refine HC.out.mono ?_
      rintro e w2 ⟨rfl, M2, hsw, hr2, hk2⟩
      have HM2 : Hid (rotAt M M2 a m b) := by
        obtain ⟨a1, a2, a3⟩ := HM.out
        obtain ⟨b1, b2, b3⟩ := hsw
        exact ⟨by omega, b2.trans a2, fun q => by rw [← a3 q]; exact rot_end (f := fun x => M1[x]?) (g := fun x => M2[x]?) b3 (by omega) q⟩
      have HR2 := Lib.hid hr2
      have HK2 : Hid (Keeps (fun j => j = g) w w2) := hkp.out.trans hk2 (fun _ h => Or.inl h)
      clear hsw hr2 hk2
      go_wp2
      go_end0
      exact ⟨rfl, M2, HM2.out, HR2.out, HK2.out⟩
    · have hne : ((i : Int) != (j : Int)) = true := by rw [bne_iff_ne]; omega
      have hgt : decide ((j : Int) < (i : Int)) = true := by simp; omega
      have hc := swapRange_any g cap M1 (m - i) m j cb wr hrw.out (by omega) (by omega) (by omega)
      rw [show ((m - i : Nat) : Int) = (m : Int) - i by omega, hML] at hc
      have HC := Lib.hid hc; clear hc
      go_wp2_with fail
      refine HC.out.mono ?_
      rintro e w2 ⟨rfl, M2, hsw, hr2, hk2⟩
      have HM2 : Hid (M2.length = M.length ∧ M2.Perm M ∧ ∀ q, rotF (fun x => M2[x]?) (m - (i - j)) m (m + j) q = rotF (fun x => M[x]?) a m b q) := by
        obtain ⟨a1, a2, a3⟩ := HM.out
        obtain ⟨b1, b2, b3⟩ := hsw
        exact ⟨by omega, b2.trans a2, fun q => by rw [← a3 q]; exact rot_left (f := fun x => M1[x]?) (g := fun x => M2[x]?) b3 h (by omega) q⟩
      have HR2 := Lib.hid hr2
      have HK2 : Hid (Keeps (fun j => j = g) w w2) := hkp.out.trans hk2 (fun _ h => Or.inl h)
      clear hsw hr2 hk2
      go_wp2
      exact ⟨⟨i - j, j, M2, by omega, hj0, by omega, hj, by congr 1; omega, rfl, HM2, HR2, HK2⟩, by simp [intOf]; omega⟩
end Go.Proofs.YtckfgnbilcjdpaaGreatDoor
/- Sorted runs of a row, and what merging two of them makes (plain laws). -/
namespace Go.Proofs.YtckfgnbilcjdpaaGreatDoor
open Go.RowKit Go.Sort

/-- A run of a row is in order. -/
def SortR (M : List Sn) (a b : Nat) : Prop := ∀ i j x y, a ≤ i → i < j → j < b → M[i]? = some x → M[j]? = some y → leN x y
/-- Only a run of the row has been put in another order. -/
structure MergeR (M M' : List Sn) (a b : Nat) : Prop where
  len : M'.length = M.length
  perm : M'.Perm M
  out : ∀ q, q < a ∨ b ≤ q → M'[q]? = M[q]?
  come : ∀ q, a ≤ q → q < b → ∃ p, a ≤ p ∧ p < b ∧ M'[q]? = M[p]?
theorem MergeR.refl (M : List Sn) (a b : Nat) : MergeR M M a b := ⟨rfl, List.Perm.refl _, fun _ _ => rfl, fun q h1 h2 => ⟨q, h1, h2, rfl⟩⟩
theorem MergeR.trans {M M1 M2 : List Sn} {a b : Nat} (h : MergeR M M1 a b) (k : MergeR M1 M2 a b) : MergeR M M2 a b :=
  ⟨k.len.trans h.len, k.perm.trans h.perm, fun q hq => (k.out q hq).trans (h.out q hq), fun q h1 h2 => by
    obtain ⟨p, p1, p2, e⟩ := k.come q h1 h2
    obtain ⟨r, r1, r2, e'⟩ := h.come p p1 p2
    exact ⟨r, r1, r2, e.trans e'⟩⟩
theorem MergeR.widen {M M1 : List Sn} {a b a' b' : Nat} (h : MergeR M M1 a' b') (ha : a ≤ a') (hb : b' ≤ b) : MergeR M M1 a b :=
  ⟨h.len, h.perm, fun q hq => h.out q (by omega), fun q h1 h2 => by
    by_cases c : a' ≤ q ∧ q < b'
    · obtain ⟨p, p1, p2, e⟩ := h.come q c.1 c.2
      exact ⟨p, by omega, by omega, e⟩
    · exact ⟨q, h1, h2, h.out q (by omega)⟩⟩
theorem SortR.out {M M1 : List Sn} {a b c d : Nat} (h : MergeR M M1 a b) (hs : SortR M c d) (hd : d ≤ a ∨ b ≤ c) : SortR M1 c d := by
  intro i j x y h1 h2 h3 hx hy
  rw [h.out i (by omega)] at hx
  rw [h.out j (by omega)] at hy
  exact hs i j x y h1 h2 h3 hx hy
theorem SortR.small (M : List Sn) {a b : Nat} (h : b ≤ a + 1) : SortR M a b := fun i j _ _ h1 h2 h3 => by omega
theorem MergeR.rot {M M1 : List Sn} {a m b : Nat} (h : rotAt M M1 a m b) (h1 : a ≤ m) (h2 : m ≤ b) : MergeR M M1 a b := by
  obtain ⟨r1, r2, r3⟩ := h
  refine ⟨r1, r2, fun q hq => ?_, fun q hq1 hq2 => ?_⟩
  · rw [r3 q]; unfold rotF; rw [if_neg (by omega), if_neg (by omega)]
  · rw [r3 q]; unfold rotF
    by_cases c : q < a + (b - m)
    · rw [if_pos ⟨hq1, c⟩]; exact ⟨_, by omega, by omega, rfl⟩
    · rw [if_neg (by omega), if_pos (by omega)]; exact ⟨_, by omega, by omega, rfl⟩
theorem rotAt.none {M : List Sn} {a m b : Nat} (h : a = m ∨ m = b) (h1 : a ≤ m) (h2 : m ≤ b) : rotAt M M a m b := by
  refine ⟨rfl, List.Perm.refl _, fun q => ?_⟩
  unfold rotF
  by_cases c1 : a ≤ q ∧ q < a + (b - m)
  · rw [if_pos c1]; congr 1; omega
  · by_cases c2 : a + (b - m) ≤ q ∧ q < b
    · rw [if_neg c1, if_pos c2]; congr 1; omega
    · rw [if_neg c1, if_neg c2]

/-- Two halves in order, none of the second ahead of one of the first. -/
theorem SortR.join {M : List Sn} {a c b : Nat} (h1 : SortR M a c) (h2 : SortR M c b) (hx : ∀ i j x y, a ≤ i → i < c → c ≤ j → j < b → M[i]? = some x → M[j]? = some y → leN x y) : SortR M a b := by
  intro i j x y a1 a2 a3 e1 e2
  by_cases c1 : j < c
  · exact h1 i j x y a1 a2 c1 e1 e2
  · by_cases c2 : i < c
    · exact hx i j x y a1 c2 (by omega) a3 e1 e2
    · exact h2 i j x y (by omega) a2 a3 e1 e2

theorem get_some {M : List Sn} {q : Nat} (h : q < M.length) : ∃ x, M[q]? = some x := ⟨_, List.getElem?_eq_getElem h⟩
theorem ltN_trans {x y z : Sn} (h1 : leN x y) (h2 : cmpN y z < 0) : cmpN x z < 0 := by
  rw [leN_iff] at h1; unfold cmpN at *; split at h2 <;> split <;> omega

/-- The one at a is put ahead of place i. -/
theorem single_left {M M' : List Sn} {a b i : Nat} (_hl : b ≤ M.length) (hs : SortR M (a + 1) b) (hr : rotAt M M' a (a + 1) i) (hi : a + 1 ≤ i) (hib : i ≤ b)
    (h1 : ∀ p x y, a + 1 ≤ p → p < i → M[p]? = some x → M[a]? = some y → leN x y) (h2 : ∀ p x y, i ≤ p → p < b → M[p]? = some x → M[a]? = some y → leN y x) : SortR M' a b := by
  obtain ⟨r1, r2, r3⟩ := hr
  intro q r x y a1 a2 a3 ex ey
  rw [r3] at ex ey
  unfold rotF at ex ey
  by_cases c1 : r < a + (i - (a + 1))
  · rw [if_pos (by omega)] at ex ey
    exact hs _ _ x y (by omega) (by omega) (by omega) ex ey
  · by_cases c2 : r < i
    · rw [if_neg (by omega), if_pos (by omega), show a + (r - (a + (i - (a + 1)))) = a by omega] at ey
      rw [if_pos (by omega)] at ex
      exact h1 _ x y (by omega) (by omega) ex ey
    · rw [if_neg (by omega), if_neg (by omega)] at ey
      by_cases c3 : q < a + (i - (a + 1))
      · rw [if_pos (by omega)] at ex
        exact hs _ _ x y (by omega) (by omega) (by omega) ex ey
      · by_cases c4 : q < i
        · rw [if_neg (by omega), if_pos (by omega), show a + (q - (a + (i - (a + 1)))) = a by omega] at ex
          exact h2 _ y x (by omega) (by omega) ey ex
        · rw [if_neg (by omega), if_neg (by omega)] at ex
          exact hs _ _ x y (by omega) (by omega) (by omega) ex ey
/-- The one at m is put at place i. -/
theorem single_right {M M' : List Sn} {a m i : Nat} (_hl : m + 1 ≤ M.length) (hs : SortR M a m) (hr : rotAt M M' i m (m + 1)) (hi : a ≤ i) (him : i ≤ m)
    (h1 : ∀ p x y, a ≤ p → p < i → M[p]? = some x → M[m]? = some y → leN x y) (h2 : ∀ p x y, i ≤ p → p < m → M[p]? = some x → M[m]? = some y → leN y x) : SortR M' a (m + 1) := by
  obtain ⟨r1, r2, r3⟩ := hr
  intro q r x y a1 a2 a3 ex ey
  rw [r3] at ex ey
  unfold rotF at ex ey
  by_cases c1 : r < i
  · rw [if_neg (by omega), if_neg (by omega)] at ex ey
    exact hs _ _ x y (by omega) (by omega) (by omega) ex ey
  · by_cases c2 : r < i + (m + 1 - m)
    · rw [if_pos (by omega), show m + (r - i) = m by omega] at ey
      rw [if_neg (by omega), if_neg (by omega)] at ex
      exact h1 _ x y (by omega) (by omega) ex ey
    · rw [if_neg (by omega), if_pos (by omega)] at ey
      by_cases c3 : q < i
      · rw [if_neg (by omega), if_neg (by omega)] at ex
        exact hs _ _ x y (by omega) (by omega) (by omega) ex ey
      · by_cases c4 : q < i + (m + 1 - m)
        · rw [if_pos (by omega), show m + (q - i) = m by omega] at ex
          exact h2 _ y x (by omega) (by omega) ey ex
        · rw [if_neg (by omega), if_pos (by omega)] at ex
          exact hs _ _ x y (by omega) (by omega) (by omega) ex ey

/-- Where symMerge parts: what has been found of the place start. -/
structure Found (M : List Sn) (s0 r0 p start : Nat) : Prop where
  lo : ∀ c x y, s0 ≤ c → c < start → M[c]? = some x → M[p - c]? = some y → leN x y
  hi : ∀ c x y, start ≤ c → c < r0 → M[c]? = some x → M[p - c]? = some y → leN y x

/-- Behind the turn: the halves are made of runs in order, and none of the second half stands ahead of one of the first. -/
theorem sym_cross {M M1 : List Sn} {a m b mid start s0 r0 : Nat} (hl : b ≤ M.length) (hu : SortR M a m) (hv : SortR M m b) (hmid : mid = (a + b) / 2) (ham : a < m) (hmb : m < b)
    (hsr : (mid < m ∧ s0 = mid + m - b ∧ r0 = mid) ∨ (m ≤ mid ∧ s0 = a ∧ r0 = m)) (hs1 : s0 ≤ start) (hs2 : start ≤ r0) (hf : Found M s0 r0 (mid + m - 1) start) (hr : rotAt M M1 start m (mid + m - start)) :
    SortR M1 a start ∧ SortR M1 start mid ∧ SortR M1 mid (mid + m - start) ∧ SortR M1 (mid + m - start) b ∧
    (∀ i j x y, a ≤ i → i < mid → mid ≤ j → j < b → M1[i]? = some x → M1[j]? = some y → leN x y) := by
  obtain ⟨r1, r2, r3⟩ := hr
  have get : ∀ q, M1[q]? = if q < start then M[q]? else if q < mid then M[m + (q - start)]? else if q < mid + m - start then M[start + (q - mid)]? else M[q]? := by
    intro q
    rw [r3]; unfold rotF
    by_cases c1 : q < start
    · rw [if_neg (by omega), if_neg (by omega), if_pos c1]
    · by_cases c2 : q < mid
      · rw [if_pos (by omega), if_neg c1, if_pos c2]
      · by_cases c3 : q < mid + m - start
        · rw [if_neg (by omega), if_pos (by omega), if_neg c1, if_neg c2, if_pos c3]; congr 1; omega
        · rw [if_neg (by omega), if_neg (by omega), if_neg c1, if_neg c2, if_neg c3]
  refine ⟨?_, ?_, ?_, ?_, ?_⟩
  · intro i j x y a1 a2 a3 ex ey
    rw [get, if_pos (by omega)] at ex ey
    exact hu i j x y a1 a2 (by omega) ex ey
  · intro i j x y a1 a2 a3 ex ey
    rw [get, if_neg (by omega), if_pos (by omega)] at ex ey
    exact hv _ _ x y (by omega) (by omega) (by omega) ex ey
  · intro i j x y a1 a2 a3 ex ey
    rw [get, if_neg (by omega), if_neg (by omega), if_pos (by omega)] at ex ey
    exact hu _ _ x y (by omega) (by omega) (by omega) ex ey
  · intro i j x y a1 a2 a3 ex ey
    rw [get, if_neg (by omega), if_neg (by omega), if_neg (by omega)] at ex ey
    exact hv _ _ x y (by omega) (by omega) (by omega) ex ey
  · intro i j x y a1 a2 a3 a4 ex ey
    rw [get] at ex ey
    rw [if_neg (by omega), if_neg (by omega)] at ey
    by_cases c1 : i < start
    · rw [if_pos c1] at ex
      by_cases c2 : j < mid + m - start
      · rw [if_pos c2] at ey
        exact hu _ _ x y a1 (by omega) (by omega) ex ey
      · rw [if_neg c2] at ey
        -- the last of the first run against its mirror
        obtain ⟨z, hz⟩ := get_some (M := M) (q := start - 1) (by omega)
        obtain ⟨t, ht⟩ := get_some (M := M) (q := mid + m - 1 - (start - 1)) (by omega)
        have h1 : leN x z := by
          by_cases e : i = start - 1
          · subst e; rw [hz] at ex; cases ex; exact leN_refl _
          · exact hu _ _ x z a1 (by omega) (by omega) ex hz
        have h2 : leN z t := hf.lo (start - 1) z t (by omega) (by omega) hz ht
        have h3 : leN t y := by
          by_cases e : j = mid + m - 1 - (start - 1)
          · rw [e, ht] at ey; cases ey; exact leN_refl _
          · exact hv _ _ t y (by omega) (by omega) a4 ht ey
        exact leN_trans h1 (leN_trans h2 h3)
    · rw [if_neg c1, if_pos a2] at ex
      by_cases c2 : j < mid + m - start
      · rw [if_pos c2] at ey
        obtain ⟨z, hz⟩ := get_some (M := M) (q := start) (by omega)
        obtain ⟨t, ht⟩ := get_some (M := M) (q := mid + m - 1 - start) (by omega)
        have h1 : leN x t := by
          by_cases e : m + (i - start) = mid + m - 1 - start
          · rw [e, ht] at ex; cases ex; exact leN_refl _
          · exact hv _ _ x t (by omega) (by omega) (by omega) ex ht
        have h2 : leN t z := hf.hi start z t (Nat.le_refl _) (by omega) hz ht
        have h3 : leN z y := by
          by_cases e : start + (j - mid) = start
          · rw [e, hz] at ey; cases ey; exact leN_refl _
          · exact hu _ _ z y (by omega) (by omega) (by omega) hz ey
        exact leN_trans h1 (leN_trans h2 h3)
      · rw [if_neg c2] at ey
        exact hv _ _ x y (by omega) (by omega) a4 ex ey

/-- Both halves merged: the whole is in order. -/
theorem sym_done {M1 M2 M3 : List Sn} {a mid b : Nat} (h12 : MergeR M1 M2 a mid) (hs2 : SortR M2 a mid) (h23 : MergeR M2 M3 mid b) (hs3 : SortR M3 mid b)
    (hx : ∀ i j x y, a ≤ i → i < mid → mid ≤ j → j < b → M1[i]? = some x → M1[j]? = some y → leN x y) : SortR M3 a b := by
  refine SortR.join (hs2.out h23 (Or.inl (Nat.le_refl _))) hs3 ?_
  intro i j x y a1 a2 a3 a4 ex ey
  rw [h23.out i (by omega)] at ex
  obtain ⟨p, p1, p2, e⟩ := h12.come i a1 a2
  obtain ⟨q, q1, q2, e'⟩ := h23.come j a3 a4
  rw [e] at ex
  rw [e', h12.out q (by omega)] at ey
  exact hx p q x y p1 p2 q1 q2 ex ey
end Go.Proofs.YtckfgnbilcjdpaaGreatDoor
