/- symMerge, whole; the stable sort. -/
import Derived.Test.YtckfgnbilcjdpaaGreatDoorQ13
import Derived.Test.YtckfgnbilcjdpaaGreatDoorQ14
import Derived.Test.YtckfgnbilcjdpaaGreatDoorQ15
import Derived.Test.YtckfgnbilcjdpaaGreatDoorQ16
import Derived.Test.YtckfgnbilcjdpaaGreatDoorQ17
import Derived.Test.YtckfgnbilcjdpaaGreatDoorQ18
import Derived.Test.YtckfgnbilcjdpaaGreatDoorQ19
import Derived.Test.YtckfgnbilcjdpaaGreatDoorQ06
namespace Go.Proofs.YtckfgnbilcjdpaaGreatDoor
open Go.RowKit Go.Sort
set_option maxRecDepth 100000

/-- The place where symMerge parts. -/
theorem part_at {M : List Sn} {a m b _mid s0 r0 p : Nat} (hl : b ≤ M.length) (hu : SortR M a m) (hv : SortR M m b) (hs1 : s0 ≤ r0) (ha : a ≤ s0) (hr : r0 ≤ m) (hp1 : ∀ c, s0 ≤ c → c < r0 → m ≤ p - c ∧ p - c < b ∧ c ≤ p) :
    ∃ st, s0 ≤ st ∧ st ≤ r0 ∧ (∀ c x y, s0 ≤ c → c < st → M[c]? = some x → M[p - c]? = some y → leN x y) ∧ (∀ c x y, st ≤ c → c < r0 → M[c]? = some x → M[p - c]? = some y → cmpN y x < 0) := by
  have key : ∀ k, s0 + k ≤ r0 → ∃ st, s0 ≤ st ∧ st ≤ s0 + k ∧ (∀ c x y, s0 ≤ c → c < st → M[c]? = some x → M[p - c]? = some y → leN x y) ∧ (∀ c x y, st ≤ c → c < s0 + k → M[c]? = some x → M[p - c]? = some y → cmpN y x < 0) := by
    intro k
    induction k with
    | zero => intro _; exact ⟨s0, Nat.le_refl _, Nat.le_refl _, fun c x y h1 h2 => by omega, fun c x y h1 h2 => by omega⟩
    | succ k ih =>
      intro hk
      obtain ⟨st, h1, h2, h3, h4⟩ := ih (by omega)
      obtain ⟨q1, q2, q3⟩ := hp1 (s0 + k) (by omega) (by omega)
      obtain ⟨x, hx⟩ := get_some (M := M) (q := s0 + k) (by omega)
      obtain ⟨y, hy⟩ := get_some (M := M) (q := p - (s0 + k)) (by omega)
      by_cases hc : cmpN y x < 0
      · refine ⟨st, h1, by omega, h3, ?_⟩
        intro c x' y' c1 c2 e1 e2
        by_cases e : c = s0 + k
        · subst e; rw [hx] at e1; cases e1; rw [hy] at e2; cases e2; exact hc
        · exact h4 c x' y' c1 (by omega) e1 e2
      · refine ⟨s0 + k + 1, by omega, by omega, ?_, fun c x y c1 c2 => by omega⟩
        intro c x' y' c1 c2 e1 e2
        by_cases e : c = s0 + k
        · subst e; rw [hx] at e1; cases e1; rw [hy] at e2; cases e2; exact hc
        · obtain ⟨p1, p2, p3⟩ := hp1 c c1 (by omega)
          have l1 : leN x' x := hu c (s0 + k) x' x (by omega) (by omega) (by omega) e1 hx
          have l2 : leN y y' := hv (p - (s0 + k)) (p - c) y y' (by omega) (by omega) (by omega) hy e2
          exact leN_trans l1 (leN_trans hc l2)
  obtain ⟨st, h1, h2, h3, h4⟩ := key (r0 - s0) (by omega)
  rw [show s0 + (r0 - s0) = r0 by omega] at h2 h4
  exact ⟨st, h1, h2, h3, h4⟩

theorem sym_step (N : Nat) (IH : Hid (SymFor N)) : SymFor (N + 1) := by
  intro g cap M a m b w hr hl hok ham hmb hb hu hv hN
  by_cases c1 : m = a + 1
  · exact sym_left g cap M a m b w hr hl hok c1 hmb hb hv
  by_cases c2 : b = m + 1
  · exact sym_right g cap M a m b w hr hl hok (by omega) c2 hb hu
  obtain ⟨mid, hmid⟩ : ∃ q, q = (a + b) / 2 := ⟨_, rfl⟩
  have hm1 : a < mid := by omega
  have hm2 : mid < b := by omega
  obtain ⟨s0, r0, hsr, hs1, hs2, hs3, hs4, hs5⟩ : ∃ s0 r0, ((mid < m ∧ s0 = mid + m - b ∧ r0 = mid) ∨ (m ≤ mid ∧ s0 = a ∧ r0 = m)) ∧ s0 ≤ r0 ∧ a ≤ s0 ∧ r0 ≤ m ∧ r0 ≤ mid ∧ mid + m ≤ b + s0 := by
    by_cases h : mid < m
    · exact ⟨mid + m - b, mid, Or.inl ⟨h, rfl, rfl⟩, by omega, by omega, by omega, by omega, by omega⟩
    · exact ⟨a, m, Or.inr ⟨by omega, rfl, rfl⟩, by omega, by omega, by omega, by omega, by omega⟩
  obtain ⟨st, hst0, hst1, F1, F2⟩ := part_at (M := M) (a := a) (m := m) (b := b) (_mid := mid) (s0 := s0) (r0 := r0) (p := mid + m - 1) hb hu hv hs1 hs2 hs3 (fun c h1 h2 => by omega)
  by_cases k1 : st < m
  · by_cases k2 : st < mid
    · by_cases k3 : a < st
      · by_cases k4 : mid + m < b + st
        · exact sym_g1 N IH g cap M a m b w hr hl hok ham hmb hb hu hv hN c1 c2 mid s0 r0 st _ hmid hm1 hm2 hsr hs1 hs2 hs3 hs4 hs5 hst0 hst1 F1 F2 rfl k1 k2 k3 k4
        · exact sym_g2 N IH g cap M a m b w hr hl hok ham hmb hb hu hv hN c1 c2 mid s0 r0 st _ hmid hm1 hm2 hsr hs1 hs2 hs3 hs4 hs5 hst0 hst1 F1 F2 rfl k1 k2 k3 (by omega)
      · by_cases k4 : mid + m < b + st
        · exact sym_g3 N IH g cap M a m b w hr hl hok ham hmb hb hu hv hN c1 c2 mid s0 r0 st _ hmid hm1 hm2 hsr hs1 hs2 hs3 hs4 hs5 hst0 hst1 F1 F2 rfl k1 k2 (by omega) k4
        · exact sym_g4 N IH g cap M a m b w hr hl hok ham hmb hb hu hv hN c1 c2 mid s0 r0 st _ hmid hm1 hm2 hsr hs1 hs2 hs3 hs4 hs5 hst0 hst1 F1 F2 rfl k1 k2 (by omega) (by omega)
    · exact sym_g7 N IH g cap M a m b w hr hl hok ham hmb hb hu hv hN c1 c2 mid s0 r0 st _ hmid hm1 hm2 hsr hs1 hs2 hs3 hs4 hs5 hst0 hst1 F1 F2 rfl k1 (by omega)
  · by_cases k2 : st < mid
    · exact sym_g5 N IH g cap M a m b w hr hl hok ham hmb hb hu hv hN c1 c2 mid s0 r0 st _ hmid hm1 hm2 hsr hs1 hs2 hs3 hs4 hs5 hst0 hst1 F1 F2 rfl (by omega) k2
    · exact sym_g6 N IH g cap M a m b w hr hl hok ham hmb hb hu hv hN c1 c2 mid s0 r0 st _ hmid hm1 hm2 hsr hs1 hs2 hs3 hs4 hs5 hst0 hst1 F1 F2 rfl (by omega) (by omega)

theorem sym_all (N : Nat) : SymFor N := by
  induction N with
  | zero =>
    intro g cap M a m b w _ _ _ h1 h2 _ _ _ h3
    omega
  | succ N ih => exact sym_step N ih
end Go.Proofs.YtckfgnbilcjdpaaGreatDoor
/- The insertion sort over a row of cookies that are sent. -/
namespace Go.Proofs.YtckfgnbilcjdpaaGreatDoor
open Go.RowKit Go.Sort
set_option maxRecDepth 100000

instance (x : Sn) : Decidable (SnOk x) := by unfold SnOk; exact inferInstance
def dfN : Sn := ⟨[], [], 0, 0⟩
theorem dfN_ok : SnOk dfN := by decide
/-- One whose numbers can be set against others'. -/
def normN (x : Sn) : Sn := if SnOk x then x else dfN
theorem normN_ok (x : Sn) : SnOk (normN x) := by
  unfold normN; split
  · assumption
  · exact dfN_ok
theorem normN_id {x : Sn} (h : SnOk x) : normN x = x := if_pos h
def encX (x : Sn) : List Value := encN (normN x)
def cmpX (x y : Sn) : Int := cmpN (normN x) (normN y)

theorem swoX : SWO (ltOf cmpX) where
  irrefl x := by unfold ltOf cmpX cmpN; simp
  trans x y z h1 h2 := by
    unfold ltOf cmpX at *
    simp only [decide_eq_true_eq] at *
    exact ltN_trans (ltN_le h1) h2
  ntrans x y z h1 h2 := by
    unfold ltOf cmpX at *
    simp only [decide_eq_false_iff_not] at *
    exact leN_trans (x := normN z) (y := normN y) (z := normN x) h2 h1

theorem cmpLays53 (blk off n : Nat) (w : World) : CmpLays Tryz.prog 53 #[] encX 4 cmpX blk off n w := by
  intro m os dk _ x y
  have h := cmp53 (normN x) (normN y) (normN_ok x) (normN_ok y) (sortWorldK encX 4 w blk off m dk os)
  rw [show (#[Value.agg (encX x).toArray, Value.agg (encX y).toArray] ++ #[] : Array Value) = #[.agg (encX x).toArray, .agg (encX y).toArray] from rfl]
  exact h.mono fun e w' ⟨h1, h2⟩ => ⟨h1, h2⟩

theorem Rows.holdsX {w : World} {g cap : Nat} {M : List Sn} (h : Rows encN 4 94 w g cap M) (hok : ∀ x ∈ M, SnOk x) : HoldsK encX 4 w g 0 M.toArray := by
  intro j hj
  have hj' : j < M.length * 4 := by simpa using hj
  have hq : j / 4 < M.length := by omega
  have hrow := h.row encN_len hq (j % 4)
  have hfz : ∀ o, w.frozen? ⟨g, o, none⟩ = false := by obtain ⟨f, h0, _⟩ := h; exact fun o => h0.frozen o
  rw [get_flatK encX 4 _ j (by simpa using hj')]
  have hx : M.toArray[j / 4]! = M[j / 4] := by rw [getElem!_pos M.toArray _ (by simpa using hq)]; simp
  rw [hx]
  have he : encX M[j / 4] = encN M[j / 4] := by rw [encX, normN_id (hok _ (List.getElem_mem hq))]
  rw [he]
  have hlen : j % 4 < (encN M[j / 4]).length := by rw [encN_len]; exact Nat.mod_lt _ (by decide)
  refine ⟨?_, hfz _⟩
  show _ = some ((encN M[j / 4])[j % 4]!)
  rw [getElem!_pos (encN M[j / 4]) (j % 4) hlen]
  have := hrow _ (List.getElem?_eq_getElem hlen)
  rw [show 0 + j = j / 4 * 4 + j % 4 by omega]; exact this

theorem sortW_rows {w : World} {g cap n : Nat} {M : List Sn} {d : Array Sn} {os : Array Obj} (h : Rows encN 4 94 w g cap M) (hd : d.size = M.length) (hok : ∀ x ∈ d.toList, SnOk x) : Rows encN 4 94 (sortWorldK encX 4 w g 0 n d os) g cap d.toList := by
  obtain ⟨f, ⟨c, hc, hs, hf⟩, h1, h2, h3⟩ := h
  have hgl : g < w.heap.size := (Array.getElem?_eq_some_iff.1 hc).1
  refine ⟨fun i => if 0 ≤ i ∧ i < 0 + (flatK encX 4 d).size then id (flatK encX 4 d)[i - 0]! else f i, ⟨Sort.putCells id 0 (flatK encX 4 d) c, ?_, ?_, ?_⟩, by simp [hd]; exact h1, h2, ?_⟩
  · show ((Sort.mapBlock (Sort.ahead w n) g (Sort.putCells id 0 (flatK encX 4 d))).heap ++ os)[g]? = _
    rw [Array.getElem?_append_left (by simp [Sort.mapBlock, Sort.ahead]; exact hgl)]
    simp only [Sort.mapBlock, Sort.ahead, Array.getElem?_modify, if_true]
    rw [hc]; rfl
  · simp [Sort.putCells, hs]
  · intro i hi
    simp only [Sort.putCells, Array.getElem?_mapIdx, hf i hi, Option.map_some]
  · intro i hi e u hu
    have hi' : i < d.size := by simpa using hi
    have he : e < 4 := by have := (List.getElem?_eq_some_iff.1 hu).1; rwa [encN_len] at this
    have hsz : (flatK encX 4 d).size = d.size * 4 := size_flatK encX 4 d
    show (if 0 ≤ i * 4 + e ∧ i * 4 + e < 0 + (flatK encX 4 d).size then id (flatK encX 4 d)[i * 4 + e - 0]! else f (i * 4 + e)) = u
    rw [if_pos ⟨Nat.zero_le _, by rw [hsz]; omega⟩]
    rw [show i * 4 + e - 0 = i * 4 + e by omega, id, get_flatK encX 4 d _ (by omega), show (i * 4 + e) / 4 = i by omega, show (i * 4 + e) % 4 = e by omega]
    rw [getElem!_pos d i hi']
    have hen : encX d[i] = encN d[i] := by rw [encX, normN_id (hok _ (by simp))]
    rw [hen, getElem!_pos _ e (by rw [encN_len]; exact he)]
    rw [List.getElem?_eq_getElem (by rw [encN_len]; exact he)] at hu
    simpa using Option.some.inj hu

theorem toList_get {d : Array Sn} {q : Nat} : d.toList[q]? = if q < d.size then some d[q]! else none := by
  split
  · rename_i h
    rw [getElem!_pos d q h, Array.getElem?_toList, Array.getElem?_eq_getElem h]
  · rename_i h
    rw [Array.getElem?_toList, Array.getElem?_eq_none (by omega)]

theorem permIn_merge {M : List Sn} {d : Array Sn} {a b : Nat} (hab : a ≤ b) (hb : b ≤ M.length) (h : PermIn a b M.toArray d) : MergeR M d.toList a b := by
  obtain ⟨h1, h2, h3⟩ := h
  have hsz : d.size = M.length := by simpa using h1
  have hM : ∀ q, M[q]? = if q < M.length then some M.toArray[q]! else none := by
    intro q
    have := toList_get (d := M.toArray) (q := q)
    simpa using this
  refine ⟨by simp [hsz], ?_, ?_, ?_⟩
  · have hw := permIn_mono M.toArray d a b 0 M.length (Nat.zero_le _) hb (by simp) ⟨h1, h2, h3⟩
    have := hw.2.2
    rwa [show d.extract 0 M.length = d by rw [← hsz]; simp, show M.toArray.extract 0 M.length = M.toArray by simp] at this
  · intro q hq
    rw [toList_get, hM, hsz, h2 q hq]
  · intro q hq1 hq2
    have hmem : d[q]! ∈ (d.extract a b).toList := by
      rw [getElem!_pos d q (by omega), Array.mem_toList_iff, Array.mem_iff_getElem]
      exact ⟨q - a, by simp; omega, by simp; congr 1; omega⟩
    have hm2 := (h3.mem_iff).1 hmem
    rw [Array.mem_toList_iff, Array.mem_iff_getElem] at hm2
    obtain ⟨i, hi, he⟩ := hm2
    have hi' : a + i < M.length ∧ a + i < b := by simp at hi; omega
    refine ⟨a + i, by omega, by omega, ?_⟩
    rw [toList_get, if_pos (by omega), List.getElem?_eq_getElem hi'.1, ← he]
    simp

set_option maxHeartbeats 1000000 in
theorem insertion_any (g cap : Nat) (M : List Sn) (a b : Nat) (w : World) (hr : Rows encN 4 94 w g cap M) (hl : M.length ≤ 1000000) (hok : ∀ x ∈ M, SnOk x) (hab : a ≤ b) (hb : b ≤ M.length) :
    Calls Tryz.prog 72 #[.slice (some ⟨g, 0, none⟩) M.length cap, .int .i64 a, .int .i64 b, .func (.func 53) #[] #[]] w fun e w' => e = .returned (.tuple #[]) ∧ ∃ M', MergeR M M' a b ∧ SortR M' a b ∧ Rows encN 4 94 w' g cap M' ∧ Keeps (fun j => j = g) w w' := by
  have eg : ∀ args w, (callFunc 53 args).run Tryz.prog w = .ok (.enter 53 args) w := enters_of Tryz.func53 (by kernel_rfl) rfl
  have hc := AnyQ.insertionSortCmpFunc (P := Tryz.prog) insS 4 Tryz.isAgg94 Tryz.sizeOf94 encX (fun x => encN_len _) (fun x => encN_one _) cmpX 53 #[] g 0 cap a b M.toArray w eg (cmpLays53 g 0 _ w) (hr.holdsX hok) hr.lt hab (by simpa using hb) (by simp; omega)
  rw [show M.toArray.size = M.length by simp] at hc
  refine Calls.mono (show Calls Tryz.prog 72 _ _ _ from hc) ?_
  rintro e w' ⟨rfl, n, os, rfl⟩
  obtain ⟨hp, hs⟩ := insertionSort_holds (lt := ltOf cmpX) swoX M.toArray a b hab (by simpa using hb)
  have hm := permIn_merge hab hb hp
  have hok' := snOk_perm hok hm.perm
  refine ⟨rfl, _, hm, ?_, sortW_rows hr (by simpa using hp.1) hok', sortW_keeps encX 4 w g 0 n _ os⟩
  generalize insertionSort (ltOf cmpX) M.toArray a b = d at hp hs hm hok' ⊢
  intro i j x y h1 h2 h3 hx hy
  have hlt := hs i j h1 h2 h3
  rw [toList_get] at hx hy
  split at hx
  · split at hy
    · cases hx; cases hy
      rename_i q1 q2
      have o1 := hok' _ (List.mem_of_getElem? (show d.toList[i]? = some _ by rw [toList_get, if_pos q1]))
      have o2 := hok' _ (List.mem_of_getElem? (show d.toList[j]? = some _ by rw [toList_get, if_pos q2]))
      unfold ltOf cmpX at hlt
      rw [normN_id o1, normN_id o2, decide_eq_false_iff_not] at hlt
      exact hlt
    · cases hy
  · cases hx
end Go.Proofs.YtckfgnbilcjdpaaGreatDoor
/- The stable sort over a row of cookies that are sent. -/
namespace Go.Proofs.YtckfgnbilcjdpaaGreatDoor
open Go.RowKit Go.Sort
set_option maxRecDepth 100000

/-- All whole blocks of B up to hi are in order. -/
def BlkTo (M : List Sn) (B hi : Nat) : Prop := ∀ k, (k + 1) * B ≤ hi → SortR M (k * B) ((k + 1) * B)
/-- All blocks of B from lo on are in order, the last one perhaps cut off. -/
def BlkFrom (M : List Sn) (B lo n : Nat) : Prop := ∀ k, lo ≤ k * B → SortR M (k * B) (min ((k + 1) * B) n)

theorem blkTo_zero (M : List Sn) {B : Nat} (hB : 0 < B) : BlkTo M B 0 := by
  intro k h
  have : B ≤ (k + 1) * B := by rw [Nat.add_mul]; omega
  omega
theorem blkTo_next {M M' : List Sn} {B a b : Nat} (hB : 0 < B) (h : BlkTo M B a) (ha : ∃ k, a = k * B) (hb : b = a + B) (hm : MergeR M M' a b) (hs : SortR M' a b) : BlkTo M' B b := by
  obtain ⟨k, rfl⟩ := ha
  intro q hq
  by_cases c : (q + 1) * B ≤ k * B
  · exact (h q c).out hm (Or.inl c)
  · have h1 : k < q + 1 := Nat.lt_of_mul_lt_mul_right (a := B) (by omega)
    have h2 : q + 1 ≤ k + 1 := Nat.le_of_mul_le_mul_right (c := B) (by rw [Nat.add_mul k 1]; omega) hB
    obtain rfl : q = k := by omega
    rw [show (q + 1) * B = b by rw [hb, Nat.add_mul]; omega]
    exact hs
theorem blkFrom_next {M M' : List Sn} {B a b n : Nat} (h : BlkFrom M B a n) (hab : a ≤ b) (hm : MergeR M M' a b) : BlkFrom M' B b n := fun q hq => (h q (by omega)).out hm (Or.inr hq)
theorem blk_done {M : List Sn} {B a n : Nat} (_hB : 0 < B) (h : BlkTo M B a) (ha : ∃ k, a = k * B) (han : a ≤ n) (hn : n < a + B) (hs : SortR M a n) : BlkFrom M B 0 n := by
  obtain ⟨k, rfl⟩ := ha
  intro q _
  rcases Nat.lt_trichotomy q k with c | c | c
  · have h1 : (q + 1) * B ≤ k * B := Nat.mul_le_mul_right B c
    rw [Nat.min_eq_left (by omega)]
    exact h q h1
  · subst c
    rw [Nat.min_eq_right (by rw [Nat.add_mul]; omega)]
    exact hs
  · have h1 : (k + 1) * B ≤ q * B := Nat.mul_le_mul_right B c
    rw [Nat.add_mul] at h1
    exact SortR.small M (by have : min ((q + 1) * B) n ≤ n := Nat.min_le_right _ _; omega)
theorem blk_two {M : List Sn} {bs a n : Nat} (h : BlkFrom M bs a n) (ha : ∃ k, a = k * (2 * bs)) : SortR M a (min (a + bs) n) ∧ SortR M (a + bs) (min (a + 2 * bs) n) := by
  obtain ⟨k, rfl⟩ := ha
  have e1 : 2 * k * bs = k * (2 * bs) := by rw [Nat.mul_comm 2 k, Nat.mul_assoc]
  have e2 : (2 * k + 1) * bs = k * (2 * bs) + bs := by rw [Nat.add_mul, e1]; omega
  have e3 : (2 * k + 1 + 1) * bs = k * (2 * bs) + 2 * bs := by rw [Nat.add_mul, e2]; omega
  have h1 := h (2 * k) (by rw [e1]; exact Nat.le_refl _)
  have h2 := h (2 * k + 1) (by rw [e2]; omega)
  rw [e1, e2] at h1
  rw [e2, e3] at h2
  exact ⟨h1, h2⟩

set_option maxHeartbeats 8000000 in
theorem stable_any (g cap : Nat) (M : List Sn) (w : World) (hr : Rows encN 4 94 w g cap M) (hl : M.length ≤ 1000000) (hok : ∀ x ∈ M, SnOk x) :
    Calls Tryz.prog 61 #[.slice (some ⟨g, 0, none⟩) M.length cap, .int .i64 M.length, .func (.func 53) #[] #[]] w fun e w' => e = .returned (.tuple #[]) ∧ ∃ M', M'.Perm M ∧ SortR M' 0 M.length ∧ Rows encN 4 94 w' g cap M' ∧ Keeps (fun j => j = g) w w' := by
  have HR := Lib.hid hr; clear hr
  have HOK := Lib.hid hok; clear hok
  obtain ⟨n, hn⟩ : ∃ n, n = M.length := ⟨_, rfl⟩
  have HN := Lib.hid hn
  rw [← hn] at hl ⊢
  clear hn
  go_enter Tryz.func61, Tryz.ntmps61
  go_wp2
  go_loopw [7, 8] (fun va vb wx => ∃ (a : Nat) (M1 : List Sn), a ≤ n ∧ va = .int .i64 a ∧ vb = .int .i64 (a + 20) ∧ Hid (∃ k, a = k * 20) ∧ Hid (M1.length = n ∧ M1.Perm M ∧ BlkTo M1 20 a) ∧ Hid (Rows encN 4 94 wx g cap M1) ∧ Hid (Keeps (fun j => j = g) w wx)) (fun va _ _ => n - (intOf va).toNat)
  case atStart => exact ⟨0, M, Nat.zero_le _, rfl, rfl, ⟨0, rfl⟩, ⟨HN.out.symm, List.Perm.refl _, blkTo_zero M (by decide)⟩, HR.out, Keeps.refl _ _⟩
  case round =>
    obtain ⟨a, M1, ha, rfl, rfl, hak, hM, hrw, hkp⟩ := hrel
    by_cases hlt : a + 20 ≤ n
    · have hd : decide ((a : Int) + 20 ≤ (n : Int)) = true := by simp; omega
      have hc := insertion_any g cap M1 a (a + 20) wr hrw.out (by rw [hM.out.1]; exact hl) (snOk_perm HOK.out hM.out.2.1) (by omega) (by rw [hM.out.1]; exact hlt)
      rw [hM.out.1, show ((a + 20 : Nat) : Int) = (a : Int) + 20 by omega] at hc
      have HC := Lib.hid hc; clear hc
      go_wp2_with fail
      refine HC.out.mono ?_
      rintro e w2 ⟨rfl, M2, hm2, hs2, hr2, hk2⟩
      have hM2 : Hid (M2.length = n ∧ M2.Perm M ∧ BlkTo M2 20 (a + 20)) := ⟨hm2.len.trans hM.out.1, hm2.perm.trans hM.out.2.1, blkTo_next (by decide) hM.out.2.2 hak.out rfl hm2 hs2⟩
      have hak2 : Hid (∃ k, a + 20 = k * 20) := by obtain ⟨k, hk⟩ := hak.out; exact ⟨k + 1, by omega⟩
      have HR2 := Lib.hid hr2
      have HK2 : Hid (Keeps (fun j => j = g) w w2) := hkp.out.trans hk2 (fun _ h => Or.inl h)
      clear hm2 hs2 hr2 hk2 HC
      go_wp2
      exact ⟨⟨a + 20, M2, hlt, by go_num, by go_num, hak2, hM2, HR2, HK2⟩, by simp [intOf]; omega⟩
    · have hd : decide ((a : Int) + 20 ≤ (n : Int)) = false := by simp; omega
      have hc := insertion_any g cap M1 a n wr hrw.out (by rw [hM.out.1]; exact hl) (snOk_perm HOK.out hM.out.2.1) ha (by rw [hM.out.1]; exact Nat.le_refl _)
      rw [hM.out.1] at hc
      have HC := Lib.hid hc; clear hc
      go_wp2_with fail
      refine HC.out.mono ?_
      rintro e w2 ⟨rfl, M2, hm2, hs2, hr2, hk2⟩
      have hM2 : Hid (M2.length = n ∧ M2.Perm M ∧ BlkFrom M2 20 0 n) := by
        refine ⟨hm2.len.trans hM.out.1, hm2.perm.trans hM.out.2.1, ?_⟩
        refine blk_done (a := a) (by decide) ?_ hak.out ha (by omega) hs2
        intro q hq
        exact (hM.out.2.2 q hq).out hm2 (Or.inl hq)
      have HR2 := Lib.hid hr2
      have HK2 : Hid (Keeps (fun j => j = g) w w2) := hkp.out.trans hk2 (fun _ h => Or.inl h)
      clear hm2 hs2 hr2 hk2 HC hM hrw hkp hd
      go_wp2
      go_loopw [6] (fun vbs wx => ∃ (B : Nat) (M3 : List Sn), 0 < B ∧ B ≤ 2000000 ∧ vbs = .int .i64 B ∧ Hid (M3.length = n ∧ M3.Perm M ∧ BlkFrom M3 B 0 n) ∧ Hid (Rows encN 4 94 wx g cap M3) ∧ Hid (Keeps (fun j => j = g) w wx)) (fun vbs _ => 4000000 - (intOf vbs).toNat)
      case atStart => exact ⟨20, M2, by decide, by decide, rfl, hM2, HR2, HK2⟩
      case round =>
        obtain ⟨B, M3, hB0, hB1, rfl, hM3, hr3, hk3⟩ := hrel
        by_cases hlt2 : B < n
        · go_wp2
          go_loopw [7, 8] (fun va vb wx => ∃ (a : Nat) (M1 : List Sn), a ≤ n ∧ va = .int .i64 a ∧ vb = .int .i64 ((a : Int) + 2 * B) ∧ Hid (∃ k, a = k * (2 * B)) ∧ Hid (M1.length = n ∧ M1.Perm M ∧ BlkTo M1 (2 * B) a ∧ BlkFrom M1 B a n) ∧ Hid (Rows encN 4 94 wx g cap M1) ∧ Hid (Keeps (fun j => j = g) w wx)) (fun va _ _ => n - (intOf va).toNat)
          case atStart => exact ⟨0, M3, Nat.zero_le _, rfl, by go_num, ⟨0, by simp⟩, ⟨hM3.out.1, hM3.out.2.1, blkTo_zero M3 (by omega), hM3.out.2.2⟩, hr3, hk3⟩
          case round =>
            obtain ⟨a, M1, ha, rfl, rfl, hak, hM, hrw, hkp⟩ := hrel
            have hMl := hM.out.1
            obtain ⟨h1s, h2s⟩ := blk_two hM.out.2.2.2 hak.out
            by_cases hlt : a + 2 * B ≤ n
            · have hd : decide ((a : Int) + 2 * (B : Int) ≤ (n : Int)) = true := by simp; omega
              rw [Nat.min_eq_left (by omega)] at h1s h2s
              have hc := sym_all (2 * B) g cap M1 a (a + B) (a + 2 * B) wr hrw.out (by omega) (snOk_perm HOK.out hM.out.2.1) (by omega) (by omega) (by omega) h1s h2s (by omega)
              rw [hMl, show ((a + B : Nat) : Int) = (a : Int) + B by omega, show ((a + 2 * B : Nat) : Int) = (a : Int) + 2 * B by omega] at hc
              have HC := Lib.hid hc; clear hc
              go_wp2_with fail
              refine HC.out.mono ?_
              rintro e w4 ⟨rfl, M4, hm4, hs4, hr4, hk4⟩
              have hM4 : Hid (M4.length = n ∧ M4.Perm M ∧ BlkTo M4 (2 * B) (a + 2 * B) ∧ BlkFrom M4 B (a + 2 * B) n) := ⟨hm4.len.trans hMl, hm4.perm.trans hM.out.2.1, blkTo_next (by omega) hM.out.2.2.1 hak.out rfl hm4 hs4, blkFrom_next hM.out.2.2.2 (by omega) hm4⟩
              have hak4 : Hid (∃ k, a + 2 * B = k * (2 * B)) := by obtain ⟨k, hk⟩ := hak.out; exact ⟨k + 1, by rw [hk, Nat.add_mul]; omega⟩
              have HR4 := Lib.hid hr4
              have HK4 : Hid (Keeps (fun j => j = g) w w4) := hkp.out.trans hk4 (fun _ h => Or.inl h)
              clear hm4 hs4 hr4 hk4 HC h1s h2s
              go_wp2
              exact ⟨⟨a + 2 * B, M4, hlt, by go_num, by go_num, hak4, hM4, HR4, HK4⟩, by simp [intOf]; omega⟩
            · have hd : decide ((a : Int) + 2 * (B : Int) ≤ (n : Int)) = false := by simp; omega
              by_cases hm : a + B < n
              · rw [Nat.min_eq_left (by omega)] at h1s
                rw [Nat.min_eq_right (by omega)] at h2s
                have hc := sym_all n g cap M1 a (a + B) n wr hrw.out (by omega) (snOk_perm HOK.out hM.out.2.1) (by omega) hm (by omega) h1s h2s (by omega)
                rw [hMl, show ((a + B : Nat) : Int) = (a : Int) + B by omega] at hc
                have HC := Lib.hid hc; clear hc
                go_wp2_with fail
                refine HC.out.mono ?_
                rintro e w4 ⟨rfl, M4, hm4, hs4, hr4, hk4⟩
                have hM4 : Hid (M4.length = n ∧ M4.Perm M ∧ BlkFrom M4 (B * 2) 0 n) := by
                  refine ⟨hm4.len.trans hMl, hm4.perm.trans hM.out.2.1, ?_⟩
                  rw [Nat.mul_comm B 2]
                  refine blk_done (a := a) (by omega) ?_ hak.out ha (by omega) hs4
                  intro q hq
                  exact (hM.out.2.2.1 q hq).out hm4 (Or.inl hq)
                have HR4 := Lib.hid hr4
                have HK4 : Hid (Keeps (fun j => j = g) w w4) := hkp.out.trans hk4 (fun _ h => Or.inl h)
                clear hm4 hs4 hr4 hk4 HC h1s h2s
                go_wp2
                exact ⟨⟨B * 2, M4, by omega, by omega, by go_num, hM4, HR4, HK4⟩, by simp [intOf]; omega⟩
              · have hd2 : decide ((a : Int) + (B : Int) < (n : Int)) = false := by simp; omega
                rw [Nat.min_eq_right (by omega)] at h1s
                have hM4 : Hid (M1.length = n ∧ M1.Perm M ∧ BlkFrom M1 (B * 2) 0 n) := by
                  refine ⟨hMl, hM.out.2.1, ?_⟩
                  rw [Nat.mul_comm B 2]
                  exact blk_done (a := a) (by omega) hM.out.2.2.1 hak.out ha (by omega) h1s
                clear h1s h2s
                go_wp2
                exact ⟨⟨B * 2, M1, by omega, by omega, by go_num, hM4, hrw, hkp⟩, by simp [intOf]; omega⟩
        · have hfin : Hid (SortR M3 0 n) := by
            have := hM3.out.2.2 0 (Nat.zero_le _)
            rw [Nat.zero_mul, Nat.zero_add, Nat.one_mul, Nat.min_eq_right (by omega)] at this
            exact this
          go_wp2
          go_end0
          exact ⟨rfl, M3, hM3.out.2.1, hfin.out, hr3.out, hk3.out⟩

set_option maxHeartbeats 1000000 in
theorem insertion_nil (cb : Value) (w : World) : Calls Tryz.prog 72 #[.slice none 0 0, .int .i64 0, .int .i64 0, cb] w fun e w' => e = .returned (.tuple #[]) ∧ w = w' := by
  go_enter Tryz.func72, Tryz.ntmps72
  go_wp2
  refine wp_loop_rounds 1 ?_
  rw [rounds_succ]
  go_wp2
  go_end0
  exact ⟨rfl, rfl⟩
set_option maxHeartbeats 1000000 in
theorem stable_nil (cb : Value) (w : World) : Calls Tryz.prog 61 #[.slice none 0 0, .int .i64 0, cb] w fun e w' => e = .returned (.tuple #[]) ∧ w = w' := by
  go_enter Tryz.func61, Tryz.ntmps61
  go_wp2
  refine wp_loop_rounds 1 ?_
  rw [rounds_succ]
  go_wp2_with fail
  refine (insertion_nil cb _).mono ?_
  rintro e w1 ⟨rfl, rfl⟩
  go_wp2
  refine wp_loop_rounds 1 ?_
  rw [rounds_succ]
  go_wp2
  go_end0
  exact ⟨rfl, rfl⟩

/-- A list of cookies that are sent, in order. -/
theorem sortStable_any (base : Nat) (v : Value) (M : List Sn) (w : World) (hr : RowOf w base 94 encN 4 v M) (hl : M.length ≤ 1000000) (hok : ∀ x ∈ M, SnOk x) :
    Calls Tryz.prog 52 #[v, .func (.func 53) #[] #[]] w fun e w' => e = .returned (.tuple #[]) ∧ ∃ M', M'.Perm M ∧ SortR M' 0 M.length ∧ RowOf w' base 94 encN 4 v M' ∧ Keeps (fun j => v.ownBlock = some j) w w' := by
  rcases hr.form with ⟨rfl, rfl⟩ | ⟨g, cap, rfl, h1, h2⟩
  · have HR := Lib.hid hr; clear hr
    go_enter Tryz.func52, Tryz.ntmps52
    go_wp2_with fail
    refine (stable_nil _ _).mono ?_
    rintro e w1 ⟨rfl, rfl⟩
    go_wp2
    go_end0
    exact ⟨rfl, [], List.Perm.refl _, SortR.small _ (by simp), HR.out, Keeps.refl _ _⟩
  · have hc := stable_any g cap M w (hr.rows encN_len).2.2 hl hok
    have HC := Lib.hid hc; clear hc hr
    go_enter Tryz.func52, Tryz.ntmps52
    go_wp2_with fail
    refine HC.out.mono ?_
    rintro e w1 ⟨rfl, M', hp, hs, hrw, hk⟩
    have HR := Lib.hid hrw
    have HS := Lib.hid hs
    have HP := Lib.hid hp
    have HK := Lib.hid hk
    clear hrw hs hp hk
    go_wp2
    go_end0
    refine ⟨rfl, M', HP.out, HS.out, ?_, HK.out.mono (fun b _ e => by rw [e]; rfl)⟩
    have := HR.out.toRow (base := base) encN_len h1 (m := M'.length) (Nat.le_refl _)
    rw [List.take_length] at this
    rw [HP.out.length_eq] at this
    exact this
end Go.Proofs.YtckfgnbilcjdpaaGreatDoor
