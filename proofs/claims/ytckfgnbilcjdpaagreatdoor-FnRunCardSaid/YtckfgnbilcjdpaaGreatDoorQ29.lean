/- What the reference's Run has in memory, and what stays within bounds. -/
import Derived.Test.YtckfgnbilcjdpaaGreatDoorQ27
namespace Go.Proofs.YtckfgnbilcjdpaaGreatDoor
open Go.RowKit Go.Sort
set_option maxRecDepth 100000

theorem info35 : (Tryz.prog.info? 35).map (fun i => (i.zero, i.size, i.bytes)) = some (some (.slice none 0 0), 1, 24) := by kernel_rfl
theorem buildW (s : SlV) (w : World) : (Instr.buildSlice 27 1 #[(0, s.val)]).run Tryz.prog w = .ok (.slice (some ⟨w.heap.size, 0, none⟩) 1 1) (w.alloc (.cells (encSV s).toArray 35)) := by
  obtain ⟨i, hi, hz, hs, _⟩ := info_parts info35
  exact build_one (cs := encSV s) Tryz.underlying27 hi hz hs rfl (by decide : 0 < 1) (by decide : 1 ≤ 1000) _ rfl w
theorem appendW {base : Nat} {v : Value} {L : List SlV} {w : World} (x : SlV) (g : Nat) (hr : RowOf w base 35 encSV 1 v L) (hl : L.length ≤ 100000000) (hbase : base ≤ w.heap.size) (hx : BlkAt w g (encSV x)) :
    ∀ ty, ∃ v' w', (Builtin.append_ #[27, 27] ty #[v, .slice (some ⟨g, 0, none⟩) 1 1]).run Tryz.prog w = .ok v' w' ∧ RowOf w' base 35 encSV 1 v' (L ++ [x]) ∧ Keeps (fun j => v.ownBlock = some j) w w' ∧ (∀ j, v'.ownBlock = some j → v.ownBlock = some j ∨ j = w.heap.size) := by
  obtain ⟨i, hi, hz, hs, hb⟩ := info_parts info35
  exact append_one (enc := encSV) (k := 1) (fun _ => rfl) (fun x u hu => by simp only [encSV, List.mem_singleton] at hu; subst hu; rfl) Tryz.underlying27 hi hz hs hb rfl (by decide) (by decide) x g hr hl hbase hx

/-- What the reference's Run has in memory. -/
structure SpecAt (w wr : World) (r : RS) (v8 v9 v10 : Value) : Prop where
  jar : RowOf wr w.heap.size 51 encK 9 v8 r.jar
  ended : RowOf wr w.heap.size 51 encK 9 v9 r.ended
  out : ∃ (vs : List SlV) (outs : List (List Sn)), RowOf wr w.heap.size 35 encSV 1 v10 vs ∧ vs.length = outs.length ∧ outs.length = r.outs.length ∧
    (∀ i (h1 : i < vs.length) (h2 : i < outs.length), RowOf wr w.heap.size 94 encN 4 vs[i].val outs[i] ∧ ∀ g, vs[i].val.ownBlock = some g → v8.ownBlock ≠ some g ∧ v9.ownBlock ≠ some g ∧ v10.ownBlock ≠ some g) ∧
    (∀ i (h1 : i < outs.length) (h2 : i < r.outs.length), outs[i].Perm r.outs[i] ∧ SortR outs[i] 0 outs[i].length)
  d89 : ∀ g, v8.ownBlock = some g → v9.ownBlock ≠ some g
  d810 : ∀ g, v8.ownBlock = some g → v10.ownBlock ≠ some g
  d910 : ∀ g, v9.ownBlock = some g → v10.ownBlock ≠ some g
  below : RowKit.Below w.heap.size w wr

section
variable {w wr w' : World} {r : RS} {v8 v9 v10 : Value}

theorem SpecAt.go (h : SpecAt w wr r v8 v9 v10) (hb : RowKit.Below wr.heap.size wr w') : SpecAt w w' r v8 v9 v10 := by
  obtain ⟨h1, h2, ⟨vs, outs, a1, a2, a3, a4, a5⟩, h4, h5, h6, h7⟩ := h
  exact ⟨h1.below hb, h2.below hb, ⟨vs, outs, a1.below hb, a2, a3, fun i x y => ⟨(a4 i x y).1.below hb, (a4 i x y).2⟩, a5⟩, h4, h5, h6, h7.trans (hb.mono h7.size)⟩
theorem SpecAt.alloc (h : SpecAt w wr r v8 v9 v10) (o : Obj) : SpecAt w (wr.alloc o) r v8 v9 v10 := h.go ((Below.refl _ _).alloc (Nat.le_refl _) o)
theorem SpecAt.same {r' : RS} (h : SpecAt w wr r v8 v9 v10) (h1 : r'.jar = r.jar) (h2 : r'.ended = r.ended) (h3 : r'.outs = r.outs) : SpecAt w wr r' v8 v9 v10 :=
  ⟨h1 ▸ h.jar, h2 ▸ h.ended, h3 ▸ h.out, h.d89, h.d810, h.d910, h.below⟩

/-- The jar is written. -/
theorem SpecAt.jar' {v' : Value} {jar : List Kp} (h : SpecAt w wr r v8 v9 v10) (hk : Keeps (fun j => v8.ownBlock = some j) wr w') (hr : RowOf w' w.heap.size 51 encK 9 v' jar) (ho : ∀ j, v'.ownBlock = some j → v8.ownBlock = some j ∨ wr.heap.size ≤ j) :
    SpecAt w w' { r with jar := jar } v' v9 v10 := by
  obtain ⟨h1, h2, ⟨vs, outs, a1, a2, a3, a4, a5⟩, h4, h5, h6, h7⟩ := h
  have o9 := h2.own
  have o10 := a1.own
  refine ⟨hr, h2.keepsOwn hk (fun g hg e => h4 g e hg), ⟨vs, outs, a1.keepsOwn hk (fun g hg e => h5 g e hg), a2, a3, ?_, a5⟩, ?_, ?_, h6, ?_⟩
  · intro i x y
    obtain ⟨b1, b2⟩ := a4 i x y
    refine ⟨b1.keepsOwn hk (fun g hg e => (b2 g hg).1 e), fun g hg => ⟨fun e => ?_, (b2 g hg).2⟩⟩
    rcases ho g e with h | h
    · exact (b2 g hg).1 h
    · have := (b1.own g hg).2; omega
  · intro g hg e
    rcases ho g hg with h | h
    · exact h4 g h e
    · have := (o9 g e).2; omega
  · intro g hg e
    rcases ho g hg with h | h
    · exact h5 g h e
    · have := (o10 g e).2; omega
  · exact h7.trans (hk.toBelow h7.size (fun g hg => (h1.own g hg).1))
/-- The ended ones are written. -/
theorem SpecAt.ended' {v' : Value} {L : List Kp} (h : SpecAt w wr r v8 v9 v10) (hk : Keeps (fun j => v9.ownBlock = some j) wr w') (hr : RowOf w' w.heap.size 51 encK 9 v' L) (ho : ∀ j, v'.ownBlock = some j → v9.ownBlock = some j ∨ wr.heap.size ≤ j) :
    SpecAt w w' { r with ended := L } v8 v' v10 := by
  obtain ⟨h1, h2, ⟨vs, outs, a1, a2, a3, a4, a5⟩, h4, h5, h6, h7⟩ := h
  have o8 := h1.own
  have o10 := a1.own
  refine ⟨h1.keepsOwn hk (fun g hg e => h4 g hg e), hr, ⟨vs, outs, a1.keepsOwn hk (fun g hg e => h6 g e hg), a2, a3, ?_, a5⟩, ?_, h5, ?_, ?_⟩
  · intro i x y
    obtain ⟨b1, b2⟩ := a4 i x y
    refine ⟨b1.keepsOwn hk (fun g hg e => (b2 g hg).2.1 e), fun g hg => ⟨(b2 g hg).1, fun e => ?_, (b2 g hg).2.2⟩⟩
    rcases ho g e with h | h
    · exact (b2 g hg).2.1 h
    · have := (b1.own g hg).2; omega
  · intro g hg e
    rcases ho g e with h | h
    · exact h4 g hg h
    · have := (o8 g hg).2; omega
  · intro g hg e
    rcases ho g hg with h | h
    · exact h6 g h e
    · have := (o10 g e).2; omega
  · exact h7.trans (hk.toBelow h7.size (fun g hg => (h2.own g hg).1))

theorem getElem_snoc_lt {α : Type} {l : List α} {a : α} {i : Nat} (h : i < l.length) (h' : i < (l ++ [a]).length) : (l ++ [a])[i] = l[i] := List.getElem_append_left h
theorem getElem_snoc_eq {α : Type} {l : List α} {a : α} {i : Nat} (h : i = l.length) (h' : i < (l ++ [a]).length) : (l ++ [a])[i] = a := by
  subst h; simp
/-- What one step is sent is put behind the others. -/
theorem SpecAt.push (h : SpecAt w wr r v8 v9 v10) (sv : SlV) (M W : List Sn) (hm : RowOf wr w.heap.size 94 encN 4 sv.val M) (hd : ∀ g, sv.val.ownBlock = some g → v8.ownBlock ≠ some g ∧ v9.ownBlock ≠ some g ∧ v10.ownBlock ≠ some g)
    (hp : M.Perm W) (hs : SortR M 0 M.length) (hl : r.outs.length ≤ 1000000) (ty : TypeId) :
    ∃ v' w', (Builtin.append_ #[27, 27] ty #[v10, .slice (some ⟨wr.heap.size, 0, none⟩) 1 1]).run Tryz.prog (wr.alloc (.cells (encSV sv).toArray 35)) = .ok v' w' ∧ SpecAt w w' { r with outs := r.outs ++ [W] } v8 v9 v' ∧ Keeps (fun j => v10.ownBlock = some j) wr w' := by
  obtain ⟨h1, h2, ⟨vs, outs, a1, a2, a3, a4, a5⟩, h4, h5, h6, h7⟩ := h
  have o8 := h1.own
  have o9 := h2.own
  have o10 := a1.own
  have om := hm.own
  have h7s := h7.size
  have hsz : (wr.alloc (.cells (encSV sv).toArray 35)).heap.size = wr.heap.size + 1 := by simp
  have hB : RowKit.Below wr.heap.size wr (wr.alloc (.cells (encSV sv).toArray 35)) := (Below.refl _ _).alloc (Nat.le_refl _) _
  obtain ⟨v', w', g1, g2, g3, g4⟩ := appendW sv wr.heap.size (a1.alloc (.cells (encSV sv).toArray 35)) (by omega) (by omega) (BlkAt.made _ _ _) ty
  have ho : ∀ j, v'.ownBlock = some j → v10.ownBlock = some j ∨ wr.heap.size ≤ j := by
    intro j hj
    rcases g4 j hj with h | h
    · exact Or.inl h
    · right; omega
  refine ⟨v', w', g1, ⟨(h1.below hB).keepsOwn g3 (fun g hg e => h5 g hg e), (h2.below hB).keepsOwn g3 (fun g hg e => h6 g hg e), ⟨vs ++ [sv], outs ++ [M], g2, by simp [a2], by simp [a3], ?_, ?_⟩, h4, ?_, ?_, ?_⟩, ((Keeps.refl (fun j => v10.ownBlock = some j) wr).below hB).trans g3 (fun j hj => Or.inl hj)⟩
  · intro i x y
    by_cases hi : i < vs.length
    · have hi2 : i < outs.length := by omega
      rw [getElem_snoc_lt hi, getElem_snoc_lt hi2]
      obtain ⟨b1, b2⟩ := a4 i hi hi2
      refine ⟨(b1.below hB).keepsOwn g3 (fun g hg e => (b2 g hg).2.2 e), fun g hg => ⟨(b2 g hg).1, (b2 g hg).2.1, fun e => ?_⟩⟩
      rcases ho g e with h | h
      · exact (b2 g hg).2.2 h
      · have := (b1.own g hg).2; omega
    · have hi1 : i = vs.length := by simp at x; omega
      have hi2 : i = outs.length := by omega
      rw [getElem_snoc_eq hi1, getElem_snoc_eq hi2]
      refine ⟨(hm.below hB).keepsOwn g3 (fun g hg e => (hd g hg).2.2 e), fun g hg => ⟨(hd g hg).1, (hd g hg).2.1, fun e => ?_⟩⟩
      rcases ho g e with h | h
      · exact (hd g hg).2.2 h
      · have := (om g hg).2; omega
  · intro i x y
    by_cases hi : i < outs.length
    · have hi2 : i < r.outs.length := by omega
      show (outs ++ [M])[i].Perm (r.outs ++ [W])[i] ∧ _
      rw [getElem_snoc_lt hi, getElem_snoc_lt hi2]
      exact a5 i hi hi2
    · have hi1 : i = outs.length := by simp at x; omega
      have hi2 : i = r.outs.length := by omega
      show (outs ++ [M])[i].Perm (r.outs ++ [W])[i] ∧ _
      rw [getElem_snoc_eq hi1, getElem_snoc_eq hi2]
      exact ⟨hp, hs⟩
  · intro g hg e
    rcases ho g e with h | h
    · exact h5 g hg h
    · have := (o8 g hg).2; omega
  · intro g hg e
    rcases ho g e with h | h
    · exact h6 g hg h
    · have := (o9 g hg).2; omega
  · exact (h7.alloc h7s _).trans (g3.toBelow (by omega) (fun g hg => (o10 g hg).1))
end

/-- What the reference has stays within bounds. -/
structure RsOk (r : RS) (k : Nat) : Prop where
  kp : ∀ x ∈ r.jar, KpOk x
  jar : r.jar.length ≤ 64 * k
  ended : r.ended.length ≤ 4096 * k
  outs : r.outs.length ≤ k

theorem dom_len (listed : Bool) (ss : List (List UInt8)) (host raw : List UInt8) {n : Nat} (h1 : host.length ≤ n) (h2 : raw.length ≤ n) : (domS listed ss host raw).1.length ≤ n := by
  have h3 : ((trimPre raw 46).map lowB).length ≤ n := Nat.le_trans (by simpa using trimPre_len raw 46) h2
  unfold domS
  dsimp only
  split
  · exact h1
  · split
    · exact h1
    · exact h3
theorem defPathS_ne (p : List UInt8) : defPathS p ≠ [] := by
  unfold defPathS
  split
  · simp
  · rename_i h
    have hne : p ≠ [] := by rintro rfl; exact h (by simp [lastIdx])
    intro e
    rw [List.take_eq_nil_iff] at e
    rcases e with e | e
    · omega
    · exact hne e
theorem defPathS_len (p : List UInt8) : (defPathS p).length ≤ p.length + 1 := by
  unfold defPathS
  split
  · simp
  · rw [List.length_take]; omega
theorem mkK_ok {listed : Bool} {ss : List (List UInt8)} {host path : List UInt8} {t : Int} {c : Ck} (h1 : host.length ≤ 2147483647) (h2 : path.length ≤ 2147483647) (h3 : CkSm c) (h4 : 0 ≤ t) (h5 : t ≤ 4294967296) : KpOk (mkK listed ss host path t c) := by
  refine ⟨Nat.le_succ_of_le (dom_len listed ss host c.domain h1 h3.dlen), ?_, ?_, h4, h5⟩
  · show (pathS c path).length ≤ 2147483648
    unfold pathS; split
    · exact Nat.le_succ_of_le h3.plen
    · exact Nat.le_trans (defPathS_len path) (by omega)
  · show pathS c path ≠ []
    unfold pathS; split
    · rename_i h; intro e; rw [e] at h; cases h
    · exact defPathS_ne path
theorem setS_ok {listed : Bool} {ss : List (List UInt8)} {host path : List UInt8} {t : Int} {c : Ck} {L : List Kp} {n : Nat} (hL : ∀ x ∈ L, KpOk x) (hn : L.length ≤ n) (h1 : host.length ≤ 2147483647) (h2 : path.length ≤ 2147483647) (h3 : CkSm c) (h4 : 0 ≤ t) (h5 : t ≤ 4294967296) :
    (∀ x ∈ setS listed ss L host path t c, KpOk x) ∧ (setS listed ss L host path t c).length ≤ n + 1 := by
  unfold setS
  split
  · have hk := mkK_ok (listed := listed) (ss := ss) h1 h2 h3 h4 h5
    unfold putS
    rcases idxP_cases (sameB (mkK listed ss host path t c)) L with ⟨e1, _⟩ | ⟨i, hi, e1, _, _⟩
    · have n0 : ¬ (0 : Int) ≤ -1 := by decide
      rw [e1]
      simp only [if_neg n0]
      constructor
      · intro x hx
        rcases List.mem_append.1 hx with hx | hx
        · exact hL x hx
        · split at hx
          · rw [List.mem_singleton] at hx; subst hx; exact hk
          · cases hx
      · rw [List.length_append]; split <;> simp <;> omega
    · have p0 : (0 : Int) ≤ (i : Int) := by omega
      rw [e1]
      simp only [if_pos p0, Int.toNat_natCast]
      constructor
      · intro x hx
        rcases List.mem_append.1 hx with hx | hx
        · rcases List.mem_append.1 hx with hx | hx
          · exact hL x (List.mem_of_mem_take hx)
          · exact hL x (List.mem_of_mem_drop hx)
        · split at hx
          · rw [List.mem_singleton] at hx; subst hx
            have hb := hL _ (List.getElem_mem hi)
            rw [List.getD_eq_getElem?_getD, List.getElem?_eq_getElem hi]
            exact ⟨hk.dlen, hk.plen, hk.pne, hb.born⟩
          · cases hx
      · rw [List.length_append, List.length_append, List.length_take, List.length_drop]; split <;> simp <;> omega
  · exact ⟨hL, by omega⟩

/-- The jar when j cookies of a step are set. -/
def jarC (listed : Bool) (ss : List (List UInt8)) (r : RS) (st : St) (j : Nat) : List Kp × Bool := (st.cks.take j).foldl (setC listed ss ((hostPart st.host).map lowB) st.path st.at' (endL r st.at')) (jarL r st.at', r.said)
theorem jarC_succ (listed : Bool) (ss : List (List UInt8)) (r : RS) (st : St) (j : Nat) (h : j < st.cks.length) : jarC listed ss r st (j + 1) = setC listed ss ((hostPart st.host).map lowB) st.path st.at' (endL r st.at') (jarC listed ss r st j) st.cks[j] := by
  unfold jarC
  rw [List.take_succ_eq_append_getElem h, List.foldl_append]; rfl
theorem hostLow_len (st : St) (h : st.host.length ≤ 2147483647) : ((hostPart st.host).map lowB).length ≤ 2147483647 := by
  rw [List.length_map]; exact Nat.le_trans (List.takeWhile_sublist _).length_le h
theorem jarL_ok {r : RS} {k : Nat} (h : RsOk r k) (t : Int) : (∀ x ∈ jarL r t, KpOk x) ∧ (jarL r t).length ≤ 64 * k :=
  ⟨fun x hx => h.kp x (List.mem_filter.1 hx).1, Nat.le_trans (List.length_filter_le _ _) h.jar⟩
theorem jarC_ok {listed : Bool} {ss : List (List UInt8)} {r : RS} {k : Nat} (h : RsOk r k) {st : St} (ho : StOk st) : ∀ j, j ≤ st.cks.length → (∀ x ∈ (jarC listed ss r st j).1, KpOk x) ∧ (jarC listed ss r st j).1.length ≤ 64 * k + j
  | 0, _ => ⟨(jarL_ok h st.at').1, by have := (jarL_ok h st.at').2; simpa [jarC] using this⟩
  | j + 1, hj => by
    rw [jarC_succ _ _ _ _ _ (by omega)]
    obtain ⟨h1, h2⟩ := jarC_ok (listed := listed) (ss := ss) h ho j (by omega)
    exact setS_ok h1 h2 (hostLow_len st ho.hlen) ho.plen (ho.cks _ (List.getElem_mem _)).1 ho.at0 ho.at1
theorem endL_ok {r : RS} {k : Nat} (h : RsOk r k) (hk : k ≤ 64) (t : Int) : (endL r t).length ≤ 4096 * (k + 1) := by
  have h1 := List.length_filter_le (fun x => !livesB x t) r.jar
  have h2 := h.jar
  have h3 := h.ended
  rw [endL, List.length_append]
  omega
theorem stepS_ok {listed : Bool} {ss : List (List UInt8)} {r : RS} {k : Nat} (h : RsOk r k) (hk : k ≤ 64) {st : St} (ho : StOk st) : RsOk (stepS listed ss r st) (k + 1) := by
  obtain ⟨h1, h2⟩ := jarL_ok h st.at'
  have h3 := endL_ok h hk st.at'
  have h4 := h.outs
  have hc := ho.clen
  unfold stepS
  split
  · split
    · have h5 := jarC_ok (listed := listed) (ss := ss) h ho st.cks.length (Nat.le_refl _)
      rw [jarC, List.take_length] at h5
      exact ⟨h5.1, Nat.le_trans h5.2 (by omega), h3, Nat.le_succ_of_le h4⟩
    · exact ⟨h1, Nat.le_trans h2 (by omega), h3, Nat.le_succ_of_le h4⟩
  · split
    · exact ⟨h1, Nat.le_trans h2 (by omega), h3, by simp; omega⟩
    · exact ⟨h1, Nat.le_trans h2 (by omega), h3, by simp; omega⟩

/-- The reference when k steps are done. -/
def specTo (listed : Bool) (ss : List (List UInt8)) (sts : List St) (k : Nat) : RS := runS listed ss (sts.take k)
theorem specTo_succ (listed : Bool) (ss : List (List UInt8)) (sts : List St) (k : Nat) (h : k < sts.length) : specTo listed ss sts (k + 1) = stepS listed ss (specTo listed ss sts k) sts[k] := by
  unfold specTo runS
  rw [List.take_succ_eq_append_getElem h, List.foldl_append]; rfl
theorem specTo_ok (listed : Bool) (ss : List (List UInt8)) (sts : List St) (ho : ∀ st ∈ sts, StOk st) (hl : sts.length ≤ 64) : ∀ k, k ≤ sts.length → RsOk (specTo listed ss sts k) k
  | 0, _ => ⟨fun x hx => by simp [specTo, runS] at hx, by simp [specTo, runS], by simp [specTo, runS], by simp [specTo, runS]⟩
  | k + 1, hk => by
    rw [specTo_succ _ _ _ _ (by omega)]
    exact stepS_ok (specTo_ok listed ss sts ho hl k (by omega)) (by omega) (ho _ (List.getElem_mem _))
end Go.Proofs.YtckfgnbilcjdpaaGreatDoor
