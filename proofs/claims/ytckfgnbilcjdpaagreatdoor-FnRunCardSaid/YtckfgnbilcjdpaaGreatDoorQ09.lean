/- Steps of a jar: what they make of it, step by step (plain laws). -/
import Derived.Test.YtckfgnbilcjdpaaGreatDoorQ07
import Derived.Test.YtckfgnbilcjdpaaGreatDoorQ08
import Derived.Deep.RegionHeld3
namespace Go.Proofs.YtckfgnbilcjdpaaGreatDoor
open Go.RowKit Go.Sort
set_option maxRecDepth 100000

abbrev AJ := List (List UInt8 × List Ent)
/-- A step. -/
structure St where
  set : Bool
  at' : Int
  sch : List UInt8
  host : List UInt8
  path : List UInt8
  cks : List Ck
  deriving Inhabited
/-- A host without its port. -/
def hostPart (raw : List UInt8) : List UInt8 := raw.takeWhile (· != 58)
/-- The cells of a step; its cookies lie behind sl. -/
def encS (st : St) (sl : Value) : List Value := [.bool st.set, .int .i64 st.at', .string (bs st.sch), .string (bs st.host), .string (bs st.path), sl]
/-- The cookies of a step in memory. -/
def CkSl (w : World) (v : Value) (cs : List Ck) : Prop := ∃ A cap, v = .slice A cs.length cap ∧ (cs = [] ∨ ∃ b o, A = some ⟨b, o, none⟩ ∧ ∀ j (h : j < cs.length), RowAt w b (o + j * 7) (encI cs[j]))
/-- The steps in memory. -/
def StSl (w : World) (v : Value) (l : List (St × Value)) : Prop :=
  ∃ A cap, v = .slice A l.length cap ∧ (l = [] ∨ ∃ b o, A = some ⟨b, o, none⟩ ∧ ∀ i (h : i < l.length), RowAt w b (o + i * 6) (encS l[i].1 l[i].2)) ∧ ∀ p ∈ l, CkSl w p.2 p.1.cks

/-- What a step makes of the jar. -/
def stepJ (listed : Bool) (ss : List (List UInt8)) (js : AJ × Nat) (st : St) : AJ × Nat :=
  if st.set then stepSet listed ss js.1 js.2 st.sch (hostPart st.host) st.path st.at' st.cks
  else (stepAsk listed ss js.1 st.sch (hostPart st.host) st.path st.at', js.2)
/-- What the steps are to be given that ask. -/
def runA (listed : Bool) (ss : List (List UInt8)) : AJ × Nat → List St → List (List Ent)
  | _, [] => []
  | js, st :: r => (if st.set then [] else [stepSel listed ss js.1 st.sch (hostPart st.host) st.path st.at']) ++ runA listed ss (stepJ listed ss js st) r
theorem runA_snoc (listed : Bool) (ss : List (List UInt8)) : ∀ (l : List St) (js : AJ × Nat) (x : St), runA listed ss js (l ++ [x]) = runA listed ss js l ++ (if x.set then [] else [stepSel listed ss (l.foldl (stepJ listed ss) js).1 x.sch (hostPart x.host) x.path x.at'])
  | [], js, x => by simp [runA]
  | a :: r, js, x => by simp only [List.cons_append, runA, List.foldl_cons]; rw [runA_snoc listed ss r]; simp

/-- What the tests of the jar ask of a domain. -/
structure EntDom (d : List UInt8) : Prop where
  last : d.getLast? ≠ some 46
  local' : (lastLabel d).map lowB ≠ localhostB
  loop : ¬ loopB d
/-- What Run asks of a step. -/
structure StOk (st : St) : Prop where
  at0 : 0 ≤ st.at'
  at1 : st.at' ≤ 4294967296
  good : GoodHost (hostPart st.host)
  raw : HostOf st.host (hostPart st.host)
  dom : EntDom ((hostPart st.host).map lowB)
  hlen : st.host.length ≤ 2147483647
  plen : st.path.length ≤ 2147483647
  clen : st.cks.length ≤ 64
  cks : ∀ c ∈ st.cks, CkSm c ∧ (c.domain = [] ∨ EntDom ((trimPre c.domain 46).map lowB))

/-- A jar that the tests of the jar can read. -/
def JarGood (J : AJ) (n : Nat) : Prop := ∀ p ∈ J, (∀ e ∈ p.2, EntOk e) ∧ p.2.length ≤ n

theorem JarGood.mono {J : AJ} {n m : Nat} (h : JarGood J n) (hm : n ≤ m) : JarGood J m := fun p hp => ⟨(h p hp).1, Nat.le_trans (h p hp).2 hm⟩

theorem putE_len (L : List Ent) (e : Ent) : (putE L e).length ≤ L.length + 1 := by
  unfold putE; split <;> simp
theorem putE_ok {L : List Ent} {e : Ent} (h : ∀ x ∈ L, EntOk x) (he : EntOk e) : ∀ x ∈ putE L e, EntOk x := by
  intro x hx
  unfold putE at hx
  split at hx
  · obtain ⟨y, hy, rfl⟩ := List.mem_map.1 hx
    split
    · exact he
    · exact h y hy
  · rcases List.mem_append.1 hx with hx | hx
    · exact h x hx
    · rw [List.mem_singleton] at hx; subst hx; exact he

theorem lastIdx_nonneg {l : List UInt8} {c : UInt8} (h : l.head? = some c) : ∀ k, 0 < k → 0 ≤ lastIdx l c k
  | 0, hk => absurd hk (by decide)
  | k + 1, _ => by
    rw [lastIdx]
    split
    · omega
    · rename_i hne
      cases k with
      | zero => rw [← List.head?_eq_getElem?] at hne; exact absurd h hne
      | succ k => exact lastIdx_nonneg h (k + 1) (by omega)
theorem defPath_ne (p : List UInt8) : defPath p ≠ [] := by
  unfold defPath
  split
  · rename_i h
    have hne : p ≠ [] := by intro e; rw [e] at h; cases h
    have hl : 0 < p.length := List.length_pos_iff.2 hne
    split
    · simp
    · rename_i h0
      have := lastIdx_nonneg h p.length hl
      intro e
      rw [List.take_eq_nil_iff] at e
      rcases e with e | e
      · omega
      · exact hne e
  · simp
theorem defPath_len (p : List UInt8) : (defPath p).length ≤ p.length + 1 := by
  unfold defPath; repeat' split
  all_goals simp
  omega

theorem domType_mem {listed : Bool} {ss : List (List UInt8)} {host raw d : List UInt8} {a : Bool} (h : domType listed ss host raw = some (d, a)) : d = host ∨ raw ≠ [] ∧ d = (trimPre raw 46).map lowB := by
  unfold domType at h
  split at h
  · cases h; exact Or.inl rfl
  · rename_i hr
    split at h
    · split at h
      · cases h; exact Or.inl rfl
      · cases h
    · split at h
      · split at h
        · cases h; exact Or.inl rfl
        · cases h
      · split at h
        · cases h; exact Or.inr ⟨hr, rfl⟩
        · cases h

theorem setOne_good {listed : Bool} {ss : List (List UInt8)} {host dp : List UInt8} {now : Int} {st : SubSt} {c : Ck} {n : Nat} (h : ∀ e ∈ st.sub.getD [], EntOk e) (hn : (st.sub.getD []).length ≤ n)
    (hh : EntDom host) (hhl : host.length ≤ maxLen) (hdp : dp ≠ []) (hdl : dp.length ≤ maxLen) (hc : CkSm c) (hd : c.domain = [] ∨ EntDom ((trimPre c.domain 46).map lowB)) :
    (∀ e ∈ (setOne listed ss host dp now st c).sub.getD [], EntOk e) ∧ ((setOne listed ss host dp now st c).sub.getD []).length ≤ n + 1 := by
  have hent : ∀ d al, domType listed ss host c.domain = some (d, al) → EntDom d ∧ d.length ≤ maxLen := by
    intro d al h
    refine ⟨?_, domType_len h hhl (Nat.le_trans hc.dlen (by decide))⟩
    rcases domType_mem h with rfl | ⟨h1, rfl⟩
    · exact hh
    · rcases hd with hd | hd
      · exact absurd hd h1
      · exact hd
  have hp : pathOf c dp ≠ [] ∧ (pathOf c dp).length ≤ maxLen := by
    unfold pathOf; split
    · rename_i h1
      refine ⟨fun e => ?_, Nat.le_trans hc.plen (by decide)⟩
      rw [e] at h1; cases h1
    · exact ⟨hdp, hdl⟩
  unfold setOne
  split
  · exact ⟨h, by omega⟩
  · rename_i d al hdt
    obtain ⟨e1, e2⟩ := hent d al hdt
    split
    · split
      · exact ⟨h, by omega⟩
      · rename_i L hL
        rw [hL] at h hn
        split
        · refine ⟨fun e he => h e ?_, ?_⟩
          · simp only [Option.getD_some] at he ⊢
            exact (List.mem_filter.1 he).1
          · have := List.length_filter_le (fun e => decide (idE e ≠ idOf d (pathOf c dp) c.name)) L
            simp only [Option.getD_some] at hn ⊢
            unfold delE; omega
        · rw [hL]; exact ⟨h, by omega⟩
    · rename_i t p _
      have ho : ∀ x : Ent, x.domain = d → x.path = pathOf c dp → EntOk x := by
        intro x h1 h2
        exact ⟨by rw [h1]; exact e2, by rw [h2]; exact hp.2, by rw [h2]; exact hp.1, by rw [h1]; exact e1.last, by rw [h1]; exact e1.local', by rw [h1]; exact e1.loop⟩
      split
      all_goals
        refine ⟨putE_ok h (ho _ rfl rfl), ?_⟩
        have := putE_len (st.sub.getD [])
        refine Nat.le_trans (putE_len _ _) (by omega)

theorem setTo_good {listed : Bool} {ss : List (List UInt8)} {host dp : List UInt8} {now : Int} {st : SubSt} {cs : List Ck} {n : Nat} (h : ∀ e ∈ st.sub.getD [], EntOk e) (hn : (st.sub.getD []).length ≤ n)
    (hh : EntDom host) (hhl : host.length ≤ maxLen) (hdp : dp ≠ []) (hdl : dp.length ≤ maxLen) (hc : ∀ c ∈ cs, CkSm c ∧ (c.domain = [] ∨ EntDom ((trimPre c.domain 46).map lowB))) : ∀ k, k ≤ cs.length →
    (∀ e ∈ (setTo listed ss host dp now st cs k).sub.getD [], EntOk e) ∧ ((setTo listed ss host dp now st cs k).sub.getD []).length ≤ n + k
  | 0, _ => ⟨h, hn⟩
  | k + 1, hk => by
    rw [setTo_succ _ _ _ _ _ _ _ _ (by omega)]
    obtain ⟨h1, h2⟩ := setTo_good h hn hh hhl hdp hdl hc k (by omega)
    have hck := hc cs[k] (List.getElem_mem _)
    exact setOne_good h1 h2 hh hhl hdp hdl hck.1 hck.2

theorem findA_good {J : AJ} {n : Nat} (h : JarGood J n) (k : List UInt8) : (∀ e ∈ (findA J k).getD [], EntOk e) ∧ ((findA J k).getD []).length ≤ n := by
  cases hf : findA J k with
  | none => simp
  | some L =>
    unfold findA at hf
    obtain ⟨p, hp, rfl⟩ := Option.map_eq_some_iff.1 hf
    have hm := List.mem_of_find?_eq_some hp
    exact h p hm

theorem endSet_good {J : AJ} {n m : Nat} {key : List UInt8} {st : SubSt} (h : JarGood J n) (hm : n ≤ m) (hs : (∀ e ∈ st.sub.getD [], EntOk e) ∧ (st.sub.getD []).length ≤ m) : JarGood (endSet J key st) m := by
  unfold endSet
  split
  · split
    · intro p hp
      exact h.mono hm p (List.mem_filter.1 hp).1
    · intro p hp
      unfold putA at hp
      split at hp
      · obtain ⟨q, hq, rfl⟩ := List.mem_map.1 hp
        split
        · exact hs
        · exact h.mono hm q hq
      · rcases List.mem_append.1 hp with hp | hp
        · exact h.mono hm p hp
        · rw [List.mem_singleton] at hp; subst hp; exact hs
  · exact h.mono hm

theorem stepJ_good {listed : Bool} {ss : List (List UInt8)} {js : AJ × Nat} {st : St} {n : Nat} (h : JarGood js.1 n) (ho : StOk st) : JarGood (stepJ listed ss js st).1 (n + 64) ∧ (stepJ listed ss js st).2 ≤ js.2 + 64 := by
  unfold stepJ
  have hdp := defPath_ne st.path
  have hdl : (defPath st.path).length ≤ maxLen := Nat.le_trans (defPath_len _) (by have := ho.plen; simp only [maxLen]; omega)
  have hhl : ((hostPart st.host).map lowB).length ≤ maxLen := by
    have h1 : (hostPart st.host).length ≤ st.host.length := (List.takeWhile_sublist _).length_le
    have := ho.hlen
    rw [List.length_map]; simp only [maxLen]; omega
  split
  · unfold stepSet
    split
    · have hq := setTo_seq listed ss ((hostPart st.host).map lowB) (defPath st.path) st.at' ⟨findA js.1 (keyOf listed ss ((hostPart st.host).map lowB)), false, js.2⟩ st.cks st.cks.length (Nat.le_refl _)
      have hcl := ho.clen
      refine ⟨?_, ?_⟩
      · unfold setA
        have hg := findA_good h (keyOf listed ss ((hostPart st.host).map lowB))
        have h1 := setTo_good (listed := listed) (ss := ss) (now := st.at') (st := ⟨findA js.1 (keyOf listed ss ((hostPart st.host).map lowB)), false, js.2⟩) hg.1 hg.2 ho.dom hhl hdp hdl ho.cks st.cks.length (Nat.le_refl _)
        exact endSet_good h (by omega) ⟨h1.1, Nat.le_trans h1.2 (by omega)⟩
      · have := hq.2
        show (setA listed ss js.1 js.2 _ _ _ _).2 ≤ _
        unfold setA
        simp only at this ⊢
        omega
    · exact ⟨h.mono (by omega), by simp⟩
  · refine ⟨?_, by simp⟩
    unfold stepAsk
    split
    · unfold askA
      split
      · exact h.mono (by omega)
      · rename_i L0 hL
        have hg := findA_good h (keyOf listed ss ((hostPart st.host).map lowB))
        rw [hL] at hg
        simp only [Option.getD_some] at hg
        unfold getA
        refine endSet_good h (by omega) ⟨?_, ?_⟩
        · intro e he
          simp only [Option.getD_some] at he
          obtain ⟨x, hx, hf⟩ := List.mem_filterMap.1 he
          have hxo := hg.1 x hx
          unfold fGo at hf
          repeat' split at hf
          · cases hf
          · cases hf; exact ⟨hxo.dlen, hxo.plen, hxo.pne, hxo.last, hxo.local', hxo.loop⟩
          · cases hf; exact hxo
        · simp only [Option.getD_some]
          exact Nat.le_trans (List.length_filterMap_le _ _) (by omega)
    · exact h.mono (by omega)

/-- The jar when k steps are done. -/
def jarAt (listed : Bool) (ss : List (List UInt8)) (sts : List St) (k : Nat) : AJ × Nat := (sts.take k).foldl (stepJ listed ss) ([], 0)
theorem jarAt_succ (listed : Bool) (ss : List (List UInt8)) (sts : List St) (k : Nat) (h : k < sts.length) : jarAt listed ss sts (k + 1) = stepJ listed ss (jarAt listed ss sts k) sts[k] := by
  unfold jarAt
  rw [List.take_succ_eq_append_getElem h, List.foldl_append]; rfl
theorem jarAt_good (listed : Bool) (ss : List (List UInt8)) (sts : List St) (ho : ∀ st ∈ sts, StOk st) : ∀ k, k ≤ sts.length → JarGood (jarAt listed ss sts k).1 (64 * k) ∧ (jarAt listed ss sts k).2 ≤ 64 * k
  | 0, _ => ⟨by intro p hp; simp [jarAt] at hp, by simp [jarAt]⟩
  | k + 1, hk => by
    rw [jarAt_succ _ _ _ _ (by omega)]
    obtain ⟨h1, h2⟩ := jarAt_good listed ss sts ho k (by omega)
    obtain ⟨h3, h4⟩ := stepJ_good (listed := listed) (ss := ss) h1 (ho sts[k] (List.getElem_mem _))
    exact ⟨h3, by omega⟩
/-- What the first k steps are to be given. -/
def expAt (listed : Bool) (ss : List (List UInt8)) (sts : List St) (k : Nat) : List (List Ent) := runA listed ss ([], 0) (sts.take k)
theorem expAt_succ (listed : Bool) (ss : List (List UInt8)) (sts : List St) (k : Nat) (h : k < sts.length) :
    expAt listed ss sts (k + 1) = expAt listed ss sts k ++ (if sts[k].set then [] else [stepSel listed ss (jarAt listed ss sts k).1 sts[k].sch (hostPart sts[k].host) sts[k].path sts[k].at']) := by
  unfold expAt
  rw [List.take_succ_eq_append_getElem h, runA_snoc]; rfl
end Go.Proofs.YtckfgnbilcjdpaaGreatDoor
/- The contract of Run. -/
namespace Go.Proofs.YtckfgnbilcjdpaaGreatDoor
open Go.RowKit Go.Sort
set_option maxRecDepth 100000

/-- An append whose run is known, at a step of a region that draws its order. -/
theorem step_append_run {ops : Array Oper} {a : Act} {K : Act → World → Prop} {Q : Exit → Act → World → Prop} {E : Prop} {w w' : World} {ts : Array TypeId} {v0 v1 v : Value} {x y : Operand} {dst : Option Tmp} {ty : TypeId} {pos : String} {after : Array Edge}
    (h : (Builtin.append_ ts ty #[v0, v1]).run Tryz.prog w = .ok v w') (he : a.eval x = v0) (he' : a.eval y = v1) (k : K (a.put dst v) w') :
    if Region.wanted ⟨dst, .call ⟨.builtin .append, #[x, y], ts⟩, ty, pos, after, none⟩ (yielded ops a.tmps) = true then Oper.wp Tryz.prog ⟨dst, .call ⟨.builtin .append, #[x, y], ts⟩, ty, pos, after, none⟩ a w K Q else E := by
  rw [if_pos (by simp [Region.wanted])]
  have hr : (execOp a.eval ⟨dst, .call ⟨.builtin .append, #[x, y], ts⟩, ty, pos, after, none⟩).run Tryz.prog w = .ok (.value v) w' := by
    simp only [execOp, resolve, List.map_toArray, List.map_cons, List.map_nil, he, he', Sem.run_bind, Sem.run_pure, Result.andThen, invoke, builtin, h]
  simp only [Oper.wp, hr, Oper.upon]
  exact k

theorem runA_len (listed : Bool) (ss : List (List UInt8)) : ∀ (l : List St) (js : AJ × Nat), (runA listed ss js l).length ≤ l.length
  | [], _ => Nat.le_refl _
  | a :: r, js => by
    have := runA_len listed ss r (stepJ listed ss js a)
    simp only [runA, List.length_append, List.length_cons]
    split <;> simp <;> omega
theorem expAt_len (listed : Bool) (ss : List (List UInt8)) (sts : List St) (k : Nat) : (expAt listed ss sts k).length ≤ k :=
  Nat.le_trans (runA_len listed ss _ _) (by rw [List.length_take]; omega)

theorem RowOf.rebase {α : Type} {w : World} {base base' : Nat} {T : TypeId} {enc : α → List Value} {k : Nat} {v : Value} {L : List α} (h : RowOf w base T enc k v L) (hb : base' ≤ base) : RowOf w base' T enc k v L := by
  refine ⟨h.1, ?_⟩
  rcases h.2 with h1 | ⟨g, cap, cur, e, hg, hr⟩
  · exact Or.inl h1
  · exact Or.inr ⟨g, cap, cur, e, Nat.le_trans hb hg, hr⟩

theorem stepSel_len {J : AJ} {n : Nat} (h : JarGood J n) (listed : Bool) (ss : List (List UInt8)) (sch hh path : List UInt8) (s : Int) : (stepSel listed ss J sch hh path s).length ≤ n := by
  unfold stepSel
  split
  · exact Nat.le_trans (List.length_filterMap_le _ _) (findA_good h _).2
  · simp

theorem storeNew_gen {T : TypeId} {k : Nat} (hz : ∀ w, (Go.sizeOf T).run Tryz.prog w = .ok k w) (Z cs : List Value) (hZ : Z.length = k) (hc : cs.length = k) (h1 : ∀ u ∈ cs, u.oneCell' = true) (w : World) :
    (Instr.storeAt T (.pointer (some ⟨w.heap.size, 0, none⟩)) (.agg cs.toArray)).run Tryz.prog (w.alloc (.cells Z.toArray T)) = .ok () (w.alloc (.cells cs.toArray T)) := by
  have h := storeAt_agg hz (BlkAt.made w Z T) hZ hc h1
  rw [h]
  have := setCells_new cs 0 [] Z w T rfl (by rw [hZ, hc])
  simp only [List.nil_append] at this
  rw [this]

/-- The pairs that one step that asks is given. -/
def encPr (x : Ent) : List Value := [.string (bs x.name), .string (bs x.value)]
/-- A slice as a cell. -/
def encV (v : Value) : List Value := [v]

theorem info68 : (Tryz.prog.info? 68).map (fun i => (i.zero, i.size, i.bytes)) = some (some (.agg #[.string ⟨#[]⟩, .string ⟨#[]⟩]), 2, 32) := by kernel_rfl
theorem info33 : (Tryz.prog.info? 33).map (fun i => (i.zero, i.size, i.bytes)) = some (some (.slice none 0 0), 1, 24) := by kernel_rfl

theorem buildPr (x : Ent) (w : World) : (Instr.buildSlice 33 1 #[(0, .agg (encPr x).toArray)]).run Tryz.prog w = .ok (.slice (some ⟨w.heap.size, 0, none⟩) 1 1) (w.alloc (.cells (encPr x).toArray 68)) := by
  obtain ⟨i, hi, hz, hs, _⟩ := info_parts info68
  exact build_one (cs := encPr x) Tryz.underlying33 hi hz hs rfl (by decide : 0 < 2) (by decide : 2 ≤ 1000) _ rfl w
theorem appendPr {base : Nat} {v : Value} {L : List Ent} {w : World} (x : Ent) (g : Nat) (hr : RowOf w base 68 encPr 2 v L) (hl : L.length ≤ 100000000) (hbase : base ≤ w.heap.size) (hx : BlkAt w g (encPr x)) :
    ∀ ty, ∃ v' w', (Builtin.append_ #[33, 33] ty #[v, .slice (some ⟨g, 0, none⟩) 1 1]).run Tryz.prog w = .ok v' w' ∧ RowOf w' base 68 encPr 2 v' (L ++ [x]) ∧ Keeps (fun j => v.ownBlock = some j) w w' ∧ (∀ j, v'.ownBlock = some j → v.ownBlock = some j ∨ j = w.heap.size) := by
  obtain ⟨i, hi, hz, hs, hb⟩ := info_parts info68
  exact append_one (enc := encPr) (k := 2) (fun _ => rfl) (fun x u hu => by simp only [encPr, List.mem_cons, List.not_mem_nil, or_false] at hu; rcases hu with rfl | rfl <;> rfl) Tryz.underlying33 hi hz hs hb rfl (by decide) (by decide) x g hr hl hbase hx

/-- A slice value: what a cell of a slice of slices holds. -/
structure SlV where
  A : Option Addr
  n : Nat
  c : Nat
def SlV.val (s : SlV) : Value := .slice s.A s.n s.c
def encSV (s : SlV) : List Value := [s.val]
theorem buildV (s : SlV) (w : World) : (Instr.buildSlice 31 1 #[(0, s.val)]).run Tryz.prog w = .ok (.slice (some ⟨w.heap.size, 0, none⟩) 1 1) (w.alloc (.cells (encSV s).toArray 33)) := by
  obtain ⟨i, hi, hz, hs, _⟩ := info_parts info33
  exact build_one (cs := encSV s) Tryz.underlying31 hi hz hs rfl (by decide : 0 < 1) (by decide : 1 ≤ 1000) _ rfl w
theorem appendV {base : Nat} {v : Value} {L : List SlV} {w : World} (x : SlV) (g : Nat) (hr : RowOf w base 33 encSV 1 v L) (hl : L.length ≤ 100000000) (hbase : base ≤ w.heap.size) (hx : BlkAt w g (encSV x)) :
    ∀ ty, ∃ v' w', (Builtin.append_ #[31, 31] ty #[v, .slice (some ⟨g, 0, none⟩) 1 1]).run Tryz.prog w = .ok v' w' ∧ RowOf w' base 33 encSV 1 v' (L ++ [x]) ∧ Keeps (fun j => v.ownBlock = some j) w w' ∧ (∀ j, v'.ownBlock = some j → v.ownBlock = some j ∨ j = w.heap.size) := by
  obtain ⟨i, hi, hz, hs, hb⟩ := info_parts info33
  exact append_one (enc := encSV) (k := 1) (fun _ => rfl) (fun x u hu => by simp only [encSV, List.mem_singleton] at hu; subst hu; rfl) Tryz.underlying31 hi hz hs hb rfl (by decide) (by decide) x g hr hl hbase hx

/-- What was handed out is what was to be given, in the jar's order. -/
def OutsOk (outs exps : List (List Ent)) : Prop :=
  outs.length = exps.length ∧ ∀ i (h1 : i < outs.length) (h2 : i < exps.length), outs[i].Perm exps[i] ∧ outs[i].Pairwise (fun x y => ltOf cmpSel y x = false)

/-- What Run has made by the time that k steps are done. -/
structure RunAt (w wr : World) (jb eb : Nat) (pv : Value) (listed : Bool) (ss : List (List UInt8)) (sts : List St) (k : Nat) (v10 : Value) : Prop where
  st : ∃ (J : JB) (outs : List (List Ent)) (vs : List SlV), JarMem wr jb eb pv J (jarAt listed ss sts k).2 ∧ strip J = (jarAt listed ss sts k).1 ∧ (∀ b ∈ footJ jb eb J, w.heap.size ≤ b ∧ v10.ownBlock ≠ some b) ∧
    RowOf wr w.heap.size 33 encSV 1 v10 vs ∧ vs.length = outs.length ∧
    (∀ i (h1 : i < vs.length) (h2 : i < outs.length), RowOf wr w.heap.size 68 encPr 2 vs[i].val outs[i] ∧ ∀ g, vs[i].val.ownBlock = some g → g ∉ footJ jb eb J ∧ v10.ownBlock ≠ some g) ∧
    OutsOk outs (expAt listed ss sts k)
  below : RowKit.Below w.heap.size w wr

theorem RunAt.go {w wr w' : World} {jb eb : Nat} {pv : Value} {listed : Bool} {ss : List (List UInt8)} {sts : List St} {k : Nat} {v10 : Value} (h : RunAt w wr jb eb pv listed ss sts k v10) (hb : RowKit.Below wr.heap.size wr w') : RunAt w w' jb eb pv listed ss sts k v10 := by
  obtain ⟨⟨J, outs, vs, h1, h2, h3, h4, h5, h6, h7⟩, h8⟩ := h
  exact ⟨⟨J, outs, vs, h1.below hb, h2, h3, h4.below hb, h5, fun i a b => ⟨(h6 i a b).1.below hb, (h6 i a b).2⟩, h7⟩, h8.trans (hb.mono h8.size)⟩

theorem encS_one (st : St) (A : Option Addr) (n c : Nat) : ∀ u ∈ encS st (.slice A n c), u.oneCell' = true := by
  intro u hu
  simp only [encS, List.mem_cons, List.not_mem_nil, or_false] at hu
  rcases hu with rfl | rfl | rfl | rfl | rfl | rfl <;> rfl
theorem encI_one (c : Ck) : ∀ u ∈ encI c, u.oneCell' = true := by
  intro u hu
  simp only [encI, List.mem_cons, List.not_mem_nil, or_false] at hu
  rcases hu with rfl | rfl | rfl | rfl | rfl | rfl | rfl <;> rfl

theorem storeNewS (w : World) (st : St) (A : Option Addr) (n c : Nat) :
    (Instr.storeAt 40 (.pointer (some ⟨w.heap.size, 0, none⟩)) (.agg (encS st (.slice A n c)).toArray)).run Tryz.prog (w.alloc (.cells #[.bool false, .int .i64 0, .string ⟨#[]⟩, .string ⟨#[]⟩, .string ⟨#[]⟩, .slice none 0 0] 40)) = .ok () (w.alloc (.cells (encS st (.slice A n c)).toArray 40)) :=
  storeNew_gen Tryz.sizeOf40 [.bool false, .int .i64 0, .string ⟨#[]⟩, .string ⟨#[]⟩, .string ⟨#[]⟩, .slice none 0 0] _ rfl rfl (encS_one st A n c) w
theorem storeNewI (w : World) (c : Ck) :
    (Instr.storeAt 47 (.pointer (some ⟨w.heap.size, 0, none⟩)) (.agg (encI c).toArray)).run Tryz.prog (w.alloc (.cells #[.string ⟨#[]⟩, .string ⟨#[]⟩, .string ⟨#[]⟩, .string ⟨#[]⟩, .int .i64 0, .int .i64 0, .bool false] 47)) = .ok () (w.alloc (.cells (encI c).toArray 47)) :=
  storeNew_gen Tryz.sizeOf47 [.string ⟨#[]⟩, .string ⟨#[]⟩, .string ⟨#[]⟩, .string ⟨#[]⟩, .int .i64 0, .int .i64 0, .bool false] _ rfl rfl (encI_one c) w

set_option maxHeartbeats 8000000 in
theorem run_any (listed : Bool) (ss : List (List UInt8)) (A : Option Addr) (cap : Nat) (v2 : Value) (l : List (St × Value)) (w : World) (t0 : TypeId) (v0 : Value)
    (hg : w.cell? ⟨0, 0, none⟩ = some (.iface t0 v0)) (hss : CellsAt w A (strCells ss)) (hn : ss.length ≤ maxLen) (hs : ∀ s ∈ ss, s.length ≤ maxLen)
    (hst : StSl w v2 l) (hok : ∀ p ∈ l, StOk p.1) (hl : l.length ≤ 64) :
    Calls Tryz.prog 9 #[.bool listed, .slice A ss.length cap, v2] w fun e w' => ∃ v outs vs, e = .returned v ∧ OutsOk outs (expAt listed ss (l.map Prod.fst) l.length) ∧ RowOf w' w.heap.size 33 encSV 1 v vs ∧ vs.length = outs.length ∧ (∀ i (h1 : i < vs.length) (h2 : i < outs.length), RowOf w' w.heap.size 68 encPr 2 vs[i].val outs[i]) ∧ RowKit.Below w.heap.size w w' := by
  obtain ⟨A2, cap2, rfl, hcells, hcks⟩ := hst
  obtain ⟨pv, hpv⟩ : ∃ pv : Value, pv = if listed then .iface 74 (.slice A ss.length cap) else .nilIface := ⟨_, rfl⟩
  have hpp : Hid (PslAt w pv listed ss) := by
    rw [Hid, hpv]; unfold PslAt
    cases listed with
    | true => exact ⟨A, cap, rfl, hss⟩
    | false => rfl
  have hpi : Hid (pv = .nilIface ∨ ∃ t v, pv = .iface t v) := by
    rw [Hid, hpv]
    cases listed with
    | true => exact Or.inr ⟨_, _, rfl⟩
    | false => exact Or.inl rfl
  have HPV := Lib.hid hpv; clear hpv
  have HG := Lib.hid hg; clear hg
  have HSS := Lib.hid hss; clear hss
  have HN := Lib.hid hn; clear hn
  have HS := Lib.hid hs; clear hs
  have HCE := Lib.hid hcells; clear hcells
  have HCK := Lib.hid hcks; clear hcks
  have HO := Lib.hid hok; clear hok
  go_enter Tryz.func9, Tryz.ntmps9
  go_upto_if 23 with (fail)
  go_cut [] (fun wx => wx = w.alloc (.cells #[pv] 73))
  case first =>
    cases listed with
    | true =>
      have hq : Hid (pv = .iface 74 (.slice A ss.length cap)) := HPV.out
      go_wp2_with fail
      go_meet
      case rel => rw [hq.out]
    | false =>
      have hq : Hid (pv = .nilIface) := HPV.out
      go_wp2_with fail
      go_meet
      case rel => rw [hq.out]
  case rest =>
    subst hcut
    have hb1 : Hid (RowKit.Below w.heap.size w (w.alloc (.cells #[pv] 73))) := (Below.refl _ _).alloc (Nat.le_refl _) _
    have hob : (w.alloc (.cells #[pv] 73)).cell? ⟨w.heap.size, 0, none⟩ = some pv := (BlkAt.made w [pv] 73 0 pv rfl).1
    go_wp2_with fail
    refine (new_any w.heap.size pv _ hob hpi.out).mono ?_
    rintro e w1 ⟨jb, eb, rfl, hs1, hs2, hj, hb2⟩
    have hz : w.heap.size ≤ (w.alloc (.cells #[pv] 73)).heap.size := hb1.out.size
    have hB1 : Hid (RowKit.Below w.heap.size w w1) := hb1.out.trans (hb2.mono hz)
    have hR0 : Hid (RunAt w w1 jb eb pv listed ss (l.map Prod.fst) 0 (.slice none 0 0)) := by
      refine ⟨⟨[], [], [], hj, rfl, ?_, RowOf.nil _ _ _ _ _, rfl, fun i h1 _ => absurd h1 (Nat.not_lt_zero _), rfl, fun i h1 _ => absurd h1 (Nat.not_lt_zero _)⟩, hB1.out⟩
      intro b hb
      refine ⟨?_, fun e => by cases e⟩
      simp only [footJ, List.mem_cons, List.map_nil, List.not_mem_nil, or_false] at hb
      rcases hb with rfl | rfl <;> omega
    clear hb2 hj hb1 hob
    go_wp2
    go_loopw [10, 36] (fun v10 i wr => ∃ k : Nat, k ≤ l.length ∧ i = .int .i64 k ∧ Hid (RunAt w wr jb eb pv listed ss (l.map Prod.fst) k v10)) (fun _ i _ => l.length - (intOf i).toNat)
    case atStart => exact ⟨0, Nat.zero_le _, rfl, hR0.out⟩
    case round =>
      obtain ⟨k, hk, rfl, hra⟩ := hrel
      by_cases hlt : k < l.length
      · obtain ⟨st, hst⟩ : ∃ st, st = l[k].1 := ⟨_, rfl⟩
        obtain ⟨A3, cap3, hsl, hck⟩ := HCK.out l[k] (List.getElem_mem hlt)
        rcases HCE.out with h0 | ⟨b2, o2, rfl, hrows⟩
        · rw [h0] at hlt; exact absurd hlt (Nat.not_lt_zero _)
        have hrow := (hrows k hlt).below hra.out.below
        rw [← hst, hsl, ← hst] at hrow
        have hso : Hid (StOk st) := by rw [Hid, hst]; exact HO.out _ (List.getElem_mem hlt)
        rw [← hst] at hck
        have HCKK := Lib.hid hck; clear hck hsl hrows
        have HST := Lib.hid hst; clear hst
        have HL := Lib.hid (loadAt_agg Tryz.isAgg40 Tryz.sizeOf40 hrow rfl)
        clear hrow
        go_upto_region 9 with (first | ((with_reducible refine wpL_load HL.out ?_ ?_); rfl) | ((with_reducible refine wpL_store (storeNewS _ st A3 st.cks.length cap3) ?_ ?_ ?_); rfl; rfl))
        rw [put_none]
        have hS3 : Hid (BlkAt (wr.alloc (.cells (encS st (.slice A3 st.cks.length cap3)).toArray 40)) wr.heap.size (encS st (.slice A3 st.cks.length cap3))) := BlkAt.made wr _ 40
        have hra3 : Hid (RunAt w (wr.alloc (.cells (encS st (.slice A3 st.cks.length cap3)).toArray 40)) jb eb pv listed ss (l.map Prod.fst) k u10) := hra.out.go ((Below.refl _ _).alloc (Nat.le_refl _) _)
        clear hra HL
        generalize wr.alloc (.cells (encS st (.slice A3 st.cks.length cap3)).toArray 40) = w3 at hS3 hra3 ⊢
        generalize wr.heap.size = bS at hS3 ⊢
        have x0 := hS3.out.cell 0 rfl
        have x1 := hS3.out.cell 1 rfl
        have x2 := hS3.out.cell 2 rfl
        have x3 := hS3.out.cell 3 rfl
        have x4 := hS3.out.cell 4 rfl
        have hbS : bS < w3.heap.size := World.block_lt_of_cell? w3 _ x0
        have hU4 : BlkAt (w3.alloc (.cells #[.string (bs st.sch), .string (bs st.host), .string (bs st.path)] 81)) w3.heap.size [.string (bs st.sch), .string (bs st.host), .string (bs st.path)] := BlkAt.made w3 _ 81
        have hB4 : RowKit.Below w3.heap.size w3 (w3.alloc (.cells #[.string (bs st.sch), .string (bs st.host), .string (bs st.path)] 81)) := (Below.refl _ _).alloc (Nat.le_refl _) _
        go_wp2_with fail
        refine (unix_any st.at' 0 _).mono ?_
        rintro e w5 ⟨rfl, hb5⟩
        have hU5 : Hid (BlkAt w5 w3.heap.size [.string (bs st.sch), .string (bs st.host), .string (bs st.path)]) := hU4.below hb5
        have hB5 : Hid (RowKit.Below w3.heap.size w3 w5) := hB4.trans (hb5.mono hB4.size)
        have hS5 : Hid (BlkAt w5 bS (encS st (.slice A3 st.cks.length cap3))) := hS3.out.below hB5.out
        have hra5 : Hid (RunAt w w5 jb eb pv listed ss (l.map Prod.fst) k u10) := hra3.out.go hB5.out
        have hu3 : w3.heap.size < w5.heap.size := World.block_lt_of_cell? w5 _ (hU5.out 0 _ rfl).1
        clear hU4 hB4 hb5 hS3 hra3 x0 x1 x2 x3 x4
        generalize w3.heap.size = ub at hU5 hu3 hbS ⊢
        have x0 := hS5.out.cell 0 rfl
        have hbS5 : bS < w5.heap.size := by omega
        go_upto_region 11 with (fail)
        have hT6 : Hid (BlkAt (w5.alloc (.cells #[.int .i64 st.at', .int .i64 0] 83)) w5.heap.size [.int .i64 st.at', .int .i64 0]) := BlkAt.made w5 _ 83
        have hU6 : Hid (BlkAt (w5.alloc (.cells #[.int .i64 st.at', .int .i64 0] 83)) ub [.string (bs st.sch), .string (bs st.host), .string (bs st.path)]) := hU5.out.alloc _
        have hS6 : Hid (BlkAt (w5.alloc (.cells #[.int .i64 st.at', .int .i64 0] 83)) bS (encS st (.slice A3 st.cks.length cap3))) := hS5.out.alloc _
        have hra6 : Hid (RunAt w (w5.alloc (.cells #[.int .i64 st.at', .int .i64 0] 83)) jb eb pv listed ss (l.map Prod.fst) k u10) := hra5.out.go ((Below.refl _ _).alloc (Nat.le_refl _) _)
        clear hU5 hB5 hS5 hra5 x0 hbS5 hu3 hbS
        generalize w5.alloc (.cells #[.int .i64 st.at', .int .i64 0] 83) = w6 at hT6 hU6 hS6 hra6 ⊢
        generalize w5.heap.size = tb at hT6 ⊢
        have x0 := hS6.out.cell 0 rfl
        have T0 := hT6.out.cell 0 rfl
        have T1 := hT6.out.cell 1 rfl
        obtain ⟨⟨J, outs, vs, hj, hsj, hfo, hro, hvl, hvs, hou⟩, hbel⟩ := hra6.out
        clear hra6
        have hkm : k ≤ (l.map Prod.fst).length := by rw [List.length_map]; exact hk
        have hsts : ∀ st ∈ l.map Prod.fst, StOk st := by
          intro s hs; obtain ⟨p, hp, rfl⟩ := List.mem_map.1 hs; exact HO.out p hp
        obtain ⟨hgood, hseq⟩ := jarAt_good listed ss (l.map Prod.fst) hsts k hkm
        have hjok : Hid (∀ p ∈ J, (∀ e ∈ p.2.2, EntOk e) ∧ p.2.2.length ≤ 1000000) := by
          intro p hp
          have hm : (p.1, p.2.2) ∈ (jarAt listed ss (l.map Prod.fst) k).1 := by rw [← hsj]; exact List.mem_map.2 ⟨p, hp, rfl⟩
          have h1 := hgood _ hm
          have h2 : 64 * k ≤ 1000000 := by omega
          exact ⟨h1.1, Nat.le_trans h1.2 h2⟩
        have hsq : (jarAt listed ss (l.map Prod.fst) k).2 ≤ 1000000 := by omega
        have hstk : Hid ((l.map Prod.fst)[k]'(by rw [List.length_map]; exact hlt) = st) := by rw [Hid, List.getElem_map, HST.out]
        have HJ := Lib.hid hj; clear hj
        have HSJ := Lib.hid hsj; clear hsj
        have HFO := Lib.hid hfo; clear hfo
        have HRO := Lib.hid hro; clear hro
        have HVS := Lib.hid hvs; clear hvs
        have HOU := Lib.hid hou; clear hou
        have HBEL := Lib.hid hbel; clear hbel hgood hsts
        cases hset : st.set with
        | false =>
          rw [hset] at x0
          have HSET := Lib.hid hset; clear hset
          go_wp2_with fail
          refine (cookiesAt_any jb eb pv listed ss J _ w w6 ub st.at' st.host (hostPart st.host) st.sch st.path HBEL.out hpp.out HN.out HS.out HJ.out (fun b hb => (HFO.out b hb).1) hjok.out hU6.out.row hso.out.good hso.out.raw hso.out.hlen hso.out.plen).mono ?_
          rintro e w7 ⟨v7, d, rfl, hdp, hds, hout, hto⟩
          have HDP := Lib.hid hdp; clear hdp
          have HDS := Lib.hid hds; clear hds
          have HTO := Lib.hid hto; clear hto
          obtain ⟨base7, cbs, hrow7, hcl7, hck7⟩ := hout
          have HCK7 := Lib.hid hck7; clear hck7
          obtain ⟨A7, cap7, hv7, hA7⟩ : ∃ A7 cap7, v7 = .slice A7 d.length cap7 ∧ Hid (d.length = 0 ∨ ∃ g, A7 = some ⟨g, 0, none⟩ ∧ HoldsK encP 1 w7 g 0 cbs.toArray) := by
            rcases hrow7.form with ⟨h1, h2⟩ | ⟨g, cap, h1, h2, h3⟩
            · subst h2; exact ⟨none, 0, by rw [h1, ← hcl7]; rfl, Or.inl (by rw [← hcl7]; rfl)⟩
            · rw [h1] at hrow7
              exact ⟨_, cap, by rw [h1, hcl7], Or.inr ⟨g, rfl, (RowOf.holds (enc := encP) (k := 1) (fun _ => rfl) (by decide) hrow7).2.1⟩⟩
          have hdl : d.length ≤ 1000000 := by
            rw [HDP.out.length_eq]
            refine stepSel_len (fun p hp => ?_) _ _ _ _ _ _
            obtain ⟨q, hq, rfl⟩ := List.mem_map.1 hp
            exact hjok.out q hq
          clear hrow7 x0 T0 T1
          subst hv7
          go_wp2
          go_loopw [15, 62] (fun v15 i wx => ∃ j : Nat, j ≤ d.length ∧ i = .int .i64 j ∧ Hid (RowOf wx w7.heap.size 68 encPr 2 v15 (d.take j)) ∧ Hid (RowKit.Below w7.heap.size w7 wx)) (fun _ i _ => d.length - (intOf i).toNat)
          case atStart => exact ⟨0, Nat.zero_le _, rfl, RowOf.nil _ _ _ _ _, Below.refl _ _⟩
          case round =>
            obtain ⟨j, hj, rfl, hr15, hbx⟩ := hrel
            by_cases hjl : j < d.length
            · rcases hA7.out with h0 | ⟨g, rfl, hH⟩
              · omega
              have hjc : j < cbs.length := by omega
              have hc0 := (hH.cell (i := j) (c := 0) (by simpa using hjc) (by decide)).1
              rw [show cbs.toArray[j]! = cbs[j] by rw [getElem!_pos cbs.toArray j (by simpa using hjc)]; simp, show 0 + j * 1 + 0 = j by omega, ← hbx.out.cell (World.block_lt_of_cell? w7 _ hc0)] at hc0
              change _ = some (Value.pointer (some ⟨cbs[j], 0, none⟩)) at hc0
              have hck := (HCK7.out j hjc hjl).below hbx.out
              have c0 := hck.cell 0 rfl
              have c1 := hck.cell 1 rfl
              obtain ⟨x, hx⟩ : ∃ x, x = d[j] := ⟨_, rfl⟩
              rw [← hx] at c0 c1
              obtain ⟨cb, hcb⟩ : ∃ cb, cb = cbs[j] := ⟨_, rfl⟩
              rw [← hcb] at hc0 c0 c1
              have HX := Lib.hid hx; clear hx hck hH
              have HCB := Lib.hid hcb; clear hcb
              go_upto_region 16 with (fail)
              have HBE := Lib.hid (buildPr x wr.drew)
              have hrd : RowOf wr.drew w7.heap.size 68 encPr 2 u15 (d.take j) := hr15.out.keepsOwn ((Keeps.refl (fun _ => False) wr).drew) (fun _ _ h => h)
              have hP4 : BlkAt (wr.drew.alloc (.cells (encPr x).toArray 68)) wr.drew.heap.size (encPr x) := BlkAt.made _ _ _
              have hsz4 : (wr.drew.alloc (.cells (encPr x).toArray 68)).heap.size = wr.heap.size + 1 := by simp
              have hbs := hbx.out.size
              obtain ⟨v', w9, hap, hr9, hk9, hn9⟩ := appendPr x wr.drew.heap.size (hrd.alloc (.cells (encPr x).toArray 68)) (by rw [List.length_take]; omega) (by omega) hP4 33
              have HAP := Lib.hid hap; clear hap
              have hr9' : RowOf w9 w7.heap.size 68 encPr 2 v' (d.take (j + 1)) := by
                rw [List.take_succ_eq_append_getElem hjl, ← HX.out]; exact hr9
              have HR9 := Lib.hid hr9'; clear hr9 hr9'
              have HB9 : Hid (RowKit.Below w7.heap.size w7 w9) :=
                (hbx.out.drew.alloc hbs _).trans (hk9.toBelow (by omega) (fun g hg => (hrd.own g hg).1))
              have hck9 := (HCK7.out j hjc hjl).below HB9.out
              rw [← HCB.out, ← HX.out] at hck9
              have d0 := hck9.cell 0 rfl
              have d1 := hck9.cell 1 rfl
              clear hck9
              clear hk9 hn9 hP4 hrd hr15
              go_region_held3 (fun w' => w'.cell? ⟨cb, 0, none⟩ = some (.string (bs x.name)) ∧ w'.cell? ⟨cb, 1, none⟩ = some (.string (bs x.value))) (go_keep) (first | (refine step_append_run HAP.out rfl rfl ?_))
              all_goals go_wp2
              go_roundw
              case rel => exact ⟨j + 1, by omega, by go_num, HR9.out, HB9.out⟩
              case measure => simp [intOf]; omega
            · have hjd : j = d.length := Nat.le_antisymm hj (Nat.le_of_not_lt hjl)
              rw [hjd, List.take_length] at hr15
              obtain ⟨sv, hsv⟩ : ∃ sv : SlV, u15 = sv.val := by
                rcases hr15.out.form with ⟨h1, _⟩ | ⟨g, cap, h1, _, _⟩
                · exact ⟨⟨none, 0, 0⟩, h1⟩
                · exact ⟨⟨_, _, cap⟩, h1⟩
              subst hsv
              obtain ⟨J7, hj7, hs7, hk7, hf7⟩ := HTO.out
              have HBV := Lib.hid (buildV sv wr)
              have hs6 := hk7.size
              have hbs := hbx.out.size
              have hb6 := HBEL.out.size
              have hro7 : RowOf w7 w.heap.size 33 encSV 1 u10 vs := HRO.out.keepsOwn hk7 (fun g hg hm => (HFO.out g hm).2 hg)
              have hrov := (hro7.below hbx.out).alloc (.cells (encSV sv).toArray 33)
              have hP4 : BlkAt (wr.alloc (.cells (encSV sv).toArray 33)) wr.heap.size (encSV sv) := BlkAt.made _ _ _
              have hsz4 : (wr.alloc (.cells (encSV sv).toArray 33)).heap.size = wr.heap.size + 1 := by simp
              have hvl2 : vs.length ≤ 100000000 := by
                have h1 := HOU.out.1
                have h2 := expAt_len listed ss (l.map Prod.fst) k
                omega
              obtain ⟨v', w9, hap, hr9, hk9, hn9⟩ := appendV sv wr.heap.size hrov hvl2 (by omega) hP4 31
              have HAP := Lib.hid hap; clear hap
              have hra9 : Hid (RunAt w w9 jb eb pv listed ss (l.map Prod.fst) (k + 1) v') := by
                have hlt' : k < (l.map Prod.fst).length := by rw [List.length_map]; exact hlt
                have hjs : jarAt listed ss (l.map Prod.fst) (k + 1) = (stepAsk listed ss (strip J) st.sch (hostPart st.host) st.path st.at', (jarAt listed ss (l.map Prod.fst) k).2) := by
                  rw [jarAt_succ _ _ _ _ hlt', hstk.out, stepJ, HSET.out, HSJ.out]; rfl
                have hex : expAt listed ss (l.map Prod.fst) (k + 1) = expAt listed ss (l.map Prod.fst) k ++ [stepSel listed ss (strip J) st.sch (hostPart st.host) st.path st.at'] := by
                  rw [expAt_succ _ _ _ _ hlt', hstk.out, HSET.out, HSJ.out]; rfl
                have hown10 := HRO.out.own
                have hownv := hr15.out.own
                have hf7w := hj7.foot_lt
                have hnf : ∀ g, u10.ownBlock = some g → g ∉ footJ jb eb J7 := by
                  intro g hg hm
                  rcases hf7 g hm with h | h
                  · exact (HFO.out g h).2 hg
                  · have := (hown10 g hg).2; omega
                have hjW : JarMem wr jb eb pv J7 (stepAsk listed ss (strip J) st.sch (hostPart st.host) st.path st.at', (jarAt listed ss (l.map Prod.fst) k).2).2 := hj7.below hbx.out
                refine ⟨⟨J7, outs ++ [d], vs ++ [sv], ?_, ?_, ?_, hr9, by simp [hvl], ?_, ?_, ?_⟩, ?_⟩
                · rw [hjs]
                  exact (hjW.below ((Below.refl _ _).alloc (Nat.le_refl _) (.cells (encSV sv).toArray 33))).keeps hk9 (fun b hb hm => hnf b hm hb)
                · rw [hjs]; exact hs7
                · intro b hb
                  have h7 := hf7w b hb
                  refine ⟨?_, fun e => ?_⟩
                  · rcases hf7 b hb with h | h
                    · exact (HFO.out b h).1
                    · omega
                  · rcases hn9 b e with h | h
                    · exact hnf b h hb
                    · omega
                · intro i h1 h2
                  by_cases hi : i < vs.length
                  · have ho2 : i < outs.length := by omega
                    rw [List.getElem_append_left hi, List.getElem_append_left ho2]
                    obtain ⟨g1, g2⟩ := HVS.out i hi ho2
                    have g3 := g1.own
                    refine ⟨(((g1.keepsOwn hk7 (fun g hg hm => (g2 g hg).1 hm)).below hbx.out).alloc (.cells (encSV sv).toArray 33)).keepsOwn hk9 (fun g hg hm => (g2 g hg).2 hm), fun g hg => ⟨fun hm => ?_, fun e => ?_⟩⟩
                    · rcases hf7 g hm with h | h
                      · exact (g2 g hg).1 h
                      · have := (g3 g hg).2; omega
                    · rcases hn9 g e with h | h
                      · exact (g2 g hg).2 h
                      · have := (g3 g hg).2; omega
                  · have hiv : i = vs.length := by simp at h1; omega
                    subst hiv
                    rw [List.getElem_append_right (by omega), List.getElem_append_right (by omega)]
                    simp only [hvl, Nat.sub_self, List.getElem_cons_zero]
                    refine ⟨((hr15.out.rebase (by omega)).alloc (.cells (encSV sv).toArray 33)).keepsOwn hk9 (fun g hg hm => ?_), fun g hg => ⟨fun hm => ?_, fun e => ?_⟩⟩
                    · have := (hownv g hg).1; have := (hown10 g hm).2; omega
                    · have := (hownv g hg).1; have := hf7w g hm; omega
                    · rcases hn9 g e with h | h
                      · have := (hownv g hg).1; have := (hown10 g h).2; omega
                      · have := (hownv g hg).2; omega
                · rw [hex]; simp [HOU.out.1]
                · intro i h1 h2
                  by_cases hi : i < outs.length
                  · have hi2 : i < (expAt listed ss (l.map Prod.fst) k).length := by rw [← HOU.out.1]; exact hi
                    have hq : (expAt listed ss (l.map Prod.fst) (k + 1))[i] = (expAt listed ss (l.map Prod.fst) k)[i] := by
                      simp only [hex, List.getElem_append_left hi2]
                    rw [List.getElem_append_left hi, hq]
                    exact HOU.out.2 i hi hi2
                  · have hiv : i = outs.length := by simp at h1; omega
                    subst hiv
                    have hq : (expAt listed ss (l.map Prod.fst) (k + 1))[outs.length] = stepSel listed ss (strip J) st.sch (hostPart st.host) st.path st.at' := by
                      simp only [hex]
                      rw [List.getElem_append_right (by rw [HOU.out.1]; exact Nat.le_refl _)]
                      simp [HOU.out.1]
                    rw [List.getElem_append_right (by omega), hq]
                    simp only [Nat.sub_self, List.getElem_cons_zero]
                    exact ⟨HDP.out, HDS.out⟩
                · have hw67 : RowKit.Below w.heap.size w6 w7 := hk7.toBelow hb6 (fun g hg => (HFO.out g hg).1)
                  have hw79 : RowKit.Below w.heap.size w7 w9 := ((hbx.out.mono (by omega)).alloc (by omega) _).trans (hk9.toBelow (by omega) (fun g hg => (hown10 g hg).1))
                  exact (HBEL.out.trans hw67).trans hw79
              go_wp2_with (first | ((with_reducible refine wpL_build1 HBV.out ?_ ?_); rfl) | ((with_reducible refine wpL_append HAP.out ?_ ?_ ?_); rfl; rfl))
              exact ⟨⟨k + 1, by omega, by go_num, hra9.out⟩, by simp [intOf]; omega⟩
        | true =>
          rw [hset] at x0
          have x5 := hS6.out.cell 5 rfl
          have HSET := Lib.hid hset; clear hset
          have hb6 := HBEL.out.size
          go_wp2
          go_loopw [18, 86] (fun v18 i wx => ∃ (j : Nat) (cbs : List Nat), j ≤ st.cks.length ∧ i = .int .i64 j ∧ cbs.length = j ∧ Hid (RowOf wx w6.heap.size 87 encP 1 v18 cbs) ∧ Hid (RowKit.Below w6.heap.size w6 wx) ∧
            Hid (∀ i (h1 : i < cbs.length) (h2 : i < st.cks.length), BlkAt wx cbs[i] (encC st.cks[i])) ∧ Hid (∀ x ∈ cbs, w6.heap.size ≤ x ∧ v18.ownBlock ≠ some x)) (fun _ i _ => st.cks.length - (intOf i).toNat)
          case atStart =>
            exact ⟨0, [], Nat.zero_le _, rfl, rfl, RowOf.nil _ _ _ _ _, Below.refl _ _, fun i h1 _ => absurd h1 (Nat.not_lt_zero _), fun x hx => by cases hx⟩
          case round =>
            obtain ⟨j, cbs, hj, rfl, hcl, hr18, hbx, hcs, hob⟩ := hrel
            by_cases hjl : j < st.cks.length
            · rcases HCKK.out with h0 | ⟨b3, o3, rfl, hrows3⟩
              · rw [h0] at hjl; exact absurd hjl (Nat.not_lt_zero _)
              have hrow3 := ((hrows3 j hjl).below HBEL.out).below hbx.out
              obtain ⟨c, hc⟩ : ∃ c, c = st.cks[j] := ⟨_, rfl⟩
              rw [← hc] at hrow3
              have HC := Lib.hid hc; clear hc
              have HL := Lib.hid (loadAt_agg Tryz.isAgg47 Tryz.sizeOf47 hrow3 rfl)
              clear hrow3
              go_upto_region 23 with (first | ((with_reducible refine wpL_load HL.out ?_ ?_); rfl) | ((with_reducible refine wpL_store (storeNewI _ c) ?_ ?_ ?_); rfl; rfl))
              rw [put_none]
              have hI3 : BlkAt (wr.alloc (.cells (encI c).toArray 47)) wr.heap.size (encI c) := BlkAt.made wr (encI c) 47
              have hHL := Lib.hid (loadAt_agg Tryz.isAgg47 Tryz.sizeOf47 hI3.row rfl)
              have hbs := hbx.out.size
              have hB3 : Hid (RowKit.Below w6.heap.size w6 (wr.alloc (.cells (encI c).toArray 47))) := hbx.out.alloc hbs _
              have hr3 : Hid (RowOf (wr.alloc (.cells (encI c).toArray 47)) w6.heap.size 87 encP 1 u18 cbs) := hr18.out.alloc _
              have hc3 : Hid (∀ i (h1 : i < cbs.length) (h2 : i < st.cks.length), BlkAt (wr.alloc (.cells (encI c).toArray 47)) cbs[i] (encC st.cks[i])) := fun i h1 h2 => (hcs.out i h1 h2).alloc _
              clear HL hr18 hbx hcs hI3 hbs
              generalize wr.alloc (.cells (encI c).toArray 47) = w3 at hHL hB3 hr3 hc3 ⊢
              generalize wr.heap.size = bk at hHL ⊢
              have hcok : Hid (CkSm c) := by rw [Hid, HC.out]; exact (hso.out.cks _ (List.getElem_mem hjl)).1
              go_wp2_with (first | ((with_reducible refine wpL_load hHL.out ?_ ?_); rfl))
              refine (cookie_any c w3 hcok.out.ok.exps.1 hcok.out.ok.exps.2).mono ?_
              rintro e w4 ⟨cb, rfl, hcb, hcB, hb4⟩
              have hs3 := hB3.out.size
              have hs4 := hb4.size
              have hck64 := hso.out.clen
              have hB4 : Hid (RowKit.Below w6.heap.size w6 w4) := hB3.out.trans (hb4.mono hs3)
              have hr4 : RowOf w4 w6.heap.size 87 encP 1 u18 cbs := hr3.out.below hb4
              have hc4 : ∀ i (h1 : i < cbs.length) (h2 : i < st.cks.length), BlkAt w4 cbs[i] (encC st.cks[i]) := fun i h1 h2 => (hc3.out i h1 h2).below hb4
              have hr4o := hr4.own
              have HBV := Lib.hid (buildP cb w4)
              have hsz4 : (w4.alloc (.cells (encP cb).toArray 87)).heap.size = w4.heap.size + 1 := by simp
              obtain ⟨v', w9, hap, hr9, hk9, hn9⟩ := appendP cb w4.heap.size (hr4.alloc (.cells (encP cb).toArray 87)) (by omega) (by omega) (BlkAt.made _ _ _) 85
              have HAP := Lib.hid hap; clear hap
              have HR9 := Lib.hid hr9; clear hr9
              have hcbl : cb < w4.heap.size := World.block_lt_of_cell? w4 _ (hcB 0 _ rfl).1
              have hcbs3 : ∀ x ∈ cbs, x < w4.heap.size := by
                intro x hx
                obtain ⟨i, h1, rfl⟩ := List.mem_iff_getElem.1 hx
                exact World.block_lt_of_cell? w4 _ (hc4 i h1 (by omega) 0 _ rfl).1
              have hu18 : ∀ g, u18.ownBlock = some g → g < w3.heap.size := fun g hg => (hr3.out.own g hg).2
              have HC9 : Hid (∀ i (h1 : i < (cbs ++ [cb]).length) (h2 : i < st.cks.length), BlkAt w9 (cbs ++ [cb])[i] (encC st.cks[i])) := by
                intro i h1 h2
                by_cases hi : i < cbs.length
                · rw [List.getElem_append_left hi]
                  exact ((hc4 i hi h2).alloc _).keeps hk9 (fun e => (hob.out _ (List.getElem_mem hi)).2 e)
                · have hij : i = j := by simp at h1; omega
                  have hcc : BlkAt w9 cb (encC c) := (hcB.alloc _).keeps hk9 (fun e => by have := hu18 cb e; omega)
                  subst hij
                  rw [List.getElem_append_right (by omega)]
                  simp only [hcl, Nat.sub_self, List.getElem_cons_zero]
                  rw [← HC.out]; exact hcc
              have HO9 : Hid (∀ x ∈ cbs ++ [cb], w6.heap.size ≤ x ∧ v'.ownBlock ≠ some x) := by
                intro x hx
                rcases List.mem_append.1 hx with hx | hx
                · refine ⟨(hob.out x hx).1, fun e => ?_⟩
                  rcases hn9 x e with h | h
                  · exact (hob.out x hx).2 h
                  · have := hcbs3 x hx; omega
                · rw [List.mem_singleton] at hx; subst hx
                  refine ⟨by omega, fun e => ?_⟩
                  rcases hn9 _ e with h | h
                  · have := hu18 _ h; omega
                  · omega
              have HB9 : Hid (RowKit.Below w6.heap.size w6 w9) := (hB4.out.alloc (by omega) _).trans (hk9.toBelow (by omega) (fun g hg => (hr4o g hg).1))
              clear hk9 hn9 hr4 hc4 hr3 hc3 hB3 hcB hb4 hHL hob hr4o hcbs3 hu18
              go_wp2_with (first | ((with_reducible refine wpL_build1 HBV.out ?_ ?_); rfl) | ((with_reducible refine wpL_append HAP.out ?_ ?_ ?_); rfl; rfl))
              exact ⟨⟨j + 1, cbs ++ [cb], by omega, by go_num, by simp [hcl], HR9, HB9, HC9, HO9⟩, by simp [intOf]; omega⟩
            · have hjd : j = st.cks.length := Nat.le_antisymm hj (Nat.le_of_not_lt hjl)
              have hft := HJ.out.foot_lt
              obtain ⟨A7, cap7, hv7, HCA⟩ : ∃ A7 cap7, u18 = .slice A7 st.cks.length cap7 ∧ Hid (CksAt wr A7 cbs st.cks w6.heap.size) := by
                rcases hr18.out.form with ⟨h1, h2⟩ | ⟨g, cap, h1, h2, h3⟩
                · have h0 : st.cks.length = 0 := by rw [← hjd, ← hcl, h2]; rfl
                  refine ⟨none, 0, by rw [h1, h0], ⟨by omega, ?_, fun i h1 h2 j u hj => (hcs.out i h1 h2 j u hj).1, fun x hx => (hob.out x hx).1, fun a ha => by cases ha⟩⟩
                  rw [h2]; exact CellsAt.nil _ _
                · have hr := hr18.out
                  rw [h1] at hr
                  have hH := (RowOf.holds (enc := encP) (k := 1) (fun _ => rfl) (by decide) hr).2.1
                  refine ⟨_, cap, by rw [h1, hcl, hjd], ⟨by omega, ?_, fun i h1 h2 j u hj => (hcs.out i h1 h2 j u hj).1, fun x hx => (hob.out x hx).1, fun a ha => by cases ha; exact h2⟩⟩
                  right
                  refine ⟨g, 0, rfl, fun i u hi => ?_⟩
                  have hil : i < cbs.length := by have := (List.getElem?_eq_some_iff.1 hi).1; simpa using this
                  have hc := (hH.cell (i := i) (c := 0) (by simpa using hil) (by decide)).1
                  rw [show cbs.toArray[i]! = cbs[i] by rw [getElem!_pos cbs.toArray i (by simpa using hil)]; simp] at hc
                  have hu : u = .pointer (some ⟨cbs[i], 0, none⟩) := by
                    simp only [List.getElem?_map, List.getElem?_eq_getElem hil, Option.map_some, Option.some.injEq] at hi
                    exact hi.symm
                  rw [hu, show 0 + i = 0 + i * 1 + 0 by omega]; exact hc
              have T0r := (hT6.out.below hbx.out).cell 0 rfl
              have T1r := (hT6.out.below hbx.out).cell 1 rfl
              have hbs := hbx.out.size
              subst hv7
              clear hr18 hcs hob
              go_wp2_with fail
              refine (setAt_any jb eb pv listed ss J _ w wr t0 v0 ub A7 cap7 w6.heap.size cbs st.cks st.at' st.host (hostPart st.host) st.sch st.path (HBEL.out.trans (hbx.out.mono hb6)) HG.out hpp.out HN.out HS.out (HJ.out.below hbx.out) (fun b hb => ⟨(HFO.out b hb).1, hft b hb⟩) HCA.out (fun c hc => (hso.out.cks c hc).1) hso.out.clen hsq (hU6.out.below hbx.out).row hso.out.good hso.out.raw hso.out.hlen hso.out.plen hso.out.at0 hso.out.at1).mono ?_
              rintro e w7 ⟨rfl, hto⟩
              have hra9 : Hid (RunAt w w7 jb eb pv listed ss (l.map Prod.fst) (k + 1) u10) := by
                have hlt' : k < (l.map Prod.fst).length := by rw [List.length_map]; exact hlt
                have hjs : jarAt listed ss (l.map Prod.fst) (k + 1) = stepSet listed ss (strip J) (jarAt listed ss (l.map Prod.fst) k).2 st.sch (hostPart st.host) st.path st.at' st.cks := by
                  rw [jarAt_succ _ _ _ _ hlt', hstk.out, stepJ, HSET.out, HSJ.out]; rfl
                have hex : expAt listed ss (l.map Prod.fst) (k + 1) = expAt listed ss (l.map Prod.fst) k := by
                  rw [expAt_succ _ _ _ _ hlt', hstk.out, HSET.out]; simp
                obtain ⟨J7, hj7, hs7, hk7, hf7⟩ := hto
                have hown10 := HRO.out.own
                refine ⟨⟨J7, outs, vs, ?_, ?_, ?_, ?_, hvl, ?_, ?_⟩, ?_⟩
                · rw [hjs]; exact hj7
                · rw [hjs]; exact hs7
                · intro b hb
                  rcases hf7 b hb with h | h
                  · exact HFO.out b h
                  · exact ⟨by omega, fun e => by have := (hown10 b e).2; omega⟩
                · exact (HRO.out.below hbx.out).keepsOwn hk7 (fun g hg hm => (HFO.out g hm).2 hg)
                · intro i h1 h2
                  obtain ⟨g1, g2⟩ := HVS.out i h1 h2
                  have g3 := g1.own
                  refine ⟨(g1.below hbx.out).keepsOwn hk7 (fun g hg hm => (g2 g hg).1 hm), fun g hg => ⟨fun hm => ?_, (g2 g hg).2⟩⟩
                  rcases hf7 g hm with h | h
                  · exact (g2 g hg).1 h
                  · have := (g3 g hg).2; omega
                · rw [hex]; exact HOU.out
                · exact (HBEL.out.trans (hbx.out.mono hb6)).trans (hk7.toBelow (by omega) (fun g hg => (HFO.out g hg).1))
              clear hto
              go_wp2
              exact ⟨⟨k + 1, by omega, by go_num, hra9.out⟩, by simp [intOf]; omega⟩
      · obtain rfl : k = l.length := by omega
        obtain ⟨⟨J, outs, vs, hj, hsj, hfo, hro, hvl, hvs, hou⟩, hbel⟩ := hra.out
        have hpost : Hid (OutsOk outs (expAt listed ss (l.map Prod.fst) l.length) ∧ RowOf wr w.heap.size 33 encSV 1 u10 vs ∧ vs.length = outs.length ∧ (∀ i (h1 : i < vs.length) (h2 : i < outs.length), RowOf wr w.heap.size 68 encPr 2 vs[i].val outs[i]) ∧ RowKit.Below w.heap.size w wr) :=
          ⟨hou, hro, hvl, fun i h1 h2 => (hvs i h1 h2).1, hbel⟩
        clear hj hsj hfo hro hvl hvs hou hbel hra
        go_wp2
        go_ret
        exact ⟨_, outs, vs, rfl, hpost.out⟩
end Go.Proofs.YtckfgnbilcjdpaaGreatDoor
