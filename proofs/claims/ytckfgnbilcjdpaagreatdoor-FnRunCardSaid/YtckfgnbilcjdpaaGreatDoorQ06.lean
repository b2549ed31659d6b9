/- Slices of structs: rows of cells. -/
import Derived.Test.YtckfgnbilcjdpaaGreatDoorQ03
import Derived.Test.YtckfgnbilcjdpaaGreatDoorQ05
import Derived.Deep.AppendLies
import Derived.Great.BuildSlice
import Derived.Shelf.SlSortCmp.NoneTotal
namespace Go.Proofs.YtckfgnbilcjdpaaGreatDoor
open Go.RowKit Go.Sort
set_option maxRecDepth 100000

theorem flat_get {α : Type} [Inhabited α] (enc : α → List Value) (k : Nat) (hk : ∀ x, (enc x).length = k) (h0 : 0 < k) : ∀ (L : List α) (j : Nat), j < L.length * k → (L.flatMap enc)[j]? = some ((enc L[j / k]!)[j % k]!)
  | [], j, h => by simp at h
  | a :: r, j, h => by
    rw [List.flatMap_cons]
    by_cases hj : j < k
    · rw [List.getElem?_append_left (by rw [hk]; exact hj), Nat.div_eq_of_lt hj, Nat.mod_eq_of_lt hj]
      simp only [List.getElem!_cons_zero]
      rw [getElem!_pos (enc a) j (by rw [hk]; exact hj), List.getElem?_eq_getElem]
    · rw [List.getElem?_append_right (by rw [hk]; omega), hk]
      have hlt : j - k < r.length * k := by rw [List.length_cons, Nat.add_mul, Nat.one_mul] at h; omega
      rw [flat_get enc k hk h0 r (j - k) hlt]
      have e1 : j / k = (j - k) / k + 1 := by
        rw [Nat.div_eq_sub_div h0 (by omega)]
      have e2 : j % k = (j - k) % k := Nat.mod_eq_sub_mod (by omega)
      rw [e1, e2]
      simp

theorem flat_len {α : Type} (enc : α → List Value) (k : Nat) (hk : ∀ x, (enc x).length = k) : ∀ (L : List α), (L.flatMap enc).length = L.length * k
  | [] => by simp
  | a :: r => by rw [List.flatMap_cons, List.length_append, hk, flat_len enc k hk r, List.length_cons, Nat.add_mul, Nat.one_mul, Nat.add_comm]

/-- A slice that the call owns, of structs of k cells. -/
def RowOf {α : Type} (w : World) (base : Nat) (T : TypeId) (enc : α → List Value) (k : Nat) (v : Value) (L : List α) : Prop := w.ownsRow base T k v L.length (L.flatMap enc)

theorem RowOf.holds {α : Type} [Inhabited α] {w : World} {base : Nat} {T : TypeId} {enc : α → List Value} {k : Nat} (hk : ∀ x, (enc x).length = k) (h0 : 0 < k) {g n cap : Nat} {L : List α}
    (h : RowOf w base T enc k (.slice (some ⟨g, 0, none⟩) n cap) L) : n = L.length ∧ HoldsK enc k w g 0 L.toArray ∧ g < w.heap.size ∧ base ≤ g := by
  rcases h.2 with ⟨e, _⟩ | ⟨g', cap', cur, e, hb, hg, _, _, hcs, ht⟩
  · cases e
  · injection e with e1 e2 e3
    injection e1 with e1
    injection e1 with e1
    subst e1
    refine ⟨e2, ?_, ?_, hb⟩
    · intro j hj
      have hj' : j < L.length * k := by simpa using hj
      rw [get_flatK enc k _ j (by simpa using hj')]
      have hc : cur[j]? = some ((enc L[j / k]!)[j % k]!) := by
        rw [← flat_get enc k hk h0 L j hj', ← ht, List.getElem?_take_of_lt hj', Array.getElem?_toList]
      refine ⟨?_, ?_⟩
      · simp only [World.cell?, hg, Nat.zero_add]
        rw [hc]; simp
      · simp [World.frozen?, hg]
    · exact (Array.getElem?_eq_some_iff.1 hg).1

theorem HoldsK.row {α : Type} [Inhabited α] {w : World} {g off : Nat} {enc : α → List Value} {k : Nat} (hk : ∀ x, (enc x).length = k) {d : Array α} (h : HoldsK enc k w g off d) {i : Nat} (hi : i < d.size) : RowAt w g (off + i * k) (enc d[i]!) := by
  intro j u hj
  have hl : j < k := by have := (List.getElem?_eq_some_iff.1 hj).1; rwa [hk] at this
  have := (h.cell hi hl).1
  rw [this]
  obtain ⟨h1, h2⟩ := List.getElem?_eq_some_iff.1 hj
  rw [getElem!_pos (enc d[i]!) j h1, h2]

theorem HoldsK.below {α : Type} [Inhabited α] {w w' : World} {g off : Nat} {enc : α → List Value} {k : Nat} {d : Array α} (h : HoldsK enc k w g off d) (hb : RowKit.Below w.heap.size w w') : HoldsK enc k w' g off d := fun j hj => by
  obtain ⟨h1, h2⟩ := h j hj
  have hlt := World.block_lt_of_cell? w _ h1
  exact ⟨by rw [hb.cell hlt]; exact h1, by rw [hb.frozen hlt]; exact h2⟩
theorem HoldsK.keeps {α : Type} [Inhabited α] {S : Nat → Prop} {w w' : World} {g off : Nat} {enc : α → List Value} {k : Nat} {d : Array α} (h : HoldsK enc k w g off d) (hb : Keeps S w w') (hg : ¬ S g) : HoldsK enc k w' g off d := fun j hj => by
  obtain ⟨h1, h2⟩ := h j hj
  have hlt := World.block_lt_of_cell? w _ h1
  exact ⟨by rw [hb.cell hlt hg]; exact h1, by rw [hb.frozen hlt hg]; exact h2⟩

theorem RowOf.nil {α : Type} (w : World) (base : Nat) (T : TypeId) (enc : α → List Value) (k : Nat) : RowOf w base T enc k (.slice none 0 0) [] := World.ownsRow_nil w base T k

theorem RowOf.keeps {α : Type} {S : Nat → Prop} {w w' : World} {base : Nat} {T : TypeId} {enc : α → List Value} {k : Nat} {v : Value} {L : List α} (h : RowOf w base T enc k v L) (hk : Keeps S w w') (hs : ∀ g, base ≤ g → ¬ S g) : RowOf w' base T enc k v L := by
  refine ⟨h.1, ?_⟩
  rcases h.2 with h1 | ⟨g, cap, cur, e, hb, hg, hr⟩
  · exact Or.inl h1
  · refine Or.inr ⟨g, cap, cur, e, hb, ?_, hr⟩
    rw [hk.block g (Array.getElem?_eq_some_iff.1 hg).1 (hs g hb)]; exact hg
theorem RowOf.below {α : Type} {w w' : World} {base : Nat} {T : TypeId} {enc : α → List Value} {k : Nat} {v : Value} {L : List α} (h : RowOf w base T enc k v L) (hk : RowKit.Below w.heap.size w w') : RowOf w' base T enc k v L :=
  h.keeps (S := fun _ => False) ((Keeps.refl _ w).below hk) (fun _ _ h => h)
theorem RowOf.alloc {α : Type} {w : World} {base : Nat} {T : TypeId} {enc : α → List Value} {k : Nat} {v : Value} {L : List α} (h : RowOf w base T enc k v L) (o : Obj) : RowOf (w.alloc o) base T enc k v L :=
  h.below ((Below.refl _ _).alloc (Nat.le_refl _) o)
theorem RowOf.form {α : Type} {w : World} {base : Nat} {T : TypeId} {enc : α → List Value} {k : Nat} {v : Value} {L : List α} (h : RowOf w base T enc k v L) :
    (v = .slice none 0 0 ∧ L = []) ∨ ∃ g cap, v = .slice (some ⟨g, 0, none⟩) L.length cap ∧ base ≤ g ∧ g < w.heap.size := by
  rcases h.2 with ⟨e, h0⟩ | ⟨g, cap, cur, e, hb, hg, _⟩
  · exact Or.inl ⟨e, List.length_eq_zero_iff.1 h0⟩
  · exact Or.inr ⟨g, cap, e, hb, (Array.getElem?_eq_some_iff.1 hg).1⟩

/-- The sort writes into its own row alone. -/
theorem sortW_keeps {α : Type} [Inhabited α] (enc : α → List Value) (k : Nat) (w : World) (g off n : Nat) (d : Array α) (os : Array Obj) : Keeps (fun j => j = g) w (sortWorldK enc k w g off n d os) := by
  unfold sortWorldK putRowK putRow
  refine ⟨rfl, rfl, rfl, ?_, ?_⟩
  · simp [grow, mapBlock, Sort.ahead]
  · intro j hj hne
    show ((mapBlock (Sort.ahead w n) g _).heap ++ os)[j]? = w.heap[j]?
    have hs : (mapBlock (Sort.ahead w n) g (putCells id off (flatK enc k d))).heap.size = w.heap.size := by simp [mapBlock, Sort.ahead]
    rw [Array.getElem?_append_left (by omega)]
    simp only [mapBlock, Sort.ahead, Array.getElem?_modify]
    rw [if_neg (fun e => hne e.symm)]

theorem sortW_holds {α : Type} [Inhabited α] (enc : α → List Value) (k : Nat) (w : World) (g off n : Nat) (d d' : Array α) (os : Array Obj) (h : HoldsK enc k w g off d) (hs : d'.size = d.size) (hg : g < w.heap.size) : HoldsK enc k (sortWorldK enc k w g off n d' os) g off d' := by
  unfold sortWorldK
  refine holdsK_grow enc k _ os g off d' ?_ (holdsK_putRowK enc k _ g off d d' (holdsK_ahead enc k w n g off d h) hs)
  have := (sortW_keeps enc k w g off n d' #[]).size
  unfold sortWorldK at this
  rw [grow_empty] at this
  omega
end Go.Proofs.YtckfgnbilcjdpaaGreatDoor
/- What asking does to the entries of a key: plain laws. -/
namespace Go.Proofs.YtckfgnbilcjdpaaGreatDoor
open Go.RowKit

theorem filterMap_same {α β : Type} {f g : α → Option β} : ∀ {l : List α}, (∀ x ∈ l, f x = g x) → l.filterMap f = l.filterMap g
  | [], _ => rfl
  | a :: r, h => by
    have h1 := h a (List.mem_cons_self ..)
    have h2 : r.filterMap f = r.filterMap g := filterMap_same (fun x hx => h x (List.mem_cons_of_mem _ hx))
    simp only [List.filterMap_cons, h1, h2]

/-- An entry has ended. -/
def deadE (now : Int) (e : Ent) : Bool := e.persistent && !decide (now < e.exps)
/-- An entry when it has been asked for. -/
def fGo (now : Int) (send : Ent → Bool) (e : Ent) : Option Ent := if deadE now e then none else if send e then some { e with las := now } else some e
/-- An entry as it is handed out. -/
def selGo (now : Int) (send : Ent → Bool) (e : Ent) : Option Ent := if deadE now e then none else if send e then some { e with las := now } else none
def touchE (now : Int) (send : Ent → Bool) (e : Ent) : Bool := deadE now e || send e
/-- The entries when those with the ids D have been seen. -/
def LGo (now : Int) (send : Ent → Bool) (D : List (List UInt8)) (L0 : List Ent) : List Ent := L0.filterMap fun e => if idE e ∈ D then fGo now send e else some e

section
variable {now : Int} {send : Ent → Bool} {D : List (List UInt8)} {L0 : List Ent} {e e' : Ent}

theorem fGo_id (h : fGo now send e = some e') : idE e' = idE e := by
  unfold fGo at h
  repeat' split at h
  all_goals first | (cases h; rfl) | cases h

theorem id_inj (hn : (L0.map idE).Nodup) {x y : Ent} (hx : x ∈ L0) (hy : y ∈ L0) (h : idE x = idE y) : x = y := by
  obtain ⟨p, hp, ep⟩ := List.getElem_of_mem hx
  obtain ⟨q, hq, eq⟩ := List.getElem_of_mem hy
  rcases Nat.lt_trichotomy p q with g | g | g
  · exact False.elim (List.pairwise_iff_getElem.1 hn p q (by simpa using hp) (by simpa using hq) g (by simp [ep, eq, h]))
  · subst g; rw [← ep, ← eq]
  · exact False.elim (List.pairwise_iff_getElem.1 hn q p (by simpa using hq) (by simpa using hp) g (by simp [ep, eq, h]))

theorem lgo_nil : LGo now send [] L0 = L0 := by simp [LGo]

theorem lgo_mem (h : e ∈ LGo now send D L0) (hd : idE e ∉ D) : e ∈ L0 := by
  obtain ⟨x, hx, hh⟩ := List.mem_filterMap.1 h
  split at hh
  · rename_i hi
    have := fGo_id hh
    rw [← this] at hi
    exact absurd hi hd
  · cases hh; exact hx
theorem lgo_has (h : e ∈ L0) (hd : idE e ∉ D) : e ∈ LGo now send D L0 := List.mem_filterMap.2 ⟨e, h, by rw [if_neg hd]⟩

theorem lgo_del (hn : (L0.map idE).Nodup) (he : e ∈ L0) (hd : idE e ∉ D) (hf : fGo now send e = none) : delE (LGo now send D L0) (idE e) = LGo now send (idE e :: D) L0 := by
  unfold delE LGo
  rw [List.filter_filterMap]
  apply filterMap_same
  intro x hx
  by_cases hxe : idE x = idE e
  · have := id_inj hn hx he hxe
    subst this
    rw [if_neg hd, if_pos (List.mem_cons_self ..), hf]
    simp
  · by_cases hxd : idE x ∈ D
    · rw [if_pos hxd, if_pos (List.mem_cons_of_mem _ hxd)]
      cases hfx : fGo now send x with
      | none => rfl
      | some y => have := fGo_id hfx; simp [this, hxe]
    · rw [if_neg hxd, if_neg (by rw [List.mem_cons]; rintro (h | h); exact hxe h; exact hxd h)]
      simp [hxe]

theorem lgo_put (hn : (L0.map idE).Nodup) (he : e ∈ L0) (hd : idE e ∉ D) (hf : fGo now send e = some e') : putE (LGo now send D L0) e' = LGo now send (idE e :: D) L0 := by
  have hid := fGo_id hf
  have hin : idE e' ∈ (LGo now send D L0).map idE := List.mem_map.2 ⟨e, lgo_has he hd, hid.symm⟩
  rw [putE, if_pos hin]
  unfold LGo
  rw [List.map_filterMap]
  apply filterMap_same
  intro x hx
  by_cases hxe : idE x = idE e
  · have := id_inj hn hx he hxe
    subst this
    rw [if_neg hd, if_pos (List.mem_cons_self ..), hf]
    simp [hid]
  · by_cases hxd : idE x ∈ D
    · rw [if_pos hxd, if_pos (List.mem_cons_of_mem _ hxd)]
      cases hfx : fGo now send x with
      | none => rfl
      | some y => have := fGo_id hfx; simp [this, hid, hxe]
    · rw [if_neg hxd, if_neg (by rw [List.mem_cons]; rintro (h | h); exact hxe h; exact hxd h)]
      simp [hid, hxe]

theorem lgo_same (hn : (L0.map idE).Nodup) (he : e ∈ L0) (hd : idE e ∉ D) (hf : fGo now send e = some e) : LGo now send D L0 = LGo now send (idE e :: D) L0 := by
  unfold LGo
  apply filterMap_same
  intro x hx
  by_cases hxe : idE x = idE e
  · have := id_inj hn hx he hxe
    subst this
    rw [if_neg hd, if_pos (List.mem_cons_self ..), hf]
  · by_cases hxd : idE x ∈ D
    · rw [if_pos hxd, if_pos (List.mem_cons_of_mem _ hxd)]
    · rw [if_neg hxd, if_neg (by rw [List.mem_cons]; rintro (h | h); exact hxe h; exact hxd h)]

theorem lgo_all (h : ∀ e ∈ LGo now send D L0, idE e ∈ D) : ∀ e ∈ L0, idE e ∈ D := fun e he => Decidable.byContradiction fun hd => hd (h e (lgo_has he hd))
theorem lgo_end (h : ∀ e ∈ LGo now send D L0, idE e ∈ D) : LGo now send D L0 = L0.filterMap (fGo now send) := by
  unfold LGo
  apply filterMap_same
  intro x hx
  rw [if_pos (lgo_all h x hx)]

/-- What came is what was there. -/
theorem came_perm {P : List Ent} (hn : (L0.map idE).Nodup) (hP : (P.map idE).Nodup) (hs : ∀ e ∈ P, e ∈ L0) (h : ∀ e ∈ LGo now send (P.map idE) L0, idE e ∈ P.map idE) : P.Perm L0 := by
  have nodup_of : ∀ l : List Ent, (l.map idE).Nodup → l.Nodup := fun l h => List.Pairwise.of_map idE (fun a b hab e => hab (by rw [e])) h
  rw [List.perm_ext_iff_of_nodup (nodup_of _ hP) (nodup_of _ hn)]
  intro a
  refine ⟨hs a, fun ha => ?_⟩
  obtain ⟨y, hy, e⟩ := List.mem_map.1 (lgo_all h a ha)
  rw [← id_inj hn (hs y hy) ha e]; exact hy

theorem not_touch (h : L0.any (touchE now send) = false) : L0.filterMap (fGo now send) = L0 := by
  rw [List.any_eq_false] at h
  have : ∀ x ∈ L0, fGo now send x = some x := by
    intro x hx
    have := h x hx
    simp only [touchE, Bool.not_eq_true, Bool.or_eq_false_iff] at this
    simp [fGo, this.1, this.2]
  rw [show L0.filterMap (fGo now send) = L0.filterMap some from filterMap_same this, List.filterMap_some]
end

/-- What asking at a key makes of the jar. -/
def getA (J : List (List UInt8 × List Ent)) (key : List UInt8) (L0 : List Ent) (now : Int) (send : Ent → Bool) : List (List UInt8 × List Ent) :=
  endSet J key ⟨some (L0.filterMap (fGo now send)), L0.any (touchE now send), 0⟩
end Go.Proofs.YtckfgnbilcjdpaaGreatDoor
/- Slices of structs: a literal of one element, append. -/
namespace Go.Proofs.YtckfgnbilcjdpaaGreatDoor
open Go.RowKit
set_option maxRecDepth 100000

theorem info118 : (Tryz.prog.info? 118).map (fun i => (i.zero, i.size, i.bytes)) = some (some (.agg zeroE), 16, 136) := by kernel_rfl
theorem info87 : (Tryz.prog.info? 87).map (fun i => (i.zero, i.size, i.bytes)) = some (some (.pointer none), 1, 8) := by kernel_rfl

section
variable {ops : Array Oper} {Q : Exit → Act → World → Prop} {a : Act} {w w' : World} {rest : List Oper}

/-- A slice literal of one part whose run is known. -/
theorem wpL_build1 {t : TypeId} {n : Nat} {v0 v : Value} {x : Operand} {dst : Option Tmp} {ty : TypeId} {pos : String} {after : Array Edge} (h : (Instr.buildSlice t n #[(0, v0)]).run Tryz.prog w = .ok v w') (he : a.eval x = v0)
    (k : wpList Tryz.prog ops Q rest (a.put dst v) w') : wpList Tryz.prog ops Q (⟨dst, .buildSlice t n #[(0, x)], ty, pos, after, none⟩ :: rest) a w := by
  refine wpList_plain rfl (fun K hK => ?_)
  have hr : (execOp a.eval ⟨dst, .buildSlice t n #[(0, x)], ty, pos, after, none⟩).run Tryz.prog w = .ok (.value v) w' := by
    simp only [execOp, List.map_toArray, List.map_cons, List.map_nil, he, Sem.run_bind, h, Result.andThen, Sem.run_pure]
  simp only [Oper.wp, hr, Oper.upon]
  exact hK _ _ k

/-- An append whose run is known. -/
theorem wpL_append {ts : Array TypeId} {v0 v1 v : Value} {x y : Operand} {dst : Option Tmp} {ty : TypeId} {pos : String} {after : Array Edge} (h : (Builtin.append_ ts ty #[v0, v1]).run Tryz.prog w = .ok v w') (he : a.eval x = v0) (he' : a.eval y = v1)
    (k : wpList Tryz.prog ops Q rest (a.put dst v) w') : wpList Tryz.prog ops Q (⟨dst, .call ⟨.builtin .append, #[x, y], ts⟩, ty, pos, after, none⟩ :: rest) a w := by
  refine wpList_plain rfl (fun K hK => ?_)
  have hr : (execOp a.eval ⟨dst, .call ⟨.builtin .append, #[x, y], ts⟩, ty, pos, after, none⟩).run Tryz.prog w = .ok (.value v) w' := by
    simp only [execOp, resolve, List.map_toArray, List.map_cons, List.map_nil, he, he', Sem.run_bind, Sem.run_pure, Result.andThen, invoke, builtin, h]
  simp only [Oper.wp, hr, Oper.upon]
  exact hK _ _ k
end

/-- A literal of one struct. -/
theorem build_one {t e : TypeId} {i : TypeInfo} {z : Value} {cs : List Value} (hu : Tryz.prog.underlying t = some (.slice e)) (hi : Tryz.prog.info? e = some i) (hz : i.zero = some z) (hsz : i.size = cs.length) (hzs : z.cells.size = cs.length) (h0 : 0 < cs.length) (h1 : cs.length ≤ 1000)
    (v : Value) (hv : v.cells = cs.toArray) (w : World) :
    (Instr.buildSlice t 1 #[(0, v)]).run Tryz.prog w = .ok (.slice (some ⟨w.heap.size, 0, none⟩) 1 1) (w.alloc (.cells cs.toArray e)) := by
  refine run_buildSlice w t e 1 _ cs.toArray i z hu hi hz (by rw [hsz]; omega) (by rw [hsz]; omega) ?_
  have hfill : ∀ (A : Array Value), A.size = cs.length → Instr.fill (fun i => some (i * cs.length, cs.length)) A [(0, v)] = some cs.toArray := by
    intro A hA
    have := Go.Great.fill_whole h0 [v] A (by intro u hu; rw [List.mem_singleton] at hu; rw [hu, hv]; simp) (by rw [hA]; simp)
    rw [show ([v].flatMap fun v => v.cells.toList).toArray = cs.toArray by simp [hv]] at this
    exact this
  rw [hsz]
  exact hfill _ (by simp)

/-- One struct is appended to a slice that the call owns. -/
theorem append_one {α : Type} {t e : TypeId} {i : TypeInfo} {z : Value} {enc : α → List Value} {k bytes : Nat} (hk : ∀ x, (enc x).length = k) (hone : ∀ x, ∀ u ∈ enc x, u.oneCell' = true) (hu : Tryz.prog.underlying t = some (.slice e)) (hi : Tryz.prog.info? e = some i) (hz : i.zero = some z) (hsz : i.size = k) (hby : i.bytes = bytes) (hzs : z.cells.size = k) (h0 : 0 < k) (hb : bytes ≤ 1000)
    {base : Nat} {v : Value} {L : List α} {w : World} (x : α) (g : Nat) (hr : RowOf w base e enc k v L) (hl : L.length ≤ 100000000) (hbase : base ≤ w.heap.size) (hx : BlkAt w g (enc x)) :
    ∀ ty, ∃ v' w', (Builtin.append_ #[t, t] ty #[v, .slice (some ⟨g, 0, none⟩) 1 1]).run Tryz.prog w = .ok v' w' ∧ RowOf w' base e enc k v' (L ++ [x]) ∧ Keeps (fun j => v.ownBlock = some j) w w' ∧ (∀ j, v'.ownBlock = some j → v.ownBlock = some j ∨ j = w.heap.size) := by
  intro ty
  have hbyt : (L.length + 1) * bytes ≤ 140737488355328 := by
    have : (L.length + 1) * bytes ≤ 100000001 * 1000 := Nat.mul_le_mul (by omega) hb
    omega
  obtain ⟨g', cap, w', h1, h2, h3, h4, _⟩ := run_append_lies (P := Tryz.prog) w t ty base e i z k bytes hu hi hz hsz hby hzs h0 v L.length (L.flatMap enc) hr ⟨g, 0, none⟩ 1 1 (enc x) (by rw [hk, Nat.one_mul])
    (fun j u hj => by rw [Addr.add_lit, Nat.zero_add]; exact (hx j u hj).1) (hone x) (by decide) (by simp only [maxLen]; omega) hbyt hbase w.heap.size rfl
  refine ⟨_, w', h1, ?_, ⟨h3.os, h3.tape, h3.output, h3.size, fun j hj hne => h3.block j hj (fun e => hne e.symm)⟩, ?_⟩
  case refine_2 => intro j hj; cases hj; exact h4
  unfold RowOf
  rw [List.length_append, List.flatMap_append]
  simpa using h2

theorem RowOf.own {α : Type} {w : World} {base : Nat} {T : TypeId} {enc : α → List Value} {k : Nat} {v : Value} {L : List α} (h : RowOf w base T enc k v L) : ∀ j, v.ownBlock = some j → base ≤ j ∧ j < w.heap.size := by
  intro j hj
  rcases h.form with ⟨rfl, _⟩ | ⟨g, cap, rfl, h1, h2⟩
  · cases hj
  · cases hj; exact ⟨h1, h2⟩
theorem RowOf.keepsOwn {α : Type} {S : Nat → Prop} {w w' : World} {base : Nat} {T : TypeId} {enc : α → List Value} {k : Nat} {v : Value} {L : List α} (h : RowOf w base T enc k v L) (hk : Keeps S w w') (hs : ∀ g, v.ownBlock = some g → ¬ S g) : RowOf w' base T enc k v L := by
  refine ⟨h.1, ?_⟩
  rcases h.2 with h1 | ⟨g, cap, cur, e, hb, hg, hr⟩
  · exact Or.inl h1
  · refine Or.inr ⟨g, cap, cur, e, hb, ?_, hr⟩
    rw [hk.block g (Array.getElem?_eq_some_iff.1 hg).1 (hs g (by rw [e]; rfl))]; exact hg

theorem encE_len (x : Ent) : (encE x).length = 16 := rfl
theorem zeroE_size : (Value.agg zeroE).cells.size = 16 := rfl

theorem buildE (x : Ent) (w : World) : (Instr.buildSlice 116 1 #[(0, .agg (encE x).toArray)]).run Tryz.prog w = .ok (.slice (some ⟨w.heap.size, 0, none⟩) 1 1) (w.alloc (.cells (encE x).toArray 118)) := by
  obtain ⟨i, hi, hz, hs, _⟩ := info_parts info118
  exact build_one (cs := encE x) Tryz.underlying116 hi hz hs rfl (by rw [encE_len]; decide) (by rw [encE_len]; decide) _ rfl w
theorem appendE {base : Nat} {v : Value} {L : List Ent} {w : World} (x : Ent) (g : Nat) (hr : RowOf w base 118 encE 16 v L) (hl : L.length ≤ 100000000) (hbase : base ≤ w.heap.size) (hx : BlkAt w g (encE x)) :
    ∀ ty, ∃ v' w', (Builtin.append_ #[116, 116] ty #[v, .slice (some ⟨g, 0, none⟩) 1 1]).run Tryz.prog w = .ok v' w' ∧ RowOf w' base 118 encE 16 v' (L ++ [x]) ∧ Keeps (fun j => v.ownBlock = some j) w w' ∧ (∀ j, v'.ownBlock = some j → v.ownBlock = some j ∨ j = w.heap.size) := by
  obtain ⟨i, hi, hz, hs, hb⟩ := info_parts info118
  exact append_one encE_len encE_one Tryz.underlying116 hi hz hs hb rfl (by decide) (by decide) x g hr hl hbase hx

/-- The cells of a pointer. -/
def encP (b : Nat) : List Value := [.pointer (some ⟨b, 0, none⟩)]
theorem buildP (b : Nat) (w : World) : (Instr.buildSlice 85 1 #[(0, .pointer (some ⟨b, 0, none⟩))]).run Tryz.prog w = .ok (.slice (some ⟨w.heap.size, 0, none⟩) 1 1) (w.alloc (.cells (encP b).toArray 87)) := by
  obtain ⟨i, hi, hz, hs, _⟩ := info_parts info87
  exact build_one (cs := encP b) Tryz.underlying85 hi hz hs rfl (by decide : 0 < 1) (by decide : 1 ≤ 1000) _ rfl w
theorem appendP {base : Nat} {v : Value} {L : List Nat} {w : World} (x : Nat) (g : Nat) (hr : RowOf w base 87 encP 1 v L) (hl : L.length ≤ 100000000) (hbase : base ≤ w.heap.size) (hx : BlkAt w g (encP x)) :
    ∀ ty, ∃ v' w', (Builtin.append_ #[85, 85] ty #[v, .slice (some ⟨g, 0, none⟩) 1 1]).run Tryz.prog w = .ok v' w' ∧ RowOf w' base 87 encP 1 v' (L ++ [x]) ∧ Keeps (fun j => v.ownBlock = some j) w w' ∧ (∀ j, v'.ownBlock = some j → v.ownBlock = some j ∨ j = w.heap.size) := by
  obtain ⟨i, hi, hz, hs, hb⟩ := info_parts info87
  exact append_one (enc := encP) (k := 1) (fun _ => rfl) (fun x u hu => by simp only [encP, List.mem_singleton] at hu; subst hu; rfl) Tryz.underlying85 hi hz hs hb rfl (by decide) (by decide) x g hr hl hbase hx
end Go.Proofs.YtckfgnbilcjdpaaGreatDoor
/- The selected entries are sorted. -/
namespace Go.Proofs.YtckfgnbilcjdpaaGreatDoor
open Go.RowKit Go.Sort Go.Shelf
set_option maxRecDepth 100000

/-- A slice of structs, to be read. -/
def ViewOf {α : Type} [Inhabited α] (w : World) (enc : α → List Value) (k : Nat) (v : Value) (d : List α) : Prop :=
  (v = .slice none 0 0 ∧ d = []) ∨ ∃ g cap, v = .slice (some ⟨g, 0, none⟩) d.length cap ∧ HoldsK enc k w g 0 d.toArray ∧ g < w.heap.size

theorem cmp67 (blk off n : Nat) (w : World) : CmpLays Tryz.prog 67 #[] encE 16 cmpSel blk off n w := by
  intro m os dk _ x y
  have h := closure67 x y (sortWorldK encE 16 w blk off m dk os)
  rw [show (#[Value.agg (encE x).toArray, Value.agg (encE y).toArray] ++ #[] : Array Value) = #[.agg (encE x).toArray, .agg (encE y).toArray] from rfl]
  exact h.mono fun e w' ⟨h1, h2⟩ => ⟨h1, h2⟩

theorem pairwise_of {α : Type} [Inhabited α] {R : α → α → Prop} {d : List α} (h : ∀ i j, i < j → j < d.length → R d[i]! d[j]!) : d.Pairwise R := by
  rw [List.pairwise_iff_getElem]
  intro i j hi hj hij
  have := h i j hij hj
  rwa [getElem!_pos d i hi, getElem!_pos d j hj] at this

theorem sortSel {w : World} {base : Nat} {v : Value} {S : List Ent} (h : RowOf w base 118 encE 16 v S) (hl : S.length ≤ 1000000) :
    Calls Tryz.prog 66 #[v, .func (.func 67) #[] #[]] w fun e w' => e = .returned (.tuple #[]) ∧
      ∃ d : List Ent, d.Perm S ∧ d.Pairwise (fun x y => ltOf cmpSel y x = false) ∧ Keeps (fun j => v.ownBlock = some j) w w' ∧ ViewOf w' encE 16 v d := by
  rcases h.form with ⟨rfl, rfl⟩ | ⟨g, cap, rfl, h1, h2⟩
  · have hc := AnyF.slices_SortFunc_none (P := Tryz.prog) sortE none 0 (.func (.func 67) #[] #[]) w
    refine Calls.mono (show Calls Tryz.prog 66 _ _ _ from hc) ?_
    rintro e w' ⟨rfl, rfl⟩
    exact ⟨rfl, [], List.Perm.refl _, List.Pairwise.nil, Keeps.refl _ _, Or.inl ⟨rfl, rfl⟩⟩
  · obtain ⟨_, hH, hg, _⟩ := h.holds encE_len (by decide)
    have eg : ∀ args w, (callFunc 67 args).run Tryz.prog w = .ok (.enter 67 args) w := enters_of Tryz.func67 (by kernel_rfl) rfl
    have hc := AnyQ.slices_SortFunc (P := Tryz.prog) sortE 16 Tryz.isAgg118 Tryz.sizeOf118 encE encE_len encE_one cmpSel swoSel 67 #[] g 0 cap S.toArray w eg (cmp67 g 0 _ w) hH hg (by simp; omega)
    rw [show S.toArray.size = S.length by simp] at hc
    refine Calls.mono (show Calls Tryz.prog 66 _ _ _ from hc) ?_
    rintro e w' ⟨rfl, d', n, os, hp, hs, rfl⟩
    have hsz : d'.size = S.length := by simpa using hp.1
    refine ⟨rfl, d'.toList, ?_, ?_, (sortW_keeps encE 16 w g 0 n d' os).mono (fun k _ hk => by rw [hk]; rfl), Or.inr ⟨g, cap, ?_, ?_, ?_⟩⟩
    · have := hp.2.2
      rwa [show d'.extract 0 S.length = d' by rw [← hsz]; simp, show S.toArray.extract 0 S.length = S.toArray by simp] at this
    · refine pairwise_of ?_
      intro i j hij hj
      have := hs i j (Nat.zero_le _) hij (by rw [← hsz]; simpa using hj)
      have ee : ∀ t : Nat, d'.toList[t]! = d'[t]! := fun t => by rw [getElem!_def, getElem!_def, Array.getElem?_toList]
      rw [ee, ee]; exact this
    · rw [show d'.toList.length = S.length by simpa using hsz]
    · have := sortW_holds encE 16 w g 0 n S.toArray d' os hH (by simpa using hsz) hg
      simpa using this
    · have := (sortW_keeps encE 16 w g 0 n d' os).size
      omega
end Go.Proofs.YtckfgnbilcjdpaaGreatDoor
