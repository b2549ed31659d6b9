/- The jar in memory, and what a step that sets cookies makes of it. -/
import Derived.Test.YtckfgnbilcjdpaaGreatDoorQ04
import Derived.Deep.Cut
import Derived.Deep.DeepCutAuto
import Derived.Maps.RangeRun
namespace Go.Proofs.YtckfgnbilcjdpaaGreatDoor
open Go.RowKit
set_option maxRecDepth 100000

/-- The id of an entry. -/
def idE (e : Ent) : List UInt8 := idOf e.domain e.path e.name
/-- The entries of one key as a map has them. -/
def kvE (L : List Ent) : List KV := L.map fun e => (idE e, .agg (encE e).toArray)
/-- The entry with an id. -/
def findE (L : List Ent) (k : List UInt8) : Option Ent := L.find? fun e => decide (idE e = k)
/-- An entry takes its place. -/
def putE (L : List Ent) (e : Ent) : List Ent := if idE e ∈ L.map idE then L.map (fun x => if idE x = idE e then e else x) else L ++ [e]
/-- An id is struck out. -/
def delE (L : List Ent) (k : List UInt8) : List Ent := L.filter fun e => decide (idE e ≠ k)

theorem kvE_keys (L : List Ent) : (kvE L).map Prod.fst = L.map idE := by simp [kvE]
theorem look_kvE (L : List Ent) (k : List UInt8) : look (kvE L) k = (findE L k).map fun e => .agg (encE e).toArray := by
  simp only [look, kvE, findE, List.find?_map, Option.map_map]; rfl
theorem put_kvE (L : List Ent) (e : Ent) : putKV (kvE L) (idE e) (.agg (encE e).toArray) = kvE (putE L e) := by
  unfold putKV putE
  rw [kvE_keys]
  split
  · simp only [kvE, List.map_map]
    apply List.map_congr_left
    intro x _
    simp only [Function.comp]
    split <;> rename_i h
    · simp
    · simp
  · simp [kvE]
theorem del_kvE (L : List Ent) (k : List UInt8) : delKV (kvE L) k = kvE (delE L k) := by
  simp only [delKV, kvE, delE, List.filter_map]; rfl

/-- What was in memory stays, but for the blocks of S. -/
structure Keeps (S : Nat → Prop) (w w' : World) : Prop where
  os : w'.os = w.os
  tape : w'.tape = w.tape
  output : w'.output = w.output
  size : w.heap.size ≤ w'.heap.size
  block : ∀ k, k < w.heap.size → ¬ S k → w'.heap[k]? = w.heap[k]?

theorem Keeps.refl (S : Nat → Prop) (w : World) : Keeps S w w := ⟨rfl, rfl, rfl, Nat.le_refl _, fun _ _ _ => rfl⟩
theorem Keeps.below {S : Nat → Prop} {a w w' : World} (h : Keeps S a w) (hb : Below w.heap.size w w') : Keeps S a w' :=
  ⟨hb.os.trans h.os, hb.tape.trans h.tape, hb.output.trans h.output, Nat.le_trans h.size hb.size, fun k hk hs => (hb.block k (Nat.lt_of_lt_of_le hk h.size)).trans (h.block k hk hs)⟩
theorem Keeps.alloc {S : Nat → Prop} {a w : World} (h : Keeps S a w) (o : Obj) : Keeps S a (w.alloc o) := h.below ((Below.refl _ _).alloc (Nat.le_refl _) o)
theorem Keeps.drew {S : Nat → Prop} {a w : World} (h : Keeps S a w) : Keeps S a w.drew := ⟨h.os, h.tape, h.output, h.size, h.block⟩
theorem Keeps.dN {S : Nat → Prop} {a w : World} (h : Keeps S a w) (n : Nat) : Keeps S a (w.drewN n) := ⟨h.os, h.tape, h.output, h.size, h.block⟩
theorem Keeps.grown {S : Nat → Prop} {a w w' : World} {b : Nat} (h : Keeps S a w) (hg : w.grownBy w' (some b)) (hb : S b ∨ a.heap.size ≤ b) : Keeps S a w' :=
  ⟨hg.os.trans h.os, hg.tape.trans h.tape, hg.output.trans h.output, Nat.le_trans h.size hg.size, fun k hk hs => by
    refine (hg.block k (Nat.lt_of_lt_of_le hk h.size) ?_).trans (h.block k hk hs)
    intro e
    cases e
    rcases hb with hb | hb
    · exact hs hb
    · omega⟩
theorem Keeps.setCell {S : Nat → Prop} {a w : World} {b : Nat} (h : Keeps S a w) (hb : S b ∨ a.heap.size ≤ b) (o : Nat) (v : Value) : Keeps S a (w.setCell ⟨b, o, none⟩ v) :=
  h.grown (b := b) ⟨rfl, rfl, rfl, by simp [World.setCell], fun k _ hk => Below.heap_setCell _ _ _ _ (fun e => hk (by rw [e]))⟩ hb
theorem Keeps.setCells {S : Nat → Prop} {a : World} {b : Nat} (hb : S b ∨ a.heap.size ≤ b) : ∀ (cs : List Value) (o : Nat) {w : World}, Keeps S a w → Keeps S a (w.setCells b o cs)
  | [], _, _, h => h
  | v :: r, o, _, h => Keeps.setCells hb r (o + 1) (h.setCell hb o v)
theorem Keeps.setMap {S : Nat → Prop} {a w : World} {b : Nat} (h : Keeps S a w) (hb : S b ∨ a.heap.size ≤ b) (es : Array MapEntry) (clock : Nat) : Keeps S a (setMap w b es clock) := h.grown (setMap_grown w b es clock) hb
theorem Keeps.mono {S T : Nat → Prop} {a w : World} (h : Keeps S a w) (hs : ∀ k, k < a.heap.size → S k → T k) : Keeps T a w :=
  ⟨h.os, h.tape, h.output, h.size, fun k hk ht => h.block k hk (fun hS => ht (hs k hk hS))⟩
theorem Keeps.trans {S : Nat → Prop} {a b c : World} (h : Keeps S a b) {T : Nat → Prop} (k : Keeps T b c) (ht : ∀ j, T j → S j ∨ a.heap.size ≤ j) : Keeps S a c :=
  ⟨k.os.trans h.os, k.tape.trans h.tape, k.output.trans h.output, Nat.le_trans h.size k.size, fun j hj hs =>
    (k.block j (Nat.lt_of_lt_of_le hj h.size) (fun hT => by rcases ht j hT with h1 | h1; exact hs h1; omega)).trans (h.block j hj hs)⟩
theorem Keeps.toBelow {S : Nat → Prop} {w w' : World} (h : Keeps S w w') {B : Nat} (hB : B ≤ w.heap.size) (hs : ∀ k, S k → B ≤ k) : Below B w w' :=
  ⟨h.os, h.tape, h.output, h.size, fun k hk => h.block k (Nat.lt_of_lt_of_le hk hB) (fun hS => by have := hs k hS; omega)⟩

theorem Keeps.cell {S : Nat → Prop} {a w : World} (h : Keeps S a w) {p : Addr} (hp : p.block < a.heap.size) (hs : ¬ S p.block) : w.cell? p = a.cell? p := World.cell?_of_block (w := a) (h.block p.block hp hs)
theorem Keeps.frozen {S : Nat → Prop} {a w : World} (h : Keeps S a w) {p : Addr} (hp : p.block < a.heap.size) (hs : ¬ S p.block) : w.frozen? p = a.frozen? p := World.frozen?_of_block (w := a) (h.block p.block hp hs)
theorem BlkAt.keeps {S : Nat → Prop} {a w : World} {b : Nat} {cs : List Value} (h : BlkAt a b cs) (k : Keeps S a w) (hs : ¬ S b) : BlkAt w b cs := fun j u hj => by
  obtain ⟨h1, h2⟩ := h j u hj
  have hlt := World.block_lt_of_cell? a _ h1
  exact ⟨by rw [k.cell hlt hs]; exact h1, by rw [k.frozen hlt hs]; exact h2⟩
theorem CkAt.keeps {S : Nat → Prop} {a w : World} {b : Nat} {c : Ck} (h : CkAt a b c) (k : Keeps S a w) (hs : ¬ S b) : CkAt w b c := fun j u hj => by
  have h1 := h j u hj
  rw [k.cell (World.block_lt_of_cell? a _ h1) hs]; exact h1
theorem MapMem.of_block {w w' : World} {b : Nat} {kvs : List KV} {es : Array MapEntry} {clock : Nat} (h : MapMem w b kvs es clock) (hb : w'.heap[b]? = w.heap[b]?) : MapMem w' b kvs es clock :=
  ⟨by rw [hb]; exact h.blk, h.sh, h.born, h.nob, h.nok⟩
theorem MapMem.lt {w : World} {b : Nat} {kvs : List KV} {es : Array MapEntry} {clock : Nat} (h : MapMem w b kvs es clock) : b < w.heap.size := (Array.getElem?_eq_some_iff.1 h.blk).1
theorem MapMem.keeps {S : Nat → Prop} {a w : World} {b : Nat} {kvs : List KV} {es : Array MapEntry} {clock : Nat} (h : MapMem a b kvs es clock) (k : Keeps S a w) (hs : ¬ S b) : MapMem w b kvs es clock :=
  h.of_block (k.block b h.lt hs)
theorem MapMem.below {w w' : World} {b : Nat} {kvs : List KV} {es : Array MapEntry} {clock : Nat} (h : MapMem w b kvs es clock) (hb : Below w.heap.size w w') : MapMem w' b kvs es clock :=
  h.of_block (hb.block b h.lt)
theorem MapMem.alloc {w : World} {b : Nat} {kvs : List KV} {es : Array MapEntry} {clock : Nat} (h : MapMem w b kvs es clock) (o : Obj) : MapMem (w.alloc o) b kvs es clock := h.below ((Below.refl _ _).alloc (Nat.le_refl _) o)
theorem MapMem.setCell {w : World} {b b' : Nat} {kvs : List KV} {es : Array MapEntry} {clock : Nat} (h : MapMem w b kvs es clock) (o : Nat) (v : Value) (hb : b ≠ b') : MapMem (w.setCell ⟨b', o, none⟩ v) b kvs es clock :=
  h.of_block (Below.heap_setCell _ _ _ _ hb)
theorem MapMem.made (w : World) : MapMem (w.alloc (.map #[] 0)) w.heap.size [] #[] 0 :=
  ⟨by show (w.heap.push _)[w.heap.size]? = _; simp, rfl, by simp, by simp, by simp⟩
theorem BlkAt.setMap {w : World} {b b' : Nat} {cs : List Value} (h : BlkAt w b cs) (hb : b ≠ b') (es : Array MapEntry) (clock : Nat) : BlkAt (setMap w b' es clock) b cs :=
  h.keeps (S := fun k => k = b') ((Keeps.refl (fun k => k = b') w).setMap (Or.inl rfl) es clock) hb

/-- The cells of an entry that is not yet written. -/
def zeroE : Array Value := #[.string ⟨#[]⟩, .string ⟨#[]⟩, .bool false, .string ⟨#[]⟩, .string ⟨#[]⟩, .bool false, .bool false, .bool false, .bool false, .int .i64 0, .int .i64 0, .int .i64 0, .int .i64 0, .int .i64 0, .int .i64 0, .int .u64 0]

theorem setCells_new : ∀ (cs : List Value) (o : Nat) (pre suf : List Value) (w : World) (t : TypeId), pre.length = o → suf.length = cs.length →
    (w.alloc (.cells (pre ++ suf).toArray t)).setCells w.heap.size o cs = w.alloc (.cells (pre ++ cs).toArray t)
  | [], o, pre, suf, w, t, h1, h2 => by
    rw [List.length_nil, List.length_eq_zero_iff] at h2
    subst h2; rfl
  | v :: r, o, pre, suf, w, t, h1, h2 => by
    cases suf with
    | nil => simp at h2
    | cons u suf =>
      rw [World.setCells]
      have hset : (w.alloc (.cells (pre ++ u :: suf).toArray t)).setCell ⟨w.heap.size, o, none⟩ v = w.alloc (.cells ((pre ++ [v]) ++ suf).toArray t) := by
        rw [World.setCell_alloc_at _ _ _ _ _ rfl]
        congr 2
        subst h1
        simp
      rw [hset, setCells_new r (o + 1) (pre ++ [v]) suf w t (by simp [h1]) (by simpa using h2)]
      simp

theorem storeNewE (w : World) (x : Ent) :
    (Instr.storeAt 118 (.pointer (some ⟨w.heap.size, 0, none⟩)) (.agg (encE x).toArray)).run Tryz.prog (w.alloc (.cells zeroE 118)) = .ok () (w.alloc (.cells (encE x).toArray 118)) := by
  have h := storeAtE x (BlkAt.made w zeroE.toList 118) rfl
  rw [show w.alloc (.cells zeroE.toList.toArray 118) = w.alloc (.cells zeroE 118) from rfl] at h
  rw [h]
  have this : (w.alloc (.cells zeroE 118)).setCells w.heap.size 0 (encE x) = w.alloc (.cells (encE x).toArray 118) := setCells_new (encE x) 0 [] zeroE.toList w 118 rfl rfl
  rw [this]

theorem storeNewZ (w : World) :
    (Instr.storeAt 118 (.pointer (some ⟨w.heap.size, 0, none⟩)) (.agg zeroE)).run Tryz.prog (w.alloc (.cells zeroE 118)) = .ok () (w.alloc (.cells zeroE 118)) :=
  storeNewE w { name := [], value := [], quoted := false, domain := [], path := [], secure := false, httpOnly := false, persistent := false, hostOnly := false, exps := 0, crs := 0, las := 0, seq := 0 }
theorem zeroV118 (w : World) : (zeroValue 118).run Tryz.prog w = .ok (.agg zeroE) w := Tryz.zeroValue118 w

theorem mapNe (r : Option Nat) (w : World) : (binOp .neq 115 (.map r) (.map none)).run Tryz.prog w = .ok (.bool r.isSome) w := by
  rw [run_neq_map_nil w 115 9 118 r Tryz.underlying115]; cases r <;> rfl
theorem mapEq (r : Option Nat) (w : World) : (binOp .eql 115 (.map r) (.map none)).run Tryz.prog w = .ok (.bool r.isNone) w := by
  rw [run_eql_map_nil w 115 9 118 r Tryz.underlying115]

/-- The place of a key in the jar. -/
def findJ (JB : List (List UInt8 × Nat × List Ent)) (k : List UInt8) : Option (Nat × List Ent) := (JB.find? fun p => decide (p.1 = k)).map Prod.snd

/-- An entry with its cookie's fields. -/
def entOf (c : Ck) (d : List UInt8) (al : Bool) (dp : List UInt8) (t : Int) (p : Bool) : Ent :=
  { name := c.name, value := c.value, quoted := false, domain := d, path := pathOf c dp, secure := c.secure, httpOnly := false, persistent := p, hostOnly := al, exps := t, crs := 0, las := 0, seq := 0 }

/-- The entries of one key (none: there is no map), whether they were touched, and the next number. -/
structure SubSt where
  sub : Option (List Ent)
  mod : Bool
  seq : Nat

/-- One cookie is set. -/
def setOne (listed : Bool) (ss : List (List UInt8)) (host dp : List UInt8) (now : Int) (st : SubSt) (c : Ck) : SubSt :=
  match domType listed ss host c.domain with
  | none => st
  | some (d, al) =>
    match endOf c now with
    | none =>
      match st.sub with
      | none => st
      | some L => if (findE L (idOf d (pathOf c dp) c.name)).isSome then { st with sub := some (delE L (idOf d (pathOf c dp) c.name)), mod := true } else st
    | some (t, p) =>
      match findE (st.sub.getD []) (idOf d (pathOf c dp) c.name) with
      | some old => { st with sub := some (putE (st.sub.getD []) { entOf c d al dp t p with crs := old.crs, seq := old.seq, las := now }), mod := true }
      | none => { sub := some (putE (st.sub.getD []) { entOf c d al dp t p with crs := now, seq := st.seq, las := now }), mod := true, seq := st.seq + 1 }
/-- The first k cookies are set. -/
def setTo (listed : Bool) (ss : List (List UInt8)) (host dp : List UInt8) (now : Int) (st : SubSt) (cs : List Ck) (k : Nat) : SubSt := (cs.take k).foldl (setOne listed ss host dp now) st
theorem setTo_succ (listed : Bool) (ss : List (List UInt8)) (host dp : List UInt8) (now : Int) (st : SubSt) (cs : List Ck) (k : Nat) (h : k < cs.length) :
    setTo listed ss host dp now st cs (k + 1) = setOne listed ss host dp now (setTo listed ss host dp now st cs k) cs[k] := by
  rw [setTo, List.take_succ_eq_append_getElem h, List.foldl_append]; rfl
theorem setOne_seq (listed : Bool) (ss : List (List UInt8)) (host dp : List UInt8) (now : Int) (st : SubSt) (c : Ck) : st.seq ≤ (setOne listed ss host dp now st c).seq ∧ (setOne listed ss host dp now st c).seq ≤ st.seq + 1 := by
  unfold setOne
  repeat' split
  all_goals first | omega | (dsimp only; omega)
theorem setTo_seq (listed : Bool) (ss : List (List UInt8)) (host dp : List UInt8) (now : Int) (st : SubSt) (cs : List Ck) : ∀ k, k ≤ cs.length → st.seq ≤ (setTo listed ss host dp now st cs k).seq ∧ (setTo listed ss host dp now st cs k).seq ≤ st.seq + k
  | 0, _ => by simp [setTo]
  | k + 1, h => by
    rw [setTo_succ _ _ _ _ _ _ _ _ (by omega)]
    have h1 := setOne_seq listed ss host dp now (setTo listed ss host dp now st cs k) cs[k]
    have h2 := setTo_seq listed ss host dp now st cs k (by omega)
    omega

/-- A submap in memory: its value, its block. -/
def SubMem (w : World) (v : Value) (o : Option (List Ent)) : Prop :=
  match o with
  | none => v = .map none
  | some L => ∃ b es clock, v = .map (some b) ∧ MapMem w b (kvE L) es clock

theorem domType_len {listed : Bool} {ss : List (List UInt8)} {host raw d : List UInt8} {a : Bool} (h : domType listed ss host raw = some (d, a)) {n : Nat} (h1 : host.length ≤ n) (h2 : raw.length ≤ n) : d.length ≤ n := by
  have h3 : ((trimPre raw 46).map lowB).length ≤ n := Nat.le_trans (by simpa using trimPre_len raw 46) h2
  unfold domType at h
  split at h
  · cases h; exact h1
  · split at h
    · split at h
      · cases h; exact h1
      · cases h
    · split at h
      · split at h
        · cases h; exact h1
        · cases h
      · split at h
        · cases h; exact h3
        · cases h
end Go.Proofs.YtckfgnbilcjdpaaGreatDoor
/- The jar in memory: what stays true of it when cookies are set. -/
namespace Go.Proofs.YtckfgnbilcjdpaaGreatDoor
open Go.RowKit
set_option maxRecDepth 100000

/-- The pairs of the jar's outer map. -/
def kvJ (JB : List (List UInt8 × Nat × List Ent)) : List KV := JB.map fun p => (p.1, .map (some p.2.1))
/-- The jar's blocks. -/
def footJ (jb eb : Nat) (JB : List (List UInt8 × Nat × List Ent)) : List Nat := jb :: eb :: JB.map fun p => p.2.1
/-- The jar in memory. -/
structure JarMem (w : World) (jb eb : Nat) (pv : Value) (JB : List (List UInt8 × Nat × List Ent)) (seq : Nat) : Prop where
  jar : BlkAt w jb [pv, .map (some eb), .int .u64 seq]
  ent : ∃ es clock, MapMem w eb (kvJ JB) es clock
  subs : ∀ p ∈ JB, ∃ es clock, MapMem w p.2.1 (kvE p.2.2) es clock
  nod : (footJ jb eb JB).Nodup

/-- What setCookies asks of a cookie. -/
structure CkSm (c : Ck) : Prop where
  nlen : c.name.length ≤ 2147483647
  dlen : c.domain.length ≤ 2147483647
  plen : c.path.length ≤ 2147483647
  ok : CkOk c

/-- A list of cookies in memory: their blocks lie from m on. -/
structure CksAt (w : World) (A : Option Addr) (cbs : List Nat) (cs : List Ck) (m : Nat) : Prop where
  len : cbs.length = cs.length
  cells : CellsAt w A (cbs.map fun b => .pointer (some ⟨b, 0, none⟩))
  cks : ∀ i (h1 : i < cbs.length) (h2 : i < cs.length), CkAt w cbs[i] cs[i]
  off : ∀ b ∈ cbs, m ≤ b
  offA : ∀ a, A = some a → m ≤ a.block

theorem keyOf_suf (listed : Bool) (ss : List (List UInt8)) (h : List UInt8) : (keyOf listed ss h).length ≤ h.length := by
  unfold keyOf keyAt
  repeat' split
  all_goals simp

def httpB : List UInt8 := [104, 116, 116, 112]
def httpsB : List UInt8 := [104, 116, 116, 112, 115]

/-- The blocks that the loop over the cookies may write. -/
def SetS (jb : Nat) (mb0 : Option Nat) (k : Nat) : Prop := k = jb ∨ mb0 = some k

theorem look_kvJ (JB : List (List UInt8 × Nat × List Ent)) (k : List UInt8) : look (kvJ JB) k = (findJ JB k).map fun p => .map (some p.1) := by
  simp only [look, kvJ, findJ, List.find?_map, Option.map_map]; rfl

theorem findJ_mem {JB : List (List UInt8 × Nat × List Ent)} {k : List UInt8} {b : Nat} {L : List Ent} (h : findJ JB k = some (b, L)) : (k, b, L) ∈ JB := by
  unfold findJ at h
  cases hf : JB.find? (fun p => decide (p.1 = k)) with
  | none => rw [hf] at h; cases h
  | some p =>
    rw [hf] at h
    have h1 := List.mem_of_find?_eq_some hf
    have h2 := List.find?_some hf
    simp only [decide_eq_true_eq] at h2
    simp only [Option.map_some, Option.some.injEq] at h
    obtain ⟨p1, p2⟩ := p
    simp only at h h2
    subst h; subst h2
    exact h1

/-- The touched submap while the cookies are set. -/
def SubX (jb : Nat) (mb0 : Option Nat) (n : Nat) (w : World) (v : Value) (o : Option (List Ent)) : Prop :=
  match o with
  | none => v = .map none ∧ mb0 = none
  | some L => ∃ b es clock, v = .map (some b) ∧ MapMem w b (kvE L) es clock ∧ b ≠ jb ∧ (mb0 = some b ∨ mb0 = none ∧ n ≤ b)

theorem SubX.below {jb : Nat} {mb0 : Option Nat} {n : Nat} {w w' : World} {v : Value} {o : Option (List Ent)} (h : SubX jb mb0 n w v o) (hb : Below w.heap.size w w') : SubX jb mb0 n w' v o := by
  cases o with
  | none => exact h
  | some L =>
    obtain ⟨b, es, clk, h1, h2, h3⟩ := h
    exact ⟨b, es, clk, h1, h2.below hb, h3⟩
theorem SubX.alloc {jb : Nat} {mb0 : Option Nat} {n : Nat} {w : World} {v : Value} {o : Option (List Ent)} (h : SubX jb mb0 n w v o) (ob : Obj) : SubX jb mb0 n (w.alloc ob) v o := h.below ((Below.refl _ _).alloc (Nat.le_refl _) ob)


abbrev JB := List (List UInt8 × Nat × List Ent)
/-- The jar without its blocks. -/
def strip (J : JB) : List (List UInt8 × List Ent) := J.map fun p => (p.1, p.2.2)
/-- The entries at a key. -/
def findA (J : List (List UInt8 × List Ent)) (k : List UInt8) : Option (List Ent) := (J.find? fun p => decide (p.1 = k)).map Prod.snd
/-- The entries at a key are set. -/
def putA (J : List (List UInt8 × List Ent)) (k : List UInt8) (L : List Ent) : List (List UInt8 × List Ent) :=
  if k ∈ J.map Prod.fst then J.map (fun p => if p.1 = k then (k, L) else p) else J ++ [(k, L)]
/-- A key is struck out. -/
def delA (J : List (List UInt8 × List Ent)) (k : List UInt8) : List (List UInt8 × List Ent) := J.filter fun p => decide (p.1 ≠ k)
/-- What setCookies makes of the jar. -/
def endSet (J : List (List UInt8 × List Ent)) (key : List UInt8) (st : SubSt) : List (List UInt8 × List Ent) :=
  if st.mod then (if (st.sub.getD []).isEmpty then delA J key else putA J key (st.sub.getD [])) else J
def setA (listed : Bool) (ss : List (List UInt8)) (J : List (List UInt8 × List Ent)) (seq : Nat) (host dp : List UInt8) (now : Int) (cs : List Ck) : List (List UInt8 × List Ent) × Nat :=
  let st := setTo listed ss host dp now ⟨findA J (keyOf listed ss host), false, seq⟩ cs cs.length
  (endSet J (keyOf listed ss host) st, st.seq)

theorem findA_strip (J : JB) (k : List UInt8) : findA (strip J) k = (findJ J k).map Prod.snd := by
  simp only [findA, strip, findJ, List.find?_map, Option.map_map]; rfl

theorem setOne_mod (listed : Bool) (ss : List (List UInt8)) (host dp : List UInt8) (now : Int) (st : SubSt) (c : Ck) (h : (setOne listed ss host dp now st c).mod = false) : setOne listed ss host dp now st c = st := by
  revert h
  unfold setOne
  repeat' split
  all_goals first | (intro h; rfl) | (intro h; cases h)
theorem setOne_some (listed : Bool) (ss : List (List UInt8)) (host dp : List UInt8) (now : Int) (st : SubSt) (c : Ck) (h : st.mod = true → st.sub.isSome) : (setOne listed ss host dp now st c).mod = true → (setOne listed ss host dp now st c).sub.isSome := by
  unfold setOne
  repeat' split
  all_goals first | exact h | (intro _; rfl)
theorem setTo_mod (listed : Bool) (ss : List (List UInt8)) (host dp : List UInt8) (now : Int) (st : SubSt) (cs : List Ck) : ∀ k, k ≤ cs.length → (setTo listed ss host dp now st cs k).mod = false → setTo listed ss host dp now st cs k = st
  | 0, _, _ => rfl
  | k + 1, h, hm => by
    rw [setTo_succ _ _ _ _ _ _ _ _ (by omega)] at hm ⊢
    have h1 := setOne_mod _ _ _ _ _ _ _ hm
    rw [h1] at hm ⊢
    exact setTo_mod listed ss host dp now st cs k (by omega) hm
theorem setTo_some (listed : Bool) (ss : List (List UInt8)) (host dp : List UInt8) (now : Int) (st : SubSt) (cs : List Ck) (h : st.mod = true → st.sub.isSome) : ∀ k, k ≤ cs.length → (setTo listed ss host dp now st cs k).mod = true → (setTo listed ss host dp now st cs k).sub.isSome
  | 0, _ => h
  | k + 1, hk => by
    rw [setTo_succ _ _ _ _ _ _ _ _ (by omega)]
    exact setOne_some _ _ _ _ _ _ _ (setTo_some listed ss host dp now st cs h k (by omega))

theorem JarMem.keys {w : World} {jb eb : Nat} {pv : Value} {J : JB} {seq : Nat} (h : JarMem w jb eb pv J seq) : (J.map Prod.fst).Nodup := by
  obtain ⟨es, clk, hm⟩ := h.ent
  have := hm.nok
  rwa [kvJ, List.map_map] at this

theorem nodup_fst {J : JB} (hn : (J.map Prod.fst).Nodup) {p q : List UInt8 × Nat × List Ent} (hp : p ∈ J) (hq : q ∈ J) (h : p.1 = q.1) : p = q := by
  obtain ⟨i, hi, ei⟩ := List.getElem_of_mem hp
  obtain ⟨j, hj, ej⟩ := List.getElem_of_mem hq
  have h1 : (J.map Prod.fst)[i]? = some p.1 := by rw [List.getElem?_map, List.getElem?_eq_getElem hi, ei]; rfl
  have h2 : (J.map Prod.fst)[j]? = some p.1 := by rw [List.getElem?_map, List.getElem?_eq_getElem hj, ej, h]; rfl
  have e := nodup_inj hn h1 h2
  subst e
  rw [← ei, ← ej]
theorem nodup_blk {jb eb : Nat} {J : JB} (hn : (footJ jb eb J).Nodup) {p q : List UInt8 × Nat × List Ent} (hp : p ∈ J) (hq : q ∈ J) (h : p.2.1 = q.2.1) : p = q := by
  rw [footJ, List.nodup_cons, List.nodup_cons] at hn
  obtain ⟨i, hi, ei⟩ := List.getElem_of_mem hp
  obtain ⟨j, hj, ej⟩ := List.getElem_of_mem hq
  have h1 : (J.map fun p => p.2.1)[i]? = some p.2.1 := by rw [List.getElem?_map, List.getElem?_eq_getElem hi, ei]; rfl
  have h2 : (J.map fun p => p.2.1)[j]? = some p.2.1 := by rw [List.getElem?_map, List.getElem?_eq_getElem hj, ej, h]; rfl
  have e := nodup_inj hn.2.2 h1 h2
  subst e
  rw [← ei, ← ej]
theorem nodup_ne {jb eb : Nat} {J : JB} (hn : (footJ jb eb J).Nodup) : jb ≠ eb ∧ ∀ p ∈ J, p.2.1 ≠ jb ∧ p.2.1 ≠ eb := by
  rw [footJ, List.nodup_cons, List.nodup_cons] at hn
  refine ⟨fun e => hn.1 (by rw [e]; exact List.mem_cons_self ..), fun p hp => ⟨fun e => hn.1 ?_, fun e => hn.2.1 ?_⟩⟩
  · rw [← e]; exact List.mem_cons_of_mem _ (List.mem_map.2 ⟨p, hp, rfl⟩)
  · rw [← e]; exact List.mem_map.2 ⟨p, hp, rfl⟩

theorem JarMem.below {w w' : World} {jb eb : Nat} {pv : Value} {J : JB} {seq : Nat} (h : JarMem w jb eb pv J seq) (hb : Below w.heap.size w w') : JarMem w' jb eb pv J seq :=
  ⟨h.jar.below hb, by obtain ⟨es, c, hm⟩ := h.ent; exact ⟨es, c, hm.below hb⟩, fun p hp => by obtain ⟨es, c, hm⟩ := h.subs p hp; exact ⟨es, c, hm.below hb⟩, h.nod⟩

theorem JarMem.keeps {S : Nat → Prop} {w w' : World} {jb eb : Nat} {pv : Value} {J : JB} {seq : Nat} (h : JarMem w jb eb pv J seq) (k : Keeps S w w') (hs : ∀ b ∈ footJ jb eb J, ¬ S b) : JarMem w' jb eb pv J seq :=
  ⟨h.jar.keeps k (hs _ (by simp [footJ])), by obtain ⟨es, c, hm⟩ := h.ent; exact ⟨es, c, hm.keeps k (hs _ (by simp [footJ]))⟩,
    fun p hp => by obtain ⟨es, c, hm⟩ := h.subs p hp; exact ⟨es, c, hm.keeps k (hs _ (List.mem_cons_of_mem _ (List.mem_cons_of_mem _ (List.mem_map.2 ⟨p, hp, rfl⟩))))⟩, h.nod⟩

section
variable {w1 wr : World} {jb eb : Nat} {pv : Value} {J : JB} {seq seq' : Nat} {key : List UInt8} {mb0 : Option Nat}

theorem JarMem.setS (hj : JarMem w1 jb eb pv J seq) (hm : mb0 = (findJ J key).map Prod.fst) : ¬ SetS jb mb0 eb ∧ ∀ p ∈ J, p.1 ≠ key → ¬ SetS jb mb0 p.2.1 := by
  obtain ⟨h1, h2⟩ := nodup_ne hj.nod
  refine ⟨?_, ?_⟩
  · rintro (e | e)
    · exact h1 e.symm
    · cases hf : findJ J key with
      | none => rw [hm, hf] at e; cases e
      | some q =>
        obtain ⟨b, L⟩ := q
        rw [hm, hf] at e; cases e
        exact (h2 _ (findJ_mem hf)).2 rfl
  · intro p hp hne
    rintro (e | e)
    · exact (h2 p hp).1 e
    · cases hf : findJ J key with
      | none => rw [hm, hf] at e; cases e
      | some q =>
        obtain ⟨b, L⟩ := q
        rw [hm, hf] at e
        have : (key, b, L) = p := nodup_blk hj.nod (findJ_mem hf) hp (by simpa using e)
        exact hne (by rw [← this])

theorem JarMem.same (hj : JarMem w1 jb eb pv J seq) (hk : Keeps (SetS jb mb0) w1 wr) (hm : mb0 = (findJ J key).map Prod.fst) {n : Nat} {v : Value}
    (hs : SubX jb mb0 n wr v ((findJ J key).map Prod.snd)) (hb : BlkAt wr jb [pv, .map (some eb), .int .u64 seq']) : JarMem wr jb eb pv J seq' := by
  obtain ⟨h1, h2⟩ := hj.setS hm
  refine ⟨hb, ?_, ?_, hj.nod⟩
  · obtain ⟨es, c, h⟩ := hj.ent; exact ⟨es, c, h.keeps hk h1⟩
  · intro p hp
    by_cases e : p.1 = key
    · cases hf : findJ J key with
      | none =>
        exfalso
        unfold findJ at hf
        rw [Option.map_eq_none_iff, List.find?_eq_none] at hf
        exact hf p hp (by simpa using e)
      | some q =>
        obtain ⟨b, L⟩ := q
        have hpq : (key, b, L) = p := nodup_fst hj.keys (findJ_mem hf) hp e.symm
        rw [hf] at hs hm
        obtain ⟨b', es, clk, _, h3, _, h4⟩ := hs
        rw [hm] at h4
        rcases h4 with h4 | ⟨h4, _⟩
        · cases h4
          rw [← hpq]; exact ⟨es, clk, h3⟩
        · cases h4
    · obtain ⟨es, c, h⟩ := hj.subs p hp; exact ⟨es, c, h.keeps hk (h2 p hp e)⟩

theorem JarMem.entW (hj : JarMem w1 jb eb pv J seq) (hk : Keeps (SetS jb mb0) w1 wr) (hm : mb0 = (findJ J key).map Prod.fst) : ∃ es clk, MapMem wr eb (kvJ J) es clk := by
  obtain ⟨es, c, h⟩ := hj.ent; exact ⟨es, c, h.keeps hk (hj.setS hm).1⟩

theorem delKV_kvJ (J : JB) (k : List UInt8) : delKV (kvJ J) k = kvJ (J.filter fun p => decide (p.1 ≠ k)) := by
  simp only [delKV, kvJ, List.filter_map]; rfl
theorem strip_filter (J : JB) (k : List UInt8) : strip (J.filter fun p => decide (p.1 ≠ k)) = delA (strip J) k := by
  simp only [delA, strip, List.filter_map]; rfl
/-- The key's map is set. -/
def putJ (J : JB) (k : List UInt8) (b : Nat) (L : List Ent) : JB := if k ∈ J.map Prod.fst then J.map (fun p => if p.1 = k then (k, b, L) else p) else J ++ [(k, b, L)]
theorem putKV_kvJ (J : JB) (k : List UInt8) (b : Nat) (L : List Ent) : putKV (kvJ J) k (.map (some b)) = kvJ (putJ J k b L) := by
  unfold putKV putJ
  rw [show (kvJ J).map Prod.fst = J.map Prod.fst by simp [kvJ]]
  split
  · simp only [kvJ, List.map_map]
    apply List.map_congr_left
    intro x _
    simp only [Function.comp]
    split <;> simp_all
  · simp [kvJ]
theorem strip_putJ (J : JB) (k : List UInt8) (b : Nat) (L : List Ent) : strip (putJ J k b L) = putA (strip J) k L := by
  unfold putA putJ
  rw [show (strip J).map Prod.fst = J.map Prod.fst by simp [strip]]
  split
  · simp only [strip, List.map_map]
    apply List.map_congr_left
    intro x _
    simp only [Function.comp]
    split <;> simp_all
  · simp [strip]

theorem JarMem.del (hj : JarMem w1 jb eb pv J seq) (hk : Keeps (SetS jb mb0) w1 wr) (hm : mb0 = (findJ J key).map Prod.fst) (hb : BlkAt wr jb [pv, .map (some eb), .int .u64 seq'])
    {es : Array MapEntry} {clk : Nat} (he : MapMem (setMap wr eb es clk) eb (delKV (kvJ J) key) es clk) :
    JarMem (setMap wr eb es clk) jb eb pv (J.filter fun p => decide (p.1 ≠ key)) seq' ∧ (∀ k ∈ footJ jb eb (J.filter fun p => decide (p.1 ≠ key)), k ∈ footJ jb eb J) := by
  obtain ⟨h1, h2⟩ := hj.setS hm
  obtain ⟨n1, n2⟩ := nodup_ne hj.nod
  have hsl : (footJ jb eb (J.filter fun p => decide (p.1 ≠ key))).Sublist (footJ jb eb J) := by
    unfold footJ
    exact ((List.filter_sublist).map _).cons_cons _ |>.cons_cons _
  refine ⟨⟨hb.setMap n1 _ _, ?_, ?_, hj.nod.sublist hsl⟩, fun k hk => hsl.subset hk⟩
  · rw [delKV_kvJ] at he; exact ⟨es, clk, he⟩
  · intro p hp
    obtain ⟨hp1, hp2⟩ := List.mem_filter.1 hp
    simp only [ne_eq, decide_not, Bool.not_eq_true', decide_eq_false_iff_not] at hp2
    obtain ⟨es', c, h⟩ := hj.subs p hp1
    refine ⟨es', c, (h.keeps hk (h2 p hp1 hp2)).keeps (S := fun k => k = eb) ((Keeps.refl (fun k => k = eb) wr).setMap (Or.inl (show (fun k => k = eb) eb from rfl)) es clk) (n2 p hp1).2⟩

theorem JarMem.put (hj : JarMem w1 jb eb pv J seq) (hk : Keeps (SetS jb mb0) w1 wr) (hm : mb0 = (findJ J key).map Prod.fst) (hb : BlkAt wr jb [pv, .map (some eb), .int .u64 seq'])
    {b : Nat} {L : List Ent} (hbb : ∃ es clk, MapMem wr b (kvE L) es clk) (hbj : b ≠ jb) (hbm : mb0 = some b ∨ mb0 = none ∧ w1.heap.size ≤ b)
    {es : Array MapEntry} {clk : Nat} (he : MapMem (setMap wr eb es clk) eb (putKV (kvJ J) key (.map (some b))) es clk) :
    JarMem (setMap wr eb es clk) jb eb pv (putJ J key b L) seq' ∧ (∀ k ∈ footJ jb eb (putJ J key b L), k ∈ footJ jb eb J ∨ w1.heap.size ≤ k) := by
  obtain ⟨h1, h2⟩ := hj.setS hm
  obtain ⟨n1, n2⟩ := nodup_ne hj.nod
  have hk2 : Keeps (fun k => k = eb) wr (setMap wr eb es clk) := (Keeps.refl (fun k => k = eb) wr).setMap (Or.inl (show (fun k => k = eb) eb from rfl)) es clk
  have hfoot : ∀ k ∈ footJ jb eb J, k < w1.heap.size := by
    intro k hk
    simp only [footJ, List.mem_cons, List.mem_map] at hk
    rcases hk with rfl | rfl | ⟨p, hp, rfl⟩
    · exact World.block_lt_of_cell? w1 _ (hj.jar 0 _ rfl).1
    · obtain ⟨es, c, h⟩ := hj.ent; exact h.lt
    · obtain ⟨es, c, h⟩ := hj.subs p hp; exact h.lt
  have heb : eb < w1.heap.size := hfoot _ (by simp [footJ])
  cases hf : findJ J key with
  | none =>
    have hnk : key ∉ J.map Prod.fst := by
      unfold findJ at hf
      rw [Option.map_eq_none_iff, List.find?_eq_none] at hf
      intro hmem
      obtain ⟨p, hp, e⟩ := List.mem_map.1 hmem
      exact hf p hp (by simpa using e)
    rw [hf] at hm
    have hbn : w1.heap.size ≤ b := by
      rcases hbm with h | ⟨_, h⟩
      · rw [hm] at h; cases h
      · exact h
    have hpj : putJ J key b L = J ++ [(key, b, L)] := by rw [putJ, if_neg hnk]
    have hfj : footJ jb eb (J ++ [(key, b, L)]) = footJ jb eb J ++ [b] := by simp [footJ]
    refine ⟨⟨hb.setMap n1 _ _, ⟨es, clk, by rw [← putKV_kvJ]; exact he⟩, ?_, ?_⟩, ?_⟩
    · intro p hp
      rw [hpj, List.mem_append, List.mem_singleton] at hp
      rcases hp with hp | rfl
      · obtain ⟨es', c, h⟩ := hj.subs p hp
        have hne : p.1 ≠ key := fun e => hnk (e ▸ List.mem_map.2 ⟨p, hp, rfl⟩)
        exact ⟨es', c, (h.keeps hk (h2 p hp hne)).keeps hk2 (n2 p hp).2⟩
      · obtain ⟨es', c, h⟩ := hbb
        exact ⟨es', c, h.keeps hk2 (by show b ≠ eb; omega)⟩
    · rw [hpj, hfj]
      refine nodup_snoc hj.nod ?_
      intro h
      have := hfoot _ h; omega
    · rw [hpj, hfj]
      intro k hk
      rw [List.mem_append, List.mem_singleton] at hk
      rcases hk with h | rfl
      · exact Or.inl h
      · exact Or.inr hbn
  | some q =>
    obtain ⟨b0, L0⟩ := q
    have hmem := findJ_mem hf
    rw [hf] at hm
    have hb0 : b0 = b := by
      rcases hbm with h | ⟨h, _⟩
      · rw [hm] at h; simpa using h
      · rw [hm] at h; cases h
    subst hb0
    have hkm : key ∈ J.map Prod.fst := List.mem_map.2 ⟨_, hmem, rfl⟩
    have hpj : putJ J key b0 L = J.map (fun p => if p.1 = key then (key, b0, L) else p) := by rw [putJ, if_pos hkm]
    have hfj : footJ jb eb (putJ J key b0 L) = footJ jb eb J := by
      rw [hpj]
      simp only [footJ, List.map_map]
      congr 2
      apply List.map_congr_left
      intro p hp
      simp only [Function.comp]
      split
      · rename_i e
        have := nodup_fst hj.keys hp hmem e
        rw [this]
      · rfl
    refine ⟨⟨hb.setMap n1 _ _, ⟨es, clk, by rw [← putKV_kvJ]; exact he⟩, ?_, ?_⟩, ?_⟩
    · intro p hp
      rw [hpj] at hp
      obtain ⟨p', hp', e⟩ := List.mem_map.1 hp
      split at e
      · subst e
        obtain ⟨es', c, h⟩ := hbb
        exact ⟨es', c, h.keeps hk2 (n2 _ hmem).2⟩
      · rename_i hne
        subst e
        obtain ⟨es', c, h⟩ := hj.subs _ hp'
        exact ⟨es', c, (h.keeps hk (h2 _ hp' hne)).keeps hk2 (n2 _ hp').2⟩
    · rw [hfj]; exact hj.nod
    · rw [hfj]; intro k hk; exact Or.inl hk
end

/-- From w to w' the jar became r. -/
def JarTo (w w' : World) (jb eb : Nat) (pv : Value) (J : JB) (r : List (List UInt8 × List Ent) × Nat) : Prop :=
  ∃ J' : JB, JarMem w' jb eb pv J' r.2 ∧ strip J' = r.1 ∧ Keeps (fun k => k ∈ footJ jb eb J) w w' ∧ ∀ k ∈ footJ jb eb J', k ∈ footJ jb eb J ∨ w.heap.size ≤ k
end Go.Proofs.YtckfgnbilcjdpaaGreatDoor
/- A loop over a map of entries that deletes and replaces as it goes. -/
namespace Go.Proofs.YtckfgnbilcjdpaaGreatDoor
open Go.RowKit
set_option maxRecDepth 100000

/-- The loop over the map in block b with its iterator in block r: the ids D have come. -/
def Rng (w : World) (b r : Nat) (D : List (List UInt8)) (L : List Ent) (since : Nat) : Prop :=
  ∃ es clk seen c0, MapMem w b (kvE L) es clk ∧ w.heap[r]? = some (.mapIter (some b) since seen c0) ∧ (∀ x ∈ es.toList, x.born < since) ∧ since ≤ c0 ∧ c0 ≤ clk ∧ clk ≤ c0 ∧ r ≠ b ∧
    (∀ (j : Nat) (e : Ent) (x : MapEntry), L[j]? = some e → es[j]? = some x → (seen.contains x.born = true ↔ idE e ∈ D))

theorem Rng.ne {w : World} {b r : Nat} {D : List (List UInt8)} {L : List Ent} {s : Nat} (h : Rng w b r D L s) : r ≠ b := by
  obtain ⟨_, _, _, _, _, _, _, _, _, _, h, _⟩ := h; exact h
theorem Rng.lt {w : World} {b r : Nat} {D : List (List UInt8)} {L : List Ent} {s : Nat} (h : Rng w b r D L s) : b < w.heap.size ∧ r < w.heap.size := by
  obtain ⟨_, _, _, _, h, k, _⟩ := h; exact ⟨h.lt, (Array.getElem?_eq_some_iff.1 k).1⟩
theorem Rng.mem {w : World} {b r : Nat} {D : List (List UInt8)} {L : List Ent} {s : Nat} (h : Rng w b r D L s) : ∃ es clk, MapMem w b (kvE L) es clk := by
  obtain ⟨es, clk, _, _, h, _⟩ := h; exact ⟨es, clk, h⟩
theorem Rng.keeps {S : Nat → Prop} {w w' : World} {b r : Nat} {D : List (List UInt8)} {L : List Ent} {s : Nat} (h : Rng w b r D L s) (k : Keeps S w w') (hb : ¬ S b) (hr : ¬ S r) : Rng w' b r D L s := by
  have hlt := h.lt
  obtain ⟨es, clk, seen, c0, h1, h2, h3⟩ := h
  exact ⟨es, clk, seen, c0, h1.keeps k hb, by rw [k.block r hlt.2 hr]; exact h2, h3⟩
theorem Rng.below {w w' : World} {b r : Nat} {D : List (List UInt8)} {L : List Ent} {s : Nat} (h : Rng w b r D L s) (k : Below w.heap.size w w') : Rng w' b r D L s :=
  h.keeps (S := fun _ => False) ((Keeps.refl _ w).below k) id id
theorem Rng.alloc {w : World} {b r : Nat} {D : List (List UInt8)} {L : List Ent} {s : Nat} (h : Rng w b r D L s) (o : Obj) : Rng (w.alloc o) b r D L s := h.below ((Below.refl _ _).alloc (Nat.le_refl _) o)

theorem Rng.nodup {w : World} {b r : Nat} {D : List (List UInt8)} {L : List Ent} {s : Nat} (h : Rng w b r D L s) : (L.map idE).Nodup := by
  obtain ⟨es, clk, _, _, h, _⟩ := h
  have := h.nok
  rwa [kvE_keys] at this

/-- The loop begins. -/
theorem Rng.start {w : World} {b : Nat} {L : List Ent} {es : Array MapEntry} {clk : Nat} (h : MapMem w b (kvE L) es clk) :
    (Instr.range 115 (.map (some b))).run Tryz.prog w = .ok (.pointer (some ⟨w.heap.size, 0, none⟩)) (w.alloc (.mapIter (some b) clk #[] clk)) ∧ Rng (w.alloc (.mapIter (some b) clk #[] clk)) b w.heap.size [] L clk := by
  refine ⟨run_range_map w 115 9 118 b es clk Tryz.underlying115 h.blk, es, clk, #[], clk, h.alloc _, ?_, h.born, Nat.le_refl _, Nat.le_refl _, Nat.le_refl _, ?_, ?_⟩
  · show (w.heap.push _)[w.heap.size]? = _; simp
  · have := h.lt; omega
  · intro j e x _ _; simp

theorem kvE_get {L : List Ent} {es : Array MapEntry} (h : es.toList.map (fun e => (e.key, e.val)) = (kvE L).map (fun p => (Value.string (bs p.1), p.2))) {j : Nat} {x : MapEntry} (hx : es[j]? = some x) :
    ∃ e, L[j]? = some e ∧ x.key = .string (bs (idE e)) ∧ x.val = .agg (encE e).toArray := by
  have h1 : (es.toList.map (fun e => (e.key, e.val)))[j]? = ((kvE L).map (fun p => (Value.string (bs p.1), p.2)))[j]? := by rw [h]
  simp only [List.getElem?_map, Array.getElem?_toList, hx, Option.map_some, kvE] at h1
  cases hl : L[j]? with
  | none => rw [hl] at h1; cases h1
  | some e =>
    rw [hl] at h1
    simp only [Option.map_some, Option.some.injEq, Prod.mk.injEq] at h1
    exact ⟨e, rfl, h1.1, h1.2⟩

theorem setBlock_keeps (w : World) (r : Nat) (o : Obj) : Keeps (fun k => k = r) w (ChangeMaps.setBlock w r o) :=
  ⟨rfl, rfl, rfl, by simp [ChangeMaps.setBlock], fun k _ hk => by
    show (w.heap.setIfInBounds r o)[k]? = w.heap[k]?
    rw [Array.getElem?_setIfInBounds_ne (fun e => hk e.symm)]⟩

/-- The next entry, or none is left. -/
theorem Rng.next {w : World} {b r : Nat} {D : List (List UInt8)} {L : List Ent} {s : Nat} (h : Rng w b r D L s) :
    ((∀ e ∈ L, idE e ∈ D) ∧ ∀ ty, (Instr.next (.pointer (some ⟨r, 0, none⟩)) false ty).run Tryz.prog w = .ok (.tuple #[.bool false]) w) ∨
    ∃ e ∈ L, idE e ∉ D ∧ ∃ w', (∀ ty, (Instr.next (.pointer (some ⟨r, 0, none⟩)) false ty).run Tryz.prog w = .ok (.tuple #[.bool true, .string (bs (idE e)), .agg (encE e).toArray]) w') ∧
      Rng w' b r (idE e :: D) L s ∧ (Instr.entry (.pointer (some ⟨r, 0, none⟩))).run Tryz.prog w' = .ok (.tuple #[.string (bs (idE e)), .agg (encE e).toArray]) w' ∧ Keeps (fun k => k = r) w w' := by
  have hnd := h.nodup
  obtain ⟨es, clk, seen, c0, h1, h2, h3, h4, h5, h5', h6, h7⟩ := h
  have ecl : c0 = clk := Nat.le_antisymm h5 h5'
  have gets : ∀ x ∈ es.toList, ∃ j : Nat, ∃ e : Ent, es[j]? = some x ∧ L[j]? = some e ∧ x.key = .string (bs (idE e)) ∧ x.val = .agg (encE e).toArray := by
    intro x hx
    obtain ⟨j, hj, e⟩ := List.getElem_of_mem hx
    have hxj : es[j]? = some x := by rw [← Array.getElem?_toList, List.getElem?_eq_getElem hj, e]
    obtain ⟨e', g1, g2, g3⟩ := kvE_get h1.sh hxj
    exact ⟨j, e', hxj, g1, g2, g3⟩
  have hlen : L.length = es.size := by
    have := congrArg List.length h1.sh
    simpa [kvE] using this.symm
  have gets2 : ∀ e ∈ L, ∃ j : Nat, ∃ x : MapEntry, es[j]? = some x ∧ L[j]? = some e := by
    intro e he
    obtain ⟨j, hj, ej⟩ := List.getElem_of_mem he
    refine ⟨j, es[j]'(by omega), by rw [Array.getElem?_eq_getElem], by rw [List.getElem?_eq_getElem hj, ej]⟩
  rcases run_next_at (P := Tryz.prog) w 0 r b s c0 seen es clk h2 h1.blk h3 h4 with ⟨h0, _⟩ | ⟨x, hx, w1, hal, hrun⟩
  · left
    refine ⟨?_, ?_⟩
    · intro e he
      obtain ⟨j, x, hx, hl⟩ := gets2 e he
      refine (h7 j e x hl hx).1 ?_
      cases hs : seen.contains x.born with
      | true => rfl
      | false =>
        exfalso
        have : x ∈ (leftOf es seen) := by
          unfold leftOf
          rw [Array.mem_filter]
          exact ⟨Array.mem_of_getElem? hx, by rw [hs]; rfl⟩
        have h0' : leftOf es seen = #[] := Array.eq_empty_of_size_eq_zero h0
        rw [h0'] at this
        simp at this
    · intro ty
      rcases run_next_at (P := Tryz.prog) w ty r b s c0 seen es clk h2 h1.blk h3 h4 with ⟨_, hrun⟩ | ⟨x, hx, _⟩
      · exact hrun
      · exfalso
        have h0' : leftOf es seen = #[] := Array.eq_empty_of_size_eq_zero h0
        rw [h0'] at hx
        simp at hx
  · right
    obtain ⟨hxm, hxs⟩ := mem_left hx
    obtain ⟨j, e, hxj, hej, hk, hv⟩ := gets x hxm
    have hr1 : w1.heap[r]? = some (.mapIter (some b) s seen c0) := by rcases hal with rfl | rfl <;> exact h2
    have hb1 : w1.heap[b]? = some (.map es clk) := by rcases hal with rfl | rfl <;> exact h1.blk
    have hrl : r < w1.heap.size := (Array.getElem?_eq_some_iff.1 hr1).1
    have hK : Keeps (fun k => k = r) w (ChangeMaps.setBlock w1 r (.mapIter (some b) s (seen.push x.born) clk)) := by
      rcases hal with rfl | rfl
      · exact setBlock_keeps _ _ _
      · exact (Keeps.refl (fun k => k = r) w).drew.trans (setBlock_keeps _ _ _) (fun j hj => Or.inl hj)
    have hr2 : (ChangeMaps.setBlock w1 r (.mapIter (some b) s (seen.push x.born) clk)).heap[r]? = some (.mapIter (some b) s (seen.push x.born) clk) := by
      show (w1.heap.setIfInBounds r _)[r]? = _
      rw [Array.getElem?_setIfInBounds_self_of_lt hrl]
    have hm2 : MapMem (ChangeMaps.setBlock w1 r (.mapIter (some b) s (seen.push x.born) clk)) b (kvE L) es clk := h1.keeps hK (fun e => h6 e.symm)
    have hnin : idE e ∉ D := by
      intro hin
      have := (h7 j e x hej hxj).2 hin
      rw [this] at hxs; cases hxs
    refine ⟨e, List.mem_of_getElem? hej, hnin, _, ?_, ⟨es, clk, seen.push x.born, clk, hm2, hr2, h3, by omega, Nat.le_refl _, Nat.le_refl _, h6, ?_⟩, ?_, hK⟩
    · intro ty
      have := hrun
      rw [hk, hv] at this
      exact this
    · intro i e' x' hi hx'
      have hbn : (x'.born == x.born) = true ↔ i = j := by
        rw [beq_iff_eq]
        constructor
        · intro hb
          refine nodup_inj h1.nob (x := x.born) ?_ ?_
          · rw [List.getElem?_map, Array.getElem?_toList, hx', Option.map_some, hb]
          · rw [List.getElem?_map, Array.getElem?_toList, hxj]; rfl
        · rintro rfl
          rw [hxj] at hx'; cases hx'; rfl
      have hidn : idE e' = idE e ↔ i = j := by
        constructor
        · intro hb
          have g1 : (L.map idE)[i]? = some (idE e) := by rw [List.getElem?_map, hi, Option.map_some, hb]
          have g2 : (L.map idE)[j]? = some (idE e) := by rw [List.getElem?_map, hej]; rfl
          obtain ⟨l1, e1⟩ := List.getElem?_eq_some_iff.1 g1
          obtain ⟨l2, e2⟩ := List.getElem?_eq_some_iff.1 g2
          rcases Nat.lt_trichotomy i j with h1 | h1 | h1
          · exact absurd (e1.trans e2.symm) (List.pairwise_iff_getElem.1 hnd i j l1 l2 h1)
          · exact h1
          · exact absurd (e2.trans e1.symm) (List.pairwise_iff_getElem.1 hnd j i l2 l1 h1)
        · rintro rfl
          rw [hej] at hi; cases hi; rfl
      have old := h7 i e' x' hi hx'
      rw [List.mem_cons, hidn, ← hbn, ← old]
      simp only [Array.contains_push, Bool.or_eq_true, beq_iff_eq]
      exact ⟨fun h => h.symm.imp_left id, fun h => h.symm.imp_right id⟩
    · have := run_entry_at (P := Tryz.prog) _ r b s seen es clk x hr2 hm2.blk hxm h1.nob
      rw [hk, hv] at this
      exact this

/-- An entry is replaced. -/
theorem Rng.update {w : World} {b r : Nat} {D : List (List UInt8)} {L : List Ent} {s : Nat} (h : Rng w b r D L s) {e : Ent} (he : e ∈ L) (e' : Ent) (hi : idE e' = idE e) :
    ∃ es clk, (Instr.mapUpdate 115 (.map (some b)) (.string (bs (idE e))) (.agg (encE e').toArray)).run Tryz.prog w = .ok () (setMap w b es clk) ∧ Rng (setMap w b es clk) b r D (putE L e') s := by
  obtain ⟨es, clk, seen, c0, h1, h2, h3, h4, h5, h5', h6, h7⟩ := h
  obtain ⟨j, hj, ej⟩ := List.getElem_of_mem he
  have hkv : (kvE L)[j]? = some (idE e, .agg (encE e).toArray) := by
    rw [kvE, List.getElem?_map, List.getElem?_eq_getElem hj, ej]; rfl
  obtain ⟨es', hb, hrun, hm⟩ := h1.update_at Tryz.underlying115 (.agg (encE e').toArray) hkv
  refine ⟨es', clk, hrun, es', clk, seen, c0, ?_, ?_, ?_, h4, h5, h5', h6, ?_⟩
  · rw [← hi, put_kvE] at hm; exact hm
  · show (w.heap.setIfInBounds b _)[r]? = _
    rw [Array.getElem?_setIfInBounds_ne (fun e => h6 e.symm)]; exact h2
  · intro x hx
    have : x.born ∈ es'.toList.map MapEntry.born := List.mem_map.2 ⟨x, hx, rfl⟩
    rw [hb] at this
    obtain ⟨y, hy, e⟩ := List.mem_map.1 this
    rw [← e]; exact h3 y hy
  · intro i e1 x hi1 hx
    have hin : idE e' ∈ L.map idE := by rw [hi]; exact List.mem_map.2 ⟨e, he, rfl⟩
    rw [putE, if_pos hin, List.getElem?_map] at hi1
    cases hl : L[i]? with
    | none => rw [hl] at hi1; cases hi1
    | some e0 =>
      rw [hl] at hi1
      simp only [Option.map_some, Option.some.injEq] at hi1
      have hide : idE e1 = idE e0 := by
        rw [← hi1]; split
        · rename_i hh; exact hh.symm
        · rfl
      have hbs : (es'.toList.map MapEntry.born)[i]? = (es.toList.map MapEntry.born)[i]? := by rw [hb]
      simp only [List.getElem?_map, Array.getElem?_toList, hx, Option.map_some] at hbs
      cases hq : es[i]? with
      | none => rw [hq] at hbs; cases hbs
      | some y =>
        rw [hq] at hbs
        simp only [Option.map_some, Option.some.injEq] at hbs
        rw [hide, hbs]
        exact h7 i e0 y hl hq

/-- An entry is deleted. -/
theorem Rng.delete {w : World} {b r : Nat} {D : List (List UInt8)} {L : List Ent} {s : Nat} (h : Rng w b r D L s) {e : Ent} (he : e ∈ L) :
    ∃ es clk, (∀ ty, (Builtin.delete_ #[115, 9] ty #[.map (some b), .string (bs (idE e))]).run Tryz.prog w = .ok (.tuple #[]) (setMap w b es clk)) ∧ Rng (setMap w b es clk) b r D (delE L (idE e)) s := by
  obtain ⟨es, clk, seen, c0, h1, h2, h3, h4, h5, h5', h6, h7⟩ := h
  obtain ⟨j, hj, ej⟩ := List.getElem_of_mem he
  have hkv : (kvE L)[j]? = some (idE e, .agg (encE e).toArray) := by
    rw [kvE, List.getElem?_map, List.getElem?_eq_getElem hj, ej]; rfl
  have hrun := fun ty => (h1.delete_at (u := 9) (ty := ty) Tryz.underlying115 hkv).1
  obtain ⟨_, hm, hel⟩ := h1.delete_at (u := 9) (ty := 0) Tryz.underlying115 hkv
  refine ⟨es.eraseIdxIfInBounds j, clk, hrun, es.eraseIdxIfInBounds j, clk, seen, c0, ?_, ?_, ?_, h4, h5, h5', h6, ?_⟩
  · rw [del_kvE] at hm; exact hm
  · show (w.heap.setIfInBounds b _)[r]? = _
    rw [Array.getElem?_setIfInBounds_ne (fun e => h6 e.symm)]; exact h2
  · intro x hx
    rw [hel] at hx
    exact h3 x (List.mem_of_mem_eraseIdx hx)
  · have hL : delE L (idE e) = L.eraseIdx j := by
      have h8 : kvE (delE L (idE e)) = kvE (L.eraseIdx j) := by
        rw [← del_kvE, ← eraseIdx_filter h1.nok hkv]
        simp only [kvE, ChangeMaps.map_eraseIdx]
      have hinj : ∀ (A B : List Ent), A.Sublist L → B.Sublist L → A.map idE = B.map idE → A = B := by
        intro A B hA hB hAB
        have hnd : (L.map idE).Nodup := by have := h1.nok; rwa [kvE_keys] at this
        have key : ∀ x ∈ L, ∀ y ∈ L, idE x = idE y → x = y := by
          intro x hx y hy hxy
          obtain ⟨p, hp, ep⟩ := List.getElem_of_mem hx
          obtain ⟨q, hq, eq⟩ := List.getElem_of_mem hy
          rcases Nat.lt_trichotomy p q with g | g | g
          · exact False.elim (List.pairwise_iff_getElem.1 hnd p q (by simpa using hp) (by simpa using hq) g (by simp [ep, eq, hxy]))
          · subst g; rw [← ep, ← eq]
          · exact False.elim (List.pairwise_iff_getElem.1 hnd q p (by simpa using hq) (by simpa using hp) g (by simp [ep, eq, hxy]))
        apply List.ext_getElem?
        intro i
        have := congrArg (fun l => l[i]?) hAB
        simp only [List.getElem?_map] at this
        cases ha : A[i]? with
        | none => rw [ha] at this; cases hb : B[i]? with
          | none => rfl
          | some y => rw [hb] at this; cases this
        | some x =>
          rw [ha] at this
          cases hb : B[i]? with
          | none => rw [hb] at this; cases this
          | some y =>
            rw [hb] at this
            simp only [Option.map_some, Option.some.injEq] at this
            rw [key x (hA.subset (List.mem_of_getElem? ha)) y (hB.subset (List.mem_of_getElem? hb)) this]
      exact hinj _ _ List.filter_sublist (List.eraseIdx_sublist _ _) (by have := congrArg (List.map Prod.fst) h8; rwa [kvE_keys, kvE_keys] at this)
    intro i e1 x hi1 hx
    rw [hL, List.getElem?_eraseIdx] at hi1
    rw [← Array.getElem?_toList, hel, List.getElem?_eraseIdx] at hx
    by_cases hlt : i < j
    · rw [if_pos hlt] at hi1 hx
      rw [Array.getElem?_toList] at hx
      exact h7 i e1 x hi1 hx
    · rw [if_neg hlt] at hi1 hx
      rw [Array.getElem?_toList] at hx
      exact h7 (i + 1) e1 x hi1 hx
end Go.Proofs.YtckfgnbilcjdpaaGreatDoor
