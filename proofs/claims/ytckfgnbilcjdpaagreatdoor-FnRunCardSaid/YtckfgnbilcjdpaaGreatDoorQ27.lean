/- The package's jar and the reference's jar: what holds of both (plain laws). -/
import Derived.Test.YtckfgnbilcjdpaaGreatDoorQ26
import Derived.Test.YtckfgnbilcjdpaaGreatDoorQ21
namespace Go.Proofs.YtckfgnbilcjdpaaGreatDoor
open Go.RowKit

def triK (x : Kp) : List UInt8 × List UInt8 × List UInt8 := (x.domain, x.path, x.name)
def triE (e : Ent) : List UInt8 × List UInt8 × List UInt8 := (e.domain, e.path, e.name)
/-- No semicolon. -/
def NoSemi (l : List UInt8) : Prop := ∀ c ∈ l, c ≠ 59

theorem semi_split : ∀ {a a' x x' : List UInt8}, NoSemi a → NoSemi a' → a ++ 59 :: x = a' ++ 59 :: x' → a = a' ∧ x = x'
  | [], [], x, x', _, _, h => by simpa using h
  | [], c :: r, x, x', _, h2, h => by
    simp only [List.nil_append, List.cons_append, List.cons.injEq] at h
    exact absurd h.1.symm (h2 c List.mem_cons_self)
  | c :: r, [], x, x', h1, _, h => by
    simp only [List.nil_append, List.cons_append, List.cons.injEq] at h
    exact absurd h.1 (h1 c List.mem_cons_self)
  | c :: r, c' :: r', x, x', h1, h2, h => by
    simp only [List.cons_append, List.cons.injEq] at h
    obtain ⟨rfl, h⟩ := h
    obtain ⟨rfl, rfl⟩ := semi_split (fun c hc => h1 c (List.mem_cons_of_mem _ hc)) (fun c hc => h2 c (List.mem_cons_of_mem _ hc)) h
    exact ⟨rfl, rfl⟩
theorem id_tri {a b c a' b' c' : List UInt8} (h1 : NoSemi a) (h2 : NoSemi a') (h3 : NoSemi b) (h4 : NoSemi b') (h : idOf a b c = idOf a' b' c') : a = a' ∧ b = b' ∧ c = c' := by
  unfold idOf at h
  obtain ⟨e1, h⟩ := semi_split h1 h2 h
  obtain ⟨e2, h⟩ := semi_split h3 h4 h
  exact ⟨e1, e2, h⟩
theorem host_semi {d : List UInt8} (h : isHostB d = true) : NoSemi d := by
  intro c hc e
  subst e
  have h1 := host_ch h 59 hc
  unfold hostCh at h1
  revert h1
  decide
theorem sameB_iff (k x : Kp) : sameB k x = true ↔ triK x = triK k := by
  simp only [sameB, triK, Bool.and_eq_true, beq_iff_eq, Prod.mk.injEq]
  constructor
  · rintro ⟨⟨h1, h2⟩, h3⟩; exact ⟨h2, h3, h1⟩
  · rintro ⟨h1, h2, h3⟩; exact ⟨⟨h3, h1⟩, h2⟩

/-- A kept cookie and the package's entry for it. -/
structure Rel (x : Kp) (e : Ent) : Prop where
  name : e.name = x.name
  value : e.value = x.value
  domain : e.domain = x.domain
  path : e.path = x.path
  secure : e.secure = x.secure
  pers : e.persistent = x.ends
  fin : x.ends = true → e.exps = x.fin
  born : e.crs = x.born
  al : x.alone = true → e.hostOnly = true
  ho : e.hostOnly = true → x.alone = true ∨ isAddrB x.domain = true

theorem Rel.tri {x : Kp} {e : Ent} (h : Rel x e) : triE e = triK x := by simp [triE, triK, h.name, h.domain, h.path]
theorem Rel.las {x : Kp} {e : Ent} (h : Rel x e) (n : Int) : Rel x { e with las := n } := ⟨h.name, h.value, h.domain, h.path, h.secure, h.pers, h.fin, h.born, h.al, h.ho⟩
theorem Rel.dead {x : Kp} {e : Ent} (h : Rel x e) (t : Int) : deadE t e = !livesB x t := by
  unfold deadE livesB
  rw [h.pers]
  cases he : x.ends with
  | false => rfl
  | true => rw [h.fin he]; rfl

/-- The jars go together. -/
structure Inv (listed : Bool) (ss : List (List UInt8)) (F : List UInt8 → List Ent) (jar ended : List Kp) (now : Int) : Prop where
  nod : ∀ k, ((F k).map idE).Nodup
  own : ∀ k, ∀ e ∈ F k, keyOf listed ss e.domain = k ∧ isHostB e.domain = true ∧ NoSemi e.path
  uniq : (jar.map triK).Nodup
  fwd : ∀ x ∈ jar, ∃ e ∈ F (keyOf listed ss x.domain), Rel x e
  back : ∀ k, ∀ e ∈ F k, (∃ x ∈ jar, Rel x e) ∨ (deadE now e = true ∧ ∃ x ∈ ended, triK x = triE e)
  dom : ∀ x ∈ jar, x.alone = false → listed = true ∨ 1 < (labs x.domain).length

def upd (F : List UInt8 → List Ent) (k : List UInt8) (L : List Ent) : List UInt8 → List Ent := fun j => if j = k then L else F j
theorem upd_at (F : List UInt8 → List Ent) (k : List UInt8) (L : List Ent) : upd F k L k = L := if_pos rfl
theorem upd_ne {F : List UInt8 → List Ent} {k j : List UInt8} {L : List Ent} (h : j ≠ k) : upd F k L j = F j := if_neg h
theorem upd_self (F : List UInt8 → List Ent) (k : List UInt8) : upd F k (F k) = F := by
  funext j; unfold upd; split
  · rename_i h; rw [h]
  · rfl

section
variable {listed : Bool} {ss : List (List UInt8)} {F : List UInt8 → List Ent} {jar ended : List Kp} {now : Int}

theorem Inv.perm {F' : List UInt8 → List Ent} (h : Inv listed ss F jar ended now) (hp : ∀ k, (F' k).Perm (F k)) : Inv listed ss F' jar ended now where
  nod k := ((hp k).map idE).nodup_iff.2 (h.nod k)
  own k e he := h.own k e ((hp k).mem_iff.1 he)
  uniq := h.uniq
  fwd x hx := by obtain ⟨e, he, hr⟩ := h.fwd x hx; exact ⟨e, (hp _).mem_iff.2 he, hr⟩
  back k e he := h.back k e ((hp k).mem_iff.1 he)
  dom := h.dom

/-- Time goes on. -/
theorem Inv.later {t : Int} (h : Inv listed ss F jar ended now) (ht : now ≤ t) : Inv listed ss F (jar.filter fun k => livesB k t) (ended ++ jar.filter fun k => !livesB k t) t where
  nod := h.nod
  own := h.own
  uniq := h.uniq.sublist ((List.filter_sublist).map triK)
  fwd x hx := h.fwd x (List.mem_filter.1 hx).1
  back k e he := by
    rcases h.back k e he with ⟨x, hx, hr⟩ | ⟨hd, x, hx, hr⟩
    · cases hl : livesB x t with
      | true => exact Or.inl ⟨x, List.mem_filter.2 ⟨hx, hl⟩, hr⟩
      | false => exact Or.inr ⟨by rw [hr.dead, hl]; rfl, x, List.mem_append_right _ (List.mem_filter.2 ⟨hx, by simp [hl]⟩), hr.tri.symm⟩
    · refine Or.inr ⟨?_, x, List.mem_append_left _ hx, hr⟩
      simp only [deadE, Bool.and_eq_true, Bool.not_eq_true', decide_eq_false_iff_not] at hd ⊢
      exact ⟨hd.1, by omega⟩
  dom x hx := h.dom x (List.mem_filter.1 hx).1

theorem triE_id {e e' : Ent} (h : triE e = triE e') : idE e = idE e' := by
  simp only [triE, Prod.mk.injEq] at h
  simp only [idE, h.1, h.2.1, h.2.2]
theorem Inv.id_tri (h : Inv listed ss F jar ended now) {k : List UInt8} {e : Ent} (he : e ∈ F k) {d p n : List UInt8} (hd : isHostB d = true) (hp : NoSemi p) (hi : idE e = idOf d p n) : triE e = (d, p, n) := by
  obtain ⟨_, h2, h3⟩ := h.own k e he
  obtain ⟨a, b, c⟩ := Go.Proofs.YtckfgnbilcjdpaaGreatDoor.id_tri (host_semi h2) (host_semi hd) h3 hp hi
  simp [triE, a, b, c]

/-- A cookie is struck out of both. -/
theorem Inv.strike (h : Inv listed ss F jar ended now) (k : Kp) (hd : isHostB k.domain = true) (hp : NoSemi k.path) :
    Inv listed ss (upd F (keyOf listed ss k.domain) (delE (F (keyOf listed ss k.domain)) (idOf k.domain k.path k.name))) (jar.filter fun x => !sameB k x) ended now := by
  have hsub : ∀ j, (upd F (keyOf listed ss k.domain) (delE (F (keyOf listed ss k.domain)) (idOf k.domain k.path k.name)) j).Sublist (F j) := by
    intro j; unfold upd; split
    · rename_i e; rw [e]; exact List.filter_sublist
    · exact List.Sublist.refl _
  have hne : ∀ j, ∀ e ∈ upd F (keyOf listed ss k.domain) (delE (F (keyOf listed ss k.domain)) (idOf k.domain k.path k.name)) j, triE e ≠ triK k := by
    intro j e he htri
    have hdk : e.domain = k.domain := congrArg Prod.fst htri
    have hj := (h.own j e ((hsub j).subset he)).1
    rw [hdk] at hj
    rw [← hj, upd_at] at he
    have h2 := (List.mem_filter.1 he).2
    rw [decide_eq_true_eq] at h2
    simp only [triE, triK, Prod.mk.injEq] at htri
    exact h2 (by simp only [idE, htri.1, htri.2.1, htri.2.2])
  refine ⟨fun j => (h.nod j).sublist ((hsub j).map idE), fun j e he => h.own j e ((hsub j).subset he), h.uniq.sublist ((List.filter_sublist).map triK), ?_, ?_, fun x hx => h.dom x (List.mem_filter.1 hx).1⟩
  · intro x hx
    obtain ⟨hx1, hx2⟩ := List.mem_filter.1 hx
    obtain ⟨e, he, hr⟩ := h.fwd x hx1
    refine ⟨e, ?_, hr⟩
    have hxk : triK x ≠ triK k := by
      intro hh; rw [(sameB_iff k x).2 hh] at hx2; cases hx2
    unfold upd
    split
    · rename_i hk
      rw [hk] at he
      refine List.mem_filter.2 ⟨he, ?_⟩
      rw [decide_eq_true_eq]
      intro hi
      exact hxk (hr.tri.symm.trans (h.id_tri he hd hp hi))
    · exact he
  · intro j e he
    rcases h.back j e ((hsub j).subset he) with ⟨x, hx, hr⟩ | hh
    · refine Or.inl ⟨x, List.mem_filter.2 ⟨hx, ?_⟩, hr⟩
      cases hs : sameB k x with
      | false => rfl
      | true => exact absurd (hr.tri.trans ((sameB_iff k x).1 hs)) (hne j e he)
    · exact Or.inr hh

theorem nodup_behind {α : Type} {l : List α} {a : α} (h : l.Nodup) (ha : a ∉ l) : (l ++ [a]).Nodup := by
  rw [List.nodup_append]
  refine ⟨h, by simp, ?_⟩
  intro x hx y hy e
  rw [List.mem_singleton] at hy
  subst hy; subst e
  exact ha hx

/-- A cookie comes to both. -/
theorem Inv.come (h : Inv listed ss F jar ended now) (k : Kp) (e : Ent) (hr : Rel k e) (hd : isHostB k.domain = true) (hp : NoSemi k.path) (hj : ∀ x ∈ jar, triK x ≠ triK k) (hf : ∀ x ∈ F (keyOf listed ss k.domain), idE x ≠ idE e) (hdom : k.alone = false → listed = true ∨ 1 < (labs k.domain).length) :
    Inv listed ss (upd F (keyOf listed ss k.domain) (F (keyOf listed ss k.domain) ++ [e])) (jar ++ [k]) ended now := by
  have hmem : ∀ j x, x ∈ upd F (keyOf listed ss k.domain) (F (keyOf listed ss k.domain) ++ [e]) j → x ∈ F j ∨ (x = e ∧ j = keyOf listed ss k.domain) := by
    intro j x hx
    unfold upd at hx
    split at hx
    · rename_i hk
      rcases List.mem_append.1 hx with h1 | h1
      · rw [hk]; exact Or.inl h1
      · exact Or.inr ⟨List.mem_singleton.1 h1, hk⟩
    · exact Or.inl hx
  have hin : ∀ j x, x ∈ F j → x ∈ upd F (keyOf listed ss k.domain) (F (keyOf listed ss k.domain) ++ [e]) j := by
    intro j x hx
    unfold upd
    split
    · rename_i hk; rw [hk] at hx; exact List.mem_append_left _ hx
    · exact hx
  refine ⟨?_, ?_, ?_, ?_, ?_, ?_⟩
  · intro j
    unfold upd
    split
    · rw [List.map_append]
      refine nodup_behind (h.nod _) ?_
      intro hh
      obtain ⟨x, hx, hi⟩ := List.mem_map.1 hh
      exact hf x hx hi
    · exact h.nod j
  · intro j x hx
    rcases hmem j x hx with h1 | ⟨rfl, h2⟩
    · exact h.own j x h1
    · rw [hr.domain, hr.path, h2]; exact ⟨rfl, hd, hp⟩
  · rw [List.map_append]
    refine nodup_behind h.uniq ?_
    intro hh
    obtain ⟨x, hx, hi⟩ := List.mem_map.1 hh
    exact hj x hx hi
  · intro x hx
    rcases List.mem_append.1 hx with h1 | h1
    · obtain ⟨y, hy, hry⟩ := h.fwd x h1
      exact ⟨y, hin _ _ hy, hry⟩
    · rw [List.mem_singleton] at h1
      subst h1
      exact ⟨e, by rw [upd_at]; simp, hr⟩
  · intro j x hx
    rcases hmem j x hx with h1 | ⟨rfl, h2⟩
    · rcases h.back j x h1 with ⟨y, hy, hry⟩ | hh
      · exact Or.inl ⟨y, List.mem_append_left _ hy, hry⟩
      · exact Or.inr hh
    · exact Or.inl ⟨k, by simp, hr⟩
  · intro x hx
    rcases List.mem_append.1 hx with h1 | h1
    · exact h.dom x h1
    · rw [List.mem_singleton] at h1
      subst h1; exact hdom

theorem putE_perm {L : List Ent} (hn : (L.map idE).Nodup) (e : Ent) : (putE L e).Perm (delE L (idE e) ++ [e]) := by
  unfold putE
  split
  · rename_i hin
    induction L with
    | nil => simp at hin
    | cons a r ih =>
      rw [List.map_cons, List.nodup_cons] at hn
      by_cases ha : idE a = idE e
      · have hr : r.map (fun x => if idE x = idE e then e else x) = r := by
          conv => rhs; rw [← List.map_id r]
          refine List.map_congr_left fun x hx => ?_
          rw [if_neg]; rfl
          intro hh; exact hn.1 (List.mem_map.2 ⟨x, hx, hh.trans ha.symm⟩)
        have hd : delE r (idE e) = r := by
          unfold delE
          rw [List.filter_eq_self]
          intro x hx
          rw [decide_eq_true_eq]
          intro hh; exact hn.1 (List.mem_map.2 ⟨x, hx, hh.trans ha.symm⟩)
        have hd2 : delE (a :: r) (idE e) = delE r (idE e) := by simp [delE, ha]
        rw [List.map_cons, if_pos ha, hr, hd2, hd]
        exact (List.perm_append_comm (l₁ := [e]) (l₂ := r))
      · have hin' : idE e ∈ r.map idE := by
          rw [List.map_cons, List.mem_cons] at hin
          rcases hin with h1 | h1
          · exact absurd h1.symm ha
          · exact h1
        have hd2 : delE (a :: r) (idE e) = a :: delE r (idE e) := by simp [delE, ha]
        rw [List.map_cons, if_neg ha, hd2]
        exact (ih hn.2 hin').cons a
  · rename_i hin
    have hd : delE L (idE e) = L := by
      unfold delE
      rw [List.filter_eq_self]
      intro x hx
      rw [decide_eq_true_eq]
      intro hh; exact hin (List.mem_map.2 ⟨x, hx, hh⟩)
    rw [hd]
end

theorem filter_none {L : List Kp} {p : Kp → Bool} (h : ∀ x ∈ L, p x = false) : L.filter (fun x => !p x) = L := by
  rw [List.filter_eq_self]; intro x hx; rw [h x hx]; rfl
/-- The cookie with a triple is struck out. -/
theorem putS_eq {L : List Kp} {k : Kp} {now : Int} (hu : (L.map triK).Nodup) :
    putS L k now = L.filter (fun x => !sameB k x) ++ (if livesB k now then [{ k with born := ((L.find? (sameB k)).map Kp.born).getD k.born }] else []) := by
  unfold putS
  rcases idxP_cases (sameB k) L with ⟨h1, h2⟩ | ⟨i, hi, h1, h2, h3⟩
  · have hf : L.find? (sameB k) = none := by rw [List.find?_eq_none]; intro x hx; simp [h2 x hx]
    have n0 : ¬ (0 : Int) ≤ -1 := by decide
    rw [h1]
    simp only [if_neg n0]
    rw [filter_none h2, hf]
    rfl
  · have hL : L = L.take i ++ L[i] :: L.drop (i + 1) := by rw [List.getElem_cons_drop, List.take_append_drop]
    have hb : ∀ x ∈ L.take i, sameB k x = false := by
      intro x hx
      obtain ⟨q, hq, rfl⟩ := List.mem_iff_getElem.1 hx
      rw [List.length_take] at hq
      rw [List.getElem_take]; exact h3 q (by omega)
    have ha : ∀ x ∈ L.drop (i + 1), sameB k x = false := by
      intro x hx
      cases hs : sameB k x with
      | false => rfl
      | true =>
        rw [hL, List.map_append, List.map_cons, List.nodup_append] at hu
        have h4 := (List.nodup_cons.1 hu.2.1).1
        exact absurd (List.mem_map.2 ⟨x, hx, ((sameB_iff k x).1 hs).trans ((sameB_iff k L[i]).1 h2).symm⟩) h4
    have hfil : L.filter (fun x => !sameB k x) = L.take i ++ L.drop (i + 1) := by
      conv => lhs; rw [hL]
      rw [List.filter_append, List.filter_cons, h2, filter_none hb, filter_none ha]; rfl
    have hfind : L.find? (sameB k) = some L[i] := by
      conv => lhs; rw [hL]
      rw [List.find?_append, List.find?_eq_none.2 (by intro x hx; simp [hb x hx]), List.find?_cons, h2]; rfl
    have p0 : (0 : Int) ≤ (i : Int) := by omega
    rw [h1]
    simp only [if_pos p0]
    rw [hfil, hfind, Int.toNat_natCast, List.getD_eq_getElem?_getD, List.getElem?_eq_getElem hi]
    rfl
end Go.Proofs.YtckfgnbilcjdpaaGreatDoor
/- One cookie, one step: the package's jar and the reference's jar (plain laws). -/
namespace Go.Proofs.YtckfgnbilcjdpaaGreatDoor
open Go.RowKit Go.Sort

/-- The scheme is one of the web's. -/
def httpP (sch : List UInt8) : Bool := sch == httpB || sch == httpsB
theorem httpP_iff (sch : List UInt8) : httpP sch = true ↔ sch = httpB ∨ sch = httpsB := by simp [httpP]

/-- One cookie of a step, by the reference. -/
def setC (listed : Bool) (ss : List (List UInt8)) (host path : List UInt8) (t : Int) (ended : List Kp) (js : List Kp × Bool) (c : Ck) : List Kp × Bool :=
  (setS listed ss js.1 host path t c,
   (js.2 && !(decide (js.1.length < (setS listed ss js.1 host path t c).length) && ended.any (sameB ((setS listed ss js.1 host path t c).getLast?.getD default)))) &&
     !((domS listed ss host c.domain).2.2 && aboveB listed ss host (domS listed ss host c.domain).1))

theorem upd_upd (F : List UInt8 → List Ent) (k : List UInt8) (a b : List Ent) : upd (upd F k a) k b = upd F k b := by
  funext j; unfold upd; split <;> rfl

theorem findE_mem {L : List Ent} {k : List UInt8} {e : Ent} (h : findE L k = some e) : e ∈ L ∧ idE e = k :=
  ⟨List.mem_of_find?_eq_some h, by have := List.find?_some h; simpa using this⟩
theorem findE_of {L : List Ent} (hn : (L.map idE).Nodup) {e : Ent} (he : e ∈ L) : findE L (idE e) = some e := by
  cases hf : findE L (idE e) with
  | none =>
    have := List.find?_eq_none.1 hf e he
    simp at this
  | some x =>
    obtain ⟨hx, hi⟩ := findE_mem hf
    rw [id_inj hn hx he hi]
theorem delE_no {L : List Ent} {k : List UInt8} (h : findE L k = none) : delE L k = L := by
  unfold delE
  rw [List.filter_eq_self]
  intro x hx
  have := List.find?_eq_none.1 h x hx
  simpa using this

/-- The entry that setOne writes. -/
def entNew (c : Ck) (d : List UInt8) (al : Bool) (dp : List UInt8) (t now : Int) (p : Bool) (L : List Ent) (n : Int) : Ent :=
  { entOf c d al dp t p with crs := ((findE L (idOf d (pathOf c dp) c.name)).map Ent.crs).getD now, seq := n, las := now }

theorem setOne_no {listed : Bool} {ss : List (List UInt8)} {host dp : List UInt8} {now : Int} {st : SubSt} {c : Ck} (h : domType listed ss host c.domain = none) : setOne listed ss host dp now st c = st := by
  unfold setOne; rw [h]
theorem setOne_out {listed : Bool} {ss : List (List UInt8)} {host dp : List UInt8} {now : Int} {st : SubSt} {c : Ck} {d : List UInt8} {al : Bool} (h : domType listed ss host c.domain = some (d, al)) (he : endOf c now = none) :
    (setOne listed ss host dp now st c).sub.getD [] = delE (st.sub.getD []) (idOf d (pathOf c dp) c.name) := by
  unfold setOne
  rw [h]; dsimp only
  rw [he]; dsimp only
  cases hs : st.sub with
  | none => simp only [hs, Option.getD_none]; rfl
  | some L =>
    simp only [Option.getD_some]
    cases hf : findE L (idOf d (pathOf c dp) c.name) with
    | none => simp [hs, delE_no hf]
    | some e => simp
theorem setOne_in {listed : Bool} {ss : List (List UInt8)} {host dp : List UInt8} {now t : Int} {p : Bool} {st : SubSt} {c : Ck} {d : List UInt8} {al : Bool} (h : domType listed ss host c.domain = some (d, al)) (he : endOf c now = some (t, p)) :
    ∃ n, (setOne listed ss host dp now st c).sub.getD [] = putE (st.sub.getD []) (entNew c d al dp t now p (st.sub.getD []) n) := by
  unfold setOne
  rw [h]; dsimp only
  rw [he]; dsimp only
  cases hf : findE (st.sub.getD []) (idOf d (pathOf c dp) c.name) with
  | none => exact ⟨st.seq, by simp [entNew, hf]⟩
  | some e => exact ⟨e.seq, by simp [entNew, hf]⟩

theorem path_eq {p : List UInt8} (h : isPathB p = true) : defPath p = defPathS p := by
  unfold isPathB at h
  rw [Bool.and_eq_true, Bool.or_eq_true] at h
  unfold defPath defPathS
  rcases h.2 with h1 | h1
  · have : p = [] := by simpa using h1
    subst this; rfl
  · have h2 : p.head? = some 47 := by simpa using h1
    have hne : p ≠ [] := by intro e; rw [e] at h2; cases h2
    have := lastIdx_nonneg h2 p.length (List.length_pos_iff.2 hne)
    rw [if_pos h2]
    by_cases h0 : lastIdx p 47 p.length = 0
    · rw [if_pos h0, if_pos (by omega)]
    · rw [if_neg h0, if_neg (by omega)]
theorem pathCh_semi (c : UInt8) : pathCh c = true → c ≠ 59 := u8_all (p := fun c => pathCh c = true → c ≠ 59) (by decide +kernel) c
theorem path_semi {p : List UInt8} (h : isPathB p = true) : NoSemi p := by
  unfold isPathB at h
  rw [Bool.and_eq_true] at h
  exact fun c hc => pathCh_semi c (List.all_eq_true.1 h.1 c hc)
theorem defPath_semi {p : List UInt8} (h : isPathB p = true) : NoSemi (defPath p) := by
  have hp := path_semi h
  intro c hc
  unfold defPath at hc
  split at hc
  · split at hc
    · rw [List.mem_singleton] at hc; subst hc; decide
    · exact hp c (List.mem_of_mem_take hc)
  · rw [List.mem_singleton] at hc; subst hc; decide
theorem pathOf_semi {c : Ck} {p : List UInt8} (h : isPathB p = true) (hc : c.path.head? = some 47 → isPathB c.path = true) : NoSemi (pathOf c (defPath p)) := by
  unfold pathOf
  split
  · rename_i h1; exact path_semi (hc h1)
  · exact defPath_semi h
theorem pathOf_eq {c : Ck} {p : List UInt8} (h : isPathB p = true) : pathOf c (defPath p) = pathS c p := by
  unfold pathOf pathS; rw [path_eq h]

theorem end_none {c : Ck} {now : Int} {k : Kp} (he : endOf c now = none) (h1 : k.ends = (c.age != 0 || c.exps != 0)) (h2 : k.fin = if c.age != 0 then now + c.age else if c.exps != 0 then c.exps else 0) : livesB k now = false := by
  unfold endOf at he
  unfold livesB
  rw [h1, h2]
  split at he
  · rename_i h
    have ha : (c.age != 0) = true := by simp; omega
    rw [ha]; simp; omega
  · split at he
    · cases he
    · have ha : c.age = 0 := by omega
      split at he
      · cases he
      · split at he
        · cases he
        · rename_i h3 h4
          have hx : (c.exps != 0) = true := by simpa using h3
          simp [ha, hx]; omega
theorem end_some {c : Ck} {now t : Int} {p : Bool} {k : Kp} (he : endOf c now = some (t, p)) (h1 : k.ends = (c.age != 0 || c.exps != 0)) (h2 : k.fin = if c.age != 0 then now + c.age else if c.exps != 0 then c.exps else 0) : livesB k now = true ∧ p = k.ends ∧ (k.ends = true → t = k.fin) := by
  unfold endOf at he
  unfold livesB
  rw [h1, h2]
  split at he
  · cases he
  · split at he
    · rename_i h
      have ha : (c.age != 0) = true := by simp; omega
      cases he
      rw [ha]; simp; omega
    · have ha : c.age = 0 := by omega
      split at he
      · rename_i h3
        cases he
        simp [ha, h3]
      · rename_i h3
        have hx : (c.exps != 0) = true := by simpa using h3
        split at he
        · rename_i h4
          cases he
          simp [ha, hx]; omega
        · cases he

/-- One cookie. -/
theorem one_inv {listed : Bool} {ss : List (List UInt8)} {F : List UInt8 → List Ent} {jar ended : List Kp} {t : Int} {host path : List UInt8} {c : Ck} {st : SubSt}
    (hs : SufOk ss) (hh : isHostB host = true) (hp : plainB listed c.domain = true) (hpath : isPathB path = true) (hcp : c.path.head? = some 47 → isPathB c.path = true)
    (h : Inv listed ss F jar ended t) (hsub : F (keyOf listed ss host) = st.sub.getD [])
    (hsaid : (setC listed ss host path t ended (jar, true) c).2 = true) :
    Inv listed ss (upd F (keyOf listed ss host) ((setOne listed ss host (defPath path) t st c).sub.getD [])) (setC listed ss host path t ended (jar, true) c).1 ended t := by
  rcases dom_eq hs hh hp with ⟨h1, h2⟩ | ⟨h1, al, h2, h3, h4⟩
  · have hS : (setC listed ss host path t ended (jar, true) c).1 = jar := by
      show setS listed ss jar host path t c = jar
      rw [setS, h1]; rfl
    rw [hS, setOne_no h2, ← hsub, upd_self]
    exact h
  · obtain ⟨d1, d2, d3, d4⟩ := dom_ok hh hp h1
    have hput : setS listed ss jar host path t c = putS jar (mkK listed ss host path t c) t := by rw [setS, if_pos h1]
    have hsd : (!(decide (jar.length < (setS listed ss jar host path t c).length) && ended.any (sameB ((setS listed ss jar host path t c).getLast?.getD default)))) = true ∧ aboveB listed ss host (domS listed ss host c.domain).1 = false := by
      have h5 : ((true && !(decide (jar.length < (setS listed ss jar host path t c).length) && ended.any (sameB ((setS listed ss jar host path t c).getLast?.getD default)))) && !((domS listed ss host c.domain).2.2 && aboveB listed ss host (domS listed ss host c.domain).1)) = true := hsaid
      rw [h1, Bool.true_and, Bool.true_and, Bool.and_eq_true] at h5
      exact ⟨h5.1, by simpa using h5.2⟩
    obtain ⟨hsd1, habove⟩ := hsd
    show Inv listed ss _ (setS listed ss jar host path t c) ended t
    rw [hput] at hsd1 ⊢
    clear hput hsaid
    obtain ⟨k, hk⟩ : ∃ k, k = mkK listed ss host path t c := ⟨_, rfl⟩
    rw [← hk] at hsd1 ⊢
    have kd : k.domain = (domS listed ss host c.domain).1 := by rw [hk]; rfl
    have ka : k.alone = (domS listed ss host c.domain).2.1 := by rw [hk]; rfl
    have kp : k.path = pathOf c (defPath path) := by rw [hk, pathOf_eq hpath]; rfl
    have kn : k.name = c.name := by rw [hk]; rfl
    have kv : k.value = c.value := by rw [hk]; rfl
    have ks : k.secure = c.secure := by rw [hk]; rfl
    have ke : k.ends = (c.age != 0 || c.exps != 0) := by rw [hk]; rfl
    have kf : k.fin = if c.age != 0 then t + c.age else if c.exps != 0 then c.exps else 0 := by rw [hk]; rfl
    have kb : k.born = t := by rw [hk]; rfl
    clear hk
    rw [← ka] at h3 h4 d3 d4
    rw [← kd] at h4 h2 d1 d2 d3 d4 habove
    clear h1
    have hkey : keyOf listed ss host = keyOf listed ss k.domain := by
      refine key_of hs hh d1 (d2.imp Eq.symm id) ?_ habove
      cases ha : k.alone with
      | true => exact Or.inl (d3 ha).symm
      | false => exact Or.inr (d4 ha)
    have hsemi : NoSemi k.path := by rw [kp]; exact pathOf_semi hpath hcp
    have hid : idOf k.domain (pathOf c (defPath path)) c.name = idOf k.domain k.path k.name := by rw [kp, kn]
    have hst := h.strike k d1 hsemi
    rw [hkey] at hsub ⊢
    rw [putS_eq h.uniq] at hsd1 ⊢
    cases he : endOf c t with
    | none =>
      rw [end_none he ke kf, setOne_out h2 he, hid, ← hsub]
      simpa using hst
    | some tp =>
      obtain ⟨te, p⟩ := tp
      obtain ⟨hl, hpe, hte⟩ := end_some he ke kf
      obtain ⟨n, hn⟩ := setOne_in (dp := defPath path) (st := st) h2 he
      rw [hn, ← hsub]
      rw [hl] at hsd1 ⊢
      simp only [if_true] at hsd1 ⊢
      clear hn
      have hcrs : ((findE (F (keyOf listed ss k.domain)) (idOf k.domain (pathOf c (defPath path)) c.name)).map Ent.crs).getD t = ((jar.find? (sameB k)).map Kp.born).getD k.born := by
        rw [hid]
        cases hf : jar.find? (sameB k) with
        | some x =>
          have hx := List.mem_of_find?_eq_some hf
          have htri := (sameB_iff k x).1 (List.find?_some hf)
          obtain ⟨e, hem, hr⟩ := h.fwd x hx
          rw [show x.domain = k.domain from congrArg Prod.fst htri] at hem
          have hie : idE e = idOf k.domain k.path k.name := by
            have h5 := hr.tri.trans htri
            simp only [triE, triK, Prod.mk.injEq] at h5
            simp only [idE, h5.1, h5.2.1, h5.2.2]
          rw [← hie, findE_of (h.nod _) hem]
          simp [hr.born]
        | none =>
          have hno : ∀ x ∈ jar, sameB k x = false := fun x hx => by have := List.find?_eq_none.1 hf x hx; simpa using this
          cases hfe : findE (F (keyOf listed ss k.domain)) (idOf k.domain k.path k.name) with
          | none => simp [kb]
          | some old =>
            exfalso
            obtain ⟨ho, hio⟩ := findE_mem hfe
            have htri := h.id_tri ho d1 hsemi hio
            rcases h.back _ old ho with ⟨x, hx, hr⟩ | ⟨_, x, hx, hr⟩
            · have := hno x hx
              rw [(sameB_iff k x).2 (hr.tri.symm.trans htri)] at this; cases this
            · rw [filter_none hno, hf] at hsd1
              have h6 : sameB { k with born := ((none : Option Kp).map Kp.born).getD k.born } x = true := (sameB_iff _ x).2 (hr.trans htri)
              have h7 : ended.any (sameB { k with born := ((none : Option Kp).map Kp.born).getD k.born }) = true := List.any_eq_true.2 ⟨x, hx, h6⟩
              rw [List.getLast?_append, List.getLast?_singleton] at hsd1
              simp only [Option.some_or, Option.getD_some] at hsd1
              rw [h7] at hsd1
              simp at hsd1
      obtain ⟨k', hk'⟩ : ∃ k' : Kp, k' = { k with born := ((jar.find? (sameB k)).map Kp.born).getD k.born } := ⟨_, rfl⟩
      obtain ⟨e', he'⟩ : ∃ e', e' = entNew c k.domain al (defPath path) te t p (F (keyOf listed ss k.domain)) n := ⟨_, rfl⟩
      rw [← hk', ← he']
      have htri : triK k' = triK k := by rw [hk']; rfl
      have hrel : Rel k' e' := by
        rw [hk', he']
        refine ⟨kn.symm, kv.symm, rfl, kp.symm, ks.symm, hpe, hte, hcrs, h3, h4⟩
      have hie : idE e' = idOf k.domain k.path k.name := by rw [← hid, he']; rfl
      have hkd : k'.domain = k.domain := by rw [hk']
      have hcome := hst.come k' e' hrel (by rw [hkd]; exact d1) (by rw [hk']; exact hsemi) (by
        intro x hx hxt
        have := (List.mem_filter.1 hx).2
        rw [(sameB_iff k x).2 (hxt.trans htri)] at this; cases this) (by
        intro x hx hxi
        rw [hkd, upd_at] at hx
        have := (List.mem_filter.1 hx).2
        rw [decide_eq_true_eq] at this
        exact this (hxi.trans hie)) (by
        intro ha
        rw [hkd]
        exact d4 (by rw [hk'] at ha; exact ha))
      rw [hkd, upd_at, upd_upd] at hcome
      refine hcome.perm ?_
      intro j
      unfold upd
      split
      · rw [← hie]
        exact putE_perm (h.nod _) e'
      · exact List.Perm.refl _

theorem setC_said {listed : Bool} {ss : List (List UInt8)} {host path : List UInt8} {t : Int} {ended : List Kp} {js : List Kp × Bool} {c : Ck} (h : (setC listed ss host path t ended js c).2 = true) : js.2 = true := by
  simp only [setC, Bool.and_eq_true] at h; exact h.1.1
theorem foldC_said {listed : Bool} {ss : List (List UInt8)} {host path : List UInt8} {t : Int} {ended : List Kp} : ∀ {cs : List Ck} {js : List Kp × Bool}, (cs.foldl (setC listed ss host path t ended) js).2 = true → js.2 = true
  | [], _, h => h
  | _ :: _, _, h => setC_said (foldC_said h)

/-- The cookies of a step. -/
theorem fold_inv {listed : Bool} {ss : List (List UInt8)} {ended : List Kp} {t : Int} {host path : List UInt8} (hs : SufOk ss) (hh : isHostB host = true) (hpath : isPathB path = true) :
    ∀ (cs : List Ck) (F : List UInt8 → List Ent) (js : List Kp × Bool) (st : SubSt), (∀ c ∈ cs, plainB listed c.domain = true ∧ (c.path.head? = some 47 → isPathB c.path = true)) →
      Inv listed ss F js.1 ended t → F (keyOf listed ss host) = st.sub.getD [] → (cs.foldl (setC listed ss host path t ended) js).2 = true →
      Inv listed ss (upd F (keyOf listed ss host) ((cs.foldl (setOne listed ss host (defPath path) t) st).sub.getD [])) (cs.foldl (setC listed ss host path t ended) js).1 ended t
  | [], F, js, st, _, h, hsub, _ => by
    rw [List.foldl_nil, List.foldl_nil, ← hsub, upd_self]; exact h
  | c :: r, F, js, st, hc, h, hsub, hsaid => by
    rw [List.foldl_cons] at hsaid
    have h1 := foldC_said hsaid
    have h2 := setC_said h1
    obtain ⟨jar, b⟩ := js
    dsimp only at h2
    subst h2
    have hck := hc c List.mem_cons_self
    have h3 := one_inv hs hh hck.1 hpath hck.2 h hsub h1
    have h4 := fold_inv hs hh hpath r _ (setC listed ss host path t ended (jar, true) c) (setOne listed ss host (defPath path) t st c) (fun x hx => hc x (List.mem_cons_of_mem _ hx)) h3 (upd_at _ _ _) hsaid
    rw [upd_upd] at h4
    exact h4

/-- An entry as it is compared with what the reference sends. -/
def snE (e : Ent) : Sn := ⟨e.name, e.value, e.path.length, e.crs⟩
theorem Rel.sn {x : Kp} {e : Ent} (h : Rel x e) : snE e = toSn x := by simp [snE, toSn, h.name, h.value, h.path, h.born]

theorem nodup_map_fst {α β : Type} {l : List (α × β)} (h : (l.map Prod.fst).Nodup) : l.Nodup := List.Pairwise.of_map Prod.fst (fun _ _ hab e => hab (by rw [e])) h
theorem perm_by_key {α β κ γ : Type} {A : List α} {B : List β} {f : α → κ} {g : β → κ} {u : α → γ} {v : β → γ} (hA : (A.map f).Nodup) (hB : (B.map g).Nodup)
    (h1 : ∀ a ∈ A, ∃ b ∈ B, g b = f a ∧ v b = u a) (h2 : ∀ b ∈ B, ∃ a ∈ A, g b = f a ∧ v b = u a) : (B.map v).Perm (A.map u) := by
  have hp : (B.map fun b => (g b, v b)).Perm (A.map fun a => (f a, u a)) := by
    rw [List.perm_ext_iff_of_nodup (nodup_map_fst (by rw [List.map_map]; exact hB)) (nodup_map_fst (by rw [List.map_map]; exact hA))]
    intro p
    simp only [List.mem_map]
    constructor
    · rintro ⟨b, hb, rfl⟩
      obtain ⟨a, ha, e1, e2⟩ := h2 b hb
      exact ⟨a, ha, by rw [e1, e2]⟩
    · rintro ⟨a, ha, rfl⟩
      obtain ⟨b, hb, e1, e2⟩ := h1 a ha
      exact ⟨b, hb, by rw [e1, e2]⟩
  have := hp.map Prod.snd
  rw [List.map_map, List.map_map] at this
  exact this

theorem filterMap_ids {f : Ent → Option Ent} (hf : ∀ e e', f e = some e' → idE e' = idE e) {L : List Ent} (h : (L.map idE).Nodup) : ((L.filterMap f).map idE).Nodup := by
  induction L with
  | nil => simp
  | cons a r ih =>
    rw [List.map_cons, List.nodup_cons] at h
    cases ha : f a with
    | none => rw [List.filterMap_cons_none ha]; exact ih h.2
    | some b =>
      rw [List.filterMap_cons_some ha, List.map_cons, List.nodup_cons]
      refine ⟨?_, ih h.2⟩
      intro hin
      obtain ⟨y, hy, e⟩ := List.mem_map.1 hin
      obtain ⟨x, hx, hfx⟩ := List.mem_filterMap.1 hy
      rw [hf x y hfx, hf a b ha] at e
      exact h.1 (List.mem_map.2 ⟨x, hx, e⟩)

theorem selGo_some {now : Int} {send : Ent → Bool} {e e' : Ent} (h : selGo now send e = some e') : deadE now e = false ∧ send e = true ∧ e' = { e with las := now } := by
  unfold selGo at h
  split at h
  · cases h
  · rename_i h1
    split at h
    · rename_i h2; cases h; exact ⟨by simpa using h1, h2, rfl⟩
    · cases h

theorem sent_rel {x : Kp} {e : Ent} (h : Rel x e) {https : Bool} {host ap : List UInt8} (hh : isHostB host = true) (hd : isHostB x.domain = true) : sendB e https host ap = sentB https host ap x := by
  unfold sendB sentB
  rw [h.path, h.secure, h.domain]
  have := send_host hh hd h.al h.ho
  rw [← this]
  congr 3
  rw [Bool.eq_iff_iff, beq_iff_eq, decide_eq_true_eq]

/-- What a question does. -/
theorem ask_inv {listed : Bool} {ss : List (List UInt8)} {F : List UInt8 → List Ent} {jar ended : List Kp} {t : Int} {host ap : List UInt8} {https : Bool} (hs : SufOk ss) (hh : isHostB host = true)
    (h : Inv listed ss F jar ended t) (hl : ∀ x ∈ jar, livesB x t = true) (hsaid : jar.any (oddB listed ss host) = false) (send : Ent → Bool) (hsend : send = fun e => sendB e https host ap) :
    Inv listed ss (upd F (keyOf listed ss host) ((F (keyOf listed ss host)).filterMap (fGo t send))) jar ended t ∧
    (((F (keyOf listed ss host)).filterMap (selGo t send)).map snE).Perm ((jar.filter (sentB https host ap)).map toSn) := by
  have hdom : ∀ x ∈ jar, isHostB x.domain = true := by
    intro x hx
    obtain ⟨e, he, hr⟩ := h.fwd x hx
    have := (h.own _ e he).2.1
    rw [hr.domain] at this; exact this
  have hfid : ∀ e e', fGo t send e = some e' → idE e' = idE e := fun e e' hf => fGo_id hf
  have hfx : ∀ e e', fGo t send e = some e' → deadE t e = false ∧ e' = { e with las := e'.las } := by
    intro e e' hf
    unfold fGo at hf
    split at hf
    · cases hf
    · rename_i h1
      refine ⟨by simpa using h1, ?_⟩
      split at hf <;> cases hf <;> rfl
  have hback : ∀ j e', e' ∈ upd F (keyOf listed ss host) ((F (keyOf listed ss host)).filterMap (fGo t send)) j → ∃ e ∈ F j, e' = { e with las := e'.las } := by
    intro j e' he'
    unfold upd at he'
    split at he'
    · rename_i hj
      obtain ⟨e, he, hf⟩ := List.mem_filterMap.1 he'
      rw [hj]
      exact ⟨e, he, (hfx e e' hf).2⟩
    · exact ⟨e', he', rfl⟩
  constructor
  · refine ⟨?_, ?_, h.uniq, ?_, ?_, h.dom⟩
    · intro j
      unfold upd
      split
      · exact filterMap_ids hfid (h.nod _)
      · exact h.nod j
    · intro j e' he'
      obtain ⟨e, he, e2⟩ := hback j e' he'
      rw [e2]
      exact h.own j e he
    · intro x hx
      obtain ⟨e, he, hr⟩ := h.fwd x hx
      have hd : deadE t e = false := by rw [hr.dead, hl x hx]; rfl
      unfold upd
      split
      · rename_i hj
        rw [hj] at he
        by_cases hse : send e = true
        · exact ⟨{ e with las := t }, List.mem_filterMap.2 ⟨e, he, by simp [fGo, hd, hse]⟩, hr.las t⟩
        · exact ⟨e, List.mem_filterMap.2 ⟨e, he, by simp [fGo, hd, hse]⟩, hr⟩
      · exact ⟨e, he, hr⟩
    · intro j e' he'
      obtain ⟨e, he, e2⟩ := hback j e' he'
      rcases h.back j e he with ⟨x, hx, hr⟩ | ⟨h1, x, hx, h2⟩
      · refine Or.inl ⟨x, hx, ?_⟩
        rw [e2]; exact hr.las _
      · refine Or.inr ⟨?_, x, hx, ?_⟩
        · rw [e2]; exact h1
        · rw [e2]; exact h2
  · have hB : (((F (keyOf listed ss host)).filterMap (selGo t send)).map idE).Nodup := filterMap_ids (fun e e' hf => by obtain ⟨_, _, rfl⟩ := selGo_some hf; rfl) (h.nod _)
    refine perm_by_key (f := triK) (g := triE) (h.uniq.sublist ((List.filter_sublist).map triK)) ?_ ?_ ?_
    · exact List.pairwise_map.2 ((List.pairwise_map.1 hB).imp (fun hab e => hab (triE_id e)))
    · intro x hx
      obtain ⟨hx1, hx2⟩ := List.mem_filter.1 hx
      obtain ⟨e, he, hr⟩ := h.fwd x hx1
      have hxd := hdom x hx1
      have hkey : keyOf listed ss host = keyOf listed ss x.domain := by
        unfold sentB at hx2
        rw [Bool.and_eq_true, Bool.and_eq_true] at hx2
        have h3 := hx2.1.1
        rw [Bool.or_eq_true, beq_iff_eq, Bool.and_eq_true] at h3
        rcases h3 with h3 | ⟨h3, h4⟩
        · rw [h3]
        · have hal : x.alone = false := by simpa using h3
          have hab : aboveB listed ss host x.domain = false := by
            have := List.any_eq_false.1 hsaid x hx1
            simp only [oddB, hal, h4, Bool.not_false, Bool.true_and, Bool.not_eq_true] at this
            exact this
          exact key_of hs hh hxd ((within_iff hh hxd).1 h4) (Or.inr (h.dom x hx1 hal)) hab
      rw [← hkey] at he
      refine ⟨{ e with las := t }, List.mem_filterMap.2 ⟨e, he, ?_⟩, hr.tri, hr.sn⟩
      have hd : deadE t e = false := by rw [hr.dead, hl x hx1]; rfl
      have hse : send e = true := by rw [hsend]; exact (sent_rel hr hh hxd).trans hx2
      simp [selGo, hd, hse]
    · intro e' he'
      obtain ⟨e, he, hf⟩ := List.mem_filterMap.1 he'
      obtain ⟨h1, h2, rfl⟩ := selGo_some hf
      rcases h.back _ e he with ⟨x, hx, hr⟩ | ⟨h3, _⟩
      · refine ⟨x, List.mem_filter.2 ⟨hx, ?_⟩, hr.tri, hr.sn⟩
        rw [hsend] at h2
        exact (sent_rel hr hh (hdom x hx)).symm.trans h2
      · rw [h1] at h3; cases h3
end Go.Proofs.YtckfgnbilcjdpaaGreatDoor
/- All steps: what the package sends and what the reference sends (plain laws). -/
namespace Go.Proofs.YtckfgnbilcjdpaaGreatDoor
open Go.RowKit Go.Sort

/-- What the reference has when steps are done. -/
structure RS where
  jar : List Kp
  ended : List Kp
  outs : List (List Sn)
  said : Bool

/-- The cookies that have not ended when a step comes, and those that have. -/
def jarL (r : RS) (t : Int) : List Kp := r.jar.filter fun k => livesB k t
def endL (r : RS) (t : Int) : List Kp := r.ended ++ r.jar.filter fun k => !livesB k t
/-- A step. -/
def stepS (listed : Bool) (ss : List (List UInt8)) (r : RS) (st : St) : RS :=
  if st.set then
    (if httpP st.sch then
      ⟨(st.cks.foldl (setC listed ss ((hostPart st.host).map lowB) st.path st.at' (endL r st.at')) (jarL r st.at', r.said)).1, endL r st.at', r.outs,
        (st.cks.foldl (setC listed ss ((hostPart st.host).map lowB) st.path st.at' (endL r st.at')) (jarL r st.at', r.said)).2⟩
    else ⟨jarL r st.at', endL r st.at', r.outs, r.said⟩)
  else
    (if httpP st.sch then
      ⟨jarL r st.at', endL r st.at', r.outs ++ [((jarL r st.at').filter (sentB (st.sch == httpsB) ((hostPart st.host).map lowB) (askPath st.path))).map toSn], r.said && !(jarL r st.at').any (oddB listed ss ((hostPart st.host).map lowB))⟩
    else ⟨jarL r st.at', endL r st.at', r.outs ++ [[]], r.said⟩)
def runS (listed : Bool) (ss : List (List UInt8)) (l : List St) : RS := l.foldl (stepS listed ss) ⟨[], [], [], true⟩

theorem stepS_said {listed : Bool} {ss : List (List UInt8)} {r : RS} {st : St} (h : (stepS listed ss r st).said = true) : r.said = true := by
  unfold stepS at h
  split at h
  · split at h
    · exact foldC_said h
    · exact h
  · split at h
    · exact (Bool.and_eq_true _ _ ▸ h : r.said = true ∧ _).1
    · exact h
theorem foldS_said {listed : Bool} {ss : List (List UInt8)} : ∀ {l : List St} {r : RS}, (l.foldl (stepS listed ss) r).said = true → r.said = true
  | [], _, h => h
  | _ :: _, _, h => stepS_said (foldS_said h)

/-- What the statements ask of a step. -/
structure StVal (listed : Bool) (st : St) : Prop where
  host : isHostB (hostPart st.host) = true
  path : isPathB st.path = true
  cks : ∀ c ∈ st.cks, plainB listed c.domain = true ∧ (c.path.head? = some 47 → isPathB c.path = true)

/-- Times don't go back. -/
def Times : Int → List St → Prop
  | _, [] => True
  | s, st :: r => s ≤ st.at' ∧ Times st.at' r
def lastAt (s : Int) (l : List St) : Int := l.foldl (fun _ st => st.at') s
theorem Times.snoc : ∀ {s : Int} {l : List St} {x : St}, Times s l → lastAt s l ≤ x.at' → Times s (l ++ [x])
  | _, [], _, _, h => ⟨h, trivial⟩
  | _, _ :: _, _, h1, h2 => ⟨h1.1, Times.snoc h1.2 h2⟩
theorem lastAt_snoc (s : Int) (l : List St) (x : St) : lastAt s (l ++ [x]) = x.at' := by simp [lastAt]

def PairOk (E : List Ent) (W : List Sn) : Prop := (E.map snE).Perm W ∧ ∃ p : List UInt8, ∀ e ∈ E, e.path <+: p

theorem pathB_pre {p q : List UInt8} (h : pathB p q = true) : q <+: p := by
  unfold pathB at h
  rw [Bool.or_eq_true, Bool.and_eq_true, decide_eq_true_eq, decide_eq_true_eq] at h
  rcases h with h | ⟨h, _⟩
  · rw [h]; exact List.prefix_refl _
  · exact h

def getF (J : AJ) : List UInt8 → List Ent := fun k => (findA J k).getD []
theorem findA_cons (p : List UInt8 × List Ent) (J : AJ) (k : List UInt8) : findA (p :: J) k = if p.1 = k then some p.2 else findA J k := by
  unfold findA
  rw [List.find?_cons]
  by_cases h : p.1 = k <;> simp [h]
theorem findA_no {J : AJ} {k : List UInt8} (h : k ∉ J.map Prod.fst) : findA J k = none := by
  induction J with
  | nil => rfl
  | cons p r ih =>
    rw [List.map_cons, List.mem_cons, not_or] at h
    rw [findA_cons, if_neg (Ne.symm h.1), ih h.2]
theorem findA_map (J : AJ) (key : List UInt8) (L : List Ent) (k : List UInt8) : findA (J.map fun p => if p.1 = key then (key, L) else p) k = if k = key then (if key ∈ J.map Prod.fst then some L else none) else findA J k := by
  induction J with
  | nil => simp [findA]
  | cons p r ih =>
    rw [List.map_cons, findA_cons, ih, findA_cons]
    by_cases h1 : p.1 = key
    · rw [if_pos h1]
      by_cases h2 : k = key
      · rw [if_pos h2.symm, if_pos h2, if_pos (by rw [List.map_cons, h1]; exact List.mem_cons_self)]
      · rw [if_neg (Ne.symm h2), if_neg h2, if_neg h2, if_neg (by rw [h1]; exact Ne.symm h2)]
    · rw [if_neg h1]
      by_cases h2 : k = key
      · rw [if_pos h2, if_pos h2, if_neg (by rw [h2]; exact h1)]
        have h3 : (key ∈ (p :: r).map Prod.fst) ↔ key ∈ r.map Prod.fst := by
          rw [List.map_cons, List.mem_cons]
          exact ⟨fun h => h.resolve_left (fun e => h1 e.symm), Or.inr⟩
        by_cases h4 : key ∈ r.map Prod.fst
        · rw [if_pos h4, if_pos (h3.2 h4)]
        · rw [if_neg h4, if_neg (fun h => h4 (h3.1 h))]
      · rw [if_neg h2, if_neg h2]
theorem findA_put (J : AJ) (key : List UInt8) (L : List Ent) (k : List UInt8) : findA (putA J key L) k = if k = key then some L else findA J k := by
  unfold putA
  split
  · rename_i h
    rw [findA_map, if_pos h]
  · rename_i h
    have h0 := findA_no h
    clear h
    induction J with
    | nil =>
      rw [List.nil_append, findA_cons]
      by_cases h2 : k = key
      · rw [if_pos h2.symm, if_pos h2]
      · rw [if_neg (Ne.symm h2), if_neg h2]
    | cons p r ih =>
      rw [findA_cons] at h0
      by_cases h1 : p.1 = key
      · rw [if_pos h1] at h0; cases h0
      · rw [if_neg h1] at h0
        rw [List.cons_append, findA_cons, ih h0, findA_cons]
        by_cases h2 : k = key
        · rw [if_pos h2, if_neg (by rw [h2]; exact h1), if_pos h2]
        · rw [if_neg h2, if_neg h2]
theorem findA_del (J : AJ) (key k : List UInt8) : findA (delA J key) k = if k = key then none else findA J k := by
  unfold delA
  induction J with
  | nil => simp [findA]
  | cons p r ih =>
    rw [List.filter_cons]
    by_cases h1 : p.1 = key
    · rw [if_neg (by simpa using h1), ih, findA_cons]
      by_cases h2 : k = key
      · rw [if_pos h2, if_pos h2]
      · rw [if_neg h2, if_neg h2, if_neg (by rw [h1]; exact Ne.symm h2)]
    · rw [if_pos (by simpa using h1), findA_cons, ih, findA_cons]
      by_cases h2 : k = key
      · rw [if_pos h2, if_pos h2, if_neg (by rw [h2]; exact h1)]
      · rw [if_neg h2, if_neg h2]
theorem getF_end {J : AJ} {key : List UInt8} {st : SubSt} (h : st.mod = false → st.sub.getD [] = getF J key) : getF (endSet J key st) = upd (getF J) key (st.sub.getD []) := by
  unfold endSet
  split
  · funext k
    unfold upd getF
    split
    · rename_i he
      rw [findA_del]
      split
      · rw [Option.getD_none]; exact (List.isEmpty_iff.1 he).symm
      · rfl
    · rw [findA_put]
      split
      · rfl
      · rfl
  · rename_i hm
    rw [h (by simpa using hm), upd_self]

theorem getF_set (listed : Bool) (ss : List (List UInt8)) (J : AJ) (seq : Nat) (host dp : List UInt8) (now : Int) (cs : List Ck) :
    getF (setA listed ss J seq host dp now cs).1 = upd (getF J) (keyOf listed ss host) ((cs.foldl (setOne listed ss host dp now) ⟨findA J (keyOf listed ss host), false, seq⟩).sub.getD []) := by
  have h1 : setTo listed ss host dp now ⟨findA J (keyOf listed ss host), false, seq⟩ cs cs.length = cs.foldl (setOne listed ss host dp now) ⟨findA J (keyOf listed ss host), false, seq⟩ := by
    rw [setTo, List.take_length]
  show getF (endSet J (keyOf listed ss host) (setTo listed ss host dp now ⟨findA J (keyOf listed ss host), false, seq⟩ cs cs.length)) = _
  rw [← h1]
  apply getF_end
  intro hm
  rw [setTo_mod listed ss host dp now _ cs cs.length (Nat.le_refl _) hm]
  rfl
theorem getF_ask (J : AJ) (key : List UInt8) (now : Int) (send : Ent → Bool) : getF (askA J key now send) = upd (getF J) key ((getF J key).filterMap (fGo now send)) := by
  unfold askA
  cases hf : findA J key with
  | none =>
    have : getF J key = [] := by unfold getF; rw [hf]; rfl
    rw [this]
    show getF J = upd (getF J) key []
    rw [← this, upd_self]
  | some L0 =>
    have : getF J key = L0 := by unfold getF; rw [hf]; rfl
    rw [this]
    show getF (getA J key L0 now send) = _
    unfold getA
    rw [getF_end]
    · rfl
    · intro hm
      rw [this]
      exact not_touch hm

/-- One step. -/
theorem step_inv {listed : Bool} {ss : List (List UInt8)} {js : AJ × Nat} {r : RS} {st : St} {s : Int} (hs : SufOk ss) (hv : StVal listed st) (h : Inv listed ss (getF js.1) r.jar r.ended s) (ht : s ≤ st.at') (hsaid : (stepS listed ss r st).said = true) :
    Inv listed ss (getF (stepJ listed ss js st).1) (stepS listed ss r st).jar (stepS listed ss r st).ended st.at' ∧
    (st.set = true → (stepS listed ss r st).outs = r.outs) ∧
    (st.set = false → ∃ W, (stepS listed ss r st).outs = r.outs ++ [W] ∧ PairOk (stepSel listed ss js.1 st.sch (hostPart st.host) st.path st.at') W) := by
  have h1 : Inv listed ss (getF js.1) (jarL r st.at') (endL r st.at') st.at' := h.later ht
  have hh : isHostB ((hostPart st.host).map lowB) = true := isHost_low hv.host
  unfold stepS at hsaid ⊢
  unfold stepJ
  cases hset : st.set with
  | true =>
    rw [hset] at hsaid
    simp only [if_true] at hsaid ⊢
    unfold stepSet
    by_cases hw : httpP st.sch = true
    · rw [if_pos hw] at hsaid ⊢
      rw [if_pos ((httpP_iff _).1 hw)]
      refine ⟨?_, fun _ => rfl, fun h => by cases h⟩
      rw [getF_set]
      exact fold_inv hs hh hv.path st.cks _ (jarL r st.at', r.said) _ hv.cks h1 rfl hsaid
    · rw [if_neg hw] at hsaid ⊢
      rw [if_neg (fun hx => hw ((httpP_iff _).2 hx))]
      exact ⟨h1, fun _ => rfl, fun h => by cases h⟩
  | false =>
    rw [hset] at hsaid
    simp only [Bool.false_eq_true, if_false] at hsaid ⊢
    unfold stepAsk stepSel
    by_cases hw : httpP st.sch = true
    · rw [if_pos hw] at hsaid ⊢
      rw [if_pos ((httpP_iff _).1 hw), if_pos ((httpP_iff _).1 hw)]
      have hodd : (jarL r st.at').any (oddB listed ss ((hostPart st.host).map lowB)) = false := by
        have h2 : (r.said && !(jarL r st.at').any (oddB listed ss ((hostPart st.host).map lowB))) = true := hsaid
        rw [Bool.and_eq_true] at h2
        simpa using h2.2
      obtain ⟨a1, a2⟩ := ask_inv (ap := askPath st.path) (https := st.sch == httpsB) hs hh h1 (fun x hx => (List.mem_filter.1 hx).2) hodd (sendTo st.sch (hostPart st.host) st.path) rfl
      refine ⟨?_, (fun h => by cases h), fun _ => ⟨_, rfl, a2, askPath st.path, ?_⟩⟩
      · show Inv listed ss (getF (askA js.1 _ _ _)) _ _ _
        rw [getF_ask]
        exact a1
      · intro e he
        obtain ⟨e0, he0, hf⟩ := List.mem_filterMap.1 he
        obtain ⟨_, h3, rfl⟩ := selGo_some hf
        unfold sendTo sendB at h3
        rw [Bool.and_eq_true, Bool.and_eq_true] at h3
        exact pathB_pre h3.1.2
    · rw [if_neg hw] at hsaid ⊢
      rw [if_neg (fun hx => hw ((httpP_iff _).2 hx)), if_neg (fun hx => hw ((httpP_iff _).2 hx))]
      exact ⟨h1, (fun h => by cases h), fun _ => ⟨[], rfl, List.Perm.refl _, [], (fun e he => by cases he)⟩⟩

/-- All steps. -/
theorem run_inv {listed : Bool} {ss : List (List UInt8)} (hs : SufOk ss) : ∀ (l : List St) (js : AJ × Nat) (r : RS) (s : Int), (∀ st ∈ l, StVal listed st) → Times s l → Inv listed ss (getF js.1) r.jar r.ended s →
    (l.foldl (stepS listed ss) r).said = true → ∃ Ws, (l.foldl (stepS listed ss) r).outs = r.outs ++ Ws ∧ Ws.length = (runA listed ss js l).length ∧ ∀ i (h1 : i < (runA listed ss js l).length) (h2 : i < Ws.length), PairOk (runA listed ss js l)[i] Ws[i]
  | [], js, r, s, _, _, _, _ => ⟨[], by simp, rfl, fun i h1 => absurd h1 (Nat.not_lt_zero _)⟩
  | st :: l, js, r, s, hv, ht, h, hsaid => by
    rw [List.foldl_cons] at hsaid ⊢
    obtain ⟨g1, g2, g3⟩ := step_inv hs (hv st List.mem_cons_self) h ht.1 (foldS_said hsaid)
    obtain ⟨Ws, w1, w2, w3⟩ := run_inv hs l (stepJ listed ss js st) (stepS listed ss r st) st.at' (fun x hx => hv x (List.mem_cons_of_mem _ hx)) ht.2 g1 hsaid
    cases hset : st.set with
    | true =>
      refine ⟨Ws, by rw [w1, g2 hset], ?_, ?_⟩
      · simp only [runA, hset, if_true, List.nil_append]; exact w2
      · simp only [runA, hset, if_true, List.nil_append]; exact w3
    | false =>
      obtain ⟨W, v1, v2⟩ := g3 hset
      refine ⟨W :: Ws, by rw [w1, v1]; simp, ?_, ?_⟩
      · simp only [runA, hset, Bool.false_eq_true, if_false, List.cons_append, List.nil_append, List.length_cons, w2]
      · simp only [runA, hset, Bool.false_eq_true, if_false, List.cons_append, List.nil_append]
        intro i h1 h2
        cases i with
        | zero => exact v2
        | succ i => exact w3 i (by simpa using h1) (by simpa using h2)

theorem inv_start (listed : Bool) (ss : List (List UInt8)) (s : Int) : Inv listed ss (getF []) [] [] s where
  nod k := by simp [getF, findA]
  own k e he := by simp [getF, findA] at he
  uniq := by simp
  fwd x hx := by cases hx
  back k e he := by simp [getF, findA] at he
  dom x hx := by cases hx

/-- What is said of all steps. -/
theorem runS_pairs {listed : Bool} {ss : List (List UInt8)} {l : List St} (hs : SufOk ss) (hv : ∀ st ∈ l, StVal listed st) {s : Int} (ht : Times s l) (hsaid : (runS listed ss l).said = true) :
    (runS listed ss l).outs.length = (expAt listed ss l l.length).length ∧ ∀ i (h1 : i < (expAt listed ss l l.length).length) (h2 : i < (runS listed ss l).outs.length), PairOk (expAt listed ss l l.length)[i] (runS listed ss l).outs[i] := by
  have he : expAt listed ss l l.length = runA listed ss ([], 0) l := by rw [expAt, List.take_length]
  obtain ⟨Ws, w1, w2, w3⟩ := run_inv hs l ([], 0) ⟨[], [], [], true⟩ s hv ht (inv_start listed ss s) hsaid
  have hw : (runS listed ss l).outs = Ws := w1
  rw [hw, he]
  exact ⟨w2, w3⟩

theorem sortR_pairwise {M : List Sn} (h : SortR M 0 M.length) : M.Pairwise leN := by
  rw [List.pairwise_iff_getElem]
  intro i j hi hj hij
  exact h i j _ _ (Nat.zero_le _) hij hj (List.getElem?_eq_getElem hi) (List.getElem?_eq_getElem hj)

theorem pre_lt {a b : List UInt8} (h : a <+: b) (hne : a ≠ b) : a < b := by
  obtain ⟨t, rfl⟩ := h
  have ht : t ≠ [] := by rintro rfl; simp at hne
  clear hne
  induction a with
  | nil =>
    cases t with
    | nil => exact absurd rfl ht
    | cons c r => exact List.nil_lt_cons c r
  | cons c r ih => exact List.cons_lt_cons_iff.2 (Or.inr ⟨rfl, ih⟩)

/-- The jar's order is the reference's. -/
theorem sel_sorted {E : List Ent} {p : List UInt8} (hp : ∀ e ∈ E, e.path <+: p) (hs : E.Pairwise fun x y => ltOf cmpSel y x = false) : (E.map snE).Pairwise leN := by
  rw [List.pairwise_map]
  refine List.Pairwise.imp_of_mem ?_ hs
  intro x y hx hy hxy
  have hn : ¬ ltOf cmpSel y x = true := by rw [hxy]; exact Bool.false_ne_true
  rw [ltSel] at hn
  rw [leN_iff]
  show (y.path.length : Int) < (x.path.length : Int) ∨ ((x.path.length : Int) = (y.path.length : Int) ∧ x.crs ≤ y.crs)
  have h1 : ¬ x.path < y.path := fun h => hn (Or.inl h)
  have h2 : y.path = x.path → x.crs ≤ y.crs := fun h => by
    rcases Int.lt_or_le y.crs x.crs with h3 | h3
    · exact absurd (Or.inr ⟨h, Or.inl h3⟩) hn
    · exact h3
  rcases List.prefix_or_prefix_of_prefix (hp x hx) (hp y hy) with h3 | h3
  · have he : x.path = y.path := by
      by_cases he : x.path = y.path
      · exact he
      · exact absurd (pre_lt h3 he) h1
    right
    exact ⟨by rw [he], h2 he.symm⟩
  · by_cases he : y.path = x.path
    · right; exact ⟨by rw [he], h2 he⟩
    · left
      have := h3.length_le
      have hlt : y.path.length ≠ x.path.length := fun hl => he (h3.eq_of_length hl)
      omega

/-- What Matches looks for. -/
def sameN (n v : List UInt8) (h s : Sn) : Bool := (s.name == n && s.value == v) && s.plen == h.plen && s.born == h.born

theorem match_step {g : Sn} {G L : List Sn} (hp : (g :: G).Perm L) (hG : (g :: G).Pairwise leN) (hL : L.Pairwise leN) :
    ∃ h R, L = h :: R ∧ ∃ i, ∃ _ : i < L.length, idxP (sameN g.name g.value h) L = (i : Int) ∧ G.Perm (L.take i ++ L.drop (i + 1)) ∧ (L.take i ++ L.drop (i + 1)).Pairwise leN := by
  cases hLe : L with
  | nil => rw [hLe] at hp; exact absurd hp.length_eq (by simp)
  | cons h R =>
    refine ⟨h, R, rfl, ?_⟩
    rw [← hLe]
    have hin : h ∈ g :: G := hp.mem_iff.2 (by rw [hLe]; exact List.mem_cons_self)
    have hgin : g ∈ L := hp.mem_iff.1 List.mem_cons_self
    have h1 : leN g h := by
      rcases List.mem_cons.1 hin with h2 | h2
      · rw [h2]; exact leN_refl _
      · exact (List.pairwise_cons.1 hG).1 h h2
    have h2 : leN h g := by
      have hgin2 := hgin
      rw [hLe] at hgin2 hL
      rcases List.mem_cons.1 hgin2 with h3 | h3
      · rw [h3]; exact leN_refl _
      · exact (List.pairwise_cons.1 hL).1 g h3
    rw [leN_iff] at h1 h2
    have e1 : g.plen = h.plen := by omega
    have e2 : g.born = h.born := by omega
    rcases idxP_cases (sameN g.name g.value h) L with ⟨_, hall⟩ | ⟨i, hi, hix, hpi, _⟩
    · have := hall g hgin
      simp [sameN, e1, e2] at this
    · have hg : L[i] = g := by
        simp only [sameN, Bool.and_eq_true, beq_iff_eq] at hpi
        obtain ⟨⟨⟨a1, a2⟩, a3⟩, a4⟩ := hpi
        rw [← e1] at a3
        rw [← e2] at a4
        generalize L[i] = x at *
        cases x; cases g; simp_all
      refine ⟨i, hi, hix, ?_, ?_⟩
      · have hcut : L = L.take i ++ g :: L.drop (i + 1) := by rw [← hg, List.getElem_cons_drop, List.take_append_drop]
        have h3 : (g :: G).Perm (g :: (L.take i ++ L.drop (i + 1))) := by
          refine hp.trans ?_
          conv => lhs; rw [hcut]
          exact List.perm_middle
        exact h3.cons_inv
      · have hsub : (L.take i ++ L.drop (i + 1)).Sublist L := by
          conv => rhs; rw [← List.take_append_drop i L]
          exact List.Sublist.append (List.Sublist.refl _) (by rw [← List.drop_drop]; exact List.drop_sublist _ _)
        exact hL.sublist hsub
end Go.Proofs.YtckfgnbilcjdpaaGreatDoor
