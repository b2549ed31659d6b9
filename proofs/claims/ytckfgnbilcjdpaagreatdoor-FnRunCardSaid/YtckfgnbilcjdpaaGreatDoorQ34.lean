/- The statement's arguments, opened. -/
import Derived.Test.YtckfgnbilcjdpaaGreatDoorQ09
import Derived.ProofKit
import Derived.OpenShut
namespace Go.Proofs.YtckfgnbilcjdpaaGreatDoor
open Go.RowKit Go.ChangeShapes Go.WideShapes
set_option maxRecDepth 100000

theorem cz9 : Tryz.prog.cellsOf 9 = 1 := by kernel_rfl
theorem cz3 : Tryz.prog.cellsOf 3 = 1 := by kernel_rfl
theorem cz4 : Tryz.prog.cellsOf 4 = 1 := by kernel_rfl
theorem cz37 : Tryz.prog.cellsOf 37 = 3 := by kernel_rfl
theorem cz38 : Tryz.prog.cellsOf 38 = 1 := by kernel_rfl
theorem cz47 : Tryz.prog.cellsOf 47 = 7 := by kernel_rfl
theorem cz40 : Tryz.prog.cellsOf 40 = 6 := by kernel_rfl

section
variable {H : Type} {enc : TypeId × Value → H} {w : World} {base : Nat} {sp : Nat → Bool} {held : Bool}

theorem bs_back (s : ByteArray) : bs s.data.toList = s := by
  cases s; rfl
theorem open_str {fuel : Nat} {u : Value} {x : DataW H × List MemPlace} (h : DataW.trod enc Tryz.prog w base sp held fuel 9 [u] = some x) : ∃ s : List UInt8, u = .string (bs s) := by
  obtain ⟨s, e, _⟩ := DataW.trod_string Tryz.underlying9 h
  exact ⟨s.data.toList, by rw [bs_back]; simpa using e⟩
theorem open_i64 {fuel : Nat} {u : Value} {x : DataW H × List MemPlace} (h : DataW.trod enc Tryz.prog w base sp held fuel 3 [u] = some x) : ∃ n : Int, u = .int .i64 n ∧ -9223372036854775808 ≤ n ∧ n ≤ 9223372036854775807 := by
  obtain ⟨n, e, _, hw⟩ := DataW.trod_int Tryz.underlying3 h
  exact ⟨n, by simpa using e, (bounds_i64 hw).1, (bounds_i64 hw).2⟩
theorem open_bl {fuel : Nat} {u : Value} {x : DataW H × List MemPlace} (h : DataW.trod enc Tryz.prog w base sp held fuel 4 [u] = some x) : ∃ b : Bool, u = .bool b := by
  obtain ⟨b, e, _⟩ := DataW.trod_bool Tryz.underlying4 h
  exact ⟨b, by simpa using e⟩

/-- A cookie of the arguments. -/
theorem open_ck {fuel : Nat} {cs : List Value} {x : DataW H × List MemPlace} (h : DataW.trod enc Tryz.prog w base sp held fuel 47 cs = some x) : ∃ c : Ck, cs = encI c ∧ -9223372036854775808 ≤ c.age := by
  obtain ⟨xs, n, rfl, _, hl, hx, hf⟩ := DataW.trod_struct Tryz.underlying47 h
  rw [cz47] at hl
  match cs, hl with
  | [c0, c1, c2, c3, c4, c5, c6], _ =>
    have hx7 : xs.length = 7 := hx
    match xs, hx7 with
    | [x0, x1, x2, x3, x4, x5, x6], _ =>
      have f0 : DataW.trod enc Tryz.prog w base sp held n 9 (([c0, c1, c2, c3, c4, c5, c6].drop 0).take (Tryz.prog.cellsOf 9)) = some x0 := hf 0 _ rfl
      have f1 : DataW.trod enc Tryz.prog w base sp held n 9 (([c0, c1, c2, c3, c4, c5, c6].drop 1).take (Tryz.prog.cellsOf 9)) = some x1 := hf 1 _ rfl
      have f2 : DataW.trod enc Tryz.prog w base sp held n 9 (([c0, c1, c2, c3, c4, c5, c6].drop 2).take (Tryz.prog.cellsOf 9)) = some x2 := hf 2 _ rfl
      have f3 : DataW.trod enc Tryz.prog w base sp held n 9 (([c0, c1, c2, c3, c4, c5, c6].drop 3).take (Tryz.prog.cellsOf 9)) = some x3 := hf 3 _ rfl
      have f4 : DataW.trod enc Tryz.prog w base sp held n 3 (([c0, c1, c2, c3, c4, c5, c6].drop 4).take (Tryz.prog.cellsOf 3)) = some x4 := hf 4 _ rfl
      have f5 : DataW.trod enc Tryz.prog w base sp held n 3 (([c0, c1, c2, c3, c4, c5, c6].drop 5).take (Tryz.prog.cellsOf 3)) = some x5 := hf 5 _ rfl
      have f6 : DataW.trod enc Tryz.prog w base sp held n 4 (([c0, c1, c2, c3, c4, c5, c6].drop 6).take (Tryz.prog.cellsOf 4)) = some x6 := hf 6 _ rfl
      rw [cz9] at f0 f1 f2 f3
      rw [cz3] at f4 f5
      rw [cz4] at f6
      obtain ⟨s0, rfl⟩ := open_str (u := c0) f0
      obtain ⟨s1, rfl⟩ := open_str (u := c1) f1
      obtain ⟨s2, rfl⟩ := open_str (u := c2) f2
      obtain ⟨s3, rfl⟩ := open_str (u := c3) f3
      obtain ⟨n4, rfl, h4, _⟩ := open_i64 (u := c4) f4
      obtain ⟨n5, rfl, _⟩ := open_i64 (u := c5) f5
      obtain ⟨b6, rfl⟩ := open_bl (u := c6) f6
      exact ⟨⟨s0, s1, s2, s3, n4, n5, b6⟩, rfl, h4⟩

/-- Rows of structs that each can be opened. -/
theorem rows_of {α : Type} {enc' : α → List Value} {Q : α → Prop} {k : Nat} {a : Addr} (h0 : 0 < k) (hk : ∀ x, (enc' x).length = k) (len : Nat) (h : ∀ i, i < len → ∃ x : α, (∀ j, j < k → w.cell? ((a.add (i * k)).add j) = (enc' x)[j]?) ∧ Q x) :
    ∃ l : List α, l.length = len ∧ (l = [] ∨ ∃ b o, a = ⟨b, o, none⟩ ∧ ∀ i (hi : i < l.length), RowAt w b (o + i * k) (enc' l[i])) ∧ ∀ x ∈ l, Q x := by
  refine ⟨List.ofFn fun i : Fin len => Classical.choose (h i i.2), List.length_ofFn, ?_, ?_⟩
  · by_cases hl : len = 0
    · left
      rw [← List.length_eq_zero_iff, List.length_ofFn, hl]
    · right
      have hsp : a.spot = none := by
        obtain ⟨x, hx, _⟩ := h 0 (by omega)
        have h1 := hx 0 h0
        rw [List.getElem?_eq_getElem (by rw [hk]; exact h0)] at h1
        have := World.cell?_spot h1
        simpa [Addr.add] using this
      obtain ⟨b, o, sp'⟩ := a
      dsimp only at hsp
      subst hsp
      refine ⟨b, o, rfl, ?_⟩
      intro i hi j u hj
      have hi' : i < len := by rw [List.length_ofFn] at hi; exact hi
      rw [List.getElem_ofFn] at hj
      have hjk : j < k := by have := (List.getElem?_eq_some_iff.1 hj).1; rwa [hk] at this
      have h1 := (Classical.choose_spec (h i hi')).1 j hjk
      rw [hj] at h1
      rw [Addr.add_lit, Addr.add_lit] at h1
      exact h1
  · intro x hx
    obtain ⟨i, rfl⟩ := (List.mem_ofFn).1 hx
    exact (Classical.choose_spec (h i i.2)).2

/-- The cookies of a step of the arguments. -/
theorem open_cks {fuel : Nat} {u : Value} {x : DataW H × List MemPlace} (h : DataW.trod enc Tryz.prog w base sp held fuel 38 [u] = some x) : ∃ cs : List Ck, CkSl w u cs ∧ ∀ c ∈ cs, -9223372036854775808 ≤ c.age := by
  rcases DataW.trod_slice Tryz.underlying38 h with ⟨h1, _⟩ | ⟨a, len, cap, elems, rest, n, rfl, h1, _, _, _, _, hel, hc, _, _⟩
  · have hu : u = .slice none 0 0 := by simpa using h1
    subst hu
    exact ⟨[], ⟨none, 0, rfl, Or.inl rfl⟩, fun c hc => by cases hc⟩
  · have hu : u = .slice (some a) len cap := by simpa using h1
    subst hu
    obtain ⟨l, hl, hr, hq⟩ := rows_of (w := w) (a := a) (enc' := encI) (Q := fun c => -9223372036854775808 ≤ c.age) (k := 7) (by decide) (fun _ => rfl) len (fun i hi => by
      have h2 := hc i hi
      rw [List.getElem?_eq_getElem (by omega), cz47] at h2
      obtain ⟨cs, h3, h4⟩ := Option.bind_eq_some_iff.1 h2
      obtain ⟨_, h5, h6⟩ := World.cells?_some h3
      obtain ⟨c, rfl, hage⟩ := open_ck h4
      exact ⟨c, fun j hj => h6 j hj, hage⟩)
    refine ⟨l, ⟨some a, cap, by rw [hl], ?_⟩, hq⟩
    rcases hr with hr | ⟨b, o, rfl, hr⟩
    · exact Or.inl hr
    · exact Or.inr ⟨b, o, rfl, hr⟩

/-- A step of the arguments. -/
theorem open_st {fuel : Nat} {cs : List Value} {x : DataW H × List MemPlace} (h : DataW.trod enc Tryz.prog w base sp held fuel 40 cs = some x) :
    ∃ p : St × Value, cs = encS p.1 p.2 ∧ CkSl w p.2 p.1.cks ∧ ∀ c ∈ p.1.cks, -9223372036854775808 ≤ c.age := by
  obtain ⟨xs, n, rfl, _, hl, hx, hf⟩ := DataW.trod_struct Tryz.underlying40 h
  rw [cz40] at hl
  match cs, hl with
  | [c0, c1, c2, c3, c4, c5], _ =>
    have hx4 : xs.length = 4 := hx
    match xs, hx4 with
    | [x0, x1, x2, x3], _ =>
      have f0 : DataW.trod enc Tryz.prog w base sp held n 4 (([c0, c1, c2, c3, c4, c5].drop 0).take (Tryz.prog.cellsOf 4)) = some x0 := hf 0 _ rfl
      have f1 : DataW.trod enc Tryz.prog w base sp held n 3 (([c0, c1, c2, c3, c4, c5].drop 1).take (Tryz.prog.cellsOf 3)) = some x1 := hf 1 _ rfl
      have f2 : DataW.trod enc Tryz.prog w base sp held n 37 (([c0, c1, c2, c3, c4, c5].drop 2).take (Tryz.prog.cellsOf 37)) = some x2 := hf 2 _ rfl
      have f3 : DataW.trod enc Tryz.prog w base sp held n 38 (([c0, c1, c2, c3, c4, c5].drop 5).take (Tryz.prog.cellsOf 38)) = some x3 := hf 3 _ rfl
      rw [cz4] at f0
      rw [cz3] at f1
      rw [cz37] at f2
      rw [cz38] at f3
      obtain ⟨b0, rfl⟩ := open_bl (u := c0) f0
      obtain ⟨n1, rfl, _⟩ := open_i64 (u := c1) f1
      obtain ⟨ck, hck, hage⟩ := open_cks (u := c5) f3
      obtain ⟨ys, m, rfl, _, _, hy, hg⟩ := DataW.trod_struct Tryz.underlying37 f2
      have hy3 : ys.length = 3 := hy
      match ys, hy3 with
      | [y0, y1, y2], _ =>
        have k0 : DataW.trod enc Tryz.prog w base sp held m 9 (([c2, c3, c4].drop 0).take (Tryz.prog.cellsOf 9)) = some y0 := hg 0 _ rfl
        have k1 : DataW.trod enc Tryz.prog w base sp held m 9 (([c2, c3, c4].drop 1).take (Tryz.prog.cellsOf 9)) = some y1 := hg 1 _ rfl
        have k2 : DataW.trod enc Tryz.prog w base sp held m 9 (([c2, c3, c4].drop 2).take (Tryz.prog.cellsOf 9)) = some y2 := hg 2 _ rfl
        rw [cz9] at k0 k1 k2
        obtain ⟨s0, rfl⟩ := open_str (u := c2) k0
        obtain ⟨s1, rfl⟩ := open_str (u := c3) k1
        obtain ⟨s2, rfl⟩ := open_str (u := c4) k2
        exact ⟨(⟨b0, n1, s0, s1, s2, ck⟩, c5), rfl, hck, hage⟩

theorem encS_len (p : St × Value) : (encS p.1 p.2).length = 6 := rfl
/-- The steps. -/
theorem open_sts {v : Value} {d : DataW H} {ps : List MemPlace} (hv : ∃ a n c, v = .slice a n c) (h : DataW.Trod enc Tryz.prog w base sp held 23 v d ps) : ∃ l : List (St × Value), StSl w v l ∧ ∀ p ∈ l, ∀ c ∈ p.1.cks, -9223372036854775808 ≤ c.age := by
  obtain ⟨a0, n0, c0, rfl⟩ := hv
  obtain ⟨fuel, h⟩ := h
  rcases DataW.trod_slice Tryz.underlying23 h with ⟨h1, _⟩ | ⟨a, len, cap, elems, rest, n, rfl, h1, _, _, _, _, hel, hc, _, _⟩
  · have hu : Value.slice a0 n0 c0 = .slice none 0 0 := by simpa [Value.cells] using h1
    cases hu
    exact ⟨[], ⟨none, 0, rfl, Or.inl rfl, fun c hc => by cases hc⟩, fun c hc => by cases hc⟩
  · have hu : Value.slice a0 n0 c0 = .slice (some a) len cap := by simpa [Value.cells] using h1
    cases hu
    obtain ⟨l, hl, hr, hq⟩ := rows_of (w := w) (a := a) (enc' := fun p : St × Value => encS p.1 p.2) (Q := fun p => CkSl w p.2 p.1.cks ∧ ∀ c ∈ p.1.cks, -9223372036854775808 ≤ c.age) (k := 6) (by decide) encS_len n0 (fun i hi => by
      have h2 := hc i hi
      rw [List.getElem?_eq_getElem (by omega), cz40] at h2
      obtain ⟨cs, h3, h4⟩ := Option.bind_eq_some_iff.1 h2
      obtain ⟨_, h5, h6⟩ := World.cells?_some h3
      obtain ⟨p, rfl, hq⟩ := open_st h4
      exact ⟨p, fun j hj => h6 j hj, hq⟩)
    refine ⟨l, ⟨some a, c0, by rw [hl], ?_, fun p hp => (hq p hp).1⟩, fun p hp => (hq p hp).2⟩
    rcases hr with hr | ⟨b, o, rfl, hr⟩
    · exact Or.inl hr
    · exact Or.inr ⟨b, o, rfl, hr⟩

/-- The suffixes. -/
theorem open_sufs {v : Value} {d : DataW H} {ps : List MemPlace} (hv : ∃ a n c, v = .slice a n c) (h : DataW.Trod enc Tryz.prog w base sp held 22 v d ps) : ∃ (ss : List (List UInt8)) (A : Option Addr) (cap : Nat), v = .slice A ss.length cap ∧ CellsAt w A (strCells ss) := by
  obtain ⟨a0, n0, c0, rfl⟩ := hv
  obtain ⟨fuel, h⟩ := h
  rcases DataW.trod_slice Tryz.underlying22 h with ⟨h1, _⟩ | ⟨a, len, cap, elems, rest, n, rfl, h1, _, _, _, _, hel, hc, _, _⟩
  · have hu : Value.slice a0 n0 c0 = .slice none 0 0 := by simpa [Value.cells] using h1
    cases hu
    exact ⟨[], none, 0, rfl, Or.inl rfl⟩
  · have hu : Value.slice a0 n0 c0 = .slice (some a) len cap := by simpa [Value.cells] using h1
    cases hu
    obtain ⟨l, hl, hr, _⟩ := rows_of (w := w) (a := a) (enc' := fun s : List UInt8 => [Value.string (bs s)]) (Q := fun _ => True) (k := 1) (by decide) (fun _ => rfl) n0 (fun i hi => by
      have h2 := hc i hi
      rw [List.getElem?_eq_getElem (by omega), cz9] at h2
      obtain ⟨cs, h3, h4⟩ := Option.bind_eq_some_iff.1 h2
      obtain ⟨_, h5, h6⟩ := World.cells?_some h3
      match cs, h5 with
      | [u], _ =>
        obtain ⟨s, rfl⟩ := open_str h4
        exact ⟨s, fun j hj => h6 j hj, trivial⟩)
    refine ⟨l, some a, c0, by rw [hl], ?_⟩
    rcases hr with hr | ⟨b, o, rfl, hr⟩
    · left; rw [hr]; rfl
    · right
      refine ⟨b, o, rfl, ?_⟩
      intro j u hj
      unfold strCells at hj
      rw [List.getElem?_map] at hj
      obtain ⟨s, hs, rfl⟩ := Option.map_eq_some_iff.1 hj
      obtain ⟨hjl, rfl⟩ := List.getElem?_eq_some_iff.1 hs
      have := hr j hjl 0 _ rfl
      rw [Nat.mul_one, Nat.add_zero] at this
      exact this
end
end Go.Proofs.YtckfgnbilcjdpaaGreatDoor
