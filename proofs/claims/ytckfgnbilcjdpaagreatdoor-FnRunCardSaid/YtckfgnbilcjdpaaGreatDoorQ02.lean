/- The library's sort, searches and copies, laid at this program's numbers (printed by a program of this session's: wip/tools). -/
import Derived.Test.YtckfgnbilcjdpaaGreatDoorQ01
import Derived.Shelf.SlSortCmp.WholeK
import Derived.Shelf.SlicesQ.IndexFunc
import Derived.Shelf.SlicesE.Clone
namespace Go.Proofs.YtckfgnbilcjdpaaGreatDoor
open Go.Shelf Go.RowKit

def sortERen : Go.Shelf.Ren := ⟨fun | 6 => 66 | 15 => 86 | 14 => 85 | 28 => 109 | 29 => 110 | 20 => 101 | 21 => 102 | 22 => 103 | 23 => 104 | 24 => 105 | 25 => 106 | 26 => 107 | 27 => 108 | 46 => 114 | 47 => 115 | 48 => 116 | 49 => 117 | 50 => 118 | 57 => 119 | n => n, fun | 22 => 116 | 24 => 118 | 25 => 123 | 3 => 3 | 39 => 141 | 0 => 0 | 53 => 159 | 55 => 107 | 4 => 4 | 46 => 153 | 45 => 152 | 50 => 149 | 5 => 5 | 9 => 9 | 66 => 161 | 70 => 165 | 76 => 167 | 77 => 168 | n => n, fun | n => n⟩
theorem sortE : Go.Proofs.SlLaysF0.n6 Tryz.prog sortERen := {
  mixed := by kernel_rfl,
  f6 := ⟨Tryz.f66.name, by decide, Tryz.func66.trans (congrArg some (by kernel_rfl))⟩,
  f14 := ⟨Tryz.f85.name, by decide, Tryz.func85.trans (congrArg some (by kernel_rfl))⟩,
  f15 := Tryz.func86.trans (congrArg some (by kernel_rfl)),
  f20 := ⟨Tryz.f101.name, by decide, Tryz.func101.trans (congrArg some (by kernel_rfl))⟩,
  f21 := ⟨Tryz.f102.name, by decide, Tryz.func102.trans (congrArg some (by kernel_rfl))⟩,
  f22 := ⟨Tryz.f103.name, by decide, Tryz.func103.trans (congrArg some (by kernel_rfl))⟩,
  f23 := ⟨Tryz.f104.name, by decide, Tryz.func104.trans (congrArg some (by kernel_rfl))⟩,
  f24 := ⟨Tryz.f105.name, by decide, Tryz.func105.trans (congrArg some (by kernel_rfl))⟩,
  f25 := ⟨Tryz.f106.name, by decide, Tryz.func106.trans (congrArg some (by kernel_rfl))⟩,
  f26 := ⟨Tryz.f107.name, by decide, Tryz.func107.trans (congrArg some (by kernel_rfl))⟩,
  f27 := ⟨Tryz.f108.name, by decide, Tryz.func108.trans (congrArg some (by kernel_rfl))⟩,
  f28 := Tryz.func109.trans (congrArg some (by kernel_rfl)),
  f29 := Tryz.func110.trans (congrArg some (by kernel_rfl)),
  f46 := ⟨Tryz.f114.name, by decide, Tryz.func114.trans (congrArg some (by kernel_rfl))⟩,
  f47 := Tryz.func115.trans (congrArg some (by kernel_rfl)),
  f48 := Tryz.func116.trans (congrArg some (by kernel_rfl)),
  f49 := ⟨Tryz.f117.name, by decide, Tryz.func117.trans (congrArg some (by kernel_rfl))⟩,
  f50 := ⟨Tryz.f118.name, by decide, Tryz.func118.trans (congrArg some (by kernel_rfl))⟩,
  f57 := ⟨Tryz.f119.name, by decide, Tryz.func119.trans (congrArg some (by kernel_rfl))⟩,
  t0 := Tryz.underlying0,
  a0 := Tryz.isAgg0,
  z0 := Tryz.sizeOf0,
  v0 := Tryz.zeroValue0,
  t3 := Tryz.underlying3,
  a3 := Tryz.isAgg3,
  z3 := Tryz.sizeOf3,
  v3 := Tryz.zeroValue3,
  t4 := Tryz.underlying4,
  a4 := Tryz.isAgg4,
  z4 := Tryz.sizeOf4,
  v4 := Tryz.zeroValue4,
  t5 := Tryz.underlying5,
  a5 := Tryz.isAgg5,
  z5 := Tryz.sizeOf5,
  v5 := Tryz.zeroValue5,
  t9 := Tryz.underlying9,
  a9 := Tryz.isAgg9,
  z9 := Tryz.sizeOf9,
  v9 := Tryz.zeroValue9,
  t22 := Tryz.underlying116,
  a22 := Tryz.isAgg116,
  z22 := Tryz.sizeOf116,
  v22 := Tryz.zeroValue116,
  t25 := Tryz.underlying123,
  a25 := Tryz.isAgg123,
  z25 := Tryz.sizeOf123,
  v25 := Tryz.zeroValue123,
  t39 := Tryz.underlying141,
  a39 := Tryz.isAgg141,
  z39 := Tryz.sizeOf141,
  v39 := Tryz.zeroValue141,
  t45 := Tryz.underlying152,
  a45 := Tryz.isAgg152,
  z45 := Tryz.sizeOf152,
  v45 := Tryz.zeroValue152,
  t46 := Tryz.underlying153,
  a46 := Tryz.isAgg153,
  z46 := Tryz.sizeOf153,
  v46 := Tryz.zeroValue153,
  t50 := Tryz.underlying149,
  a50 := Tryz.isAgg149,
  z50 := Tryz.sizeOf149,
  v50 := Tryz.zeroValue149,
  t53 := Tryz.underlying159,
  a53 := Tryz.isAgg159,
  z53 := Tryz.sizeOf159,
  v53 := Tryz.zeroValue159,
  t55 := Tryz.underlying107,
  a55 := Tryz.isAgg107,
  z55 := Tryz.sizeOf107,
  v55 := Tryz.zeroValue107,
  t66 := Tryz.underlying161,
  a66 := Tryz.isAgg161,
  z66 := Tryz.sizeOf161,
  v66 := Tryz.zeroValue161,
  t70 := Tryz.underlying165,
  a70 := Tryz.isAgg165,
  z70 := Tryz.sizeOf165,
  v70 := Tryz.zeroValue165,
  t76 := Tryz.underlying167,
  a76 := Tryz.isAgg167,
  z76 := Tryz.sizeOf167,
  v76 := Tryz.zeroValue167,
  t77 := Tryz.underlying168,
  a77 := Tryz.isAgg168,
  z77 := Tryz.sizeOf168,
  v77 := Tryz.zeroValue168 }

def insSRen : Go.Shelf.Ren := ⟨fun | 20 => 72 | n => n, fun | 24 => 94 | 22 => 35 | 3 => 3 | 25 => 104 | 4 => 4 | 0 => 0 | n => n, fun | n => n⟩
theorem insS : Go.Proofs.SlLaysF0.n20 Tryz.prog insSRen := {
  mixed := by kernel_rfl,
  f20 := ⟨Tryz.f72.name, by decide, Tryz.func72.trans (congrArg some (by kernel_rfl))⟩,
  t0 := Tryz.underlying0,
  a0 := Tryz.isAgg0,
  z0 := Tryz.sizeOf0,
  v0 := Tryz.zeroValue0,
  t3 := Tryz.underlying3,
  a3 := Tryz.isAgg3,
  z3 := Tryz.sizeOf3,
  v3 := Tryz.zeroValue3,
  t4 := Tryz.underlying4,
  a4 := Tryz.isAgg4,
  z4 := Tryz.sizeOf4,
  v4 := Tryz.zeroValue4,
  t22 := Tryz.underlying35,
  a22 := Tryz.isAgg35,
  z22 := Tryz.sizeOf35,
  v22 := Tryz.zeroValue35,
  t25 := Tryz.underlying104,
  a25 := Tryz.isAgg104,
  z25 := Tryz.sizeOf104,
  v25 := Tryz.zeroValue104 }

def idxKRen : Go.Shelf.Ren := ⟨fun | 6 => 50 | n => n, fun | 22 => 49 | 23 => 51 | 25 => 55 | 3 => 3 | 0 => 0 | 4 => 4 | n => n, fun | n => n⟩
theorem idxK : Go.Proofs.SlLaysH0.n6 Tryz.prog idxKRen := {
  mixed := by kernel_rfl,
  f6 := ⟨Tryz.f50.name, by decide, Tryz.func50.trans (congrArg some (by kernel_rfl))⟩,
  t0 := Tryz.underlying0,
  a0 := Tryz.isAgg0,
  z0 := Tryz.sizeOf0,
  v0 := Tryz.zeroValue0,
  t3 := Tryz.underlying3,
  a3 := Tryz.isAgg3,
  z3 := Tryz.sizeOf3,
  v3 := Tryz.zeroValue3,
  t4 := Tryz.underlying4,
  a4 := Tryz.isAgg4,
  z4 := Tryz.sizeOf4,
  v4 := Tryz.zeroValue4,
  t22 := Tryz.underlying49,
  a22 := Tryz.isAgg49,
  z22 := Tryz.sizeOf49,
  v22 := Tryz.zeroValue49,
  t25 := Tryz.underlying55,
  a25 := Tryz.isAgg55,
  z25 := Tryz.sizeOf55,
  v25 := Tryz.zeroValue55 }

def idxSRen : Go.Shelf.Ren := ⟨fun | 6 => 42 | n => n, fun | 22 => 35 | 23 => 94 | 25 => 96 | 3 => 3 | 0 => 0 | 4 => 4 | n => n, fun | n => n⟩
theorem idxS : Go.Proofs.SlLaysH0.n6 Tryz.prog idxSRen := {
  mixed := by kernel_rfl,
  f6 := ⟨Tryz.f42.name, by decide, Tryz.func42.trans (congrArg some (by kernel_rfl))⟩,
  t0 := Tryz.underlying0,
  a0 := Tryz.isAgg0,
  z0 := Tryz.sizeOf0,
  v0 := Tryz.zeroValue0,
  t3 := Tryz.underlying3,
  a3 := Tryz.isAgg3,
  z3 := Tryz.sizeOf3,
  v3 := Tryz.zeroValue3,
  t4 := Tryz.underlying4,
  a4 := Tryz.isAgg4,
  z4 := Tryz.sizeOf4,
  v4 := Tryz.zeroValue4,
  t22 := Tryz.underlying35,
  a22 := Tryz.isAgg35,
  z22 := Tryz.sizeOf35,
  v22 := Tryz.zeroValue35,
  t25 := Tryz.underlying96,
  a25 := Tryz.isAgg96,
  z25 := Tryz.sizeOf96,
  v25 := Tryz.zeroValue96 }

def conKRen : Go.Shelf.Ren := ⟨fun | 8 => 26 | 6 => 50 | n => n, fun | 22 => 49 | 23 => 51 | 25 => 55 | 4 => 4 | 3 => 3 | 0 => 0 | n => n, fun | n => n⟩
theorem conK : Go.Proofs.SlLaysH0.n8 Tryz.prog conKRen := {
  mixed := by kernel_rfl,
  f6 := ⟨Tryz.f50.name, by decide, Tryz.func50.trans (congrArg some (by kernel_rfl))⟩,
  f8 := ⟨Tryz.f26.name, by decide, Tryz.func26.trans (congrArg some (by kernel_rfl))⟩,
  t0 := Tryz.underlying0,
  a0 := Tryz.isAgg0,
  z0 := Tryz.sizeOf0,
  v0 := Tryz.zeroValue0,
  t3 := Tryz.underlying3,
  a3 := Tryz.isAgg3,
  z3 := Tryz.sizeOf3,
  v3 := Tryz.zeroValue3,
  t4 := Tryz.underlying4,
  a4 := Tryz.isAgg4,
  z4 := Tryz.sizeOf4,
  v4 := Tryz.zeroValue4,
  t22 := Tryz.underlying49,
  a22 := Tryz.isAgg49,
  z22 := Tryz.sizeOf49,
  v22 := Tryz.zeroValue49,
  t25 := Tryz.underlying55,
  a25 := Tryz.isAgg55,
  z25 := Tryz.sizeOf55,
  v25 := Tryz.zeroValue55 }

def cloKRen : Go.Shelf.Ren := ⟨fun | 41 => 22 | n => n, fun | 22 => 49 | 23 => 51 | 4 => 4 | n => n, fun | n => n⟩
theorem cloK : Go.Proofs.SlLaysE0.n41 Tryz.prog cloKRen := {
  mixed := by kernel_rfl,
  f41 := ⟨Tryz.f22.name, by decide, Tryz.func22.trans (congrArg some (by kernel_rfl))⟩,
  t4 := Tryz.underlying4,
  a4 := Tryz.isAgg4,
  z4 := Tryz.sizeOf4,
  v4 := Tryz.zeroValue4,
  t22 := Tryz.underlying49,
  a22 := Tryz.isAgg49,
  z22 := Tryz.sizeOf49,
  v22 := Tryz.zeroValue49 }

def cloSRen : Go.Shelf.Ren := ⟨fun | 41 => 41 | n => n, fun | 22 => 35 | 23 => 94 | 4 => 4 | n => n, fun | n => n⟩
theorem cloS : Go.Proofs.SlLaysE0.n41 Tryz.prog cloSRen := {
  mixed := by kernel_rfl,
  f41 := ⟨Tryz.f41.name, by decide, Tryz.func41.trans (congrArg some (by kernel_rfl))⟩,
  t4 := Tryz.underlying4,
  a4 := Tryz.isAgg4,
  z4 := Tryz.sizeOf4,
  v4 := Tryz.zeroValue4,
  t22 := Tryz.underlying35,
  a22 := Tryz.isAgg35,
  z22 := Tryz.sizeOf35,
  v22 := Tryz.zeroValue35 }

end Go.Proofs.YtckfgnbilcjdpaaGreatDoor
/- The contract of the jar's rule for a cookie's domain. -/
namespace Go.Proofs.YtckfgnbilcjdpaaGreatDoor
open Go.RowKit
set_option maxRecDepth 100000

/-- A cookie's domain as it may stand: none, or a host, perhaps behind a dot. -/
def DomOk (raw : List UInt8) : Prop := raw = [] ∨ (GoodHost (trimPre raw 46) ∧ (trimPre raw 46).head? ≠ some 46)

/-- The domain of a cookie and whether it is its host's alone; none: it is refused. -/
def domType (listed : Bool) (ss : List (List UInt8)) (host raw : List UInt8) : Option (List UInt8 × Bool) :=
  if raw = [] then some (host, true)
  else if ipB host = true then (if host = raw then some (host, true) else none)
  else if listed = true ∧ pubSuf ss ((trimPre raw 46).map lowB) ≠ [] ∧ dotSuf ((trimPre raw 46).map lowB) (pubSuf ss ((trimPre raw 46).map lowB)) = false then
    (if host = (trimPre raw 46).map lowB then some (host, true) else none)
  else if host = (trimPre raw 46).map lowB ∨ dotSuf host ((trimPre raw 46).map lowB) = true then some ((trimPre raw 46).map lowB, false) else none

/-- What the rule's function hands back. -/
def domEnd (t0 : TypeId) (v0 : Value) (r : Option (List UInt8 × Bool)) (e : Ending) : Prop :=
  match r with
  | some (d, a) => e = .returned (.tuple #[.string (bs d), .bool a, .nilIface])
  | none => e = .returned (.tuple #[.string (bs []), .bool false, .iface t0 v0])
theorem domEnd_some {t0 : TypeId} {v0 : Value} {r : Option (List UInt8 × Bool)} {d : List UInt8} {a : Bool} (h : r = some (d, a)) : domEnd t0 v0 r (.returned (.tuple #[.string (bs d), .bool a, .nilIface])) := by rw [h]; rfl
theorem domEnd_none {t0 : TypeId} {v0 : Value} {r : Option (List UInt8 × Bool)} (h : r = none) : domEnd t0 v0 r (.returned (.tuple #[.string ⟨#[]⟩, .bool false, .iface t0 v0])) := by rw [h]; rfl

theorem lowB_host {x : UInt8} (h : hostCh x) : hostCh (lowB x) ∧ (lowB x = 46 ↔ x = 46) := by
  by_cases hu : 65 ≤ x.toNat ∧ x.toNat ≤ 90
  · have := lowB_yes hu.1 hu.2
    refine ⟨by unfold hostCh; omega, ?_⟩
    constructor
    · intro h; rw [h] at this; simp at this; omega
    · intro h; subst h; simp at hu
  · rw [lowB_no hu]; exact ⟨h, Iff.rfl⟩

theorem GoodHost.low {h : List UInt8} (g : GoodHost h) : GoodHost (h.map lowB) := by
  refine ⟨?_, ?_, by simpa using g.ne⟩
  · intro x hx
    obtain ⟨y, hy, rfl⟩ := List.mem_map.1 hx
    exact (lowB_host (g.ch y hy)).1
  · rw [List.getLast?_map]
    intro hx
    cases hl : h.getLast? with
    | none => rw [hl] at hx; cases hx
    | some y =>
      rw [hl] at hx
      have hy := (lowB_host (g.ch y (List.mem_of_getLast? hl))).2.1 (Option.some.inj hx)
      exact g.last (by rw [hl, hy])

theorem trimPre_len (l : List UInt8) (c : UInt8) : (trimPre l c).length ≤ l.length := by
  unfold trimPre; split <;> simp

set_option maxHeartbeats 2000000 in
theorem domainAndType_host (jp : Addr) (host : List UInt8) (w : World) (t0 : TypeId) (v0 : Value) :
    Calls Tryz.prog 87 #[.pointer (some jp), .string (bs host), .string (bs [])] w fun e w' => domEnd t0 v0 (some (host, true)) e ∧ Below w.heap.size w w' := by
  go_enter Tryz.func87, Tryz.ntmps87
  go_wp2
  go_ret3
  exact ⟨rfl, Below.refl _ _⟩

set_option maxHeartbeats 2000000 in
theorem domainAndType_ip (jp : Addr) (host raw : List UInt8) (w : World) (t0 : TypeId) (v0 : Value) (hg : w.cell? ⟨0, 0, none⟩ = some (.iface t0 v0))
    (hne : raw ≠ []) (hip : ipB host = true) (h58 : 58 ∉ host) (h37 : 37 ∉ host) (hh : host.length ≤ maxLen) (listed : Bool) (ss : List (List UInt8)) :
    Calls Tryz.prog 87 #[.pointer (some jp), .string (bs host), .string (bs raw)] w fun e w' => domEnd t0 v0 (domType listed ss host raw) e ∧ Below w.heap.size w w' := by
  have HH := Lib.hid hh
  have H1 := Lib.hid h58; clear h58
  have H2 := Lib.hid h37; clear h37
  have he : raw.isEmpty = false := by simpa using hne
  have HT : Hid (domType listed ss host raw = if host = raw then some (host, true) else none) := by rw [Hid, domType, if_neg hne, if_pos hip]
  have HI := Lib.hid hip; clear hip
  have HN := Lib.hid hne; clear hne
  go_enter Tryz.func87, Tryz.ntmps87
  go_wp2_with fail
  refine (isIP_any host H1.out H2.out _ HH.out).mono ?_
  rintro e w1 ⟨rfl, rfl⟩
  rw [HI.out]
  by_cases heq : host = raw
  · rw [if_pos heq] at HT
    have hb : (host != raw) = false := by simp [heq]
    have hb2 : (host == raw) = true := by simp [heq]
    clear heq
    go_wp2
    go_ret3
    exact ⟨domEnd_some HT.out, Below.refl _ _⟩
  · rw [if_neg heq] at HT
    have hb : (host != raw) = true := by simp [heq]
    have hb2 : (host == raw) = false := by simp [heq]
    clear heq
    go_wp2
    go_region
    all_goals
      go_wp2
      go_ret3
      exact ⟨domEnd_none HT.out, (Below.refl _ _).drew⟩

/-- The jar's memory: its list of suffixes. -/
def JarPsl (w : World) (jb : Nat) (listed : Bool) (ss : List (List UInt8)) : Prop := ∃ pv, w.cell? ⟨jb, 0, none⟩ = some pv ∧ PslAt w pv listed ss

theorem JarPsl.below {w w' : World} {jb : Nat} {listed : Bool} {ss : List (List UInt8)} (h : JarPsl w jb listed ss) (hb : Below w.heap.size w w') : JarPsl w' jb listed ss := by
  obtain ⟨pv, h1, h2⟩ := h
  exact ⟨pv, by rw [hb.cell (World.block_lt_of_cell? w _ h1)]; exact h1, h2.below hb⟩

set_option maxHeartbeats 4000000 in
theorem domainAndType_name (jb : Nat) (host raw : List UInt8) (w : World) (t0 : TypeId) (v0 : Value) (hg : w.cell? ⟨0, 0, none⟩ = some (.iface t0 v0))
    (hne : raw ≠ []) (hok : GoodHost (trimPre raw 46)) (hhd : (trimPre raw 46).head? ≠ some 46) (hip : ipB host = false) (h58 : 58 ∉ host) (h37 : 37 ∉ host) (hh : host.length ≤ maxLen) (hr : raw.length ≤ maxLen)
    (listed : Bool) (ss : List (List UInt8)) (hp : JarPsl w jb listed ss) (hn : ss.length ≤ maxLen) (hs : ∀ s ∈ ss, s.length ≤ maxLen) :
    Calls Tryz.prog 87 #[.pointer (some ⟨jb, 0, none⟩), .string (bs host), .string (bs raw)] w fun e w' => domEnd t0 v0 (domType listed ss host raw) e ∧ Below w.heap.size w w' := by
  have HH := Lib.hid hh; clear hh
  have HR := Lib.hid hr
  have HS := Lib.hid hs; clear hs
  have HN := Lib.hid hn; clear hn
  have H1 := Lib.hid h58; clear h58
  have H2 := Lib.hid h37; clear h37
  have he : raw.isEmpty = false := by simpa using hne
  have hdl : ((trimPre raw 46).map lowB).length ≤ maxLen := Nat.le_trans (by simpa using trimPre_len raw 46) hr
  have htl : (trimPre raw 46).length ≤ maxLen := Nat.le_trans (trimPre_len raw 46) hr
  have HT : Hid (domType listed ss host raw = if listed = true ∧ pubSuf ss ((trimPre raw 46).map lowB) ≠ [] ∧ dotSuf ((trimPre raw 46).map lowB) (pubSuf ss ((trimPre raw 46).map lowB)) = false then
    (if host = (trimPre raw 46).map lowB then some (host, true) else none)
    else if host = (trimPre raw 46).map lowB ∨ dotSuf host ((trimPre raw 46).map lowB) = true then some ((trimPre raw 46).map lowB, false) else none) := by
    rw [Hid, domType, if_neg hne, if_neg (by rw [hip]; exact Bool.false_ne_true)]
  have HI := Lib.hid hip; clear hip
  clear hne hr
  have HG := Lib.hid hok.low
  have HPr := Lib.hid hok.print
  have hdne : (trimPre raw 46) ≠ [] := hok.ne
  have hdm : ((trimPre raw 46).map lowB) ≠ [] := by simpa using hok.ne
  obtain ⟨r, hr⟩ : ∃ r, r = trimPre raw 46 := ⟨_, rfl⟩
  have HX := Lib.hid hr
  rw [← hr] at HT HG HPr hdl hdne hhd hdm htl
  clear hr hok
  obtain ⟨d, hd⟩ : ∃ d, d = r.map lowB := ⟨_, rfl⟩
  have HY := Lib.hid hd
  rw [← hd] at HT HG hdl hdm
  clear hd
  have HDL := Lib.hid hdl
  have HTL := Lib.hid htl; clear htl
  have hr0 : 0 < r.length := List.length_pos_iff.2 hdne
  have hd0 : 0 < d.length := List.length_pos_iff.2 hdm
  have hc0 : ((r[0].toNat : Int) == 46) = false := by
    refine u8_ne46 fun h => hhd ?_
    rw [List.head?_eq_getElem?, List.getElem?_eq_getElem hr0, h]
  have hcl : ((d[d.length - 1].toNat : Int) == 46) = false := by
    refine u8_ne46 fun h => HG.out.last ?_
    rw [List.getLast?_eq_getElem?, List.getElem?_eq_getElem (by omega), h]
  have hl0 : ((r.length : Int) == 0) = false := by rw [Bool.eq_false_iff]; intro h; rw [beq_iff_eq] at h; omega
  have HHD := Lib.hid hhd; clear hhd
  have HDN := Lib.hid hdne; clear hdne
  have HDM := Lib.hid hdm; clear hdm
  unfold maxLen at hdl
  obtain ⟨pv, hpc, hpp⟩ := hp
  have HP := Lib.hid hpp; clear hpp
  go_enter Tryz.func87, Tryz.ntmps87
  go_wp2_with fail
  refine (isIP_any host H1.out H2.out _ HH.out).mono ?_
  rintro e w1 ⟨rfl, rfl⟩
  rw [HI.out]
  go_wp2_with fail
  refine (zzTrimPrefix_any raw 46 _ HR.out).mono ?_
  rintro e w1 ⟨rfl, rfl⟩
  rw [← HX.out]
  go_wp2_with fail
  refine (zzToLower_yes r _ HTL.out HPr.out).mono ?_
  rintro e w1 ⟨rfl, hb⟩
  rw [← HY.out]
  have hg' : w1.cell? ⟨0, 0, none⟩ = some (.iface t0 v0) := by rw [hb.cell (World.block_lt_of_cell? w _ hg)]; exact hg
  have hpc' : w1.cell? ⟨jb, 0, none⟩ = some pv := by rw [hb.cell (World.block_lt_of_cell? w _ hpc)]; exact hpc
  have HP' : Hid (PslAt w1 pv listed ss) := HP.out.below hb
  have HB := Lib.hid hb; clear hb
  have HTail : Hid (host = d ∨ dotSuf host d = true ↔ (decide (host = d) || dotSuf host d) = true) := by rw [Hid]; simp
  cases listed with
  | false =>
    rw [if_neg (by rintro ⟨h, _⟩; cases h)] at HT
    have hpv : pv = .nilIface := by have := HP'.out; rw [PslAt, if_neg Bool.false_ne_true] at this; exact this
    subst hpv
    by_cases h1 : host = d
    · rw [if_pos (Or.inl h1)] at HT
      have hb : (host != d) = false := by simp [h1]
      have hb2 : (host == d) = true := by simp [h1]
      clear h1
      go_wp2
      go_ret3
      exact ⟨domEnd_some HT.out, HB.out⟩
    · have hb : (host != d) = true := by simp [h1]
      have hb2 : (host == d) = false := by simp [h1]
      cases h2 : dotSuf host d with
      | true =>
        rw [if_pos (Or.inr h2)] at HT
        clear h1
        go_wp2_with fail
        refine (hasDotSuffix_any host d _ HH.out HDL.out).mono ?_
        rintro e w2 ⟨rfl, rfl⟩
        rw [h2]
        clear h2
        go_wp2
        go_ret3
        exact ⟨domEnd_some HT.out, HB.out⟩
      | false =>
        rw [if_neg (by rw [h2]; rintro (h | h); exact h1 h; cases h)] at HT
        clear h1
        go_wp2_with fail
        refine (hasDotSuffix_any host d _ HH.out HDL.out).mono ?_
        rintro e w2 ⟨rfl, rfl⟩
        rw [h2]
        clear h2
        go_wp2
        go_region
        all_goals
          go_wp2
          go_ret3
          exact ⟨domEnd_none HT.out, HB.out.drew⟩
  | true =>
    have hu := Tryz.underlying71
    obtain ⟨A, cap, rfl, hA⟩ : ∃ A cap, pv = .iface 74 (.slice A ss.length cap) ∧ CellsAt w1 A (strCells ss) := by
      have := HP'.out; rw [PslAt, if_pos rfl] at this; exact this
    have HA := Lib.hid hA; clear hA
    have hm := method_ps A ss.length cap
    go_wp2_with fail
    refine (publicSuffix_any A cap ss d _ HA.out HDL.out HN.out HS.out).mono ?_
    rintro e w2 ⟨rfl, rfl⟩
    clear hm
    have HQ := Lib.hid (pubSuf_suf ss d)
    obtain ⟨p, hp⟩ : ∃ p, p = pubSuf ss d := ⟨_, rfl⟩
    rw [← hp] at HT HQ ⊢
    clear hp
    have HPL : Hid (p.length ≤ maxLen) := by
      have hpl : p.length ≤ d.length := by
        rcases HQ.out with h | h
        · rw [h]; exact Nat.le_refl _
        · have := (of_decide_eq_true h).length_le; simp at this; omega
      exact Nat.le_trans hpl HDL.out
    cases p with
    | nil =>
      rw [if_neg (by rintro ⟨_, h, _⟩; exact h rfl)] at HT
      by_cases h1 : host = d
      · rw [if_pos (Or.inl h1)] at HT
        have hb : (host != d) = false := by simp [h1]
        have hb2 : (host == d) = true := by simp [h1]
        clear h1
        go_wp2
        go_ret3
        exact ⟨domEnd_some HT.out, HB.out⟩
      · have hb : (host != d) = true := by simp [h1]
        have hb2 : (host == d) = false := by simp [h1]
        cases h2 : dotSuf host d with
        | true =>
          rw [if_pos (Or.inr h2)] at HT
          clear h1
          go_wp2_with fail
          refine (hasDotSuffix_any host d _ HH.out HDL.out).mono ?_
          rintro e w2 ⟨rfl, rfl⟩
          rw [h2]
          clear h2
          go_wp2
          go_ret3
          exact ⟨domEnd_some HT.out, HB.out⟩
        | false =>
          rw [if_neg (by rw [h2]; rintro (h | h); exact h1 h; cases h)] at HT
          clear h1
          go_wp2_with fail
          refine (hasDotSuffix_any host d _ HH.out HDL.out).mono ?_
          rintro e w2 ⟨rfl, rfl⟩
          rw [h2]
          clear h2
          go_wp2
          go_region
          all_goals
            go_wp2
            go_ret3
            exact ⟨domEnd_none HT.out, HB.out.drew⟩
    | cons c q =>
      obtain ⟨p, hp⟩ : ∃ p, p = c :: q := ⟨_, rfl⟩
      have hpe : p.isEmpty = false := by rw [hp]; rfl
      have hpn : p ≠ [] := by rw [hp]; exact List.cons_ne_nil _ _
      rw [← hp] at HT HQ HPL ⊢
      clear hp
      have HPN := Lib.hid hpn; clear hpn
      cases h3 : dotSuf d p with
      | false =>
        rw [if_pos (by refine ⟨?_, HPN.out, h3⟩; first | rfl | trivial)] at HT
        go_wp2_with fail
        refine (hasDotSuffix_any d p _ HDL.out HPL.out).mono ?_
        rintro e w2 ⟨rfl, rfl⟩
        rw [h3]
        clear h3
        by_cases h1 : host = d
        · rw [if_pos h1] at HT
          have hb2 : (host == d) = true := by simp [h1]
          clear h1
          go_wp2
          go_ret3
          exact ⟨domEnd_some HT.out, HB.out⟩
        · rw [if_neg h1] at HT
          have hb2 : (host == d) = false := by simp [h1]
          clear h1
          go_wp2
          go_region
          all_goals
            go_wp2
            go_ret3
            exact ⟨domEnd_none HT.out, HB.out.drew⟩
      | true =>
        rw [if_neg (by rintro ⟨_, _, h⟩; rw [h3] at h; cases h)] at HT
        go_wp2_with fail
        refine (hasDotSuffix_any d p _ HDL.out HPL.out).mono ?_
        rintro e w2 ⟨rfl, rfl⟩
        rw [h3]
        clear h3
        by_cases h1 : host = d
        · rw [if_pos (Or.inl h1)] at HT
          have hb : (host != d) = false := by simp [h1]
          have hb2 : (host == d) = true := by simp [h1]
          clear h1
          go_wp2
          go_ret3
          exact ⟨domEnd_some HT.out, HB.out⟩
        · have hb : (host != d) = true := by simp [h1]
          have hb2 : (host == d) = false := by simp [h1]
          cases h2 : dotSuf host d with
          | true =>
            rw [if_pos (Or.inr h2)] at HT
            clear h1
            go_wp2_with fail
            refine (hasDotSuffix_any host d _ HH.out HDL.out).mono ?_
            rintro e w2 ⟨rfl, rfl⟩
            rw [h2]
            clear h2
            go_wp2
            go_ret3
            exact ⟨domEnd_some HT.out, HB.out⟩
          | false =>
            rw [if_neg (by rw [h2]; rintro (h | h); exact h1 h; cases h)] at HT
            clear h1
            go_wp2_with fail
            refine (hasDotSuffix_any host d _ HH.out HDL.out).mono ?_
            rintro e w2 ⟨rfl, rfl⟩
            rw [h2]
            clear h2
            go_wp2
            go_region
            all_goals
              go_wp2
              go_ret3
              exact ⟨domEnd_none HT.out, HB.out.drew⟩

/-- The rule at whatever domain may stand. -/
theorem domainAndType_any (jb : Nat) (host raw : List UInt8) (w : World) (t0 : TypeId) (v0 : Value) (hg : w.cell? ⟨0, 0, none⟩ = some (.iface t0 v0))
    (hok : DomOk raw) (h58 : 58 ∉ host) (h37 : 37 ∉ host) (hh : host.length ≤ maxLen) (hr : raw.length ≤ maxLen)
    (listed : Bool) (ss : List (List UInt8)) (hp : JarPsl w jb listed ss) (hn : ss.length ≤ maxLen) (hs : ∀ s ∈ ss, s.length ≤ maxLen) :
    Calls Tryz.prog 87 #[.pointer (some ⟨jb, 0, none⟩), .string (bs host), .string (bs raw)] w fun e w' => domEnd t0 v0 (domType listed ss host raw) e ∧ Below w.heap.size w w' := by
  by_cases hne : raw = []
  · subst hne
    exact domainAndType_host _ host w t0 v0
  · obtain ⟨h1, h2⟩ := hok.resolve_left hne
    cases hip : ipB host with
    | true => exact domainAndType_ip _ host raw w t0 v0 hg hne hip h58 h37 hh listed ss
    | false => exact domainAndType_name jb host raw w t0 v0 hg hne h1 h2 hip h58 h37 hh hr listed ss hp hn hs
end Go.Proofs.YtckfgnbilcjdpaaGreatDoor
/- Contracts: a time and nanoseconds; the id of an entry. -/
namespace Go.Proofs.YtckfgnbilcjdpaaGreatDoor
open Go.RowKit
set_option maxRecDepth 100000

theorem _root_.Go.RowKit.Below.dN {B : Nat} {a w : World} (h : Below B a w) (n : Nat) : Below B a (w.drewN n) := ⟨h.os, h.tape, h.output, h.size, h.block⟩

theorem quo9 (m : Int) (h0 : 0 < m) (h1 : m ≤ 4294967296) (w : World) : (binOp .quo 2 (.int .i64 (m * 1000000000)) (.int .i64 1000000000)).run Tryz.prog w = .ok (.int .i64 m) w := by
  have : (m * 1000000000).tdiv 1000000000 = m := by rw [Int.tdiv_eq_ediv_of_nonneg (by omega)]; omega
  go_simp
  rw [IntWalk.i64_in _ (by omega)]
theorem rem9 (m : Int) (h0 : 0 < m) (h1 : m ≤ 4294967296) (w : World) : (binOp .rem 2 (.int .i64 (m * 1000000000)) (.int .i64 1000000000)).run Tryz.prog w = .ok (.int .i64 0) w := by
  have : (m * 1000000000).tmod 1000000000 = 0 := by rw [Int.tmod_eq_emod_of_nonneg (by omega)]; omega
  go_simp

set_option maxHeartbeats 1000000 in
theorem add_any (s m : Int) (h0 : 0 < m) (h1 : m ≤ 4294967296) (hs0 : 0 ≤ s) (hs1 : s ≤ 4294967296) (w : World) :
    Calls Tryz.prog 88 #[tm s 0, .int .i64 (m * 1000000000)] w fun e w' => e = .returned (tm (s + m) 0) ∧ Below w.heap.size w w' := by
  have hq := quo9 m h0 h1
  have hr := rem9 m h0 h1
  have hw : IntKind.i64.wrap (s + m) = s + m := IntWalk.i64_in _ (by omega)
  go_enter Tryz.func88, Tryz.ntmps88
  go_wp2_with fail
  go_quiet (fail)
  clear hq hr
  go_wp2
  refine bodyPost_ret (v := tm (s + m) 0) (by simp [results, Tryz.results88, go_sem]) rfl ⟨rfl, ?_⟩
  repeat' first
    | exact Below.refl _ _
    | apply Below.drew
    | apply Below.dN
    | refine Below.setCell ?_ ?_ _
    | refine Below.alloc ?_ ?_ _
    | exact Nat.le_refl _
    | (simp; done)
    | (simp; omega)

/-- The id of an entry: its domain, its path, its name. -/
def idOf (d p n : List UInt8) : List UInt8 := d ++ 59 :: (p ++ 59 :: n)

set_option maxHeartbeats 1000000 in
theorem id_any (b : Nat) (e : Ent) (w : World) (he : EntAt w b e) (h0 : e.name.length ≤ 2147483647) (h3 : e.domain.length ≤ 2147483647) (h4 : e.path.length ≤ 2147483647) :
    Calls Tryz.prog 71 #[.pointer (some ⟨b, 0, none⟩)] w fun r w' => r = .returned (.string (bs (idOf e.domain e.path e.name))) ∧ Below w.heap.size w w' := by
  have c0 := he 0 _ rfl
  have c3 := he 3 _ rfl
  have c4 := he 4 _ rfl
  have HE := Lib.hid he; clear he
  go_enter Tryz.func71, Tryz.ntmps71
  go_wp2_with fail
  go_quiet (fail)
  go_wp2
  go_ret
  refine ⟨?_, (Below.refl _ _).dN _⟩
  show Ending.returned (Value.string _) = _
  rw [show bs e.domain ++ ({ data := #[59] } : ByteArray) ++ bs e.path ++ { data := #[59] } ++ bs e.name = bs (idOf e.domain e.path e.name) from ?_]
  apply bs_ext
  simp [idOf, bs]

/-- The block b holds the cells cs, and none is frozen. -/
def BlkAt (w : World) (b : Nat) (cs : List Value) : Prop := ∀ j u, cs[j]? = some u → w.cell? ⟨b, j, none⟩ = some u ∧ w.frozen? ⟨b, j, none⟩ = false

theorem BlkAt.below {w w' : World} {b : Nat} {cs : List Value} (h : BlkAt w b cs) (hb : Below w.heap.size w w') : BlkAt w' b cs := fun j u hj => by
  obtain ⟨h1, h2⟩ := h j u hj
  have hlt := World.block_lt_of_cell? w _ h1
  exact ⟨by rw [hb.cell hlt]; exact h1, by rw [hb.frozen hlt]; exact h2⟩

theorem BlkAt.setCell {w : World} {b : Nat} {cs : List Value} (h : BlkAt w b cs) (k : Nat) (v : Value) (hk : k < cs.length) : BlkAt (w.setCell ⟨b, k, none⟩ v) b (cs.set k v) := fun j u hj => by
  rw [List.getElem?_set] at hj
  by_cases e : k = j
  · subst e
    rw [if_pos rfl] at hj
    simp only [hk, if_true] at hj
    obtain ⟨h1, h2⟩ := h k _ (List.getElem?_eq_getElem hk)
    refine ⟨?_, ?_⟩
    · rw [World.cell?_setCell_same w _ _ h1]; exact hj
    · rw [World.frozen?_setCell]; exact h2
  · rw [if_neg e] at hj
    obtain ⟨h1, h2⟩ := h j u hj
    refine ⟨?_, ?_⟩
    · rw [World.cell?_setCell_other w _ _ _ (by intro h; injection h with _ h2; exact e h2)]; exact h1
    · rw [World.frozen?_setCell]; exact h2

theorem BlkAt.setOther {w : World} {b b' : Nat} {cs : List Value} (h : BlkAt w b cs) (k : Nat) (v : Value) (hb : b ≠ b') : BlkAt (w.setCell ⟨b', k, none⟩ v) b cs := fun j u hj => by
  obtain ⟨h1, h2⟩ := h j u hj
  refine ⟨?_, ?_⟩
  · rw [World.cell?_setCell_other w _ _ _ (by intro h; injection h with h2 _; exact hb h2.symm)]; exact h1
  · rw [World.frozen?_setCell]; exact h2

theorem BlkAt.made (w : World) (cs : List Value) (t : TypeId) : BlkAt (w.alloc (.cells cs.toArray t)) w.heap.size cs := fun j u hj => by
  refine ⟨?_, ?_⟩
  · rw [World.cell?_alloc_mark]; simpa using hj
  · rw [World.frozen?_alloc_mark]; simp

theorem BlkAt.dN {w : World} {b : Nat} {cs : List Value} (h : BlkAt w b cs) (n : Nat) : BlkAt (w.drewN n) b cs := h
theorem BlkAt.alloc {w : World} {b : Nat} {cs : List Value} (h : BlkAt w b cs) (o : Obj) : BlkAt (w.alloc o) b cs := h.below ((Below.refl _ _).alloc (Nat.le_refl _) o)
theorem BlkAt.ent {w : World} {b : Nat} {e : Ent} (h : BlkAt w b (encE e)) : EntAt w b e := fun j u hj => (h j u hj).1
theorem BlkAt.cell {w : World} {b : Nat} {cs : List Value} (h : BlkAt w b cs) (j : Nat) {u : Value} (hj : cs[j]? = some u) : w.cell? ⟨b, j, none⟩ = some u := (h j u hj).1

/-- A cookie as a server sets it. -/
structure Ck where
  name : List UInt8
  value : List UInt8
  domain : List UInt8
  path : List UInt8
  age : Int
  exps : Int
  secure : Bool

/-- The cells of the package's cookie. -/
def encC (c : Ck) : List Value :=
  [.string (bs c.name), .string (bs c.value), .bool false, .string (bs c.path), .string (bs c.domain), .int .i64 c.exps, .int .i64 0, .int .i64 c.age, .bool c.secure, .bool false]

/-- The path of an entry. -/
def pathOf (c : Ck) (dp : List UInt8) : List UInt8 := if c.path.head? = some 47 then c.path else dp

/-- When the cookie ends: none: at once; else the time, and whether it ends at all. -/
def endOf (c : Ck) (now : Int) : Option (Int × Bool) :=
  if c.age < 0 then none
  else if 0 < c.age then some (now + c.age, true)
  else if c.exps = 0 then some (253402300799, false)
  else if now < c.exps then some (c.exps, true) else none

/-- What newEntry hands back. -/
def newEnd (t0 : TypeId) (v0 : Value) (r : Option (List UInt8 × Bool)) (c : Ck) (dp : List UInt8) (now : Int) (e : Ending) : Prop :=
  match r with
  | none => ∃ x : Ent, e = .returned (.tuple #[.agg (encE x).toArray, .bool false, .iface t0 v0])
  | some (d, a) =>
    match endOf c now with
    | none => ∃ x : Ent, e = .returned (.tuple #[.agg (encE x).toArray, .bool true, .nilIface]) ∧ x.name = c.name ∧ x.domain = d ∧ x.path = pathOf c dp
    | some (t, p) => e = .returned (.tuple #[.agg (encE { name := c.name, value := c.value, quoted := false, domain := d, path := pathOf c dp, secure := c.secure, httpOnly := false, persistent := p, hostOnly := a, exps := t, crs := 0, las := 0, seq := 0 }).toArray, .bool false, .nilIface])
end Go.Proofs.YtckfgnbilcjdpaaGreatDoor
/- Structs in memory: loads and stores of all their cells at once. -/
namespace Go.Proofs.YtckfgnbilcjdpaaGreatDoor
open Go.RowKit
set_option maxRecDepth 100000

/-- The cells cs lie in block b from place o on. -/
def RowAt (w : World) (b o : Nat) (cs : List Value) : Prop := ∀ j u, cs[j]? = some u → w.cell? ⟨b, o + j, none⟩ = some u

theorem RowAt.below {w w' : World} {b o : Nat} {cs : List Value} (h : RowAt w b o cs) (hb : Below w.heap.size w w') : RowAt w' b o cs := fun j u hj => by
  have h1 := h j u hj
  rw [hb.cell (World.block_lt_of_cell? w _ h1)]; exact h1

theorem BlkAt.row {w : World} {b : Nat} {cs : List Value} (h : BlkAt w b cs) : RowAt w b 0 cs := fun j u hj => by
  rw [Nat.zero_add]; exact (h j u hj).1

theorem loadVar_agg {t : TypeId} {k : Nat} (ha : ∀ w, (isAgg t).run Tryz.prog w = .ok true w) (hz : ∀ w, (Go.sizeOf t).run Tryz.prog w = .ok k w) {w : World} {b o : Nat} {cs : List Value} (h : RowAt w b o cs) (hl : cs.length = k) :
    (loadVar t ⟨b, o, none⟩).run Tryz.prog w = .ok (.agg cs.toArray) w := by
  have := run_loadCells_list (P := Tryz.prog) w ⟨b, o, none⟩ cs (fun j v hj => by rw [Addr.add_lit]; exact h j v hj)
  subst hl
  simp only [loadVar, Sem.run_bind, ha, Result.andThen, if_true, hz, this, Sem.run_pure]

theorem loadAt_agg {t : TypeId} {k : Nat} (ha : ∀ w, (isAgg t).run Tryz.prog w = .ok true w) (hz : ∀ w, (Go.sizeOf t).run Tryz.prog w = .ok k w) {w : World} {b o : Nat} {cs : List Value} (h : RowAt w b o cs) (hl : cs.length = k) :
    (Instr.loadAt t (.pointer (some ⟨b, o, none⟩))).run Tryz.prog w = .ok (.agg cs.toArray) w := by
  simp only [Instr.loadAt, Instr.sureAddr, Sem.run_bind, Sem.run_pure, Result.andThen, loadVar_agg ha hz h hl]

theorem storeAt_agg {t : TypeId} {k : Nat} (hz : ∀ w, (Go.sizeOf t).run Tryz.prog w = .ok k w) {w : World} {b : Nat} {old cs : List Value} (h : BlkAt w b old) (ho : old.length = k) (hl : cs.length = k) (h1 : ∀ u ∈ cs, u.oneCell' = true) :
    (Instr.storeAt t (.pointer (some ⟨b, 0, none⟩)) (.agg cs.toArray)).run Tryz.prog w = .ok () (w.setCells b 0 cs) := by
  have hs := run_storeCells_cells (P := Tryz.prog) b 0 cs 0 w (fun j hj => by
    rw [show 0 + 0 + j = j by omega, (h j _ (List.getElem?_eq_getElem (by omega))).1]; rfl) (fun j hj => by
    rw [show 0 + 0 + j = j by omega]; exact (h j _ (List.getElem?_eq_getElem (by omega))).2) h1
  simp only [Instr.storeAt, Instr.sureAddr, storeVar, Sem.run_bind, Sem.run_pure, Result.andThen, Value.cells, hz]
  subst hl
  simp [hs]

theorem BlkAt.put {w : World} {b : Nat} {old cs : List Value} (h : BlkAt w b old) (ho : old.length = cs.length) : BlkAt (w.setCells b 0 cs) b cs := fun j u hj => by
  obtain ⟨hjl, hju⟩ := List.getElem?_eq_some_iff.1 hj
  refine ⟨?_, ?_⟩
  · have := World.cell?_setCells_in b cs 0 w (fun i hi => by rw [Nat.zero_add, (h i _ (List.getElem?_eq_getElem (by omega))).1]; rfl) j hjl
    rw [Nat.zero_add] at this
    rw [this, hju]
  · rw [World.frozen?_setCells]
    exact (h j _ (List.getElem?_eq_getElem (by omega))).2

theorem setCells_below {B : Nat} {b : Nat} (hb : B ≤ b) : ∀ (cs : List Value) (o : Nat) {a w : World}, Below B a w → Below B a (w.setCells b o cs)
  | [], _, _, _, h => h
  | v :: r, o, _, _, h => setCells_below hb r (o + 1) (h.setCell (p := ⟨b, o, none⟩) hb v)

theorem RowAt.setCells_other {w : World} {b b' o : Nat} {cs vs : List Value} (h : RowAt w b o cs) (hb : b ≠ b') (o' : Nat) : RowAt (w.setCells b' o' vs) b o cs := fun j u hj => by
  rw [World.cell?_setCells_out b' vs o' w _ (fun e => absurd e hb)]; exact h j u hj
theorem BlkAt.setCells_other {w : World} {b b' : Nat} {cs vs : List Value} (h : BlkAt w b cs) (hb : b ≠ b') (o' : Nat) : BlkAt (w.setCells b' o' vs) b cs := fun j u hj => by
  obtain ⟨h1, h2⟩ := h j u hj
  rw [World.cell?_setCells_out b' vs o' w _ (fun e => absurd e hb), World.frozen?_setCells]; exact ⟨h1, h2⟩

theorem encE_one (e : Ent) : ∀ u ∈ encE e, u.oneCell' = true := by
  intro u hu
  simp only [encE, List.mem_cons, List.not_mem_nil, or_false] at hu
  rcases hu with rfl | rfl | rfl | rfl | rfl | rfl | rfl | rfl | rfl | rfl | rfl | rfl | rfl | rfl | rfl | rfl <;> rfl

theorem loadAtE {w : World} {b : Nat} {x : Ent} (h : BlkAt w b (encE x)) : (Instr.loadAt 118 (.pointer (some ⟨b, 0, none⟩))).run Tryz.prog w = .ok (.agg (encE x).toArray) w :=
  loadAt_agg Tryz.isAgg118 Tryz.sizeOf118 h.row rfl
theorem storeAtE {w : World} {b : Nat} {old : List Value} (x : Ent) (h : BlkAt w b old) (ho : old.length = 16) :
    (Instr.storeAt 118 (.pointer (some ⟨b, 0, none⟩)) (.agg (encE x).toArray)).run Tryz.prog w = .ok () (w.setCells b 0 (encE x)) :=
  storeAt_agg Tryz.sizeOf118 h ho rfl (encE_one x)

section
variable {ops : Array Oper} {Q : Exit → Act → World → Prop} {a : Act} {w w' : World} {rest : List Oper}

/-- A load whose run is known. -/
theorem wpL_load {t : TypeId} {v0 v : Value} {x : Operand} {dst : Option Tmp} {ty : TypeId} {pos : String} {after : Array Edge} (h : (Instr.loadAt t v0).run Tryz.prog w = .ok v w') (he : a.eval x = v0)
    (k : wpList Tryz.prog ops Q rest (a.put dst v) w') : wpList Tryz.prog ops Q (⟨dst, .load t x, ty, pos, after, none⟩ :: rest) a w := by
  refine wpList_plain rfl (fun K hK => ?_)
  have hr : (execOp a.eval ⟨dst, .load t x, ty, pos, after, none⟩).run Tryz.prog w = .ok (.value v) w' := by
    simp only [execOp, he, Sem.run_bind, h, Result.andThen, Sem.run_pure]
  simp only [Oper.wp, hr, Oper.upon]
  exact hK _ _ k

/-- A store whose run is known. -/
theorem wpL_store {t : TypeId} {v0 v1 : Value} {x y : Operand} {dst : Option Tmp} {ty : TypeId} {pos : String} {after : Array Edge} (h : (Instr.storeAt t v0 v1).run Tryz.prog w = .ok () w') (he : a.eval x = v0) (he' : a.eval y = v1)
    (k : wpList Tryz.prog ops Q rest (a.put dst undef) w') : wpList Tryz.prog ops Q (⟨dst, .store t x y, ty, pos, after, none⟩ :: rest) a w := by
  refine wpList_plain rfl (fun K hK => ?_)
  have hr : (execOp a.eval ⟨dst, .store t x y, ty, pos, after, none⟩).run Tryz.prog w = .ok .skip w' := by
    simp only [execOp, he, he', Sem.run_bind, h, Result.andThen, Sem.run_pure]
  simp only [Oper.wp, hr, Oper.upon]
  exact hK _ _ k

/-- A look into a map whose run is known. -/
theorem wpL_lookup {t : TypeId} {v0 v1 v : Value} {ok : Bool} {x y : Operand} {dst : Option Tmp} {ty : TypeId} {pos : String} {after : Array Edge} (h : (Instr.lookup t v0 v1 ok).run Tryz.prog w = .ok v w') (he : a.eval x = v0) (he' : a.eval y = v1)
    (k : wpList Tryz.prog ops Q rest (a.put dst v) w') : wpList Tryz.prog ops Q (⟨dst, .lookup t x y ok, ty, pos, after, none⟩ :: rest) a w := by
  refine wpList_plain rfl (fun K hK => ?_)
  have hr : (execOp a.eval ⟨dst, .lookup t x y ok, ty, pos, after, none⟩).run Tryz.prog w = .ok (.value v) w' := by
    simp only [execOp, he, he', Sem.run_bind, h, Result.andThen, Sem.run_pure]
  simp only [Oper.wp, hr, Oper.upon]
  exact hK _ _ k

/-- A store into a map whose run is known. -/
theorem wpL_mapUpdate {t : TypeId} {v0 v1 v2 : Value} {x y z : Operand} {dst : Option Tmp} {ty : TypeId} {pos : String} {after : Array Edge} (h : (Instr.mapUpdate t v0 v1 v2).run Tryz.prog w = .ok () w') (he : a.eval x = v0) (he' : a.eval y = v1) (he'' : a.eval z = v2)
    (k : wpList Tryz.prog ops Q rest (a.put dst undef) w') : wpList Tryz.prog ops Q (⟨dst, .mapUpdate t x y z, ty, pos, after, none⟩ :: rest) a w := by
  refine wpList_plain rfl (fun K hK => ?_)
  have hr : (execOp a.eval ⟨dst, .mapUpdate t x y z, ty, pos, after, none⟩).run Tryz.prog w = .ok .skip w' := by
    simp only [execOp, he, he', he'', Sem.run_bind, h, Result.andThen, Sem.run_pure]
  simp only [Oper.wp, hr, Oper.upon]
  exact hK _ _ k

/-- A delete whose run is known. -/
theorem wpL_delete {ts : Array TypeId} {v0 v1 v : Value} {x y : Operand} {dst : Option Tmp} {ty : TypeId} {pos : String} {after : Array Edge} (h : (Builtin.delete_ ts ty #[v0, v1]).run Tryz.prog w = .ok v w') (he : a.eval x = v0) (he' : a.eval y = v1)
    (k : wpList Tryz.prog ops Q rest (a.put dst v) w') : wpList Tryz.prog ops Q (⟨dst, .call ⟨.builtin .delete, #[x, y], ts⟩, ty, pos, after, none⟩ :: rest) a w := by
  refine wpList_plain rfl (fun K hK => ?_)
  have hr : (execOp a.eval ⟨dst, .call ⟨.builtin .delete, #[x, y], ts⟩, ty, pos, after, none⟩).run Tryz.prog w = .ok (.value v) w' := by
    simp only [execOp, resolve, List.map_toArray, List.map_cons, List.map_nil, he, he', Sem.run_bind, Sem.run_pure, Result.andThen, invoke, builtin, h]
  simp only [Oper.wp, hr, Oper.upon]
  exact hK _ _ k

/-- The length of a map whose run is known. -/
theorem wpL_len {ts : Array TypeId} {v0 v : Value} {x : Operand} {dst : Option Tmp} {ty : TypeId} {pos : String} {after : Array Edge} (h : (Builtin.len_ ts ty #[v0]).run Tryz.prog w = .ok v w') (he : a.eval x = v0)
    (k : wpList Tryz.prog ops Q rest (a.put dst v) w') : wpList Tryz.prog ops Q (⟨dst, .call ⟨.builtin .len, #[x], ts⟩, ty, pos, after, none⟩ :: rest) a w := by
  refine wpList_plain rfl (fun K hK => ?_)
  have hr : (execOp a.eval ⟨dst, .call ⟨.builtin .len, #[x], ts⟩, ty, pos, after, none⟩).run Tryz.prog w = .ok (.value v) w' := by
    simp only [execOp, resolve, List.map_toArray, List.map_cons, List.map_nil, he, Sem.run_bind, Sem.run_pure, Result.andThen, invoke, builtin, h]
  simp only [Oper.wp, hr, Oper.upon]
  exact hK _ _ k
end
end Go.Proofs.YtckfgnbilcjdpaaGreatDoor
