import PyProof.Rows.All
import Wide.All
import OpenK.AllK
import Wide.FinOn
import PyProof.RulesTry
import KE.KDictList
import KE.KEqDict
import Lean
import PySem.Challenge.RW_vc0015_01
open PySem PySem.W PySem.Calls PyProof.Rows
set_option Elab.async false
set_option linter.unusedVariables false
set_option maxRecDepth 100000
set_option maxHeartbeats 4000000
namespace Mine

/-! Top -/
set_option maxRecDepth 100000 in
set_option maxHeartbeats 0 in
open_top hd for PySem.Challenge.rw_vc0015_01
/-! Core -/
/-! known parts of a heap -/
def Le (g h : Heap) : Prop := ∀ b o, g.get? b = some o → h.get? b = some o
theorem Le.refl (g : Heap) : Le g g := fun _ _ e => e
theorem Le.trans {a b c : Heap} (x : Le a b) (y : Le b c) : Le a c := fun p o e => y p o (x p o e)

def ordC (o : Obj) : Bool := match o.data with
  | .fields vs => (match (vs[1]? : Option Value) with | some (.str _ _) => false | _ => true) && (match o.cls with | .none => false | _ => true)
  | _ => true
theorem ord_notTab {o : Obj} (h : ordC o = true) (ps : Array Value) : o ≠ tabObj ps := by
  rintro rfl
  simp [ordC] at h
theorem ord_notCode {o : Obj} (h : ordC o = true) {vs : Array Value} (hd : o.data = .fields vs) (q : Str) (t : Tok) : vs[1]? ≠ some (.str q t) := by
  intro e
  simp [ordC, hd, e] at h

open Classical in
noncomputable def pick (h : Heap) (p : Addr → Prop) : Heap := ⟨h.objs.mapIdx fun i o => if p i then o else ⟨o.cls, o.dict, .freed, o.slots⟩, h.life⟩
theorem pick_get (h : Heap) (p : Addr → Prop) {b : Addr} {o : Obj} : (pick h p).get? b = some o ↔ p b ∧ h.get? b = some o := by
  rw [Heap.get?_some_iff, Heap.get?_some_iff]
  unfold pick
  rw [Array.getElem?_mapIdx]
  cases e : h.objs[b]? with
  | none => simp
  | some x =>
    by_cases hp : p b
    · simp [hp]
    · simp only [hp, if_false, Option.map_some, Option.some.injEq, false_and, iff_false, not_and]
      rintro rfl
      simp [Obj.isFreed]

/-- the tables of the two defs that make defs: address, place, name of what they make -/
structure TabRec where
  c : Addr
  P : Addr
  pos : Pos
  qual : Str

def TabGood (h : Heap) (q : TabRec) : Prop := ∃ ps, h.get? q.P = some (tabObj ps) ∧ TriplesOk ps.toList ∧
  ∀ c, codeAmong q.pos ps.toList = some c → ∃ c', c = .ref c' ∧ h.CodeRec (.ref c') q.qual

structure Wd where
  prog : Program
  w : World
  K : Frag
  tabs : List TabRec
  mg : Str → Option Value
  mb : Str → Option Value
  B : Heap
  os : OsState
structure Fx extends Wd where
  e : Heap
  g0 : Heap
  X : List Addr
  L : Addr

structure Base (c : Wd) : Prop where
  K : c.K.In c.B
  g : c.B.Ns mainGlobals c.mg
  b : c.B.Ns builtinsNs c.mb
  nolimit : c.B.NoLimit
  builtins : ∀ x : Str, x ≠ "__name__" → c.mb x = bootBuiltins x
  bmain : ∃ bm ob, c.mg "__builtins__" = some (.ref bm) ∧ bm ≠ builtinsNs ∧ c.B.get? bm = some ob ∧ ob.cls = .type "module" ∧ ob.dict = some builtinsNs ∧ ob.data = .plain
  codes : ∀ q ∈ c.tabs, CodeHd c.B q.c q.P

structure Wo (c : Wd) (g : Heap) (r : List (Addr × Obj)) (s : Shared) : Prop where
  gens : s.gens = #[]
  os : s.os = c.os
  base : Le c.B g
  sub : Le g s.heap
  tabs : ∀ q ∈ c.tabs, TabGood s.heap q ∧ g.get? q.P = none
  own : ∀ p ∈ r, s.heap.get? p.1 = some p.2 ∧ g.get? p.1 = none ∧ ordC p.2 = true
  nd : (r.map (·.1)).Nodup
  Bsz : c.B.objs.size ≤ s.heap.objs.size

structure St (c : Fx) (g : Heap) (m : Str → Option Value) (r : List (Addr × Obj)) (s : Shared) : Prop extends Wo c.toWd g r s where
  g0e : Le c.g0 c.e
  Bg0 : Le c.B c.g0
  Bse : c.B.objs.size ≤ c.e.objs.size
  g0g : Le c.g0 g
  fresh : ∀ b o, g.get? b = some o → (∃ o', c.g0.get? b = some o') ∨ c.e.get? b = none ∨ ordC o = false
  keep : ∀ b o, c.e.get? b = some o → (∀ q ∈ c.tabs, q.P ≠ b) → b ∉ c.X → s.heap.get? b = some o
  size : c.e.objs.size ≤ s.heap.objs.size
  ns : s.heap.Ns c.L m
  gL : g.get? c.L = none
  rL : ∀ p ∈ r, p.1 ≠ c.L
  eL : c.e.objs.size ≤ c.L
  ownX : ∀ p ∈ r, c.e.get? p.1 = none ∨ p.1 ∈ c.X
  Xr : ∀ a ∈ c.X, ∃ o, (a, o) ∈ r

theorem ns_ord {h : Heap} {L : Addr} {m : Str → Option Value} (n : h.Ns L m) : ∃ o, h.get? L = some o ∧ ordC o = true := by
  obtain ⟨o, es, ep, ho, hd, _⟩ := n
  exact ⟨o, ho, by simp [ordC, hd]⟩

theorem TabGood.step {h h' : Heap} {q : TabRec} (x : TabGood h q) (k : ∀ b o, h.get? b = some o → (∀ vs, o.data = .fields vs → b = q.P ∨ (∃ n t, vs[1]? = some (.str n t)) → h'.get? b = some o)) : TabGood h' q := by
  obtain ⟨ps, h1, h2, h3⟩ := x
  refine ⟨ps, k _ _ h1 _ rfl (.inl rfl), h2, fun c hc => ?_⟩
  obtain ⟨c', rfl, cc, o, vs, t, e1, e2, e3, e4⟩ := h3 c hc
  cases e1
  exact ⟨_, rfl, _, _, _, _, rfl, k _ _ e2 _ e3 (.inr ⟨_, _, e4⟩), e3, e4⟩
theorem TabGood.le {h h' : Heap} {q : TabRec} (x : TabGood h q) (k : Le h h') : TabGood h' q := x.step fun b o e _ _ _ => k b o e

section
variable {c : Fx} {g : Heap} {m : Str → Option Value} {r : List (Addr × Obj)} {s : Shared}

theorem Wo.ordNotTab {c : Wd} (F : Wo c g r s) {b : Addr} {o : Obj} (e : s.heap.get? b = some o) (h : ordC o = true) : ∀ q ∈ c.tabs, q.P ≠ b := fun q hq z => by
  obtain ⟨ps, h1, _⟩ := (F.tabs q hq).1
  rw [z, e] at h1
  exact ord_notTab h ps (Option.some.inj h1)
theorem St.LNotTab (F : St c g m r s) : ∀ q ∈ c.tabs, q.P ≠ c.L := fun q hq e => by
  obtain ⟨ps, h1, _⟩ := (F.tabs q hq).1
  obtain ⟨o, ho, hr⟩ := ns_ord F.ns
  rw [e, ho] at h1
  cases h1
  exact ord_notTab hr ps rfl

/-- a step that changes the locals alone -/
theorem St.local_step {m' : Str → Option Value} {h' : Heap} {t : Tok} (F : St c g m r s) (hn : h'.Ns c.L m') (hs : Heap.SameBut c.L s.heap h') : St c g m' r { s with heap := h', toks := t } where
  gens := F.gens
  os := F.os
  base := F.base
  sub := fun b o e => (hs.2 b (fun q => by rw [q, F.gL] at e; cases e)).trans (F.sub b o e)
  tabs := fun q hq => ⟨(F.tabs q hq).1.step fun b o e vs hd _ => (hs.2 b (fun q' => by
      obtain ⟨oL, hoL, hr⟩ := ns_ord F.ns
      obtain ⟨oL', es, ep, hoL', hdL, _⟩ := F.ns
      rw [q', hoL'] at e
      cases e
      rw [hdL] at hd
      cases hd)).trans e, (F.tabs q hq).2⟩
  own := fun p hp => ⟨(hs.2 _ (F.rL p hp)).trans (F.own p hp).1, (F.own p hp).2⟩
  nd := F.nd
  g0g := F.g0g
  fresh := F.fresh
  keep := fun b o e n x => (hs.2 b (Nat.ne_of_lt (Nat.lt_of_lt_of_le (Heap.lt_size e) F.eL))).trans (F.keep b o e n x)
  size := Nat.le_trans F.size (Nat.le_of_eq hs.1.symm)
  Bsz := Nat.le_trans F.Bsz (Nat.le_of_eq hs.1.symm)
  g0e := F.g0e
  Bg0 := F.Bg0
  Bse := F.Bse
  ns := hn
  gL := F.gL
  rL := F.rL
  eL := F.eL
  ownX := F.ownX
  Xr := F.Xr

theorem St.toks {t : Tok} (F : St c g m r s) : St c g m r { s with toks := t } := { F with }

theorem St.sizeL (F : St c g m r s) : c.L < s.heap.objs.size := F.ns.lt

/-- objects are only added -/
theorem St.grow {h' : Heap} {t : Tok} (F : St c g m r s) (k : Le s.heap h') (hz : s.heap.objs.size ≤ h'.objs.size) : St c g m r { s with heap := h', toks := t } where
  gens := F.gens
  os := F.os
  base := F.base
  sub := F.sub.trans k
  tabs := fun q hq => ⟨(F.tabs q hq).1.le k, (F.tabs q hq).2⟩
  own := fun p hp => ⟨k _ _ (F.own p hp).1, (F.own p hp).2⟩
  nd := F.nd
  g0g := F.g0g
  fresh := F.fresh
  keep := fun b o e n x => k _ _ (F.keep b o e n x)
  size := Nat.le_trans F.size hz
  Bsz := Nat.le_trans F.Bsz hz
  g0e := F.g0e
  Bg0 := F.Bg0
  Bse := F.Bse
  ns := F.ns.keeps k
  gL := F.gL
  rL := F.rL
  eL := F.eL
  ownX := F.ownX
  Xr := F.Xr

/-- more is known: addresses that are new -/
theorem St.learn (F : St c g m r s) (p : Addr → Prop) (hp : ∀ b o, p b → s.heap.get? b = some o → g.get? b = none → (c.e.get? b = none ∨ ordC o = false) ∧ b ≠ c.L ∧ (∀ q ∈ r, q.1 ≠ b) ∧ ∀ q ∈ c.tabs, q.P ≠ b) :
    ∃ g', Le g g' ∧ (∀ b o, p b → s.heap.get? b = some o → g'.get? b = some o) ∧ (∀ b o, g'.get? b = some o → g.get? b = some o ∨ p b) ∧ St c g' m r s := by
  let P : Addr → Prop := fun b => (∃ o, g.get? b = some o) ∨ p b
  have up : ∀ b o, g.get? b = some o → (pick s.heap P).get? b = some o := fun b o e => (pick_get ..).mpr ⟨.inl ⟨o, e⟩, F.sub b o e⟩
  have down : ∀ b o, (pick s.heap P).get? b = some o → g.get? b = some o ∨ (g.get? b = none ∧ p b ∧ s.heap.get? b = some o) := fun b o e => by
    obtain ⟨hq, e'⟩ := (pick_get ..).mp e
    cases q : g.get? b with
    | some o' => rw [F.sub _ _ q] at e'; exact .inl e'
    | none => exact .inr ⟨rfl, hq.elim (fun ⟨o', z⟩ => by rw [q] at z; cases z) id, e'⟩
  refine ⟨pick s.heap P, up, fun b o hb e => (pick_get ..).mpr ⟨.inr hb, e⟩, fun b o e => (down b o e).imp id fun x => x.2.1, ?_⟩
  have none_of : ∀ b, g.get? b = none → (∀ o, s.heap.get? b = some o → p b → False) → (pick s.heap P).get? b = none := fun b h1 h2 => by
    cases q : (pick s.heap P).get? b with
    | none => rfl
    | some o => exact (down b o q).elim (fun e => by rw [h1] at e; cases e) fun x => (h2 o x.2.2 x.2.1).elim
  exact { F with
    base := F.base.trans up
    sub := fun b o e => ((pick_get ..).mp e).2
    tabs := fun q hq => ⟨(F.tabs q hq).1, none_of _ (F.tabs q hq).2 fun o ho hpb => (hp _ o hpb ho (F.tabs q hq).2).2.2.2 q hq rfl⟩
    own := fun q hq => ⟨(F.own q hq).1, none_of _ (F.own q hq).2.1 fun o ho hpb => (hp _ o hpb ho (F.own q hq).2.1).2.2.1 q hq rfl, (F.own q hq).2.2⟩
    g0g := F.g0g.trans up
    fresh := fun b o e => (down b o e).elim (fun e => F.fresh b o e) fun x => .inr (hp b o x.2.1 x.2.2 x.1).1
    gL := none_of _ F.gL fun o ho hpb => (hp _ o hpb ho F.gL).2.1 rfl }

theorem fresh_none {h : Heap} {a : Addr} (ha : h.objs.size ≤ a) : h.get? a = none := by
  cases q : h.get? a with
  | none => rfl
  | some o => exact absurd (Heap.lt_size q) (Nat.not_lt.mpr ha)

/-- a new object, known from now on -/
theorem St.alloc {o : Obj} {t : Tok} (F : St c g m r s) (hf : o.isFreed = false) :
    ∃ g', Le g g' ∧ g'.get? s.heap.objs.size = some o ∧ s.heap.get? s.heap.objs.size = none ∧ St c g' m r { s with heap := s.heap.push o, toks := t } := by
  have F' : St c g m r { s with heap := s.heap.push o, toks := t } := F.grow (fun b o' e => Heap.get?_push_of_some _ e) (by rw [Heap.size_push]; omega)
  have hsz : s.heap.get? s.heap.objs.size = none := fresh_none (Nat.le_refl _)
  obtain ⟨g', h1, h2, _, h3⟩ := F'.learn (fun b => b = s.heap.objs.size) fun b ob hb _ _ => by
    subst hb
    refine ⟨.inl (fresh_none F.size), Nat.ne_of_gt F.sizeL, fun q hq e => ?_, fun q hq e => ?_⟩
    · have := (F.own q hq).1
      rw [e, hsz] at this; cases this
    · obtain ⟨ps, hP, _⟩ := (F.tabs q hq).1
      rw [e, hsz] at hP; cases hP
  exact ⟨g', h1, h2 _ _ rfl (Heap.get?_push_size _ hf), hsz, h3⟩

/-- a new object, the frame's own -/
theorem St.allocOwn {o : Obj} {t : Tok} (F : St c g m r s) (hf : o.isFreed = false) (hr : ordC o = true) :
    St c g m ((s.heap.objs.size, o) :: r) { s with heap := s.heap.push o, toks := t } := by
  have F' : St c g m r { s with heap := s.heap.push o, toks := t } := F.grow (fun b o' e => Heap.get?_push_of_some _ e) (by rw [Heap.size_push]; omega)
  have hsz : s.heap.get? s.heap.objs.size = none := fresh_none (Nat.le_refl _)
  have hg : g.get? s.heap.objs.size = none := by
    cases q : g.get? s.heap.objs.size with
    | none => rfl
    | some o' => rw [F.sub _ _ q] at hsz; cases hsz
  exact { F' with
    own := fun p hp => by
      rcases List.mem_cons.mp hp with rfl | hp
      · exact ⟨Heap.get?_push_size _ hf, hg, hr⟩
      · exact F'.own p hp
    nd := by
      rw [List.map_cons, List.nodup_cons]
      refine ⟨fun hm => ?_, F.nd⟩
      obtain ⟨p, hp, e⟩ := List.mem_map.mp hm
      have := (F.own p hp).1
      rw [e, hsz] at this; cases this
    rL := fun p hp => by
      rcases List.mem_cons.mp hp with rfl | hp
      · exact Nat.ne_of_gt F.sizeL
      · exact F.rL p hp
    ownX := fun p hp => by
      rcases List.mem_cons.mp hp with rfl | hp
      · exact .inl (fresh_none F.size)
      · exact F.ownX p hp
    Xr := fun a ha => (F.Xr a ha).elim fun o h => ⟨o, .tail _ h⟩ }

/-- the frame's own objects: put another at an address -/
def setR (a : Addr) (o : Obj) : List (Addr × Obj) → List (Addr × Obj)
  | [] => []
  | p :: r => if p.1 = a then (a, o) :: r else p :: setR a o r
theorem setR_keys (a : Addr) (o : Obj) : ∀ r : List (Addr × Obj), (setR a o r).map (·.1) = r.map (·.1)
  | [] => rfl
  | p :: r => by
    unfold setR
    split
    · rename_i h; simp [h]
    · simp [setR_keys a o r]
theorem setR_mem {a : Addr} {o : Obj} : ∀ {r : List (Addr × Obj)} {p : Addr × Obj}, (r.map (·.1)).Nodup → p ∈ setR a o r → p = (a, o) ∨ (p ∈ r ∧ p.1 ≠ a)
  | [], _, _, h => nomatch h
  | q :: r, p, nd, h => by
    unfold setR at h
    rw [List.map_cons, List.nodup_cons] at nd
    split at h
    · rename_i hq
      rcases List.mem_cons.mp h with rfl | h
      · exact .inl rfl
      · exact .inr ⟨.tail _ h, fun e => nd.1 (by rw [hq, ← e]; exact List.mem_map_of_mem h)⟩
    · rename_i hq
      rcases List.mem_cons.mp h with rfl | h
      · exact .inr ⟨.head _, hq⟩
      · exact (setR_mem nd.2 h).imp id fun x => ⟨.tail _ x.1, x.2⟩

theorem setR_has {a : Addr} {o' : Obj} : ∀ {r : List (Addr × Obj)} {b : Addr} {o : Obj}, (b, o) ∈ r → ∃ o2, (b, o2) ∈ setR a o' r
  | [], _, _, h => nomatch h
  | p :: r, b, o, h => by
    by_cases hq : p.1 = a
    · have e : setR a o' (p :: r) = (a, o') :: r := by simp only [setR, hq, if_true]
      rw [e]
      rcases List.mem_cons.mp h with z | z
      · subst z
        exact ⟨o', by rw [show b = a from hq]; exact .head _⟩
      · exact ⟨o, .tail _ z⟩
    · have e : setR a o' (p :: r) = p :: setR a o' r := by simp only [setR, hq, if_false]
      rw [e]
      rcases List.mem_cons.mp h with z | z
      · exact ⟨o, by rw [← z]; exact .head _⟩
      · obtain ⟨o2, h2⟩ := setR_has z
        exact ⟨o2, .tail _ h2⟩
theorem St.setOwn {a : Addr} {o o' : Obj} {h' : Heap} {t : Tok} (F : St c g m r s) (ha : (a, o) ∈ r) (ho : h'.get? a = some o') (hr : ordC o' = true) (hs : Heap.SameBut a s.heap h') :
    St c g m (setR a o' r) { s with heap := h', toks := t } := by
  have A := F.own _ ha
  have keys := setR_keys a o' r
  exact {
    gens := F.gens, os := F.os, base := F.base
    sub := fun b ob e => (hs.2 b (fun q => by rw [q, A.2.1] at e; cases e)).trans (F.sub b ob e)
    tabs := fun q hq => ⟨(F.tabs q hq).1.step fun b ob e vs hd h => (hs.2 b (fun q' => by
      subst q'
      rw [A.1] at e
      cases e
      rcases h with rfl | ⟨n, t', h⟩
      · obtain ⟨ps, h1, _⟩ := (F.tabs q hq).1
        rw [A.1] at h1
        exact ord_notTab A.2.2 ps (Option.some.inj h1)
      · exact ord_notCode A.2.2 hd n t' h)).trans e, (F.tabs q hq).2⟩
    own := fun p hp => by
      rcases setR_mem F.nd hp with rfl | ⟨hp, hne⟩
      · exact ⟨ho, A.2.1, hr⟩
      · exact ⟨(hs.2 _ hne).trans (F.own p hp).1, (F.own p hp).2⟩
    nd := by rw [keys]; exact F.nd
    g0g := F.g0g, fresh := F.fresh
    keep := fun b ob e n x => (hs.2 b (fun q => by
      subst q
      rcases F.ownX _ ha with z | z
      · rw [z] at e; cases e
      · exact x z)).trans (F.keep b ob e n x)
    size := Nat.le_trans F.size (Nat.le_of_eq hs.1.symm)
    Bsz := Nat.le_trans F.Bsz (Nat.le_of_eq hs.1.symm)
    g0e := F.g0e, Bg0 := F.Bg0, Bse := F.Bse
    ns := F.ns.sameBut hs (Ne.symm (F.rL _ ha))
    gL := F.gL
    rL := fun p hp => by
      rcases setR_mem F.nd hp with rfl | ⟨hp, _⟩
      · exact F.rL (a, o) ha
      · exact F.rL p hp
    eL := F.eL
    ownX := fun p hp => by
      rcases setR_mem F.nd hp with rfl | ⟨hp, _⟩
      · exact F.ownX (a, o) ha
      · exact F.ownX p hp
    Xr := fun x hx => (F.Xr x hx).elim fun _ h => setR_has h }

/-- an own object is let be: it is known from now on -/
theorem St.freeze {a : Addr} {o : Obj} {r1 r2 : List (Addr × Obj)} (F : St c g m (r1 ++ (a, o) :: r2) s) (hx : a ∉ c.X) :
    ∃ g', Le g g' ∧ g'.get? a = some o ∧ (∀ b o', g'.get? b = some o' → g.get? b = some o' ∨ b = a) ∧ St c g' m (r1 ++ r2) s := by
  have A := F.own (a, o) (List.mem_append_right _ (.head _))
  have nd := F.nd
  rw [List.map_append, List.map_cons, List.nodup_append] at nd
  obtain ⟨n1, n2, n3⟩ := nd
  rw [List.nodup_cons] at n2
  have sub : ∀ p, p ∈ r1 ++ r2 → p ∈ r1 ++ (a, o) :: r2 := fun p hp => by
    rcases List.mem_append.mp hp with h | h
    · exact List.mem_append_left _ h
    · exact List.mem_append_right _ (.tail _ h)
  have F' : St c g m (r1 ++ r2) s := { F with
    own := fun p hp => F.own p (sub p hp)
    nd := by
      rw [List.map_append, List.nodup_append]
      exact ⟨n1, n2.2, fun x hx y hy => n3 x hx y (.tail _ hy)⟩
    rL := fun p hp => F.rL p (sub p hp)
    ownX := fun p hp => F.ownX p (sub p hp)
    Xr := fun x hq => (F.Xr x hq).elim fun ox h => by
      rcases List.mem_append.mp h with h | h
      · exact ⟨ox, List.mem_append_left _ h⟩
      · rcases List.mem_cons.mp h with e | h
        · cases e; exact absurd hq hx
        · exact ⟨ox, List.mem_append_right _ h⟩ }
  obtain ⟨g', h1, h2, h4, h3⟩ := F'.learn (fun b => b = a) fun b ob hb hob _ => by
    subst hb
    refine ⟨?_, F.rL _ (List.mem_append_right _ (.head _)), fun q hq e => ?_, fun q hq e => ?_⟩
    · left
      rcases F.ownX (b, o) (List.mem_append_right _ (.head _)) with z | z
      · exact z
      · exact absurd z hx
    · rcases List.mem_append.mp hq with h | h
      · exact n3 _ (List.mem_map_of_mem h) b (.head _) e
      · exact n2.1 (by rw [← e]; exact List.mem_map_of_mem (f := (·.1)) h)
    · obtain ⟨ps, hP, _⟩ := (F.tabs q hq).1
      rw [e, A.1] at hP
      exact ord_notTab A.2.2 ps (Option.some.inj hP)
  exact ⟨g', h1, h2 _ _ rfl A.1, fun b o' e => (h4 b o' e).imp id id, h3⟩

/-- every object in a list -/
def allObjs (h : Heap) : List (Addr × Obj) := (List.range h.objs.size).filterMap fun a => (h.get? a).map fun o => (a, o)
theorem mem_allObjs {h : Heap} {p : Addr × Obj} : p ∈ allObjs h ↔ h.get? p.1 = some p.2 := by
  obtain ⟨a, o⟩ := p
  unfold allObjs
  rw [List.mem_filterMap]
  constructor
  · rintro ⟨b, _, e⟩
    obtain ⟨o', h1, h2⟩ := Option.map_eq_some_iff.mp e
    cases h2
    exact h1
  · intro e
    exact ⟨a, List.mem_range.mpr (Heap.lt_size e), by rw [e]; rfl⟩
theorem nodup_allObjs (h : Heap) : ((allObjs h).map (·.1)).Nodup := by
  unfold allObjs
  have : ∀ l : List Nat, l.Nodup → ((l.filterMap fun a => (h.get? a).map fun o => (a, o)).map (·.1)).Nodup ∧ ∀ x ∈ (l.filterMap fun a => (h.get? a).map fun o => (a, o)).map (·.1), x ∈ l := by
    intro l
    induction l with
    | nil => intro _; exact ⟨List.nodup_nil, fun _ h => nomatch h⟩
    | cons a l ih =>
      intro hn
      rw [List.nodup_cons] at hn
      obtain ⟨i1, i2⟩ := ih hn.2
      cases q : h.get? a with
      | none =>
        rw [List.filterMap_cons_none (by rw [q]; rfl)]
        exact ⟨i1, fun x hx => .tail _ (i2 x hx)⟩
      | some o =>
        rw [List.filterMap_cons_some (b := (a, o)) (by rw [q]; rfl), List.map_cons, List.nodup_cons]
        refine ⟨⟨fun hm => hn.1 (i2 _ hm), i1⟩, fun x hx => ?_⟩
        rcases List.mem_cons.mp hx with rfl | hx
        · exact .head _
        · exact .tail _ (i2 x hx)
  exact (this _ List.nodup_range).1

structure Led (c : Fx) (h : Heap) (news : List (Addr × Obj)) : Prop where
  all : ∀ b o, h.get? b = some o → b ≠ c.L → c.B.get? b = none → (b, o) ∈ news
  nd : (news.map (·.1)).Nodup
  at_ : ∀ p ∈ news, h.get? p.1 = some p.2

theorem St.lift (F : St c g m r s) : ∃ news, Fr c.B c.L s.heap m ∧ News c.B c.L s.heap news ∧ Led c s.heap news := by
  classical
  let news := (allObjs s.heap).filter fun p => decide (p.1 ≠ c.L ∧ c.B.get? p.1 = none)
  have mem : ∀ p, p ∈ news ↔ s.heap.get? p.1 = some p.2 ∧ p.1 ≠ c.L ∧ c.B.get? p.1 = none := fun p => by
    show p ∈ List.filter _ _ ↔ _
    rw [List.mem_filter, mem_allObjs, decide_eq_true_eq]
  refine ⟨news, ⟨F.ns, fun b o e => F.sub _ _ (F.base b o e), Nat.le_trans F.Bse F.eL⟩, fun p hp => (mem p).mp hp, fun b o e h1 h2 => (mem (b, o)).mpr ⟨e, h1, h2⟩, ?_, fun p hp => ((mem p).mp hp).1⟩
  exact ((List.filter_sublist (l := allObjs s.heap)).map (·.1)).nodup (nodup_allObjs _)

theorem St.Bnone (F : St c g m r s) {b : Addr} (h : g.get? b = none) : c.B.get? b = none := by
  cases q : c.B.get? b with
  | none => rfl
  | some o => rw [F.base _ _ q] at h; cases h

/-- back from a ledger in which only the frame's own object at a is another -/
theorem St.back {news news' : List (Addr × Obj)} {a : Addr} {o o' : Obj} {h' : Heap} {m' : Str → Option Value} {t : Tok} (F : St c g m r s) (D : Led c s.heap news) (ha : (a, o) ∈ r) (hr : ordC o' = true)
    (F' : Fr c.B c.L h' m') (N' : News c.B c.L h' news') (h1 : (a, o') ∈ news') (h2 : ∀ p ∈ news, p.1 ≠ a → p ∈ news') :
    St c g m' (setR a o' r) { s with heap := h', toks := t } := by
  have A := F.own _ ha
  have keys := setR_keys a o' r
  have hk : ∀ b ob, b ≠ a → b ≠ c.L → s.heap.get? b = some ob → h'.get? b = some ob := fun b ob h3 h4 e => by
    cases q : c.B.get? b with
    | some ob' =>
      have := F.sub _ _ (F.base _ _ q)
      rw [e] at this; cases this
      exact F'.keep _ _ q
    | none => exact (N' _ (h2 _ (D.all b ob e h4 q) h3)).1
  have ho := (N' _ h1).1
  have hz : c.L < h'.objs.size := F'.ns.lt
  exact {
    gens := F.gens, os := F.os, base := F.base
    sub := fun b ob e => hk b ob (fun q => by rw [q, A.2.1] at e; cases e) (fun q => by rw [q, F.gL] at e; cases e) (F.sub b ob e)
    tabs := fun q hq => ⟨(F.tabs q hq).1.step fun b ob e vs hd h => hk b ob (fun q' => by
      subst q'
      rw [A.1] at e
      cases e
      rcases h with rfl | ⟨n, t', h⟩
      · obtain ⟨ps, h1, _⟩ := (F.tabs q hq).1
        rw [A.1] at h1
        exact ord_notTab A.2.2 ps (Option.some.inj h1)
      · exact ord_notCode A.2.2 hd n t' h) (fun q' => by
      obtain ⟨oL', es, ep, hoL', hdL, _⟩ := F.ns
      rw [q', hoL'] at e
      cases e
      rw [hdL] at hd
      cases hd) e, (F.tabs q hq).2⟩
    own := fun p hp => by
      rcases setR_mem F.nd hp with rfl | ⟨hp, hne⟩
      · exact ⟨ho, A.2.1, hr⟩
      · exact ⟨hk _ _ hne (F.rL p hp) (F.own p hp).1, (F.own p hp).2⟩
    nd := by rw [keys]; exact F.nd
    Bsz := Nat.le_trans F.Bse (Nat.le_trans F.eL (Nat.le_of_lt hz))
    g0e := F.g0e, Bg0 := F.Bg0, Bse := F.Bse
    g0g := F.g0g, fresh := F.fresh
    keep := fun b ob e n x => hk b ob (fun q => by
      subst q
      rcases F.ownX _ ha with z | z
      · rw [z] at e; cases e
      · exact x z) (Nat.ne_of_lt (Nat.lt_of_lt_of_le (Heap.lt_size e) F.eL)) (F.keep b ob e n x)
    size := Nat.le_trans F.eL (Nat.le_of_lt hz)
    ns := F'.ns
    gL := F.gL
    rL := fun p hp => by
      rcases setR_mem F.nd hp with rfl | ⟨hp, _⟩
      · exact F.rL (a, o) ha
      · exact F.rL p hp
    eL := F.eL
    ownX := fun p hp => by
      rcases setR_mem F.nd hp with rfl | ⟨hp, _⟩
      · exact F.ownX (a, o) ha
      · exact F.ownX p hp
    Xr := fun x hx => (F.Xr x hx).elim fun _ h => setR_has h }

/-- back from a ledger that holds all that stood -/
theorem St.backSame {news news' : List (Addr × Obj)} {h' : Heap} {m' : Str → Option Value} {t : Tok} (F : St c g m r s) (D : Led c s.heap news)
    (F' : Fr c.B c.L h' m') (N' : News c.B c.L h' news') (h2 : ∀ p ∈ news, p ∈ news') : St c g m' r { s with heap := h', toks := t } := by
  have hk : ∀ b ob, b ≠ c.L → s.heap.get? b = some ob → h'.get? b = some ob := fun b ob h4 e => by
    cases q : c.B.get? b with
    | some ob' =>
      have := F.sub _ _ (F.base _ _ q)
      rw [e] at this; cases this
      exact F'.keep _ _ q
    | none => exact (N' _ (h2 _ (D.all b ob e h4 q))).1
  have hz : c.L < h'.objs.size := F'.ns.lt
  exact {
    gens := F.gens, os := F.os, base := F.base
    sub := fun b ob e => hk b ob (fun q => by rw [q, F.gL] at e; cases e) (F.sub b ob e)
    tabs := fun q hq => ⟨(F.tabs q hq).1.step fun b ob e vs hd h => hk b ob (fun q' => by
      obtain ⟨oL', es, ep, hoL', hdL, _⟩ := F.ns
      rw [q', hoL'] at e
      cases e
      rw [hdL] at hd
      cases hd) e, (F.tabs q hq).2⟩
    own := fun p hp => ⟨hk _ _ (F.rL p hp) (F.own p hp).1, (F.own p hp).2⟩
    nd := F.nd
    Bsz := Nat.le_trans F.Bse (Nat.le_trans F.eL (Nat.le_of_lt hz))
    g0e := F.g0e, Bg0 := F.Bg0, Bse := F.Bse
    g0g := F.g0g, fresh := F.fresh
    keep := fun b ob e n x => hk b ob (Nat.ne_of_lt (Nat.lt_of_lt_of_le (Heap.lt_size e) F.eL)) (F.keep b ob e n x)
    size := Nat.le_trans F.eL (Nat.le_of_lt hz)
    ns := F'.ns
    gL := F.gL
    rL := F.rL
    eL := F.eL
    ownX := F.ownX
    Xr := F.Xr }

/-- an object that stands, new since the frame's start, is known from now on -/
theorem St.learn1 {a : Addr} {o : Obj} (F : St c g m r s) (ha : s.heap.get? a = some o) (he : c.e.get? a = none) (hL : a ≠ c.L) (hr : ∀ q ∈ r, q.1 ≠ a) (ho : ordC o = true) :
    ∃ g', Le g g' ∧ g'.get? a = some o ∧ St c g' m r s := by
  obtain ⟨g', h1, h2, _, h3⟩ := F.learn (fun b => b = a) fun b ob hb hob _ => by
    subst hb
    refine ⟨.inl he, hL, hr, fun q hq e => ?_⟩
    obtain ⟨ps, hP, _⟩ := (F.tabs q hq).1
    rw [e, ha] at hP
    exact ord_notTab ho ps (Option.some.inj hP)
  exact ⟨g', h1, h2 _ _ rfl ha, h3⟩

theorem St.absent (F : St c g m r s) {a : Addr} (h : s.heap.get? a = none) : g.get? a = none ∧ c.L ≠ a ∧ ∀ q ∈ r, q.1 ≠ a := by
  refine ⟨?_, fun e => ?_, fun q hq e => ?_⟩
  · cases q : g.get? a with
    | none => rfl
    | some o => rw [F.sub _ _ q] at h; cases h
  · obtain ⟨o, ho, _⟩ := ns_ord F.ns
    rw [e, h] at ho; cases ho
  · have := (F.own q hq).1
    rw [e, h] at this; cases this

theorem triples_notStr : ∀ {l : List Value}, TriplesOk l → ∀ q t, l[1]? ≠ some (.str q t)
  | [], _, _, _ => by simp
  | .int _ _ :: .int _ _ :: _ :: _, _, _, _ => by simp

/-- what a call leaves behind -/
structure Post (d : Wd) (g : Heap) (r : List (Addr × Obj)) (s : Shared) (g' : Heap) (r' : List (Addr × Obj)) (s' : Shared) : Prop where
  wo : Wo d g' r' s'
  le : Le g g'
  fresh : ∀ b o, g'.get? b = some o → (∃ o', g.get? b = some o') ∨ s.heap.get? b = none ∨ ordC o = false
  keep : ∀ b o, s.heap.get? b = some o → (∀ q ∈ d.tabs, q.P ≠ b) → b ∉ r.map (·.1) → s'.heap.get? b = some o
  size : s.heap.objs.size ≤ s'.heap.objs.size
  keys : r'.map (·.1) = r.map (·.1)

/-- the frame behind a call that borrows nothing -/
theorem St.after {c : Fx} {g g' : Heap} {m : Str → Option Value} {r : List (Addr × Obj)} {s s' : Shared} (F : St c g m r s) (P : Post c.toWd g [] s g' [] s') : St c g' m r s' := by
  have keepL : ∀ o, s.heap.get? c.L = some o → s'.heap.get? c.L = some o := fun o ho => P.keep _ o ho F.LNotTab (fun h => nomatch h)
  have keepR : ∀ p ∈ r, s'.heap.get? p.1 = some p.2 := fun p hp => P.keep _ _ (F.own p hp).1 (F.ordNotTab (F.own p hp).1 (F.own p hp).2.2) (fun h => nomatch h)
  have none_of : ∀ b o, g.get? b = none → s.heap.get? b = some o → s'.heap.get? b = some o → ordC o = true → g'.get? b = none := fun b o h1 h2 h3 h4 => by
    cases q : g'.get? b with
    | none => rfl
    | some o' =>
      rcases P.fresh b o' q with ⟨o2, z⟩ | z | z
      · rw [h1] at z; cases z
      · rw [h2] at z; cases z
      · have := P.wo.sub _ _ q
        rw [h3] at this
        rw [← Option.some.inj this, h4] at z
        cases z
  obtain ⟨oL, es, ep, hL, hrest⟩ := F.ns
  exact {
    gens := P.wo.gens, os := P.wo.os, base := P.wo.base, sub := P.wo.sub, tabs := P.wo.tabs
    own := fun p hp => ⟨keepR p hp, none_of _ _ (F.own p hp).2.1 (F.own p hp).1 (keepR p hp) (F.own p hp).2.2, (F.own p hp).2.2⟩
    nd := F.nd
    Bsz := P.wo.Bsz
    g0e := F.g0e, Bg0 := F.Bg0, Bse := F.Bse
    g0g := F.g0g.trans P.le
    fresh := fun b o e => by
      rcases P.fresh b o e with ⟨o2, z⟩ | z | z
      · have := P.le _ _ z
        rw [e] at this
        cases this
        exact F.fresh b o z
      rotate_left
      · exact .inr (.inr z)
      · right; left
        cases q : c.e.get? b with
        | none => rfl
        | some oe =>
          exfalso
          by_cases hx : b ∈ c.X
          · -- borrowed: it stands in r
            cases q2 : c.g0.get? b with
            | some o3 => have := F.sub _ _ (F.g0g _ _ q2); rw [z] at this; cases this
            | none => exact (F.Xr b hx).elim fun o3 h3 => by have := (F.own _ h3).1; rw [z] at this; cases this
          · by_cases ht : ∀ q ∈ c.tabs, q.P ≠ b
            · rw [F.keep b oe q ht hx] at z; cases z
            · have : ∃ q ∈ c.tabs, q.P = b := Classical.byContradiction fun n => ht fun q hq e => n ⟨q, hq, e⟩
              obtain ⟨tq, hq, rfl⟩ := this
              obtain ⟨ps, h1, _⟩ := (F.tabs tq hq).1
              rw [z] at h1; cases h1
    keep := fun b o e n x => by
      have h1 := F.keep b o e n x
      exact P.keep b o h1 n (fun h => nomatch h)
    size := Nat.le_trans F.size P.size
    ns := ⟨oL, es, ep, keepL _ hL, hrest⟩
    gL := none_of _ _ F.gL hL (keepL _ hL) (by simp [ordC, hrest.1])
    rL := F.rL
    eL := F.eL
    ownX := F.ownX
    Xr := F.Xr }
end
/-! Rules -/
abbrev listO (vs : List Value) (n : Nat) : Obj := { cls := .type "list", data := .seq vs.toArray n }

def lk (l : List (Str × Value)) (x : Str) : Option Value := l.lookup x
theorem lk_put (x : Str) (v : Value) (l : List (Str × Value)) : (fun y => if y = x then some v else lk l y) = lk ((x, v) :: l) := by
  funext y
  unfold lk
  by_cases h : y = x
  · subst h; simp
  · rw [if_neg h, List.lookup_cons, beq_eq_false_iff_ne.mpr h]

structure EnvOk (env : Env) (sc : Scope) (L : Addr) (cl : List (Str × Addr)) (code : Value) : Prop where
  scope : env.scope = sc
  locals : env.locals = L
  globals : env.globals = mainGlobals
  builtins : env.builtins = builtinsNs
  cells : env.cells = cl
  code : env.code = code

theorem EnvOk.kind {env : Env} {sc : Scope} {L : Addr} {cl : List (Str × Addr)} {code : Value} (E : EnvOk env sc L cl code) {x : Str} {k : Option NameKind} (h : sc.names.lookup x = k) : env.kindOf x = k := by
  unfold Env.kindOf; rw [E.scope]; exact h

section
variable {c : Fx} {g : Heap} {m : Str → Option Value} {r : List (Addr × Obj)} {s : Shared} {M : Model} {A : Around} {E : Value → Shared → Prop} {env : Env} {sc : Scope} {cl : List (Str × Addr)} {cd : Value} {x : Str} {pos : Pos} {v : Value}

theorem St.nsg (F : St c g m r s) (hB : Base c.toWd) : s.heap.Ns mainGlobals c.mg := hB.g.keeps (F.base.trans F.sub)
theorem St.nsb (F : St c g m r s) (hB : Base c.toWd) : s.heap.Ns builtinsNs c.mb := hB.b.keeps (F.base.trans F.sub)
theorem St.KIn (F : St c g m r s) (hB : Base c.toWd) : c.K.In s.heap := hB.K.keeps (F.base.trans F.sub)

theorem nmL {Q : Value → Shared → Prop} (En : EnvOk env sc c.L cl cd) (F : St c g m r s) (hv : m x = some v) (h : Q v s) (hk : sc.kind = .function := by rfl) (hx : sc.names.lookup x = some .local := by rfl)
    (hd : (x == ("__debug__" : Str)) = false := by decide) : wpAny M A (eval (.Name x pos) env) Q E s :=
  wpAny_Name (wpAny_loadName_local (by rw [En.scope]; exact hk) (En.kind hx) (by rw [En.locals]; exact F.ns) hv h) hd

theorem nmG {Q : Value → Shared → Prop} (hB : Base c.toWd) (En : EnvOk env sc c.L cl cd) (F : St c g m r s) (hv : nsIn c.K mainGlobals x = some (some v)) (h : Q v s) (hk : sc.kind = .function := by rfl)
    (hx : sc.names.lookup x = some .globalImplicit := by rfl) (hd : (x == ("__debug__" : Str)) = false := by decide) : wpAny M A (eval (.Name x pos) env) Q E s :=
  Name_function_global (by rw [En.scope]; exact hk) (En.kind hx) (loadGlobal_global (by rw [En.globals]; exact F.nsg hB) (mg_of hB.K hB.g hv) h) hd

theorem nmB {Q : Value → Shared → Prop} (hB : Base c.toWd) (En : EnvOk env sc c.L cl cd) (F : St c g m r s) (hv : nsIn c.K mainGlobals x = some none) (hb : bootBuiltins x = some v) (hn : x ≠ "__name__") (h : Q v s) (hk : sc.kind = .function := by rfl)
    (hx : sc.names.lookup x = some .globalImplicit := by rfl) (hd : (x == ("__debug__" : Str)) = false := by decide) : wpAny M A (eval (.Name x pos) env) Q E s :=
  Name_function_global (by rw [En.scope]; exact hk) (En.kind hx) (loadGlobal_builtin (by rw [En.globals]; exact F.nsg hB) (mg_none_of hB.K hB.g hv) (by rw [En.builtins]; exact F.nsb hB) ((hB.builtins x hn).trans hb) h) hd

theorem stL {l : List (Str × Value)} {Q : Unit → Shared → Prop} (En : EnvOk env sc c.L cl cd) (F : St c g (lk l) r s) (h : ∀ s', St c g (lk ((x, v) :: l)) r s' → Q () s')
    (hk : sc.kind = .function := by rfl) (hx : sc.names.lookup x = some .local := by rfl) : wpAny M A (storeName env x v) Q E s :=
  wpAny_storeName_local (En.kind hx) (by rw [En.locals]; exact F.ns) (fun h' hn hs => h _ (F.local_step (by rw [En.locals, lk_put] at hn; exact hn) (by rw [En.locals] at hs; exact hs)))
    (by rw [En.scope, hk]; rfl)

theorem newTupK {vs : List Value} {Q : Value → Shared → Prop} (F : St c g m r s) (h : ∀ g' t s', Le g g' → IsTup g' t vs.toArray → s.heap.get? t = none → St c g' m r s' → Q (.ref t) s') (hsz : vs.length ≤ sizeLine := by size_fits) : wpAny M A (newTuple vs) Q E s := by
  obtain ⟨g', h1, h2, h3, h4⟩ := F.alloc (o := { cls := .type "tuple", data := .seq vs.toArray }) (t := s.toks) rfl
  exact wpAny_newObj_type (h g' _ _ h1 ⟨_, h2, rfl, _, rfl⟩ h3 h4) (by show vs.toArray.size ≤ sizeLine; rw [List.size_toArray]; exact hsz)
theorem newListK {vs : List Value} {Q : Value → Shared → Prop} (F : St c g m r s) (h : ∀ g' t s', Le g g' → g'.IsList t vs.toArray → s.heap.get? t = none → St c g' m r s' → Q (.ref t) s') (hsz : vs.length ≤ sizeLine := by size_fits) : wpAny M A (newList vs) Q E s := by
  obtain ⟨g', h1, h2, h3, h4⟩ := F.alloc (o := { cls := .type "list", data := .seq vs.toArray }) (t := s.toks) rfl
  exact wpAny_newObj_type (h g' _ _ h1 ⟨_, h2, rfl, _, rfl⟩ h3 h4) (by show vs.toArray.size ≤ sizeLine; rw [List.size_toArray]; exact hsz)
theorem newListO {vs : List Value} {Q : Value → Shared → Prop} (F : St c g m r s) (h : ∀ t s', St c g m ((t, listO vs 0) :: r) s' → Q (.ref t) s') (hsz : vs.length ≤ sizeLine := by size_fits) : wpAny M A (newList vs) Q E s := by
  have h4 := F.allocOwn (o := { cls := .type "list", data := .seq vs.toArray }) (t := s.toks) rfl rfl
  exact wpAny_newObj_type (h _ _ h4) (by show vs.toArray.size ≤ sizeLine; rw [List.size_toArray]; exact hsz)

theorem K_str {t : Str} {k pos} {Q : Value → Shared → Prop} (F : St c g m r s) (h : ∀ u s', St c g m r s' → Q (.str t u) s') : wpAny M A (eval (.Constant (.str t) k pos) env) Q E s :=
  wpAny_Constant_str (h _ _ F.toks)
theorem K_int {i : Int} {k pos} {Q : Value → Shared → Prop} (F : St c g m r s) (h : ∀ u s', St c g m r s' → Q (.int i u) s') : wpAny M A (eval (.Constant (.int i) k pos) env) Q E s :=
  wpAny_Constant_int (h _ _ F.toks)
end

/-! entering a def -/
def Room (A : Around) (n : Nat) : Prop := A.depth + n < recursionLimit ∧ A.units + 4 * n < cLine
theorem Room.le {A : Around} {n k : Nat} (h : Room A n) (hk : k ≤ n) : Room A k := ⟨by have := h.1; omega, by have := h.2; omega⟩
theorem Room.deeper {A : Around} {n : Nat} {env : Env} (h : Room A (n + 1)) : Room (A.deeper env) n := ⟨by have := h.1; show A.depth + 1 + n < _; omega, by have := h.2; show A.units + 3 + 4 * n < _; omega⟩
theorem Room.in1 {A : Around} {n : Nat} (h : Room A (n + 1)) : Room A.in1 n := ⟨by have := h.1; show A.depth + n < _; omega, by have := h.2; show A.units + 1 + 4 * n < _; omega⟩
theorem Room.depth {A : Around} {n : Nat} (h : Room A n) : A.depth < recursionLimit := by have := h.1; omega
theorem Room.units {A : Around} {n : Nat} (h : Room A n) : A.units < cLine := by have := h.2; omega

theorem enterE {c : Wd} (hB : Base c) {g e0 : Heap} {X : List Addr} {r : List (Addr × Obj)} {s : Shared} {A : Around} {R : Result → Shared → Prop} {a : Addr} {name qual : Str} {params : Arguments} {body : List Stmt} {scope : Scope} {clo : List (Str × Addr)} {dV kV doc pm cdv ct oc : Value} {an od : Option Addr} {osl : Array (Option Value)} {args : Args} {binds bs : List (Str × Value)}
    (W : Wo c g r s) (hge : Le g e0) (hes : Le e0 s.heap) (hez : e0.objs.size ≤ s.heap.objs.size) (hBe : c.B.objs.size ≤ e0.objs.size) (hown : ∀ p ∈ r, e0.get? p.1 = none ∨ p.1 ∈ X) (hX : ∀ x ∈ X, ∃ o, (x, o) ∈ r)
    (hrm : A.depth < recursionLimit) (ho : s.heap.get? a = some ⟨oc, od, .func (fnX name qual params body scope clo dV kV doc pm an cdv ct), osl⟩) (hcd : s.heap.CodeRec cdv qual)
    (hbind : BindsTo s (fnX name qual params body scope clo dV kV doc pm an cdv ct) args binds) (hrev : binds.reverse = bs)
    (hcell : ∀ x ∈ scope.names, x.2 ≠ .cell) (hloc : (binds.all fun x => decide (scope.names.lookup x.1 = some .local)) = true)
    (h : ∀ (f : Fx) s₁ env, f.toWd = c → f.e = e0 → f.g0 = g → f.X = X → EnvOk env scope f.L clo cdv → env = envX qual scope f.L a cdv clo → St f g (lk bs) r s₁ →
      wpAny (model c.prog c.w) (A.deeper env) (execs body env) (fun fl s' => R (.ok (.ret (match fl with | .ret v => v | _ => .none))) s')
        (fun e s' => wpAny (model c.prog c.w) (A.deeper env) (leaving env e) (fun _ s'' => R (.error e) s'') (fun e' s'' => R (.error e') s'') s') s₁)
    (hco : scope.isCoroutine = false := by rfl) (hgen : scope.isGenerator = false := by rfl) (hk : scope.kind = .function := by rfl) : codeAny (model c.prog c.w) A (.call (.ref a) args) R s := by
  refine codeAny_call_def (fd := fnX name qual params body scope clo dV kV doc pm an cdv ct) (body := body) (binds := binds) hrm ho rfl (hB.nolimit.keeps (W.base.trans W.sub)) hcd rfl hbind hcell (locs hloc) (fun h₀ hn hk₀ => ?_) hco hgen hk
  subst hrev
  have hLn : s.heap.get? s.heap.objs.size = none := fresh_none (Nat.le_refl _)
  refine h ⟨c, e0, g, X, s.heap.objs.size⟩ _ _ rfl rfl rfl rfl ⟨rfl, rfl, rfl, rfl, rfl, rfl⟩ rfl ?_
  exact {
    gens := W.gens, os := W.os, base := W.base
    sub := fun b o e => hk₀ b o (W.sub b o e)
    tabs := fun q hq => ⟨(W.tabs q hq).1.le hk₀, (W.tabs q hq).2⟩
    own := fun p hp => ⟨hk₀ _ _ (W.own p hp).1, (W.own p hp).2⟩
    nd := W.nd
    Bsz := Nat.le_trans W.Bsz (Nat.le_of_lt hn.lt)
    g0e := hge, Bg0 := W.base, Bse := hBe
    g0g := Le.refl _
    fresh := fun b o e => .inl ⟨o, e⟩
    keep := fun b o e _ _ => hk₀ b o (hes b o e)
    size := Nat.le_trans hez (Nat.le_of_lt hn.lt)
    ns := hn
    gL := by
      show g.get? s.heap.objs.size = none
      cases q : g.get? s.heap.objs.size with
      | none => rfl
      | some o => rw [W.sub _ _ q] at hLn; cases hLn
    rL := fun p hp e => by
      have := (W.own p hp).1
      rw [show p.1 = s.heap.objs.size from e, hLn] at this; cases this
    eL := hez
    ownX := hown
    Xr := hX }

theorem enter {c : Wd} (hB : Base c) {g : Heap} {r : List (Addr × Obj)} {s : Shared} {A : Around} {R : Result → Shared → Prop} {a : Addr} {name qual : Str} {params : Arguments} {body : List Stmt} {scope : Scope} {clo : List (Str × Addr)} {dV kV doc pm cdv ct oc : Value} {an od : Option Addr} {osl : Array (Option Value)} {args : Args} {binds bs : List (Str × Value)}
    (W : Wo c g r s) (hrm : A.depth < recursionLimit) (ho : s.heap.get? a = some ⟨oc, od, .func (fnX name qual params body scope clo dV kV doc pm an cdv ct), osl⟩) (hcd : s.heap.CodeRec cdv qual)
    (hbind : BindsTo s (fnX name qual params body scope clo dV kV doc pm an cdv ct) args binds) (hrev : binds.reverse = bs)
    (hcell : ∀ x ∈ scope.names, x.2 ≠ .cell) (hloc : (binds.all fun x => decide (scope.names.lookup x.1 = some .local)) = true)
    (h : ∀ (f : Fx) s₁ env, f.toWd = c → f.e = s.heap → f.g0 = g → f.X = r.map (·.1) → EnvOk env scope f.L clo cdv → env = envX qual scope f.L a cdv clo → St f g (lk bs) r s₁ →
      wpAny (model c.prog c.w) (A.deeper env) (execs body env) (fun fl s' => R (.ok (.ret (match fl with | .ret v => v | _ => .none))) s')
        (fun e s' => wpAny (model c.prog c.w) (A.deeper env) (leaving env e) (fun _ s'' => R (.error e) s'') (fun e' s'' => R (.error e') s'') s') s₁)
    (hco : scope.isCoroutine = false := by rfl) (hgen : scope.isGenerator = false := by rfl) (hk : scope.kind = .function := by rfl) : codeAny (model c.prog c.w) A (.call (.ref a) args) R s :=
  enterE hB W W.sub (Le.refl _) (Nat.le_refl _) W.Bsz (fun p hp => .inr (List.mem_map_of_mem hp)) (fun x hx => by obtain ⟨p, hp, rfl⟩ := List.mem_map.mp hx; exact ⟨p.2, hp⟩) hrm ho hcd hbind hrev hcell hloc h hco hgen hk

/-- leaving: what the frame knows is what is known behind the call -/
theorem St.exit {f : Fx} {g0 g : Heap} {m : Str → Option Value} {r0 r r' : List (Addr × Obj)} {s0 s : Shared} (F : St f g m r s) (he : f.e = s0.heap) (hg : f.g0 = g0) (hX : f.X = r0.map (·.1)) (hr : r'.Sublist r) (hkeys : r'.map (·.1) = r0.map (·.1)) :
    Post f.toWd g0 r0 s0 g r' s where
  wo := { gens := F.gens, os := F.os, base := F.base, sub := F.sub, tabs := F.tabs, own := fun p hp => F.own p (hr.subset hp), nd := (hr.map (·.1)).nodup F.nd, Bsz := F.Bsz }
  le := hg ▸ F.g0g
  fresh := fun b o e => by subst hg; rw [← he]; exact F.fresh b o e
  keep := fun b o e n x => F.keep b o (by rw [he]; exact e) n (by rw [hX]; exact x)
  size := by rw [← he]; exact F.size
  keys := hkeys
theorem enterK {c : Wd} {K0 : Frag} (hK : c.K = K0) (hB : Base c) {g : Heap} {r : List (Addr × Obj)} {s : Shared} {A : Around} {R : Result → Shared → Prop} {a : Addr} {name qual : Str} {params : Arguments} {body : List Stmt} {scope : Scope} {clo : List (Str × Addr)} {dV kV doc pm cdv ct oc : Value} {an od : Option Addr} {osl : Array (Option Value)} {args : Args} {binds bs : List (Str × Value)}
    (W : Wo c g r s) (hrm : A.depth < recursionLimit) (ho : K0.lookup a = some ⟨oc, od, .func (fnX name qual params body scope clo dV kV doc pm an cdv ct), osl⟩) (hcd : codeIn K0 cdv qual = true)
    (hbind : BindsTo s (fnX name qual params body scope clo dV kV doc pm an cdv ct) args binds) (hrev : binds.reverse = bs)
    (hcell : ∀ x ∈ scope.names, x.2 ≠ .cell) (hloc : (binds.all fun x => decide (scope.names.lookup x.1 = some .local)) = true)
    (hco : scope.isCoroutine = false) (hgen : scope.isGenerator = false) (hk : scope.kind = .function)
    (h : ∀ (f : Fx) s₁ env, f.toWd = c → f.e = s.heap → f.g0 = g → f.X = r.map (·.1) → EnvOk env scope f.L clo cdv → env = envX qual scope f.L a cdv clo → St f g (lk bs) r s₁ →
      wpAny (model c.prog c.w) (A.deeper env) (execs body env) (fun fl s' => R (.ok (.ret (match fl with | .ret v => v | _ => .none))) s')
        (fun e s' => wpAny (model c.prog c.w) (A.deeper env) (leaving env e) (fun _ s'' => R (.error e) s'') (fun e' s'' => R (.error e') s'') s') s₁) : codeAny (model c.prog c.w) A (.call (.ref a) args) R s := by
  subst hK
  have X := hB.K.keeps (W.base.trans W.sub)
  exact enter hB W hrm (X _ _ ho) (codeRec_of X hcd) hbind hrev hcell hloc h hco hgen hk

/-- a call that ends well and borrows nothing -/
def Calm (d : Wd) (n : Nat) (f : Value) (pos : List Value) (kw : List (Str × Value)) (g : Heap) (Q : Value → Heap → Prop) : Prop :=
  ∀ A s, Room A n → A.handled = none → Wo d g [] s → codeAny (model d.prog d.w) A (.call f ⟨pos, kw⟩) (fun r s' => ∃ v g', r = .ok (.ret v) ∧ Post d g [] s g' [] s' ∧ Q v g') s

/-- what a frame hands back at its end -/
def Back (f : Fx) (g0 : Heap) (s0 : Shared) (Q : Value → Heap → Prop) (v : Value) (s : Shared) : Prop := ∃ g', Post f.toWd g0 [] s0 g' [] s ∧ Q v g'

theorem Calm.use {c : Fx} {n : Nat} {f : Value} {pos : List Value} {kw : List (Str × Value)} {g : Heap} {Q : Value → Heap → Prop} {m : Str → Option Value} {r : List (Addr × Obj)} {s : Shared} {A : Around} {E : Value → Shared → Prop} {Q' : Value → Shared → Prop}
    (C : Calm c.toWd n f pos kw g Q) (F : St c g m r s) (hR : Room A n) (hh : A.handled = none) (h : ∀ v g' s', Le g g' → Q v g' → St c g' m r s' → Q' v s') : wpAny (model c.prog c.w) A (call f pos kw) Q' E s := by
  refine wpAny_call (codeAny_mono (C A s hR hh ?_) fun r' s' hr => ?_)
  · exact { F.toWo with own := (fun _ h => nomatch h), nd := List.nodup_nil }
  · obtain ⟨v, g', rfl, P, q⟩ := hr
    exact h v g' s' P.le q (F.after P)

section
variable {c : Fx} {g : Heap} {m : Str → Option Value} {r : List (Addr × Obj)} {s : Shared} {A : Around} {E : Value → Shared → Prop} {env : Env} {sc : Scope} {cl : List (Str × Addr)} {cd : Value}

theorem codeObj_ord {o : Obj} {vs : Array Value} {n : Str} {t : Tok} (hd : o.data = .fields vs) (h1 : vs[1]? = some (.str n t)) : ordC o = false := by
  simp [ordC, hd, h1]

/-- a code object that a table told is known from now on -/
theorem St.learnCode {c' : Addr} {q : Str} (F : St c g m r s) (h : s.heap.CodeRec (.ref c') q) : ∃ g', Le g g' ∧ g'.CodeRec (.ref c') q ∧ St c g' m r s := by
  obtain ⟨c2, o, vs, t, e0, e1, e2, e3⟩ := h
  cases e0
  have ho := codeObj_ord e2 e3
  obtain ⟨g', h1, h2, _, h3⟩ := F.learn (fun b => b = c') fun b ob hb hob _ => by
    subst hb
    rw [e1] at hob
    cases hob
    refine ⟨.inr ho, fun e => ?_, fun p hp e => ?_, fun p hp e => ?_⟩
    · obtain ⟨oL, hL, hr⟩ := ns_ord F.ns
      rw [← e, e1] at hL
      cases hL
      rw [ho] at hr; cases hr
    · have := F.own p hp
      rw [e, e1] at this
      rw [← Option.some.inj this.1, ho] at this
      cases this.2.2
    · obtain ⟨ps, hP, ht, _⟩ := (F.tabs p hp).1
      rw [e, e1] at hP
      cases hP
      cases e2
      refine triples_notStr ht q t ?_
      rw [Array.getElem?_toList]; exact e3
  exact ⟨g', h1, ⟨_, o, vs, t, rfl, h2 _ _ rfl e1, e2, e3⟩, h3⟩

theorem triples_push {ps : List Value} (h : TriplesOk ps) (a b : Int) (x : Value) : TriplesOk (ps ++ [rawInt a, rawInt b, x]) := by
  fun_induction TriplesOk ps with
  | case1 => simp [TriplesOk, rawInt]
  | case2 _ _ _ _ _ rest ih => exact ih h
  | case3 => exact h.elim
theorem among_push {ps : List Value} (h : TriplesOk ps) (pos : Pos) (x : Value) (hn : codeAmong pos ps = none) (p2 : Pos) : codeAmong p2 (ps ++ [rawInt pos.line, rawInt pos.col, x]) = match codeAmong p2 ps with
    | some y => some y
    | none => if pos.line == p2.line && pos.col == p2.col then some x else none := by
  fun_induction TriplesOk ps with
  | case1 =>
    simp only [List.nil_append, codeAmong, rawInt]
    by_cases h1 : pos.line = p2.line <;> by_cases h2 : pos.col = p2.col <;> simp [h1, h2] <;> omega
  | case2 a t b u v rest ih =>
    simp only [List.cons_append, codeAmong] at hn ⊢
    split at hn
    · cases hn
    · split
      · rfl
      · exact ih h hn
  | case3 => exact h.elim

/-- a table gets a row -/
theorem St.tabStep {q : TabRec} {ps : Array Value} {c' : Addr} {h' : Heap} {t : Tok} (F : St c g m r s) (hq : q ∈ c.tabs) (hP : s.heap.get? q.P = some (tabObj ps)) (ht : TriplesOk ps.toList) (hn : codeAmong q.pos ps.toList = none)
    (hx : Heap.ExtBut q.P s.heap h') (hc : h'.CodeRec (.ref c') q.qual) (hz : s.heap.objs.size ≤ h'.objs.size) (hP' : h'.get? q.P = some (tabObj (ps ++ #[rawInt q.pos.line, rawInt q.pos.col, .ref c'])))
    (one : ∀ q2 ∈ c.tabs, q2.P = q.P → q2 = q) : St c g m r { s with heap := h', toks := t } := by
  have neL : q.P ≠ c.L := F.LNotTab q hq
  have neR : ∀ p ∈ r, p.1 ≠ q.P := fun p hp e => F.ordNotTab (F.own p hp).1 (F.own p hp).2.2 q hq e.symm
  have neg : g.get? q.P = none := (F.tabs q hq).2
  exact {
    gens := F.gens, os := F.os, base := F.base
    sub := fun b o e => hx b o (fun z => by rw [z, neg] at e; cases e) (F.sub b o e)
    tabs := fun q2 hq2 => ⟨by
      by_cases he : q2.P = q.P
      · obtain rfl := one q2 hq2 he
        refine ⟨_, hP', by rw [Array.toList_append]; exact triples_push ht _ _ _, fun cv hcv => ?_⟩
        rw [Array.toList_append, among_push ht _ _ hn, hn] at hcv
        simp only [beq_self_eq_true, Bool.and_self, if_true, Option.some.injEq] at hcv
        exact ⟨c', hcv.symm, hc⟩
      · exact (F.tabs q2 hq2).1.step fun b o e vs hd h => hx b o (fun z => by
          subst z
          rw [hP] at e
          cases e
          cases hd
          rcases h with h | ⟨n, t', h⟩
          · exact he h.symm
          · refine triples_notStr ht n t' ?_
            rw [Array.getElem?_toList]; exact h) e, (F.tabs q2 hq2).2⟩
    own := fun p hp => ⟨hx _ _ (neR p hp) (F.own p hp).1, (F.own p hp).2⟩
    nd := F.nd
    Bsz := Nat.le_trans F.Bsz hz
    g0e := F.g0e, Bg0 := F.Bg0, Bse := F.Bse
    g0g := F.g0g, fresh := F.fresh
    keep := fun b o e n x => hx b o (fun z => n q hq z.symm) (F.keep b o e n x)
    size := Nat.le_trans F.size hz
    ns := F.ns.extBut hx (Ne.symm neL)
    gL := F.gL
    rL := F.rL
    eL := F.eL
    ownX := F.ownX
    Xr := F.Xr }

theorem bltAt {q : TabRec} {ps : Array Value} (hB : Base c.toWd) (F : St c g m r s) (hP : s.heap.get? q.P = some (tabObj ps)) : s.heap.BuiltinsAt c.mg q.P := by
  obtain ⟨bm, ob, e1, e2, e3, e4, e5, e6⟩ := hB.bmain
  have hbo := F.sub _ _ (F.base _ _ e3)
  obtain ⟨og, es, ep, hg, hgd, _⟩ := F.nsg hB
  refine ⟨bm, ob, e1, e2, fun e => ?_, fun e => ?_, hbo, e4, e5, e6⟩
  · rw [e, hg] at hbo; cases hbo; rw [hgd] at e6; cases e6
  · rw [e, hP] at hbo; cases hbo; cases e6

/-- a def in a body -/
theorem mkFn {q : TabRec} {name : Str} {params : Arguments} {body : List Stmt} {scope : Scope} {clos : List (Str × Addr)} {pos : Pos} {qual : Str} {firstLine : Nat} {Q : Value → Shared → Prop} (hB : Base c.toWd) (En : EnvOk env sc c.L cl (.ref q.c)) (F : St c g m r s) (hq : q ∈ c.tabs) (hpos : q.pos = pos) (hqual : q.qual = qual)
    (one : ∀ q2 ∈ c.tabs, q2.P = q.P → q2 = q) (hcl : closureFor scope env = pure clos)
    (h : ∀ f cv ctv doc pm g' s', Le g g' → g'.get? f = some { cls := .type "function", data := .func (fnX name qual params body scope clos .none .none doc pm none cv ctv) } → g'.CodeRec cv qual → s.heap.get? f = none → St c g' m r s' → Q (.ref f) s') :
    wpAny M A (makeFunction name qual params (.stmts body) scope env [] [] [] pos firstLine) Q E s := by
  subst hpos hqual
  obtain ⟨ps, hP, ht, hgood⟩ := (F.tabs q hq).1
  have C : CodeHd s.heap q.c q.P := (hB.codes q hq).keeps (F.base.trans F.sub)
  have hgP : mainGlobals ≠ q.P := fun e => by
    obtain ⟨og, es, ep, hg, hgd, _⟩ := F.nsg hB
    rw [e, hP] at hg; cases hg; cases hgd
  have fin : ∀ {s2 : Shared} {cv ctv doc : Value}, s2.gens = s.gens → (s.heap.objs.size ≤ s2.heap.objs.size) → St c g m r s2 → s2.heap.CodeRec cv q.qual → (∃ c', cv = .ref c') → ∀ t,
      Q (.ref s2.heap.objs.size) { s2 with heap := s2.heap.push { cls := .type "function", data := .func (fnX name q.qual params body scope clos .none .none doc ((c.mg "__name__").getD .none) none cv ctv) }, toks := t } := by
    rintro s2 cv ctv doc _ hz F2 hc ⟨c', rfl⟩ t
    obtain ⟨g1, l1, k1, F3⟩ := F2.learnCode hc
    obtain ⟨g2, l2, k2, hnew, F4⟩ := F3.alloc (o := { cls := .type "function", data := .func (fnX name q.qual params body scope clos .none .none doc ((c.mg "__name__").getD .none) none (.ref c') ctv) }) (t := t) rfl
    exact h _ _ _ _ _ _ _ (l1.trans l2) k2 (k1.keeps l2) (fresh_none hz) F4
  cases hn : codeAmong q.pos ps.toList with
  | none =>
    refine makeFunction_K hcl En.globals (F.nsg hB) En.code C hP ht hn hgP (bltAt hB F hP) fun c' ctv doc h' tk hx h1 h2 hrec hP' => ?_
    have hz : s.heap.objs.size ≤ h'.objs.size := by omega
    exact fin (s2 := { s with heap := h', toks := tk }) rfl hz (F.tabStep hq hP ht hn hx hrec hz hP' one) hrec ⟨_, rfl⟩ tk
  | some cv =>
    obtain ⟨c', rfl, hrec⟩ := hgood cv hn
    refine makeFunction_hit hcl En.globals (F.nsg hB) En.code C hP ht hn (bltAt hB F hP) fun ctv doc h' tk hk hz => ?_
    exact fin (s2 := { s with heap := h', toks := tk }) rfl hz (F.grow hk hz) (hrec.keeps hk) ⟨_, rfl⟩ tk
end
/-! Ast -/
section
variable {M : Model} {A : Around} {E : Value → Shared → Prop} {s : Shared} {env : Env} {pos : Pos} {f : Value} {first : List Value}

def KeepOk (M : Model) (f : Value) (h : Heap) : Prop := ∃ k, (k = Keeper.frame ∨ k = Keeper.machine ∨ k = Keeper.boundFrame) ∧ Looks M h (keeperOf f) k
theorem keepOk_val {h : Heap} (hf : keeperOf f = pure .machine) : KeepOk M f h := ⟨.machine, .inr (.inl rfl), Looks.of_pure hf⟩
theorem keepOk_fn {h : Heap} {a : Addr} {o : Obj} {fd : FuncData} (e : h.get? a = some o) (hd : o.data = .func fd) : KeepOk M (.ref a) h := by
  refine ⟨.frame, .inl rfl, (Looks.ld (part := none) e).andThen ?_⟩
  rw [hd]; exact .now
theorem keepOk_K {K : Frag} {h : Heap} (X : K.In h) (hk : keepIn K f = true) : KeepOk M f h := keeps_K hk h X

theorem c_any {args : List (Bool × Sem Value)} {kws : List (Option Str × Sem Value)} {Q : Value → Shared → Prop}
    (h : wpAny M A (evalArgs f true args kws) (fun a s₁ => KeepOk M f s₁.heap ∧ wpAny M A (call f (first ++ a.pos) a.kw) Q E s₁) E s)
    (hplain : (args.any (·.1) || kws.any (·.1.isNone)) = false) : wpAny M A (callWith pos f first args kws) Q E s :=
  callWith_of hplain (P := KeepOk M f) (fun _ h => h) h

theorem e_call {func : Expr} {args : List Expr} {kws : List Keyword} {Q : Value → Shared → Prop}
    (h : wpAny M A (eval func env) (fun f s₁ => wpAny M A (callWith pos f [] (backTo pos (starEach args env)) (backToKw pos (keywordEach kws env))) Q E s₁) E s)
    (he : eval (.Call func args kws pos) env = (do callWith pos (← eval func env) [] (backTo pos (starEach args env)) (backToKw pos (keywordEach kws env)))) :
    wpAny M A (eval (.Call func args kws pos) env) Q E s := by
  rw [he]; exact wpAny_bind h

theorem ea_nil {Q : Args → Shared → Prop} (h : Q ⟨[], []⟩ s) : wpAny M A (evalArgs f true (backTo pos (starEach [] env)) (backToKw pos (keywordEach [] env))) Q E s := evalArgs_nil3 h
theorem ea_pos {e : Expr} {rest : List Expr} {Q : Args → Shared → Prop} (h : wpAny M A (spliced (backTo pos (starEach (e :: rest) env))) (fun vs s' => Q ⟨vs, []⟩ s') E s)
    (he : starEach (e :: rest) env = (false, eval e env) :: starEach rest env) : wpAny M A (evalArgs f true (backTo pos (starEach (e :: rest) env)) (backToKw pos (keywordEach [] env))) Q E s := by
  rw [he] at h ⊢
  exact evalArgs_plain h
theorem ea_kw {k : Keyword} {kws : List Keyword} {ns : List Str} {Q : Args → Shared → Prop} (h : wpAny M A (evalAll ((backToKw pos (keywordEach (k :: kws) env)).map (·.2))) (fun ks s₂ => Q ⟨[], ns.zip ks⟩ s₂) E s)
    (hall : (backToKw pos (keywordEach (k :: kws) env)).all (·.1.isSome) = true) (hn : (backToKw pos (keywordEach (k :: kws) env)).filterMap (·.1) = ns) :
    wpAny M A (evalArgs f true (backTo pos (starEach [] env)) (backToKw pos (keywordEach (k :: kws) env))) Q E s := by
  subst hn
  exact evalArgs_kw_nil hall h
theorem ea_both {e : Expr} {rest : List Expr} {k : Keyword} {kws : List Keyword} {ns : List Str} {Q : Args → Shared → Prop}
    (h : wpAny M A (spliced (backTo pos (starEach (e :: rest) env))) (fun vs s₁ => wpAny M A (evalAll ((backToKw pos (keywordEach (k :: kws) env)).map (·.2))) (fun ks s₂ => Q ⟨vs, ns.zip ks⟩ s₂) E s₁) E s)
    (he : starEach (e :: rest) env = (false, eval e env) :: starEach rest env) (hall : (backToKw pos (keywordEach (k :: kws) env)).all (·.1.isSome) = true) (hn : (backToKw pos (keywordEach (k :: kws) env)).filterMap (·.1) = ns) :
    wpAny M A (evalArgs f true (backTo pos (starEach (e :: rest) env)) (backToKw pos (keywordEach (k :: kws) env))) Q E s := by
  subst hn
  rw [he] at h ⊢
  exact evalArgs_kw hall h
theorem kw_nil {Q : List Value → Shared → Prop} (h : Q [] s) : wpAny M A (evalAll ((backToKw pos (keywordEach [] env)).map (·.2))) Q E s := wpAny_pure h
theorem kw_cons {n : Option Str} {v : Expr} {p : Pos} {rest : List Keyword} {Q : List Value → Shared → Prop}
    (h : wpAny M A (eval v env) (fun x s₁ => wpAny M A (evalAll ((backToKw pos (keywordEach rest env)).map (·.2))) (fun xs s₂ => Q (x :: xs) s₂) E s₁) E s) :
    wpAny M A (evalAll ((backToKw pos (keywordEach (⟨n, v, p⟩ :: rest) env)).map (·.2))) Q E s :=
  wpAny_evalAll_cons (x := do let x ← eval v env; standAt pos; pure x) (wpAny_bind (wpAny_mono h (fun _ _ z => wpAny_bind (wpAny_standAt (wpAny_pure z))) fun _ _ z => z))

theorem sp_nil {Q : List Value → Shared → Prop} (h : Q [] s) : wpAny M A (spliced (backTo pos (starEach [] env))) Q E s := wpAny_pure h
theorem sp_cons {e : Expr} {rest : List Expr} {Q : List Value → Shared → Prop}
    (h : wpAny M A (eval e env) (fun v s₁ => wpAny M A (spliced (backTo pos (starEach rest env))) (fun vs s₂ => Q (v :: vs) s₂) E s₁) E s)
    (he : starEach (e :: rest) env = (false, eval e env) :: starEach rest env) : wpAny M A (spliced (backTo pos (starEach (e :: rest) env))) Q E s := wpAny_items_cons h he

theorem e_mcall {o : Expr} {name : Str} {apos : Pos} {args : List Expr} {kws : List Keyword} {pl : Sem Bool} {Q : Value → Shared → Prop}
    (h : wpAny M A (eval o env) (fun ov s₁ => wpAny M A (getMethod ov name pl) (fun fx s₂ => wpAny M A (callWith pos fx.1 fx.2 (backTo pos (starEach args env)) (backToKw pos (keywordEach kws env))) Q E s₂) E s₁) E s)
    (he : eval (.Call (.Attribute o name apos) args kws pos) env = (do
      let ov ← eval o env
      standAt apos.atName
      let (f, first) ← holding [ov] (getMethod ov name pl)
      callWith pos f first (backTo pos (starEach args env)) (backToKw pos (keywordEach kws env)))) :
    wpAny M A (eval (.Call (.Attribute o name apos) args kws pos) env) Q E s := methodCall_KW h he

theorem x_asgN {x : Str} {p' : Pos} {value : Expr} {Q : Flow → Shared → Prop} (h : wpAny M A (eval value env) (fun v s₁ => wpAny M A (storeName env x v) (fun _ => Q .next) E s₁) E s)
    (hs : swapsWith value (some (.Name x p')) pos.line env = pure false) : wpAny M A (exec (.Assign [.Name x p'] value pos) env) Q E s := wpAny_Assign_Name h hs
theorem x_asgA {o value : Expr} {attr : Str} {p' : Pos} {Q : Flow → Shared → Prop}
    (h : wpAny M A (eval value env) (fun v s₁ => wpAny M A (eval o env) (fun ov s₂ => wpAny M A (setAttr ov attr v) (fun _ => Q .next) E s₂) E s₁) E s)
    (hs : swapsWith value (some (.Attribute o attr p')) pos.line env = pure false) : wpAny M A (exec (.Assign [.Attribute o attr p'] value pos) env) Q E s := plainObj_wpAny_Assign_Attribute h hs
theorem x_asgS {o i value : Expr} {p' : Pos} {Q : Flow → Shared → Prop}
    (h : wpAny M A (eval value env) (fun v s₁ => wpAny M A (eval o env) (fun ov s₂ => wpAny M A (eval i env) (fun iv s₃ => wpAny M A (setItem ov iv v) (fun _ => Q .next) E s₃) E s₂) E s₁) E s)
    (hs : swapsWith value (some (.Subscript o i p')) pos.line env = pure false) : wpAny M A (exec (.Assign [.Subscript o i p'] value pos) env) Q E s := wpAny_Assign_Subscript h hs
theorem x_asgT {elts : List Expr} {k : Nat} {tpos : Pos} {value : Expr} {Q : Flow → Shared → Prop}
    (h : wpAny M A (eval value env) (fun v s₁ => wpAny M A (assign (.Tuple elts k tpos) env v) (fun _ => Q .next) E s₁) E s)
    (hs : swapsWithSole [.Tuple elts k tpos] value pos.line env = pure false) (hw : swappedStores [.Tuple elts k tpos] value env = pure none) : wpAny M A (exec (.Assign [.Tuple elts k tpos] value pos) env) Q E s := Assign_Tuple h hs hw
theorem x_asgTS {elts : List Expr} {k : Nat} {tpos : Pos} {value : Expr} {names : List Str} {Q : Flow → Shared → Prop}
    (h : wpAny M A (eval value env) (fun v s₁ => wpAny M A (unpackItems v names.length none) (fun items s₂ =>
      wpAny M A (assignInOrder (names.reverse.map fun n => bindName env n) items.reverse) (fun _ => Q .next) E s₂) E s₁) E s)
    (hs : swapsWithSole [.Tuple elts k tpos] value pos.line env = pure false) (hw : swappedStores [.Tuple elts k tpos] value env = pure (some names)) : wpAny M A (exec (.Assign [.Tuple elts k tpos] value pos) env) Q E s := Assign_Tuple_swapped h hs hw
theorem x_expr {prog : Program} {w : World} {e : Expr} {Q : Flow → Shared → Prop} (h : wpAny (model prog w) A (eval e env) (fun _ => Q .next) E s) (hi : interactive env = false) (hs : swapsWith e none pos.line env = pure false) :
    wpAny (model prog w) A (exec (.Expr e pos) env) Q E s := wpAny_Expr_any h hi hs
theorem interactive_no {sc : Scope} {L : Addr} {cl : List (Str × Addr)} {cd : Value} (En : EnvOk env sc L cl cd) (hk : sc.kind = .function) : interactive env = false := by
  unfold interactive; rw [En.scope, hk]; rfl

theorem io_nil {vs : List Value} {Q : Unit → Shared → Prop} (h : Q () s) : wpAny M A (assignInOrder [] vs) Q E s := by
  unfold assignInOrder; exact wpAny_pure h
theorem io_cons {t : Value → Sem Unit} {ts : List (Value → Sem Unit)} {x : Value} {xs : List Value} {Q : Unit → Shared → Prop} (h : wpAny M A (t x) (fun _ s' => wpAny M A (assignInOrder ts xs) Q E s') E s) : wpAny M A (assignInOrder (t :: ts) (x :: xs)) Q E s := by
  unfold assignInOrder; exact wpAny_bind (wpAny_holding h)
theorem as_name {x : Str} {p : Pos} {v : Value} {Q : Unit → Shared → Prop} (h : wpAny M A (storeName env x v) Q E s) : wpAny M A (assign (.Name x p) env v) Q E s := assign_Name h
theorem as_attr {o : Expr} {attr : Str} {p : Pos} {v : Value} {Q : Unit → Shared → Prop} (h : wpAny M A (eval o env) (fun ov s₂ => wpAny M A (setAttr ov attr v) Q E s₂) E s) : wpAny M A (assign (.Attribute o attr p) env v) Q E s := by
  rw [assign_Attribute]
  exact wpAny_bind (wpAny_holding (wpAny_mono h (fun ov s₁ h₁ => wpAny_bind (wpAny_standAt (wpAny_bind (wpAny_holding (wpAny_mono h₁ (fun _ _ z => wpAny_release' z) fun _ _ z => z))))) fun _ _ z => z))
theorem bn {x : Str} {v : Value} {Q : Unit → Shared → Prop} (h : wpAny M A (storeName env x v) Q E s) : wpAny M A (bindName env x v) Q E s := wpAny_bindName h
theorem e_attr {prog : Program} {w : World} {value : Expr} {attr : Str} {Q : Value → Shared → Prop} (h : wpAny (model prog w) A (eval value env) (fun o s₁ => wpAny (model prog w) A (getAttr o attr true) Q E s₁) E s)
    (he : eval (.Attribute value attr pos) env = (do
      let o ← eval value env
      standAt pos.atName
      let r ← holding [o] (getAttr o attr true)
      letTemporaryGo value o r
      pure r)) : wpAny (model prog w) A (eval (.Attribute value attr pos) env) Q E s := Attribute_any_ h he
theorem t_plain {e : Expr} {whole : Sem Value} {Q : Bool → Shared → Prop} (h : wpAny M A whole (fun v s₁ => wpAny M A (truthy v) Q E s₁) E s)
    (he : isTrue e env whole = (do let v ← whole; standAt e.pos; holding [v] (truthy v))) : wpAny M A (isTrue e env whole) Q E s := isTrue_plain h he
theorem e_cmp1 {l r : Expr} {op : CmpOp} {Q : Value → Shared → Prop} (h : wpAny M A (eval l env) (fun a s₁ => wpAny M A (eval r env) (fun b s₂ => wpAny M A (compareOp op a b) Q E s₂) E s₁) E s)
    (hm : behindInMarks op r = false) : wpAny M A (eval (.Compare l [op] [r] pos) env) Q E s := by
  show wpAny M A (do compareChain pos (← eval l env) [op] (markedEach [op] [r] (evalEach [r] env))) Q E s
  have : markedEach [op] [r] (evalEach [r] env) = [eval r env] := by
    show [markedBehindIn op r (eval r env)] = _
    rw [markedBehindIn_of_false hm]
  rw [this]
  exact wpAny_bind (wpAny_mono h (fun a s₁ h₁ => chain_last h₁) fun _ _ z => z)
theorem t_cmp1 {l r : Expr} {op : CmpOp} {whole : Sem Value} {Q : Bool → Shared → Prop} (h : wpAny M A (eval l env) (fun a s₁ => wpAny M A (eval r env) (fun b s₂ => wpAny M A (compareOp op a b) (fun cv s₃ => wpAny M A (truthy cv) Q E s₃) E s₂) E s₁) E s)
    (hm : behindInMarks op r = false) : wpAny M A (isTrue (.Compare l [op] [r] pos) env whole) Q E s := by
  show wpAny M A (do testChain pos (← eval l env) [op] (markedEach [op] [r] (evalEach [r] env))) Q E s
  have : markedEach [op] [r] (evalEach [r] env) = [eval r env] := by
    show [markedBehindIn op r (eval r env)] = _
    rw [markedBehindIn_of_false hm]
  rw [this]
  exact wpAny_bind (wpAny_mono h (fun a s₁ h₁ => test_last h₁) fun _ _ z => z)
theorem is_t {a b : Value} {Q : Value → Shared → Prop} (hp : plainIs a b = true) (e : (a == b) = true) (h : Q (.bool true) s) : wpAny M A (compareOp .Is a b) Q E s := wpAny_is_plain hp (by rw [e]; exact h)
theorem is_f {a b : Value} {Q : Value → Shared → Prop} (hp : plainIs a b = true) (e : (a == b) = false) (h : Q (.bool false) s) : wpAny M A (compareOp .Is a b) Q E s := wpAny_is_plain hp (by rw [e]; exact h)
theorem isn_t {a b : Value} {Q : Value → Shared → Prop} (hp : plainIs a b = true) (e : (a == b) = false) (h : Q (.bool true) s) : wpAny M A (compareOp .IsNot a b) Q E s := wpAny_isNot_plain hp (by rw [e]; exact h)
theorem isn_f {a b : Value} {Q : Value → Shared → Prop} (hp : plainIs a b = true) (e : (a == b) = true) (h : Q (.bool false) s) : wpAny M A (compareOp .IsNot a b) Q E s := wpAny_isNot_plain hp (by rw [e]; exact h)
theorem t_bool {b : Bool} {Q : Bool → Shared → Prop} (h : Q b s) : wpAny M A (truthy (.bool b)) Q E s := fun _ _ _ => h
theorem t_none {Q : Bool → Shared → Prop} (h : Q false s) : wpAny M A (truthy .none) Q E s := fun _ _ _ => h
theorem if_t {P R : Prop} (h : P) : if (true = true) then P else R := by simpa using h
theorem if_f {P R : Prop} (h : R) : if (false = true) then P else R := by simpa using h
theorem if_tb {b : Bool} {P R : Prop} (e : b = true) (h : P) : if (b = true) then P else R := by rw [if_pos e]; exact h
theorem if_fb {b : Bool} {P R : Prop} (e : b = false) (h : R) : if (b = true) then P else R := by rw [if_neg (by rw [e]; exact Bool.false_ne_true)]; exact h
theorem x_def {name : Str} {params : Arguments} {body : List Stmt} {scope : Scope} {Q : Flow → Shared → Prop} (hd0 : params.defaults = []) (hk0 : params.kw_defaults = []) (ha : annTrees params none env = [])
    (h : wpAny M A (makeFunction name (qualnameIn env name name) params (.stmts body) scope env [] [] [] pos pos.line) (fun v s' => wpAny M A (storeName env name v) (fun _ s'' => Q .next s'') E s') E s) :
    wpAny M A (exec (.FunctionDef name params body [] none [] scope none name pos) env) Q E s := nestDef_K hd0 hk0 ha h
end
/-! Iter -/
/-- what may be in hand: nothing, or an exception without a context -/
def HOk (A : Around) (h : Heap) : Prop := A.handled = none ∨ ∃ ex o vs, A.handled = some (.ref ex) ∧ h.get? ex = some o ∧ o.data = .fields vs ∧ vs[2]? = some .none
theorem HOk.keeps {A : Around} {h h' : Heap} (x : HOk A h) (k : ∀ b o, h.get? b = some o → (∃ vs, o.data = .fields vs ∧ vs[2]? = some .none) → h'.get? b = some o) : HOk A h' := by
  rcases x with x | ⟨ex, o, vs, h1, h2, h3, h4⟩
  · exact .inl x
  · exact .inr ⟨ex, o, vs, h1, k _ _ h2 ⟨vs, h3, h4⟩, h3, h4⟩
theorem HOk.le {A : Around} {h h' : Heap} (x : HOk A h) (k : Le h h') : HOk A h' := x.keeps fun b o e _ => k b o e
theorem HOk.in1 {A : Around} {h : Heap} (x : HOk A h) : HOk A.in1 h := x
theorem HOk.deeper {A : Around} {h : Heap} {env : Env} (x : HOk A h) : HOk (A.deeper env) h := x

theorem entry_unchain : entryFor table "proto.unchain" = some Builtin.«proto.unchain» := entryFor_of_tree (by kernel_rfl)

section
variable {prog : Program} {w : World} {A : Around} {E : Value → Shared → Prop} {s : Shared}

theorem raise_new {α : Type} {Q : α → Shared → Prop} {e : Addr} {oe : Obj} {vse : Array Value} (H : HOk A s.heap) (he : s.heap.get? e = some oe) (hd : oe.data = .fields vse) (hz : 2 < vse.size) (hne : ∀ ex, A.handled = some (.ref ex) → ex ≠ e)
    (hE : ∀ h', Heap.SameBut e s.heap h' → (∃ o' vs', h'.get? e = some o' ∧ o'.cls = oe.cls ∧ o'.data = .fields vs') → E (.ref e) { s with heap := h' }) : wpAny (model prog w) A (raiseNew (.ref e) : Sem α) Q E s := by
  unfold raiseNew
  refine wpAny_bind (wpAny_handled ?_)
  rcases H with H | ⟨ex, o, vs, h1, h2, h3, h4⟩
  · rw [H]
    exact wpAny_bind (wpAny_pure (wpAny_throw (hE _ (Heap.SameBut.refl ..) ⟨oe, vse, he, rfl, hd⟩)))
  · rw [h1]
    dsimp only
    have hn : ((Value.ref ex != Value.ref e) = true) := by
      have := hne ex h1
      simp only [bne_iff_ne, ne_eq, Value.ref.injEq]
      exact this
    rw [if_pos hn]
    refine wpAny_bind (wpAny_holding (wpAny_runValue (codeAny_builtin entry_unchain ?_)))
    unfold Builtin.«proto.unchain»
    dsimp only
    refine wpAny_bind (wpAny_field h2 h3 h4 ?_)
    refine wpAny_pure ?_
    show wpAny _ _ (updateField e 2 (.ref ex) >>= _) _ _ _
    unfold updateField
    refine wpAny_bind (wpAny_bind (wpAny_load he ?_))
    rw [hd]
    dsimp only
    rw [if_pos hz]
    refine wpAny_update he ?_
    refine wpAny_throw (hE _ (Heap.SameBut.update ..) ⟨_, _, Heap.get?_update_self _ he (Obj.isFreed_of_fields (Obj.data_mapFields hd _)), Obj.cls_mapFields .., Obj.data_mapFields hd _⟩)

/-- StopIteration, from nothing: what stood stands -/
theorem stop_made {α : Type} {Q : α → Shared → Prop} (H : HOk A s.heap) (hE : ∀ h' e, Le s.heap h' → (∃ o, h'.get? e = some o ∧ o.cls = .type "StopIteration") → E (.ref e) { s with heap := h' }) :
    wpAny (model prog w) A (newExc (.type "StopIteration") [] >>= fun e => (raiseNew e : Sem α)) Q E s := by
  refine wpAny_bind ?_
  simp only [newExc, newTuple]
  refine wpAny_bind (wpAny_newObj_type ?_ (by size_fits))
  refine wpAny_bind (m := firstArgMember _ _) (wpAny_of_eq (a := Value.none) (by first | rfl | (simp only [firstArgMember]; rfl)) ?_)
  refine wpAny_newObj_type ?_ (by size_fits)
  have k1 : Le s.heap ((s.heap.push { cls := .type "tuple", data := .seq ([] : List Value).toArray }).push { cls := .type "StopIteration", data := .fields (#[Value.ref s.heap.objs.size, .none, .none, .none, .bool false, .none] ++ ownMembersOf (.type "StopIteration") []) }) := fun b o e => Heap.get?_push_of_some _ (Heap.get?_push_of_some _ e)
  refine raise_new (H.le k1) (Heap.get?_push_size _ rfl) rfl (by simp; omega) (fun ex hx => ?_) fun h' hs he => hE _ _ (fun b o e => ?_) (he.elim fun o' x => x.elim fun vs' y => ⟨o', y.1, y.2.1⟩)
  · rcases H with H | ⟨ex', o, vs, h1, h2, _⟩
    · rw [H] at hx; cases hx
    · rw [h1] at hx; cases hx
      have := Heap.lt_size h2
      exact Nat.ne_of_lt (Nat.lt_of_lt_of_le this (by rw [Heap.size_push]; exact Nat.le_succ _))
  · refine hs.extBut b o (fun z => ?_) (k1 b o e)
    have := Heap.lt_size e
    exact absurd z (Nat.ne_of_lt (Nat.lt_of_lt_of_le this (by rw [Heap.size_push]; exact Nat.le_succ _)))

theorem stop_caught {Q : Option Value → Shared → Prop} {e : Addr} (hx : ∃ o, s.heap.get? e = some o ∧ o.cls = .type "StopIteration") (h : Q none s) :
    wpAny (model prog w) A (do if ← isInstance (.ref e) (.type "StopIteration") then pure none else throw (.ref e) : Sem (Option Value)) Q E s := by
  obtain ⟨o, ho, hc⟩ := hx
  exact wpAny_bind (wpAny_isInstance (T := "StopIteration") (b := true) ⟨o, ho, hc⟩ isSubtype_stop (wpAny_pure h))

theorem tup_end {it t : Addr} {i : Nat} {items} {Q : Option Value → Shared → Prop} (H : HOk A s.heap) (hne : ∀ ex, A.handled = some (.ref ex) → ex ≠ it)
    (hit : IsTupIter s.heap it t i) (ht : IsTup s.heap t items) (hx : items[i]? = none)
    (hQ : ∀ h', Heap.ExtBut it s.heap h' → (∃ o', h'.get? it = some o' ∧ ordC o' = true) → Q none { s with heap := h' }) : wpAny (model prog w) A (pyNext (.ref it)) Q E s := by
  obtain ⟨o, ho, hc, hd⟩ := id hit
  obtain ⟨ol, hol, _, nl, hdl⟩ := ht
  unfold pyNext
  refine wpAny_bind (wpAny_attempt (wpAny_callSpecial?_slot (name := Str.ofString "__next__") hit.typeIs slot_tupleiter_next
    (wpAny_call_entry slot_tupleiter_next hit.typeIs entry_tupleiter_next ?_ (args_tupleiter_next _))))
  show wpAny _ _ (field (.ref it) 0 >>= _) _ _ s
  refine wpAny_bind (wpAny_field ho hd (x := .ref t) rfl ?_)
  show wpAny _ _ (if (Value.ref t == Value.none) = true then _ else _) _ _ s
  rw [if_neg (show ¬ ((Value.ref t == Value.none) = true) from Bool.false_ne_true)]
  show wpAny _ _ (field (.ref it) 1 >>= _) _ _ s
  refine wpAny_bind (wpAny_field ho hd (x := .int i 0) rfl ?_)
  show wpAny _ _ (seqItems? (.ref t) >>= _) _ _ s
  refine wpAny_bind (wpAny_seqItems hol hdl ?_)
  simp only [Int.toNat_natCast, hx]
  refine wpAny_bind (wpAny_rule (wpAny_bind (wpAny_setField ho hd (by simp) ?_)))
  show wpAny _ _ (newExc (.type "StopIteration") [] >>= _) _ _ _
  have H' : HOk A.in1 (s.heap.update it (Obj.mapFields (·.setIfInBounds 0 .none))) := by
    rcases H with H | ⟨ex, o, vs, h1, h2, h3, h4⟩
    · exact .inl H
    · exact .inr ⟨ex, o, vs, h1, ((Heap.SameBut.update ..).2 _ (hne _ h1)).trans h2, h3, h4⟩
  refine stop_made (s := { s with heap := s.heap.update it (Obj.mapFields (·.setIfInBounds 0 .none)) }) H' fun h' e hk hx' => ?_
  exact stop_caught hx' (hQ _ (fun b ob hb he => hk _ _ ((Heap.SameBut.update ..).extBut b ob hb he)) ⟨_, hk _ _ (Heap.get?_update_self _ ho (Obj.isFreed_of_fields (Obj.data_mapFields hd _))), by simp [ordC, Obj.data_mapFields hd, Obj.cls_mapFields, hc]⟩)

theorem list_end {it l : Addr} {i : Nat} {items} {Q : Option Value → Shared → Prop} (H : HOk A s.heap) (hne : ∀ ex, A.handled = some (.ref ex) → ex ≠ it)
    (hit : s.heap.IsListIter it l i) (hl : s.heap.IsList l items) (hx : items[i]? = none)
    (hQ : ∀ h', Heap.ExtBut it s.heap h' → (∃ o', h'.get? it = some o' ∧ ordC o' = true) → Q none { s with heap := h' }) : wpAny (model prog w) A (pyNext (.ref it)) Q E s := by
  obtain ⟨o, ho, hc, hd⟩ := id hit
  obtain ⟨ol, hol, _, nl, hdl⟩ := hl
  unfold pyNext
  refine wpAny_bind (wpAny_attempt (wpAny_callSpecial?_slot (name := Str.ofString "__next__") hit.typeIs slot_listiter_next
    (wpAny_call_entry slot_listiter_next hit.typeIs entry_listiter_next ?_ (args_listiter_next _))))
  show wpAny _ _ (field (.ref it) 0 >>= _) _ _ s
  refine wpAny_bind (wpAny_field ho hd (x := .ref l) rfl ?_)
  show wpAny _ _ (if (Value.ref l == Value.none) = true then _ else _) _ _ s
  rw [if_neg (show ¬ ((Value.ref l == Value.none) = true) from Bool.false_ne_true)]
  show wpAny _ _ (field (.ref it) 1 >>= _) _ _ s
  refine wpAny_bind (wpAny_field ho hd (x := .int i 0) rfl ?_)
  show wpAny _ _ (seqItems? (.ref l) >>= _) _ _ s
  refine wpAny_bind (wpAny_seqItems hol hdl ?_)
  simp only [Int.toNat_natCast, hx]
  refine wpAny_bind (wpAny_rule (wpAny_bind (wpAny_setField ho hd (by simp) ?_)))
  show wpAny _ _ (newExc (.type "StopIteration") [] >>= _) _ _ _
  have H' : HOk A.in1 (s.heap.update it (Obj.mapFields (·.setIfInBounds 0 .none))) := by
    rcases H with H | ⟨ex, o, vs, h1, h2, h3, h4⟩
    · exact .inl H
    · exact .inr ⟨ex, o, vs, h1, ((Heap.SameBut.update ..).2 _ (hne _ h1)).trans h2, h3, h4⟩
  refine stop_made (s := { s with heap := s.heap.update it (Obj.mapFields (·.setIfInBounds 0 .none)) }) H' fun h' e hk hx' => ?_
  exact stop_caught hx' (hQ _ (fun b ob hb he => hk _ _ ((Heap.SameBut.update ..).extBut b ob hb he)) ⟨_, hk _ _ (Heap.get?_update_self _ ho (Obj.isFreed_of_fields (Obj.data_mapFields hd _))), by simp [ordC, Obj.data_mapFields hd, Obj.cls_mapFields, hc]⟩)

theorem enum_end {e it l : Addr} {i : Nat} {items : Array Value} {old : Value} {Q : Option Value → Shared → Prop} (H : HOk A s.heap) (hne : ∀ ex, A.handled = some (.ref ex) → ex ≠ it)
    (he : IsEnum s.heap e it i old) (hit : s.heap.IsListIter it l i) (hl : s.heap.IsList l items) (hx : items[i]? = none)
    (hQ : ∀ h', Heap.ExtBut it s.heap h' → (∃ o', h'.get? it = some o' ∧ ordC o' = true) → Q none { s with heap := h' }) : wpAny (model prog w) A (pyNext (.ref e)) Q E s := by
  have hT : s.TypeIs (.ref e) "enumerate" := ⟨_, he, rfl⟩
  obtain ⟨o, ho, hc, hd⟩ := id hit
  obtain ⟨ol, hol, _, nl, hdl⟩ := hl
  unfold pyNext
  refine wpAny_bind (wpAny_attempt (wpAny_callSpecial?_slot (name := Str.ofString "__next__") hT F.slot_enumerate_next
    (wpAny_call_entry F.slot_enumerate_next hT F.entry_enumerate_next ?_ (F.args_enumerate_next_1 _))))
  show wpAny _ _ (field (.ref e) 2 >>= _) _ _ _
  refine wpAny_bind (wpAny_field he rfl (x := .ref it) rfl ?_)
  refine wpAny_bind ?_
  unfold Builtin.SmallTypes.nextOf
  refine wpAny_bind (wpAny_callSpecial?_slot (name := Str.ofString "__next__") hit.typeIs slot_listiter_next
    (wpAny_call_entry slot_listiter_next hit.typeIs entry_listiter_next ?_ (args_listiter_next _)))
  show wpAny _ _ (field (.ref it) 0 >>= _) _ _ s
  refine wpAny_bind (wpAny_field ho hd (x := .ref l) rfl ?_)
  show wpAny _ _ (if (Value.ref l == Value.none) = true then _ else _) _ _ s
  rw [if_neg (show ¬ ((Value.ref l == Value.none) = true) from Bool.false_ne_true)]
  show wpAny _ _ (field (.ref it) 1 >>= _) _ _ s
  refine wpAny_bind (wpAny_field ho hd (x := .int i 0) rfl ?_)
  show wpAny _ _ (seqItems? (.ref l) >>= _) _ _ s
  refine wpAny_bind (wpAny_seqItems hol hdl ?_)
  simp only [Int.toNat_natCast, hx]
  refine wpAny_bind (wpAny_rule (wpAny_bind (wpAny_setField ho hd (by simp) ?_)))
  show wpAny _ _ (newExc (.type "StopIteration") [] >>= _) _ _ _
  have H' : HOk A.in1.in1 (s.heap.update it (Obj.mapFields (·.setIfInBounds 0 .none))) := by
    rcases H with H | ⟨ex, o, vs, h1, h2, h3, h4⟩
    · exact .inl H
    · exact .inr ⟨ex, o, vs, h1, ((Heap.SameBut.update ..).2 _ (hne _ h1)).trans h2, h3, h4⟩
  refine stop_made (s := { s with heap := s.heap.update it (Obj.mapFields (·.setIfInBounds 0 .none)) }) H' fun h' e hk hx' => ?_
  exact stop_caught hx' (hQ _ (fun b ob hb he => hk _ _ ((Heap.SameBut.update ..).extBut b ob hb he)) ⟨_, hk _ _ (Heap.get?_update_self _ ho (Obj.isFreed_of_fields (Obj.data_mapFields hd _))), by simp [ordC, Obj.data_mapFields hd, Obj.cls_mapFields, hc]⟩)

theorem unpack_any {t : Addr} {items : Array Value} {n : Nat} {Q : List Value → Shared → Prop} (H : HOk A s.heap) (ht : IsTup s.heap t items) (hn : n = items.size)
    (hQ : ∀ h', Le s.heap h' → Q items.toList { s with heap := h' }) : wpAny (model prog w) A (unpackItems (.ref t) n none) Q E s := by
  subst hn
  have hlt : t ≠ s.heap.objs.size := by obtain ⟨o, ho, _⟩ := ht; exact Nat.ne_of_lt (Heap.lt_size ho)
  unfold unpackItems
  refine wpAny_bind ?_
  · unfold notIterableAtAll
    refine wpAny_bind (wpAny_specialOf ht.typeIs slot_tuple_iter.lookup ?_)
    refine wpAny_pure ?_
    simp only [Bool.false_eq_true, if_false]
    refine wpAny_bind (wpAny_holding (iter_tuple ht ?_))
    refine wpAny_bind (wpAny_holding (draw_tuple hlt items.size 0 _ _ ⟨_, Heap.get?_push_size _ rfl, rfl, rfl⟩ (ht.push _) (by omega) fun h₁ hit₁ hs₁ => ?_))
    have hall : List.take items.size (List.drop 0 items.toList) = items.toList := by
      rw [List.drop_zero]; exact List.take_of_length_le (by simp)
    rw [hall]
    rw [if_neg (by simp)]
    have ht₁ : IsTup h₁ t items := (ht.push _).extBut hs₁.extBut hlt
    have lt : ∀ ex o, s.heap.get? ex = some o → ex ≠ s.heap.objs.size := fun ex o e => Nat.ne_of_lt (Heap.lt_size e)
    have H₁ : HOk A h₁ := H.keeps fun b o e _ => hs₁.extBut b o (lt b o e) (Heap.get?_push_of_some _ e)
    refine wpAny_bind (wpAny_holding (tup_end H₁ (fun ex hx => ?_) hit₁ ht₁ (by simp) fun h₂ he₂ _ => ?_))
    · rcases H with H | ⟨ex', o, vs, h1, h2, _⟩
      · rw [H] at hx; cases hx
      · rw [h1] at hx; cases hx; exact lt _ _ h2
    simp only [Option.isSome_none, Bool.false_eq_true, if_false]
    refine wpAny_pure (hQ h₂ fun b o e => he₂ b o (lt b o e) (hs₁.extBut b o (lt b o e) (Heap.get?_push_of_some _ e)))
end

section
variable {c : Fx} {g : Heap} {m : Str → Option Value} {r : List (Addr × Obj)} {s : Shared} {A : Around} {E : Value → Shared → Prop} {env : Env}

/-- what is in hand, seen from a frame -/
def Hnd (A : Around) (g : Heap) : Prop := HOk A g
theorem Hnd.here (H : Hnd A g) (F : St c g m r s) : HOk A s.heap := H.le F.sub
theorem Hnd.le {g' : Heap} (H : Hnd A g) (l : Le g g') : Hnd A g' := HOk.le H l

theorem St.more {h' : Heap} {t : Tok} (F : St c g m r s) (k : Le s.heap h') : St c g m r { s with heap := h', toks := t } := by
  have hz : c.L < h'.objs.size := (F.ns.keeps k).lt
  exact {
    gens := F.gens, os := F.os, base := F.base, sub := F.sub.trans k
    tabs := fun q hq => ⟨(F.tabs q hq).1.le k, (F.tabs q hq).2⟩
    own := fun p hp => ⟨k _ _ (F.own p hp).1, (F.own p hp).2⟩
    nd := F.nd
    Bsz := Nat.le_trans F.Bse (Nat.le_trans F.eL (Nat.le_of_lt hz))
    g0e := F.g0e, Bg0 := F.Bg0, Bse := F.Bse, g0g := F.g0g, fresh := F.fresh
    keep := fun b o e n x => k _ _ (F.keep b o e n x)
    size := Nat.le_trans F.eL (Nat.le_of_lt hz)
    ns := F.ns.keeps k
    gL := F.gL, rL := F.rL, eL := F.eL, ownX := F.ownX, Xr := F.Xr }

theorem unp {prog : Program} {w : World} {t : Addr} {items : Array Value} {n : Nat} {Q : List Value → Shared → Prop} (F : St c g m r s) (H : Hnd A g) (ht : IsTup g t items) (hn : n = items.size) (h : ∀ s', St c g m r s' → Q items.toList s') :
    wpAny (model prog w) A (unpackItems (.ref t) n none) Q E s :=
  unpack_any (H.here F) (ht.keeps F.sub) hn fun h' k => h _ (F.more k)
theorem as_tup {prog : Program} {w : World} {elts : List Expr} {k : Nat} {pos : Pos} {t : Addr} {items : Array Value} {Q : Unit → Shared → Prop} (F : St c g m r s) (H : Hnd A g) (ht : IsTup g t items) (hn : (assignEach elts env).length = items.size)
    (hstar : (assignEach elts env).findIdx? (·.1) = none) (h : ∀ s', St c g m r s' → wpAny (model prog w) A (assignInOrder ((assignEach elts env).map (·.2)) items.toList) Q E s') :
    wpAny (model prog w) A (assign (.Tuple elts k pos) env (.ref t)) Q E s := by
  rw [assign_Tuple]
  refine wpAny_bind (wpAny_standAt ?_)
  unfold unpack
  rw [hstar]
  exact wpAny_bind (wpAny_holding (unp F H ht hn fun s' F' => h s' F'))
end
theorem back {f : Fx} {g0 g : Heap} {m : Str → Option Value} {r : List (Addr × Obj)} {s0 s : Shared} {Q : Value → Heap → Prop} {v : Value} (F : St f g m r s) (he : f.e = s0.heap) (hg : f.g0 = g0) (hX : f.X = ([] : List (Addr × Obj)).map (·.1)) (q : Q v g) :
    ∃ v' g', (Except.ok (Flow.ret v) : Result) = .ok (.ret v') ∧ Post f.toWd g0 [] s0 g' [] s ∧ Q v' g' := ⟨v, g, rfl, F.exit he hg hX (List.nil_sublist _) rfl, q⟩
theorem hnd0 {A : Around} {g : Heap} (h : A.handled = none) : Hnd A g := .inl h

/-- a def of the text, its body walked -/
theorem calmK {d : Wd} {K0 : Frag} {n : Nat} {g : Heap} {Q : Value → Heap → Prop} {a : Addr} {name qual : Str} {params : Arguments} {body : List Stmt} {scope : Scope} {clo : List (Str × Addr)} {dV kV doc pm cdv ct oc : Value} {an od : Option Addr} {osl : Array (Option Value)} {pos : List Value} {kw : List (Str × Value)} {binds bs : List (Str × Value)}
    (hK : d.K = K0) (hB : Base d) (ho : K0.lookup a = some ⟨oc, od, .func (fnX name qual params body scope clo dV kV doc pm an cdv ct), osl⟩) (hcd : codeIn K0 cdv qual = true)
    (hbind : ∀ s : Shared, Le d.B s.heap → BindsTo s (fnX name qual params body scope clo dV kV doc pm an cdv ct) ⟨pos, kw⟩ binds) (hrev : binds.reverse = bs)
    (hcell : ∀ x ∈ scope.names, x.2 ≠ .cell) (hloc : (binds.all fun x => decide (scope.names.lookup x.1 = some .local)) = true)
    (hco : scope.isCoroutine = false) (hgen : scope.isGenerator = false) (hk : scope.kind = .function)
    (h : ∀ (f : Fx) s s₁ env A, f.toWd = d → Room A n → A.handled = none → f.e = s.heap → f.g0 = g → f.X = ([] : List (Addr × Obj)).map (·.1) → EnvOk env scope f.L clo cdv → env = envX qual scope f.L a cdv clo → St f g (lk bs) [] s₁ →
      wpAny (model d.prog d.w) A (execs body env) (fun fl s' => ∃ v' g', (Except.ok (Flow.ret (match fl with | .ret v => v | _ => .none)) : Result) = .ok (.ret v') ∧ Post d g [] s g' [] s' ∧ Q v' g') (fun _ _ => False) s₁) : Calm d (n + 1) (.ref a) pos kw g Q := by
  intro A s hR hh W
  refine enterK hK hB W hR.depth ho hcd (hbind s (W.base.trans W.sub)) hrev hcell hloc hco hgen hk fun f s₁ env e1 e2 e3 e4 En hE F => ?_
  exact wpAny_mono (h f s s₁ env (A.deeper env) e1 hR.deeper hh e2 e3 e4 En hE F) (fun _ _ z => z) fun _ _ z => z.elim
theorem binds_eq {d : Wd} {fd : FuncData} {args : Args} {binds : List (Str × Value)} (h : bindArgs fd args = pure binds) : ∀ s : Shared, Le d.B s.heap → BindsTo s fd args binds := fun _ _ => BindsTo.of_eq h
/-! Inst -/
/-! the dicts of instances -/
def AllStr (es : List DictEntry) : Prop := ∀ e ∈ es, ∃ n t, e.key = .str n t
def findL (name : Str) (es : List DictEntry) : Option Value := (es.find? (·.key.isStr name)).map (·.val)
theorem getL_of {es : List DictEntry} (h : AllStr es) (name : Str) : getL name es = some (findL name es) := by
  have : es.any (·.refKey) = false := by
    rw [List.any_eq_false]
    intro e he
    obtain ⟨n, t, q⟩ := h e he
    simp [DictEntry.refKey, q]
  unfold getL findL
  cases es.find? (·.key.isStr name) with
  | none => simp [this]
  | some e => rfl
theorem putL_str {name : Str} {hsh : Int} {t : Tok} {v : Value} : ∀ {es : List DictEntry}, AllStr es → AllStr (putL name hsh (.str name t) v es)
  | [], _ => fun e he => by
    simp only [putL, List.mem_singleton] at he
    subst he; exact ⟨_, _, rfl⟩
  | e :: r, h => fun x hx => by
    unfold putL at hx
    split at hx
    · rcases List.mem_cons.mp hx with rfl | hx
      · exact h e (.head _)
      · exact h x (.tail _ hx)
    · rcases List.mem_cons.mp hx with rfl | hx
      · exact h _ (.head _)
      · exact putL_str (fun y hy => h y (.tail _ hy)) x hx
theorem putL_len {name : Str} {hsh : Int} {t : Tok} {v : Value} : ∀ {es : List DictEntry}, (putL name hsh (.str name t) v es).length ≤ es.length + 1
  | [] => Nat.le_refl _
  | e :: r => by
    unfold putL
    split
    · exact Nat.le_succ _
    · exact Nat.succ_le_succ putL_len
theorem findL_put (name x : Str) (hsh : Int) (t : Tok) (v : Value) : ∀ es : List DictEntry, findL x (putL name hsh (.str name t) v es) = if x = name then some v else findL x es
  | [] => by
    simp only [putL, findL, List.find?_cons, List.find?_nil, Value.isStr]
    by_cases hx : x = name
    · subst hx; simp
    · have : (name == x) = false := beq_eq_false_iff_ne.mpr (Ne.symm hx)
      simp [this, hx]
  | e :: r => by
    have ih := findL_put name x hsh t v r
    by_cases he : e.key.isStr name = true
    · simp only [putL, he, if_true, findL, List.find?_cons]
      by_cases hx : x = name
      · subst hx
        simp [he]
      · have hne : e.key.isStr x = false := by
          cases q : e.key.isStr x with
          | false => rfl
          | true => exact absurd (Value.isStr_inj _ _ _ q he) hx
        simp [hne, hx]
    · have he' : e.key.isStr name = false := by simpa using he
      simp only [putL, he', Bool.false_eq_true, if_false]
      unfold findL at ih ⊢
      rw [List.find?_cons, List.find?_cons]
      cases hx : e.key.isStr x with
      | true =>
        have hne : x ≠ name := fun z => by rw [← z, hx] at he'; cases he'
        simp [hne]
      | false => exact ih

/-- a dict of names: what it holds, read from a list (the newest first) -/
def DictF (od : Obj) (l : List (Str × Value)) (k : Nat) : Prop := ∃ es n, od = dictOf es n ∧ es.length ≤ k ∧ AllStr es ∧ ∀ name, findL name es = lk l name
theorem DictF.empty : DictF (dictOf [] 0) [] 0 := ⟨[], 0, rfl, Nat.le_refl _, fun _ h => (nomatch h), fun _ => rfl⟩
theorem DictF.le {od : Obj} {l : List (Str × Value)} {k k' : Nat} (h : DictF od l k) (hk : k ≤ k') : DictF od l k' := let ⟨es, n, a, b, c⟩ := h; ⟨es, n, a, Nat.le_trans b hk, c⟩
theorem DictF.ord {od : Obj} {l : List (Str × Value)} {k : Nat} (h : DictF od l k) : ordC od = true := by obtain ⟨es, n, rfl, _⟩ := h; rfl

/-- an made object of a class of the text -/
def InstF (h : Heap) (x C : Addr) (l : List (Str × Value)) : Prop := ∃ dx od, h.get? x = some (instObj C dx) ∧ h.get? dx = some od ∧ DictF od l 60
theorem InstF.le {g h : Heap} {x C : Addr} {l : List (Str × Value)} (i : InstF g x C l) (k : Le g h) : InstF h x C l := let ⟨dx, od, a, b, c⟩ := i; ⟨dx, od, k _ _ a, k _ _ b, c⟩

/-- what the class says of a plain field -/
def fldOk (K : Frag) (C : Addr) (name : Str) : Bool := plainGet K C name && hasDictIn K C && (match findIn K (.ref C) name with | some attr => noGet K attr | none => false)
def setOk (K : Frag) (C : Addr) (name : Str) : Bool := findIn K (.ref C) "__setattr__" == some (some (.builtin "object.__setattr__")) && plainOver K C && takerIn K C name == some none && hasDictIn K C

section
variable {c : Fx} {g : Heap} {m : Str → Option Value} {r : List (Addr × Obj)} {s : Shared} {A : Around} {E : Value → Shared → Prop}

/-- a field read -/
theorem ga {K0 : Frag} {x C : Addr} {l : List (Str × Value)} {name : Str} {v : Value} {expr : Bool} {Q : Value → Shared → Prop} (hB : Base c.toWd) (hK : c.K = K0) (F : St c g m r s) (I : InstF g x C l) (hl : lk l name = some v) (hf : fldOk K0 C name = true) (hv : handedIn v = true)
    (h : ∀ s', St c g m r s' → Q v s') : wpAny (model c.prog c.w) A (getAttr (.ref x) name expr) Q E s := by
  subst hK
  obtain ⟨dx, od, h1, h2, es, n, rfl, hz, hs, hfi⟩ := I
  unfold fldOk at hf
  rw [Bool.and_eq_true, Bool.and_eq_true] at hf
  obtain ⟨⟨f1, f2⟩, f3⟩ := hf
  split at f3
  · rename_i attr ha
    exact get_value (F.KIn hB) ⟨F.sub _ _ h1, rfl, rfl, F.sub _ _ h2⟩ (plainGet_of f1).1 (findObj_own f2 ha f3 (by rw [lookIn_dict, getL_of hs, hfi, hl])) hv (h _ F.toks)
  · cases f3

/-- a method met at an made object -/
theorem gm {K0 : Frag} {x C : Addr} {l : List (Str × Value)} {name : Str} {f : Addr} {pl : Sem Bool} {Q : Value × List Value → Shared → Prop} (hB : Base c.toWd) (hK : c.K = K0) (F : St c g m r s) (I : InstF g x C l) (hl : lk l name = none) (hg : plainGet K0 C name = true)
    (hf : findIn K0 (.ref C) name = some (some (.ref f))) (ht : isFn K0 (.ref f) = true) (h : Q (.ref f, [.ref x]) s) : wpAny (model c.prog c.w) A (getMethod (.ref x) name pl) Q E s := by
  subst hK
  obtain ⟨dx, od, h1, h2, es, n, rfl, hz, hs, hfi⟩ := I
  exact method_fn (od := some (dictOf es n)) (F.KIn hB) (PySem.W.InstAt.mk (F.sub _ _ h1) rfl rfl (F.sub _ _ h2)) (plainGet_of hg).1 (plainGet_of hg).2 hf (beq_iff_eq.mp ht) (by
    show (lookIn name (dictOf es n)).map _ = _
    rw [lookIn_dict, getL_of hs, hfi, hl]; rfl) h

theorem upd_of {news : List (Addr × Obj)} {a : Addr} {o o' : Obj} : ∀ {l : List (Addr × Obj)}, (l.map (·.1)).Nodup → (a, o) ∈ l → Upd a o o' l (l.map fun p => if p.1 = a then (a, o') else p)
  | [], _, h => nomatch h
  | p :: r, nd, h => by
    rw [List.map_cons, List.nodup_cons] at nd
    rcases List.mem_cons.mp h with e | h
    · subst e
      have hr : ∀ p ∈ r, p.1 ≠ a := fun p hp e => nd.1 (by rw [← e]; exact List.mem_map_of_mem (f := (·.1)) hp)
      have : r.map (fun p => if p.1 = a then (a, o') else p) = r := by
        conv => rhs; rw [← List.map_id r]
        exact List.map_congr_left fun p hp => by rw [if_neg (hr p hp)]; rfl
      rw [List.map_cons, this, if_pos rfl]
      exact .head hr
    · have hp : p.1 ≠ a := fun e => nd.1 (by
        have := List.mem_map_of_mem (f := (·.1)) h
        rw [e]; exact this)
      rw [List.map_cons, if_neg hp]
      exact .tail hp (upd_of (news := news) nd.2 h)

/-- a field stored into an made object whose dict is the frame's own -/
theorem sa {K0 : Frag} {x C dx : Addr} {od : Obj} {l : List (Str × Value)} {k : Nat} {name : Str} {v : Value} {Q : Unit → Shared → Prop} (hB : Base c.toWd) (hK : c.K = K0) (F : St c g m ((dx, od) :: r) s) (hx : s.heap.get? x = some (instObj C dx)) (D : DictF od l k) (hk : k < 900)
    (hf : setOk K0 C name = true) (h : ∀ od' s', DictF od' ((name, v) :: l) (k + 1) → St c g m ((dx, od') :: r) s' → Q () s') : wpAny (model c.prog c.w) A (setAttr (.ref x) name v) Q E s := by
  subst hK
  obtain ⟨es, n, rfl, hz, hs, hfi⟩ := D
  unfold setOk at hf
  rw [Bool.and_eq_true, Bool.and_eq_true, Bool.and_eq_true] at hf
  obtain ⟨⟨⟨f1, f2⟩, f3⟩, f4⟩ := hf
  obtain ⟨news, Fr0, N0, D0⟩ := F.lift
  have own := F.own _ (.head _)
  have hmem : (dx, dictOf es n) ∈ news := D0.all _ _ own.1 (F.rL _ (.head _)) (F.Bnone own.2.1)
  refine PySem.W.set_dict Fr0 hB.K N0 ⟨hx, rfl, rfl, own.1⟩ rfl (beq_iff_eq.mp f1) f2 (beq_iff_eq.mp f3) f4 (by rw [getL_of hs]; rfl) rfl (upd_of (news := news) D0.nd hmem) (by have := putL_len (name := name) (hsh := PyData.keyHash c.w.params name) (t := s.toks + 1) (v := v) (es := es); omega) fun h' F' N' => ?_
  have D' : DictF (dictOf (putL name (PyData.keyHash c.w.params name) (.str name (s.toks + 1)) v es) (putN name es n)) ((name, v) :: l) (k + 1) :=
    ⟨_, _, rfl, Nat.le_trans putL_len (Nat.succ_le_succ hz), putL_str hs, fun y => by rw [findL_put, ← lk_put, hfi]⟩
  refine h _ _ D' ?_
  have := F.back (h' := h') (o' := dictOf (putL name (PyData.keyHash c.w.params name) (.str name (s.toks + 1)) v es) (putN name es n)) (t := s.toks + 2) D0 (.head _) rfl F' N' (List.mem_map.mpr ⟨_, hmem, by rw [if_pos rfl]⟩) fun p hp hne => List.mem_map.mpr ⟨p, hp, by rw [if_neg hne]⟩
  simpa only [setR, if_true] using this

/-- a known object that is the frame's own after all -/
theorem St.thaw {a : Addr} {o : Obj} (F : St c g m r s) (ha : g.get? a = some o) (hg : c.g0.get? a = none) (ho : ordC o = true) :
    ∃ g', Le g' g ∧ (∀ b o, b ≠ a → g.get? b = some o → g'.get? b = some o) ∧ g'.get? a = none ∧ Le c.g0 g' ∧ St c g' m ((a, o) :: r) s := by
  have he : c.e.get? a = none := by
    rcases F.fresh a o ha with ⟨o', z⟩ | z | z
    · rw [hg] at z; cases z
    · exact z
    · rw [ho] at z; cases z
  have up : ∀ b ob, (pick g fun b => b ≠ a).get? b = some ob → g.get? b = some ob := fun b ob e => ((pick_get ..).mp e).2
  have dn : ∀ b ob, b ≠ a → g.get? b = some ob → (pick g fun b => b ≠ a).get? b = some ob := fun b ob hb e => (pick_get ..).mpr ⟨hb, e⟩
  have no : (pick g fun b => b ≠ a).get? a = none := by
    cases q : (pick g fun b => b ≠ a).get? a with
    | none => rfl
    | some ob => exact absurd rfl ((pick_get ..).mp q).1
  have none_of : ∀ b, g.get? b = none → (pick g fun b => b ≠ a).get? b = none := fun b h => by
    cases q : (pick g fun b => b ≠ a).get? b with
    | none => rfl
    | some ob => rw [up _ _ q] at h; cases h
  have g0' : Le c.g0 (pick g fun b => b ≠ a) := fun b ob e => dn b ob (fun z => by rw [z, hg] at e; cases e) (F.g0g b ob e)
  have hra : ∀ p ∈ r, p.1 ≠ a := fun p hp e => by
    have := (F.own p hp).2.1
    rw [e, ha] at this; cases this
  refine ⟨_, up, dn, no, g0', { F with
    base := F.Bg0.trans g0'
    sub := fun b ob e => F.sub b ob (up b ob e)
    tabs := fun q hq => ⟨(F.tabs q hq).1, none_of _ (F.tabs q hq).2⟩
    own := fun p hp => by
      rcases List.mem_cons.mp hp with rfl | hp
      · exact ⟨F.sub _ _ ha, no, ho⟩
      · exact ⟨(F.own p hp).1, none_of _ (F.own p hp).2.1, (F.own p hp).2.2⟩
    nd := by
      rw [List.map_cons, List.nodup_cons]
      exact ⟨fun hm => by obtain ⟨p, hp, e⟩ := List.mem_map.mp hm; exact hra p hp e, F.nd⟩
    g0g := g0'
    fresh := fun b ob e => F.fresh b ob (up b ob e)
    gL := none_of _ F.gL
    rL := fun p hp => by
      rcases List.mem_cons.mp hp with rfl | hp
      · intro e; have := F.gL; rw [← show a = c.L from e, ha] at this; cases this
      · exact F.rL p hp
    ownX := fun p hp => by
      rcases List.mem_cons.mp hp with rfl | hp
      · exact .inl he
      · exact F.ownX p hp
    Xr := fun x hx => (F.Xr x hx).elim fun o h => ⟨o, .tail _ h⟩ }⟩

/-- own objects let go -/
theorem St.drop {r' : List (Addr × Obj)} (F : St c g m r s) (h : r'.Sublist r) (hX : c.X = []) : St c g m r' s := { F with
  own := fun p hp => F.own p (h.subset hp)
  nd := (h.map (·.1)).nodup F.nd
  rL := fun p hp => F.rL p (h.subset hp)
  ownX := fun p hp => F.ownX p (h.subset hp)
  Xr := fun x hx => by rw [hX] at hx; cases hx }
end

/-- an made object made: its __init__ walked, its dict the frame's own -/
theorem calmCls {d : Wd} {K0 : Frag} {n : Nat} {g : Heap} {Q : Value → Heap → Prop} {C a : Addr} {name qual : Str} {params : Arguments} {body : List Stmt} {scope : Scope} {clo : List (Str × Addr)} {dV kV doc pm cdv ct oc : Value} {an od : Option Addr} {osl : Array (Option Value)} {pos : List Value} {kw : List (Str × Value)} {binds bs : Addr → List (Str × Value)}
    (hK : d.K = K0) (hB : Base d) (hm : makesIn K0 C = true) (hi : findIn K0 (.ref C) "__init__" = some (some (.ref a))) (hfn : isFn K0 (.ref a) = true) (ho : K0.lookup a = some ⟨oc, od, .func (fnX name qual params body scope clo dV kV doc pm an cdv ct), osl⟩) (hcd : codeIn K0 cdv qual = true)
    (hbind : ∀ x, ∀ s : Shared, Le d.B s.heap → BindsTo s (fnX name qual params body scope clo dV kV doc pm an cdv ct) ⟨.ref x :: pos, kw⟩ (binds x)) (hrev : ∀ x, (binds x).reverse = bs x)
    (hcell : ∀ x ∈ scope.names, x.2 ≠ .cell) (hloc : ∀ x, ((binds x).all fun x => decide (scope.names.lookup x.1 = some .local)) = true)
    (hco : scope.isCoroutine = false) (hgen : scope.isGenerator = false) (hk : scope.kind = .function)
    (h : ∀ (f : Fx) s s₁ env A x dx, f.toWd = d → Room A n → A.handled = none → f.e = s.heap → f.g0 = g → f.X = ([] : List (Addr × Obj)).map (·.1) → EnvOk env scope f.L clo cdv → env = envX qual scope f.L a cdv clo → St f g (lk (bs x)) [(dx, dictOf [] 0), (x, instObj C dx)] s₁ → s.heap.get? x = none → s.heap.get? dx = none →
      wpAny (model d.prog d.w) A (execs body env) (fun fl s' => (match fl with | .ret v => v | _ => .none) = .none ∧ ∃ g', Post d g [] s g' [] s' ∧ Q (.ref x) g') (fun _ _ => False) s₁) : Calm d (n + 2) (.ref C) pos kw g Q := by
  subst hK
  intro A s hR hh W
  obtain ⟨hp, gens, dr, tk, os⟩ := s
  have X := hB.K.keeps (W.base.trans W.sub)
  refine make_core (makes_of X hm) (looks_findIn X hi) (fun self => bind_fn X self (beq_iff_eq.mp hfn)) (.inl rfl) ?_
  have k2 : Le hp ((hp.push emptyDict).push (instObj C hp.objs.size)) := fun b o e => Heap.get?_push_of_some _ (Heap.get?_push_of_some _ e)
  have n1 : hp.get? hp.objs.size = none := fresh_none (Nat.le_refl _)
  have n2 : hp.get? (hp.objs.size + 1) = none := fresh_none (Nat.le_succ _)
  have gn : ∀ a, hp.get? a = none → g.get? a = none := fun a ha => by
    cases q : g.get? a with
    | none => rfl
    | some o => have : hp.get? a = some o := W.sub _ _ q; rw [ha] at this; cases this
  have W2 : Wo d g [(hp.objs.size, dictOf [] 0), (hp.objs.size + 1, instObj C hp.objs.size)] ⟨(hp.push emptyDict).push (instObj C hp.objs.size), gens, dr, tk, os⟩ := {
    gens := W.gens, os := W.os, base := W.base, sub := W.sub.trans k2
    tabs := fun q hq => ⟨(W.tabs q hq).1.le k2, (W.tabs q hq).2⟩
    own := fun p hp' => by
      rcases List.mem_cons.mp hp' with rfl | hp'
      · exact ⟨Heap.get?_push_of_some _ (Heap.get?_push_size _ rfl), gn _ n1, rfl⟩
      · obtain rfl := List.mem_singleton.mp hp'
        refine ⟨?_, gn _ n2, rfl⟩
        have := Heap.get?_push_size (hp.push emptyDict) (o := instObj C hp.objs.size) rfl
        rwa [Heap.size_push] at this
    nd := by simp
    Bsz := Nat.le_trans W.Bsz (by show hp.objs.size ≤ _; rw [Heap.size_push, Heap.size_push]; omega) }
  refine enterE (X := []) (e0 := hp) hB W2 W.sub k2 (by show hp.objs.size ≤ _; rw [Heap.size_push, Heap.size_push]; omega) W.Bsz (fun p hp' => ?_) (fun _ h => nomatch h) (by have := hR.1; show A.depth + 1 < _; omega) (k2 _ _ (X _ _ ho)) (codeRec_of (X.keeps k2) hcd) (hbind _ _ ((W.base.trans W.sub).trans k2)) (hrev _) hcell (hloc _) (fun f s₁ env e1 e2 e3 e4 En hE F => ?_) hco hgen hk
  · rcases List.mem_cons.mp hp' with rfl | hp'
    · exact .inl n1
    · obtain rfl := List.mem_singleton.mp hp'
      exact .inl n2
  · have RR : Room ((A.under (.builtin "type.__call__" ⟨.ref C :: pos, kw⟩)).deeper env) n := by
      have h1 := hR.1
      have h2 := hR.2
      refine ⟨?_, ?_⟩
      · show A.depth + 1 + 1 + n < _; omega
      · show A.units + 1 + 3 + 4 * n < _; omega
    refine wpAny_mono (h f ⟨hp, gens, dr, tk, os⟩ s₁ env _ (hp.objs.size + 1) hp.objs.size e1 RR hh e2 e3 e4 En hE F n2 n1) (fun fl s' z => ?_) fun _ _ (z : False) => z.elim
    · obtain ⟨z1, g', P, q⟩ := z
      exact ⟨z1, _, g', rfl, P, q⟩
/-- an made object that was not known before -/
def InstN (g g' : Heap) (x C : Addr) (l : List (Str × Value)) : Prop := ∃ dx od, g.get? x = none ∧ g.get? dx = none ∧ g'.get? x = some (instObj C dx) ∧ g'.get? dx = some od ∧ DictF od l 60
theorem InstN.inst {g g' : Heap} {x C : Addr} {l : List (Str × Value)} (i : InstN g g' x C l) : InstF g' x C l := let ⟨dx, od, _, _, a, b, c⟩ := i; ⟨dx, od, a, b, c⟩
theorem InstN.le {g g' g'' : Heap} {x C : Addr} {l : List (Str × Value)} (i : InstN g g' x C l) (k : Le g' g'') : InstN g g'' x C l := let ⟨dx, od, p, q, a, b, c⟩ := i; ⟨dx, od, p, q, k _ _ a, k _ _ b, c⟩

theorem finInst {f : Fx} {g : Heap} {m : Str → Option Value} {r : List (Addr × Obj)} {s : Shared} {x C dx : Addr} {od : Obj} {l : List (Str × Value)} {k : Nat} (F : St f g m ((dx, od) :: (x, instObj C dx) :: r) s) (D : DictF od l k) (hk : k ≤ 60) (hX : f.X = []) :
    ∃ g', Le g g' ∧ InstN g g' x C l ∧ (∀ b o, g'.get? b = some o → g.get? b = some o ∨ b = x ∨ b = dx) ∧ St f g' m r s := by
  have nx : ∀ a, a ∉ f.X := fun a h => by rw [hX] at h; cases h
  obtain ⟨g1, l1, k1, w1, F1⟩ := St.freeze (r1 := []) F (nx dx)
  obtain ⟨g2, l2, k2, w2, F2⟩ := St.freeze (r1 := []) F1 (nx x)
  refine ⟨g2, l1.trans l2, ⟨dx, od, (F.own _ (.tail _ (.head _))).2.1, (F.own _ (.head _)).2.1, k2, l2 _ _ k1, D.le hk⟩, fun b o e => ?_, F2⟩
  rcases w2 b o e with h | h
  · exact (w1 b o h).imp id .inr
  · exact .inr (.inl h)

/-- the end of a constructor -/
theorem backInst {f : Fx} {g0 g : Heap} {m : Str → Option Value} {s0 s : Shared} {x C dx : Addr} {od : Obj} {l : List (Str × Value)} {k : Nat} {Q : Heap → Prop} (F : St f g m [(dx, od), (x, instObj C dx)] s) (D : DictF od l k) (hk : k ≤ 60)
    (he : f.e = s0.heap) (hg : f.g0 = g0) (hX : f.X = ([] : List (Addr × Obj)).map (·.1)) (q : ∀ g', Le g g' → InstN g g' x C l → Q g') : ∃ g', Post f.toWd g0 [] s0 g' [] s ∧ Q g' := by
  obtain ⟨g', h1, h2, _, F'⟩ := finInst F D hk hX
  exact ⟨g', F'.exit he hg hX (List.nil_sublist _) rfl, q g' h1 h2⟩
theorem koK {c : Fx} {g : Heap} {m : Str → Option Value} {r : List (Addr × Obj)} {s : Shared} {M : Model} {K0 : Frag} {f : Value} (hB : Base c.toWd) (hK : c.K = K0) (F : St c g m r s) (hk : keepIn K0 f = true) : KeepOk M f s.heap := by
  subst hK
  exact keepOk_K (F.KIn hB) hk
theorem binds_peek {d : Wd} {K0 : Frag} {fd : FuncData} {args : Args} {binds : List (Str × Value)} (hK : d.K = K0) (hB : Base d) (e : ∀ S, peek K0 S (bindArgs fd args) = some binds) : ∀ s : Shared, Le d.B s.heap → BindsTo s fd args binds := fun s k M A E Q q =>
  (Looks.of_peek (M := M) (hB.K.keeps k) (by rw [hK]; exact e _)).here q
/-! Comp -/
section
variable {c : Fx} {g : Heap} {m : Str → Option Value} {r : List (Addr × Obj)} {s : Shared}

theorem St.perm {r' : List (Addr × Obj)} (F : St c g m r s) (h : r.Perm r') : St c g m r' s := { F with
  own := fun p hp => F.own p (h.symm.subset hp)
  nd := (h.map (·.1)).nodup_iff.mp F.nd
  rL := fun p hp => F.rL p (h.symm.subset hp)
  ownX := fun p hp => F.ownX p (h.symm.subset hp)
  Xr := fun x hx => (F.Xr x hx).elim fun o h' => ⟨o, h.subset h'⟩ }

/-- own objects let go that were not borrowed -/
theorem St.drop' {r' : List (Addr × Obj)} (F : St c g m r s) (h : r'.Sublist r) (hX : ∀ x ∈ c.X, ∀ o, (x, o) ∈ r → (x, o) ∈ r') : St c g m r' s := { F with
  own := fun p hp => F.own p (h.subset hp)
  nd := (h.map (·.1)).nodup F.nd
  rL := fun p hp => F.rL p (h.subset hp)
  ownX := fun p hp => F.ownX p (h.subset hp)
  Xr := fun x hx => (F.Xr x hx).elim fun o h' => ⟨o, hX x hx o h'⟩ }

/-- behind a call that borrowed all that is the frame's own -/
theorem St.afterR {g' : Heap} {r' : List (Addr × Obj)} {s' : Shared} (F : St c g m r s) (P : Post c.toWd g r s g' r' s') : St c g' m r' s' := by
  have keepL : ∀ o, s.heap.get? c.L = some o → s'.heap.get? c.L = some o := fun o ho => P.keep _ o ho F.LNotTab fun h => by
    obtain ⟨p, hp, e⟩ := List.mem_map.mp h
    exact F.rL p hp e
  have none_of : ∀ b o, g.get? b = none → s.heap.get? b = some o → s'.heap.get? b = some o → ordC o = true → g'.get? b = none := fun b o h1 h2 h3 h4 => by
    cases q : g'.get? b with
    | none => rfl
    | some o' =>
      rcases P.fresh b o' q with ⟨o2, z⟩ | z | z
      · rw [h1] at z; cases z
      · rw [h2] at z; cases z
      · have := P.wo.sub _ _ q
        rw [h3] at this
        rw [← Option.some.inj this, h4] at z
        cases z
  have back : ∀ p ∈ r', ∃ o, (p.1, o) ∈ r := fun p hp => by
    have : p.1 ∈ r.map (·.1) := by rw [← P.keys]; exact List.mem_map_of_mem hp
    obtain ⟨q, hq, e⟩ := List.mem_map.mp this
    exact ⟨q.2, by rw [← e]; exact hq⟩
  obtain ⟨oL, es, ep, hL, hrest⟩ := F.ns
  exact {
    gens := P.wo.gens, os := P.wo.os, base := P.wo.base, sub := P.wo.sub, tabs := P.wo.tabs
    own := P.wo.own, nd := P.wo.nd, Bsz := P.wo.Bsz
    g0e := F.g0e, Bg0 := F.Bg0, Bse := F.Bse
    g0g := F.g0g.trans P.le
    fresh := fun b o e => by
      rcases P.fresh b o e with ⟨o2, z⟩ | z | z
      · have := P.le _ _ z
        rw [e] at this
        cases this
        exact F.fresh b o z
      rotate_left
      · exact .inr (.inr z)
      · right; left
        cases q : c.e.get? b with
        | none => rfl
        | some oe =>
          exfalso
          by_cases hx : b ∈ c.X
          · cases q2 : c.g0.get? b with
            | some o3 => have := F.sub _ _ (F.g0g _ _ q2); rw [z] at this; cases this
            | none => exact (F.Xr b hx).elim fun o3 h3 => by have := (F.own _ h3).1; rw [z] at this; cases this
          · by_cases ht : ∀ q ∈ c.tabs, q.P ≠ b
            · rw [F.keep b oe q ht hx] at z; cases z
            · have : ∃ q ∈ c.tabs, q.P = b := Classical.byContradiction fun n => ht fun q hq e => n ⟨q, hq, e⟩
              obtain ⟨tq, hq, rfl⟩ := this
              obtain ⟨ps, h1, _⟩ := (F.tabs tq hq).1
              rw [z] at h1; cases h1
    keep := fun b o e n x => P.keep b o (F.keep b o e n x) n fun h => by
      obtain ⟨p, hp, q⟩ := List.mem_map.mp h
      rcases F.ownX p hp with z | z
      · rw [q, e] at z; cases z
      · exact x (q ▸ z)
    size := Nat.le_trans F.size P.size
    ns := ⟨oL, es, ep, keepL _ hL, hrest⟩
    gL := none_of _ _ F.gL hL (keepL _ hL) (by simp [ordC, hrest.1])
    rL := fun p hp => by obtain ⟨o, h⟩ := back p hp; exact F.rL (p.1, o) h
    eL := F.eL
    ownX := fun p hp => by obtain ⟨o, h⟩ := back p hp; exact F.ownX (p.1, o) h
    Xr := fun x hx => (F.Xr x hx).elim fun o h => by
      have : x ∈ r'.map (·.1) := by rw [P.keys]; exact List.mem_map_of_mem (f := (·.1)) h
      obtain ⟨q, hq, e⟩ := List.mem_map.mp this
      exact ⟨q.2, by rw [← e]; exact hq⟩ }

/-- the frame behind an inner frame (that of a comprehension), the inner names and what the inner frame made its own -/
theorem St.inner {f : Fx} {g' : Heap} {m' : Str → Option Value} {n r' : List (Addr × Obj)} {s' : Shared} (F : St c g m r s) (F' : St f g' m' (n ++ r') s') (hw : f.toWd = c.toWd) (he : f.e = s.heap) (hg : f.g0 = g) (hX : f.X = r.map (·.1)) (hk : r'.map (·.1) = r.map (·.1)) :
    ∃ oC, ordC oC = true ∧ s'.heap.Ns f.L m' ∧ s'.heap.get? f.L = some oC ∧ St c g' m ((f.L, oC) :: (n ++ r')) s' := by
  obtain ⟨fw, fe, fg, fX, fL⟩ := f
  dsimp only at hw he hg hX
  subst hw he hg hX
  have P := F'.exit (r0 := r) (r' := r') (s0 := s) rfl rfl rfl (List.sublist_append_right _ _) hk
  have F2 := F.afterR P
  obtain ⟨oC, hoC, hord⟩ := ns_ord F'.ns
  have hLC : c.L < fL := Nat.lt_of_lt_of_le F.sizeL F'.eL
  have nd := F'.nd
  have hn : ∀ p ∈ n, s.heap.get? p.1 = none := fun p hp => by
    rcases F'.ownX p (List.mem_append_left _ hp) with z | z
    · exact z
    · rw [List.map_append, List.nodup_append] at nd
      exact absurd rfl (nd.2.2 _ (List.mem_map_of_mem (f := (·.1)) hp) p.1 (by rw [hk]; exact z))
  refine ⟨oC, hord, F'.ns, hoC, { F2 with
    own := fun p hp => by
      rcases List.mem_cons.mp hp with rfl | hp
      · exact ⟨hoC, F'.gL, hord⟩
      · exact F'.own p hp
    nd := by
      rw [List.map_cons, List.nodup_cons]
      refine ⟨fun hm => ?_, F'.nd⟩
      obtain ⟨p, hp, e⟩ := List.mem_map.mp hm
      exact F'.rL p hp e
    rL := fun p hp => by
      rcases List.mem_cons.mp hp with rfl | hp
      · exact Nat.ne_of_gt hLC
      · rcases List.mem_append.mp hp with hp | hp
        · intro e
          obtain ⟨o, ho, _⟩ := ns_ord F.ns
          have := hn p hp
          rw [show p.1 = c.L from e, ho] at this; cases this
        · exact F2.rL p hp
    ownX := fun p hp => by
      rcases List.mem_cons.mp hp with rfl | hp
      · left
        exact fresh_none (Nat.le_trans F.size F'.eL)
      · rcases List.mem_append.mp hp with hp | hp
        · cases q : c.e.get? p.1 with
          | none => exact .inl rfl
          | some o =>
            by_cases hx : p.1 ∈ c.X
            · exact .inr hx
            · exfalso
              by_cases ht : ∀ q ∈ c.tabs, q.P ≠ p.1
              · have := F.keep _ _ q ht hx
                rw [hn p hp] at this; cases this
              · have : ∃ q ∈ c.tabs, q.P = p.1 := Classical.byContradiction fun n => ht fun q hq e => n ⟨q, hq, e⟩
                obtain ⟨tq, hq, e⟩ := this
                obtain ⟨ps, h1, _⟩ := (F.tabs tq hq).1
                rw [e, hn p hp] at h1; cases h1
        · exact F2.ownX p hp
    Xr := fun x hx => (F2.Xr x hx).elim fun o h => ⟨o, .tail _ (List.mem_append_right _ h)⟩ }⟩

/-- an own object changed and let go -/
theorem St.dropBut {a : Addr} {o : Obj} {h' : Heap} (F : St c g m ((a, o) :: r) s) (hs : Heap.SameBut a s.heap h') (hx : a ∉ c.X) : St c g m r { s with heap := h' } := by
  have A := F.own _ (.head _)
  have nd := F.nd
  rw [List.map_cons, List.nodup_cons] at nd
  exact {
    gens := F.gens, os := F.os, base := F.base
    sub := fun b ob e => (hs.2 b (fun q => by rw [q, A.2.1] at e; cases e)).trans (F.sub b ob e)
    tabs := fun q hq => ⟨(F.tabs q hq).1.step fun b ob e vs hd h => (hs.2 b (fun q' => by
      subst q'
      rw [A.1] at e
      cases e
      rcases h with rfl | ⟨n, t', h⟩
      · obtain ⟨ps, h1, _⟩ := (F.tabs q hq).1
        rw [A.1] at h1
        exact ord_notTab A.2.2 ps (Option.some.inj h1)
      · exact ord_notCode A.2.2 hd n t' h)).trans e, (F.tabs q hq).2⟩
    own := fun p hp => ⟨(hs.2 _ (fun e => nd.1 (by rw [← e]; exact List.mem_map_of_mem (f := (·.1)) hp))).trans (F.own p (.tail _ hp)).1, (F.own p (.tail _ hp)).2⟩
    nd := nd.2
    g0g := F.g0g, fresh := F.fresh
    keep := fun b ob e n x => (hs.2 b (fun q => by
      subst q
      rcases F.ownX _ (.head _) with z | z
      · rw [z] at e; cases e
      · exact x z)).trans (F.keep b ob e n x)
    size := Nat.le_trans F.size (Nat.le_of_eq hs.1.symm)
    Bsz := Nat.le_trans F.Bsz (Nat.le_of_eq hs.1.symm)
    g0e := F.g0e, Bg0 := F.Bg0, Bse := F.Bse
    ns := F.ns.sameBut hs (Ne.symm (F.rL _ (.head _)))
    gL := F.gL
    rL := fun p hp => F.rL p (.tail _ hp)
    eL := F.eL
    ownX := fun p hp => F.ownX p (.tail _ hp)
    Xr := fun y hy => (F.Xr y hy).elim fun ob h => by
      rcases List.mem_cons.mp h with z | z
      · cases z; exact absurd hy hx
      · exact ⟨ob, z⟩ }

/-- own objects are let be: known from now on -/
theorem St.freeze1 {a : Addr} {o : Obj} (F : St c g m ((a, o) :: r) s) (hx : a ∉ c.X) : ∃ g', Le g g' ∧ g'.get? a = some o ∧ St c g' m r s := by
  obtain ⟨g', h1, h2, _, h3⟩ := St.freeze (r1 := []) F hx
  exact ⟨g', h1, h2, h3⟩
end

theorem head_notX {c : Fx} {g : Heap} {m : Str → Option Value} {r : List (Addr × Obj)} {s : Shared} {p : Addr × Obj} (F : St c g m (p :: r) s) (hX : ∀ x ∈ c.X, ∃ o, (x, o) ∈ r) : p.1 ∉ c.X := fun h => by
  obtain ⟨o, ho⟩ := hX _ h
  have nd := F.nd
  rw [List.map_cons, List.nodup_cons] at nd
  exact nd.1 (List.mem_map_of_mem (f := (·.1)) ho)
theorem IsList_le {g h : Heap} {l : Addr} {items : Array Value} (x : g.IsList l items) (k : Le g h) : h.IsList l items := let ⟨o, ho, r⟩ := x; ⟨o, k _ o ho, r⟩
/-- something that hands out n values, seen from frames; its own objects are told by J -/
structure Itr (d : Wd) (A : Around) (target : Expr) (I : Addr) (n : Nat) (gB : Heap) (P : Nat → Heap → Value → Prop) (J : Nat → List (Addr × Obj) → Prop) : Prop where
  next : ∀ {f : Fx} {g : Heap} {m : Str → Option Value} {js r : List (Addr × Obj)} {s : Shared} {i : Nat} {Q : Value → Shared → Prop} {Q' : Shared → Prop} {E : Value → Shared → Prop}, f.toWd = d → Le gB g → i < n → J i js → St f g m (js ++ r) s → (∀ x ∈ f.X, x ∉ js.map (·.1)) →
    (∀ v g' js' s', Le g g' → P i g' v → J (i + 1) js' → js'.map (·.1) = js.map (·.1) → St f g' m (js' ++ r) s' → Q v s') →
    wpAny (model d.prog d.w) A (pyNext (.ref I)) (fun o s₁ => match o with
      | none => Q' s₁
      | some v => wpAny (model d.prog d.w) A (letOwnedTupleGo target (.ref I) v) (fun _ s₂ => Q v s₂) E s₁) E s
  done : ∀ {f : Fx} {g : Heap} {m : Str → Option Value} {js r : List (Addr × Obj)} {s : Shared} {Q : Value → Shared → Prop} {Q' : Shared → Prop} {E : Value → Shared → Prop}, f.toWd = d → Le gB g → J n js → St f g m (js ++ r) s → (∀ x ∈ f.X, x ∉ js.map (·.1)) →
    (∀ s', St f g m r s' → Q' s') →
    wpAny (model d.prog d.w) A (pyNext (.ref I)) (fun o s₁ => match o with
      | none => Q' s₁
      | some v => wpAny (model d.prog d.w) A (letOwnedTupleGo target (.ref I) v) (fun _ s₂ => Q v s₂) E s₁) E s
  self : ∀ {f : Fx} {g : Heap} {m : Str → Option Value} {js r : List (Addr × Obj)} {s : Shared} {i : Nat} {Q : Value → Shared → Prop} {E : Value → Shared → Prop}, f.toWd = d → Le gB g → J i js → St f g m (js ++ r) s → Q (.ref I) s → wpAny (model d.prog d.w) A (pyIter (.ref I)) Q E s

theorem fields_ord {o : Obj} {vs : Array Value} {C : String} (hc : o.cls = .type C) (hd : o.data = .fields vs) (h : ∀ q t, vs[1]? ≠ some (.str q t)) : ordC o = true := by
  unfold ordC
  rw [hd, hc]
  dsimp only
  split
  · rename_i q t e; exact absurd e (h q t)
  · rfl

theorem St.own1 {c : Fx} {g : Heap} {m : Str → Option Value} {r : List (Addr × Obj)} {s : Shared} {a : Addr} {o o' : Obj} {h' : Heap} {t : Tok} (F : St c g m ((a, o) :: r) s) (ho : h'.get? a = some o') (hr : ordC o' = true) (hs : Heap.SameBut a s.heap h') : St c g m ((a, o') :: r) { s with heap := h', toks := t } := by
  have := F.setOwn (t := t) (.head _) ho hr hs
  simpa only [setR, if_true] using this

/-- what stood but at the address still stands: no more is asked of the new heap -/
theorem St.own1Ext {c : Fx} {g : Heap} {m : Str → Option Value} {r : List (Addr × Obj)} {s : Shared} {a : Addr} {o o' : Obj} {h' : Heap} {t : Tok} (F : St c g m ((a, o) :: r) s) (ho : h'.get? a = some o') (hr : ordC o' = true) (hx : Heap.ExtBut a s.heap h') : St c g m ((a, o') :: r) { s with heap := h', toks := t } := by
  have A := F.own _ (.head _)
  have nd := F.nd
  rw [List.map_cons, List.nodup_cons] at nd
  have hz : c.L < h'.objs.size := (F.ns.extBut hx (Ne.symm (F.rL _ (.head _)))).lt
  exact {
    gens := F.gens, os := F.os, base := F.base
    sub := fun b ob e => hx b ob (fun q => by rw [q, A.2.1] at e; cases e) (F.sub b ob e)
    tabs := fun q hq => ⟨(F.tabs q hq).1.step fun b ob e vs hd h => hx b ob (fun q' => by
      subst q'
      rw [A.1] at e
      cases e
      rcases h with rfl | ⟨n, t', h⟩
      · obtain ⟨ps, h1, _⟩ := (F.tabs q hq).1
        rw [A.1] at h1
        exact ord_notTab A.2.2 ps (Option.some.inj h1)
      · exact ord_notCode A.2.2 hd n t' h) e, (F.tabs q hq).2⟩
    own := fun p hp => by
      rcases List.mem_cons.mp hp with rfl | hp
      · exact ⟨ho, A.2.1, hr⟩
      · exact ⟨hx _ _ (fun e => nd.1 (by rw [← e]; exact List.mem_map_of_mem (f := (·.1)) hp)) (F.own p (.tail _ hp)).1, (F.own p (.tail _ hp)).2⟩
    nd := by rw [List.map_cons, List.nodup_cons]; exact nd
    g0g := F.g0g, fresh := F.fresh
    keep := fun b ob e n x => hx b ob (fun q => by
      subst q
      rcases F.ownX _ (.head _) with z | z
      · rw [z] at e; cases e
      · exact x z) (F.keep b ob e n x)
    size := Nat.le_trans F.eL (Nat.le_of_lt hz)
    Bsz := Nat.le_trans F.Bse (Nat.le_trans F.eL (Nat.le_of_lt hz))
    g0e := F.g0e, Bg0 := F.Bg0, Bse := F.Bse
    ns := F.ns.extBut hx (Ne.symm (F.rL _ (.head _)))
    gL := F.gL
    rL := fun p hp => by
      rcases List.mem_cons.mp hp with rfl | hp
      · exact F.rL (a, o) (.head _)
      · exact F.rL p (.tail _ hp)
    eL := F.eL
    ownX := fun p hp => by
      rcases List.mem_cons.mp hp with rfl | hp
      · exact F.ownX (a, o) (.head _)
      · exact F.ownX p (.tail _ hp)
    Xr := fun y hy => (F.Xr y hy).elim fun ob h => by
      rcases List.mem_cons.mp h with z | z
      · cases z; exact ⟨_, .head _⟩
      · exact ⟨ob, .tail _ z⟩ }

theorem hOk_of {A : Around} {g : Heap} {h : Heap} (H : Hnd A g) (k : Le g h) : HOk A h := HOk.le H k
theorem hnd_ne {A : Around} {g : Heap} {a : Addr} (H : Hnd A g) (h : g.get? a = none) : ∀ ex, A.handled = some (.ref ex) → ex ≠ a := fun ex hx e => by
  rcases H with H | ⟨ex', o, vs, h1, h2, _⟩
  · rw [H] at hx; cases hx
  · rw [h1] at hx
    cases hx
    rw [e, h] at h2; cases h2

/-- own objects that were not borrowed are let go, whatever becomes of them -/
theorem St.goneExt {c : Fx} {g : Heap} {m : Str → Option Value} {js r : List (Addr × Obj)} {s : Shared} {h' : Heap} {t : Tok} (F : St c g m (js ++ r) s) (hX : ∀ x ∈ c.X, x ∉ js.map (·.1))
    (hk : ∀ b o, b ∉ js.map (·.1) → s.heap.get? b = some o → h'.get? b = some o) : St c g m r { s with heap := h', toks := t } := by
  have A : ∀ p ∈ js, s.heap.get? p.1 = some p.2 ∧ g.get? p.1 = none ∧ ordC p.2 = true := fun p hp => F.own p (List.mem_append_left _ hp)
  have nd := F.nd
  rw [List.map_append, List.nodup_append] at nd
  have notg : ∀ b o, g.get? b = some o → b ∉ js.map (·.1) := fun b o e h => by
    obtain ⟨p, hp, q⟩ := List.mem_map.mp h
    have := (A p hp).2.1
    rw [q, e] at this; cases this
  have notL : c.L ∉ js.map (·.1) := fun h => by
    obtain ⟨p, hp, q⟩ := List.mem_map.mp h
    exact F.rL p (List.mem_append_left _ hp) q
  have notr : ∀ p ∈ r, p.1 ∉ js.map (·.1) := fun p hp h => nd.2.2 _ h _ (List.mem_map_of_mem (f := (·.1)) hp) rfl
  obtain ⟨oL, es, ep, hL, hrest⟩ := F.ns
  have hL' := hk _ _ notL hL
  have hz : c.L < h'.objs.size := Heap.lt_size hL'
  exact {
    gens := F.gens, os := F.os, base := F.base
    sub := fun b ob e => hk b ob (notg b ob e) (F.sub b ob e)
    tabs := fun q hq => ⟨(F.tabs q hq).1.step fun b ob e vs hd h => hk b ob (fun hm => by
      obtain ⟨p, hp, q'⟩ := List.mem_map.mp hm
      have hA := A p hp
      rw [show p.1 = b from q', e] at hA
      have he : ob = p.2 := Option.some.inj hA.1
      rcases h with h | ⟨n, t', h⟩
      · obtain ⟨ps, h1, _⟩ := (F.tabs q hq).1
        rw [← h, e] at h1
        rw [he] at h1
        exact ord_notTab hA.2.2 ps (Option.some.inj h1)
      · exact ord_notCode (he ▸ hA.2.2) hd n t' h) e, (F.tabs q hq).2⟩
    own := fun p hp => ⟨hk _ _ (notr p hp) (F.own p (List.mem_append_right _ hp)).1, (F.own p (List.mem_append_right _ hp)).2⟩
    nd := nd.2.1
    g0g := F.g0g, fresh := F.fresh
    keep := fun b ob e n x => hk b ob (fun hm => by
      obtain ⟨p, hp, q'⟩ := List.mem_map.mp hm
      rcases F.ownX p (List.mem_append_left _ hp) with z | z
      · rw [show p.1 = b from q', e] at z; cases z
      · rw [show p.1 = b from q'] at z; exact x z) (F.keep b ob e n x)
    size := Nat.le_trans F.eL (Nat.le_of_lt hz)
    Bsz := Nat.le_trans F.Bse (Nat.le_trans F.eL (Nat.le_of_lt hz))
    g0e := F.g0e, Bg0 := F.Bg0, Bse := F.Bse
    ns := ⟨oL, es, ep, hL', hrest⟩
    gL := F.gL
    rL := fun p hp => F.rL p (List.mem_append_right _ hp)
    eL := F.eL
    ownX := fun p hp => F.ownX p (List.mem_append_right _ hp)
    Xr := fun y hy => (F.Xr y hy).elim fun ob h => by
      rcases List.mem_append.mp h with z | z
      · exact absurd (List.mem_map_of_mem (f := (·.1)) z) (hX y hy)
      · exact ⟨ob, z⟩ }

/-- the target of a loop over a list or a tuple asks nothing of the iterator -/
def plainTgt (target : Expr) : Prop := ∀ (prog : Program) (w : World) (A : Around) (E : Value → Shared → Prop) (Q : Unit → Shared → Prop) (s : Shared) (I : Addr) (v : Value),
  (∃ o C vs, s.heap.get? I = some o ∧ o.cls = .type C ∧ o.data = .fields vs ∧ (C = "list_iterator" ∨ C = "tuple_iterator" ∨ C = "dict_keyiterator")) → Q () s → wpAny (model prog w) A (letOwnedTupleGo target (.ref I) v) Q E s
theorem plainTgt_name {x : Str} {p : Pos} : plainTgt (.Name x p) := fun _ _ _ _ _ _ _ _ _ h => wpAny_pure h
theorem plainTgt_tuple {elts : List Expr} {k : Nat} {p : Pos} : plainTgt (.Tuple elts k p) := fun prog w A E Q s I v ⟨o, C, vs, h1, h2, h3, h4⟩ h => by
  unfold letOwnedTupleGo
  dsimp only
  cases v with
  | ref a =>
    dsimp only
    refine wpAny_bind (wpAny_load h1 ?_)
    rw [h2, h3]
    dsimp only
    rw [if_neg (by rcases h4 with rfl | rfl | rfl <;> simp)]
    exact wpAny_pure h
  | _ => exact wpAny_pure h

theorem itrList {d : Wd} {A : Around} {target : Expr} {I l : Addr} {items : Array Value} {gB : Heap} (ht : plainTgt target) (H : Hnd A gB) (hl : gB.IsList l items) :
    Itr d A target I items.size gB (fun i _ v => items[i]? = some v) (fun i js => ∃ o, js = [(I, o)] ∧ o.cls = .type "list_iterator" ∧ o.data = .fields #[.ref l, .int i 0]) where
  next := by
    rintro f g m js r s i Q Q' E rfl hle hi ⟨o, rfl, hc, hd⟩ F hX hQ
    have hs := F.own _ (.head _)
    have hlh : s.heap.IsList l items := IsList_le hl (hle.trans F.sub)
    refine wpAny_pyNext_list_item ⟨o, hs.1, hc, hd⟩ hlh (x := items[i]) (by simp [hi]) fun h' hit' hs' => ?_
    obtain ⟨o', h1, h2, h3⟩ := hit'
    dsimp only
    refine ht _ _ _ _ _ _ _ _ ⟨o', _, _, h1, h2, h3, .inl rfl⟩ ?_
    exact hQ _ g [(I, o')] _ (Le.refl _) (by simp [hi]) ⟨o', rfl, h2, h3⟩ rfl (F.own1 (t := s.toks) h1 (fields_ord h2 h3 (by simp)) hs')
  done := by
    rintro f g m js r s Q Q' E rfl hle ⟨o, rfl, hc, hd⟩ F hX hQ
    have hs := F.own _ (.head _)
    refine list_end (hOk_of H (hle.trans F.sub)) (hnd_ne (H.le hle) hs.2.1) ⟨o, hs.1, hc, hd⟩ (IsList_le hl (hle.trans F.sub)) (by simp) fun h' hx' _ => ?_
    exact hQ _ (F.goneExt (t := s.toks) hX fun b ob hb e => hx' b ob (fun z => hb (by simp [z])) e)
  self := by
    rintro f g m js r s i Q E rfl hle ⟨o, rfl, hc, hd⟩ F hQ
    exact wpAny_pyIter_listiter ⟨o, (F.own _ (.head _)).1, hc, hd⟩ hQ

theorem itrTup {d : Wd} {A : Around} {target : Expr} {I l : Addr} {items : Array Value} {gB : Heap} (ht : plainTgt target) (H : Hnd A gB) (hl : IsTup gB l items) :
    Itr d A target I items.size gB (fun i _ v => items[i]? = some v) (fun i js => ∃ o, js = [(I, o)] ∧ o.cls = .type "tuple_iterator" ∧ o.data = .fields #[.ref l, .int i 0]) where
  next := by
    rintro f g m js r s i Q Q' E rfl hle hi ⟨o, rfl, hc, hd⟩ F hX hQ
    have hs := F.own _ (.head _)
    have hlh : IsTup s.heap l items := hl.keeps (hle.trans F.sub)
    refine next_tuple_item ⟨o, hs.1, hc, hd⟩ hlh (x := items[i]) (by simp [hi]) fun h' hit' hs' => ?_
    obtain ⟨o', h1, h2, h3⟩ := hit'
    dsimp only
    refine ht _ _ _ _ _ _ _ _ ⟨o', _, _, h1, h2, h3, .inr (.inl rfl)⟩ ?_
    exact hQ _ g [(I, o')] _ (Le.refl _) (by simp [hi]) ⟨o', rfl, h2, h3⟩ rfl (F.own1 (t := s.toks) h1 (fields_ord h2 h3 (by simp)) hs')
  done := by
    rintro f g m js r s Q Q' E rfl hle ⟨o, rfl, hc, hd⟩ F hX hQ
    have hs := F.own _ (.head _)
    refine tup_end (hOk_of H (hle.trans F.sub)) (hnd_ne (H.le hle) hs.2.1) ⟨o, hs.1, hc, hd⟩ (hl.keeps (hle.trans F.sub)) (by simp) fun h' hx' _ => ?_
    exact hQ _ (F.goneExt (t := s.toks) hX fun b ob hb e => hx' b ob (fun z => hb (by simp [z])) e)
  self := by
    rintro f g m js r s i Q E rfl hle ⟨o, rfl, hc, hd⟩ F hQ
    exact wpAny_pyIter_tupleiter (hit := ⟨o, (F.own _ (.head _)).1, hc, hd⟩) hQ
/-! GoodD -/
def qD : TabRec := ⟨242, 238, ⟨222, 4, 227, 27⟩, "_determine_attrib_eq_order.<locals>.decide_callable_or_boolean"⟩
def qH : TabRec := ⟨522, 520, ⟨495, 4, 505, 25⟩, "law.<locals>.hook"⟩
structure Good (d : Wd) : Prop where
  base : Base d
  K : d.K = Mine.hd.heap_39 d.w.params
  tabs : d.tabs = [qD, qH]
theorem Good.hqD {d : Wd} (G : Good d) : qD ∈ d.tabs := by rw [G.tabs]; exact .head _
theorem Good.one {d : Wd} (G : Good d) : ∀ q ∈ d.tabs, ∀ q2 ∈ d.tabs, q2.P = q.P → q2 = q := by
  rw [G.tabs]
  intro q hq q2 hq2 e
  rcases List.mem_cons.mp hq with rfl | hq <;> rcases List.mem_cons.mp hq2 with rfl | hq2
  · rfl
  · rw [List.mem_singleton.mp hq2] at e; cases e
  · rw [List.mem_singleton.mp hq] at e; cases e
  · rw [List.mem_singleton.mp hq, List.mem_singleton.mp hq2]
/-! LcR -/
def relab (scope sc : Scope) : Scope :=
  { scope with names := scope.names.map fun (n, k) => if (k == .free && sc.kind == .function && sc.names.lookup n == some .cell) then (n, .cell) else (n, k) }
theorem relab_eq {env : Env} {scope sc : Scope} {L : Addr} {cl : List (Str × Addr)} {cd : Value} (En : EnvOk env sc L cl cd) : relabel scope env = relab scope sc := by
  unfold relabel relab Env.kindOf; rw [En.scope]

theorem key_unique {r : List (Addr × Obj)} (h : (r.map (·.1)).Nodup) {a : Addr} {o o' : Obj} : (a, o) ∈ r → (a, o') ∈ r → o = o' := by
  induction r with
  | nil => intro h1; cases h1
  | cons p r ih =>
    rw [List.map_cons, List.nodup_cons] at h
    intro h1 h2
    rcases List.mem_cons.mp h1 with e1 | h1 <;> rcases List.mem_cons.mp h2 with e2 | h2
    · rw [← e1] at e2; exact (Prod.mk.inj e2).2.symm
    · exact absurd (by rw [← e1]; exact List.mem_map_of_mem (f := (·.1)) h2) h.1
    · exact absurd (by rw [← e2]; exact List.mem_map_of_mem (f := (·.1)) h1) h.1
    · exact ih h.2 h1 h2

theorem St.dropJs {c : Fx} {g : Heap} {m : Str → Option Value} {a js r : List (Addr × Obj)} {s : Shared} (F : St c g m (a ++ (js ++ r)) s) (hX : ∀ x ∈ c.X, ∃ o, (x, o) ∈ r) : St c g m (a ++ r) s := by
  refine F.drop' (List.Sublist.append_left (List.sublist_append_right js r) a) fun x hx o h => ?_
  obtain ⟨o', h'⟩ := hX x hx
  have := key_unique F.nd h (List.mem_append_right _ (List.mem_append_right _ h'))
  subst this
  exact List.mem_append_right _ h'

def isListO (o : Obj) (ys : List Value) : Prop := o.cls = .type "list" ∧ ∃ n, o.data = .seq ys.toArray n
theorem isListO.ord {o : Obj} {ys : List Value} (h : isListO o ys) : ordC o = true := by
  obtain ⟨_, n, hd⟩ := h
  simp [ordC, hd]

abbrev tests (ifs : List Expr) (env : Env) : Sem Bool := forIn ifs true fun c r => if r = true then do let ok ← isTrue c env (eval c env); pure (ForInStep.yield ok) else pure (ForInStep.yield r)

section
variable {prog : Program} {w : World} {A : Around} {R : Result → Shared → Prop} {s : Shared}
theorem lcLoop {elt target iter : Expr} {ifs : List Expr} {scope : Scope} {pos : Pos} {it acc : Value} {env : Env} (I : Nat → Shared → Prop)
    (turn : ∀ n s, I n s → ∀ N, wpAny (model prog w) A (pyNext it) (fun r s₁ => match r with
      | none => R (.ok .next) s₁
      | some v => wpAny (model prog w) A (letOwnedTupleGo target it v) (fun _ s₁' => wpAny (model prog w) A (assign target env v) (fun _ s₂ =>
          wpAny (model prog w) A (tests ifs env) (fun ok s₃ => if ok = true then
            wpAny (model prog w) A (eval elt env) (fun x s₄ => wpAny (model prog w) A (call (.builtin "list.append") [acc, x]) (fun _ s₅ => ∃ m, m < n ∧ I m s₅) N s₄) N s₃
            else ∃ m, m < n ∧ I m s₃) N s₂) N s₁') N s₁) N s)
    (n : Nat) (h : I n s) : codeAny (model prog w) A (.compLoop (.ListComp elt [⟨target, iter, ifs, 0⟩] scope pos) 0 it acc env) R s := by
  refine codeAny_loop rfl I (fun n s hI => ?_) n h
  show wpAny _ A ((compTurn (.ListComp elt [⟨target, iter, ifs, 0⟩] scope pos) 0 it acc env).onRaise (fun x => do noteFrame x env; theTreesLotGoes x)) _ _ s
  refine wpAny_noted ?_
  rw [compTurn_list]
  refine wpAny_bind (wpAny_standAt (wpAny_bind (wpAny_mono (turn n s hI _) (fun r s₁ h₁ => ?_) fun _ _ h' => h')))
  cases r with
  | none => exact wpAny_pure h₁
  | some v =>
    refine wpAny_bind (wpAny_mono h₁ (fun _ s₁' h₁' => ?_) fun _ _ h' => h')
    refine wpAny_bind (wpAny_mono h₁' (fun _ s₂ h₂ => wpAny_bind (wpAny_mono h₂ (fun ok s₃ h₃ => ?_) fun _ _ h' => h')) fun _ _ h' => h')
    cases ok with
    | false => exact wpAny_pure ⟨rfl, by simpa using h₃⟩
    | true =>
      exact wpAny_bind (wpAny_bind (wpAny_mono (by simpa using h₃) (fun x s₄ h₄ => wpAny_bind (wpAny_mono h₄ (fun _ s₅ h₅ => wpAny_pure (wpAny_pure ⟨rfl, h₅⟩)) fun _ _ h' => h')) fun _ _ h' => h'))
end

theorem clos_eq {env : Env} {scope sc : Scope} {L : Addr} {cl : List (Str × Addr)} {cd : Value} (En : EnvOk env sc L cl cd) : closureFor scope env = closureFor scope { scope := scope, locals := 0, globals := 0, cells := cl, qual := "", func := none, code := .none, frame := none, builtins := 0 } := by
  unfold closureFor cellOf
  rw [En.cells]
/-- one turn of a comprehension that makes a list -/
def LcTurn (c : Fx) (A : Around) (sc' : Scope) (cl : List (Str × Addr)) (cd : Value) (target : Expr) (ifs : List Expr) (elt : Expr) (n : Nat) (gB : Heap) (P : Nat → Heap → Value → Prop) (Inv : Nat → Heap → List Value → Prop) : Prop :=
  ∀ (f' : Fx) (cenv : Env) i g1 g' l T s' v ys E', f'.toWd = c.toWd → EnvOk cenv sc' f'.L cl cd → i < n → Le gB g1 → Le g1 g' → Inv i g1 ys → P i g' v → St f' g' (lk l) T s' →
    wpAny (model f'.prog f'.w) A (assign target cenv v) (fun _ s₃ => wpAny (model f'.prog f'.w) A (tests ifs cenv) (fun ok s₄ => if ok = true then
      wpAny (model f'.prog f'.w) A (eval elt cenv) (fun x s₅ => ∃ g'' l'', Le gB g'' ∧ Inv (i + 1) g'' (ys ++ [x]) ∧ St f' g'' (lk l'') T s₅) E' s₄
      else ∃ g'' l'', Le gB g'' ∧ Inv (i + 1) g'' ys ∧ St f' g'' (lk l'') T s₄) E' s₃) E' s'

section
variable {c : Fx} {g gB : Heap} {m : Str → Option Value} {js r : List (Addr × Obj)} {s : Shared} {A : Around} {E : Value → Shared → Prop} {env : Env} {sc : Scope} {cl0 : List (Str × Addr)} {cd : Value}

theorem lcCore {elt target iter : Expr} {ifs : List Expr} {scope : Scope} {cl : List (Str × Addr)} {pos : Pos} {I : Addr} {n : Nat} {P : Nat → Heap → Value → Prop} {J : Nat → List (Addr × Obj) → Prop} {RR : Value → Addr → Result → Shared → Prop}
    (En : EnvOk env sc c.L cl0 cd) (hcell : ∀ x ∈ scope.names, x.2 ≠ .cell) (hkind : scope.kind = .function) (It : Itr c.toWd A target I n gB P J) (hle : Le gB g) (hn : n ≤ sizeLine) (J0 : J 0 js)
    {s₀ : Shared} (F₀ : St c g m r s₀) (ks : Le s₀.heap s.heap) (zs : s₀.heap.objs.size ≤ s.heap.objs.size) (js0 : ∀ p ∈ js, s₀.heap.get? p.1 = none) (F : St c g m (js ++ r) s) (Inv : Nat → Heap → List Value → Prop) (h0 : Inv 0 g []) (turn : LcTurn c A (relab scope sc) cl cd target ifs elt n gB P Inv)
    (fin : ∀ g' D oD C oC m' ys s', Le gB g' → Inv n g' ys → isListO oD ys → s'.heap.Ns C m' → St c g' m ((C, oC) :: (D, oD) :: r) s' → RR (.ref D) C (.ok .next) s') :
    wpAny (model c.prog c.w) A (newList []) (fun acc s₃ => wpAny (model c.prog c.w) A (newFunctionEnv scope env.globals cl [] env.qual none .none (some env)) (fun cenv s₄ =>
      codeAny (model c.prog c.w) A (.compStart (.ListComp elt [⟨target, iter, ifs, 0⟩] scope pos) 0 (.ref I) acc { cenv with scope := relabel scope env }) (RR acc cenv.locals) s₄) E s₃) E s := by
  have mk : ∀ {Q : Value → Shared → Prop}, (∀ D s₃, St c g m ((D, listO [] 0) :: (js ++ r)) s₃ → Le s.heap s₃.heap → s.heap.objs.size ≤ s₃.heap.objs.size → s.heap.get? D = none → Q (.ref D) s₃) → wpAny (model c.prog c.w) A (newList []) Q E s := fun h => by
    have h4 := F.allocOwn (o := { cls := .type "list", data := .seq ([] : List Value).toArray }) (t := s.toks) rfl rfl
    exact wpAny_newObj_type (h _ _ h4 (fun b o e => Heap.get?_push_of_some _ e) (by show _ ≤ (Heap.push _ _).objs.size; rw [Heap.size_push]; exact Nat.le_succ _) (fresh_none (Nat.le_refl _))) (by size_fits)
  refine mk fun D s₃ F₃ k₃ z₃ hD => ?_
  refine wpAny_newFunctionEnv hcell (by intro y hy; simp at hy) (fun h₁ hns₁ hsb₁ => ?_) hkind
  rw [relab_eq En]
  let f : Fx := ⟨c.toWd, s₀.heap, g, r.map (·.1), s₃.heap.objs.size⟩
  have hCn : s₃.heap.get? s₃.heap.objs.size = none := fresh_none (Nat.le_refl _)
  have k₁ : Le s₃.heap h₁ := fun b o e => hsb₁.extBut b o (Nat.ne_of_lt (Heap.lt_size e)) (Heap.get?_push_of_some _ e)
  have En' : EnvOk { newEnv scope s₃.heap.objs.size env.globals cl env.qual none .none (some env) builtinsNs with scope := relab scope sc } (relab scope sc) f.L cl cd := ⟨rfl, rfl, En.globals, En.builtins, rfl, En.code⟩
  have F₄ : St f g (lk []) ((D, listO [] 0) :: (js ++ r)) { s₃ with heap := h₁, toks := s₃.toks + ([] : List (Str × Value)).length } := {
    gens := F₃.gens, os := F₃.os, base := F₃.base
    sub := F₃.sub.trans k₁
    tabs := fun q hq => ⟨(F₃.tabs q hq).1.le k₁, (F₃.tabs q hq).2⟩
    own := fun p hp => ⟨k₁ _ _ (F₃.own p hp).1, (F₃.own p hp).2⟩
    nd := F₃.nd
    Bsz := Nat.le_trans F₃.Bsz (Nat.le_of_lt hns₁.lt)
    g0e := F₀.sub, Bg0 := F₀.base, Bse := F₀.Bsz
    g0g := Le.refl _
    fresh := fun b o e => .inl ⟨o, e⟩
    keep := fun b o e _ _ => k₁ _ _ (k₃ _ _ (ks _ _ e))
    size := Nat.le_trans zs (Nat.le_trans z₃ (Nat.le_of_lt hns₁.lt))
    ns := hns₁
    gL := (F₃.absent hCn).1
    rL := fun p hp => (F₃.absent hCn).2.2 p hp
    eL := Nat.le_trans zs z₃
    ownX := fun p hp => by
      rcases List.mem_cons.mp hp with rfl | hp
      · left
        cases q : s₀.heap.get? D with
        | none => rfl
        | some o => rw [ks _ _ q] at hD; cases hD
      · rcases List.mem_append.mp hp with hp | hp
        · exact .inl (js0 p hp)
        · exact .inr (List.mem_map_of_mem hp)
    Xr := fun x hx => by obtain ⟨p, hp, rfl⟩ := List.mem_map.mp hx; exact ⟨p.2, .tail _ (List.mem_append_right _ hp)⟩ }
  have hjs : ∀ x ∈ f.X, x ∉ js.map (·.1) := fun x hx h => by
    have nd := F.nd
    rw [List.map_append, List.nodup_append] at nd
    exact nd.2.2 _ h _ hx rfl
  have loop : codeAny (model c.prog c.w) A (.compLoop (.ListComp elt [⟨target, iter, ifs, 0⟩] scope pos) 0 (.ref I) (.ref D) { newEnv scope s₃.heap.objs.size env.globals cl env.qual none .none (some env) builtinsNs with scope := relab scope sc })
      (RR (.ref D) s₃.heap.objs.size) { s₃ with heap := h₁, toks := s₃.toks + ([] : List (Str × Value)).length } := by
    refine lcLoop (fun k s' => ∃ i g1 l ys js' oD, k = n + 1 - i ∧ i ≤ n ∧ Le gB g1 ∧ Inv i g1 ys ∧ J i js' ∧ js'.map (·.1) = js.map (·.1) ∧ ys.length ≤ i ∧ isListO oD ys ∧ St f g1 (lk l) ((D, oD) :: (js' ++ r)) s') ?_ (n + 1)
      ⟨0, g, [], [], js, listO [] 0, rfl, Nat.zero_le _, hle, h0, J0, rfl, Nat.le_refl _, ⟨rfl, _, rfl⟩, F₄⟩
    rintro k s' ⟨i, g1, l, ys, js', oD, rfl, hi, hle1, hInv, hJ, hkeys, hys, hoD, F'⟩ N
    have Fp : St f g1 (lk l) (js' ++ ((D, oD) :: r)) s' := F'.perm List.perm_middle.symm
    rcases Nat.lt_or_eq_of_le hi with hlt | rfl
    · refine It.next (f := f) rfl hle1 hlt hJ Fp (by rw [hkeys]; exact hjs) fun v g2 js2 s2 hle2 hP hJ2 hk2 F2 => ?_
      have F2' : St f g2 (lk l) ((D, oD) :: (js2 ++ r)) s2 := F2.perm List.perm_middle
      refine wpAny_mono (turn f _ i g1 g2 l _ s2 v ys N rfl En' hlt hle1 hle2 hInv hP F2') (fun _ s3 h3 => wpAny_mono h3 (fun ok s4 h4 => ?_) fun _ _ e => e) fun _ _ e => e
      cases ok with
      | false =>
        obtain ⟨g3, l3, a1, a2, a3⟩ := (by simpa using h4 : ∃ g'' l'', Le gB g'' ∧ Inv (i + 1) g'' ys ∧ St f g'' (lk l'') ((D, oD) :: (js2 ++ r)) s4)
        show ∃ m, _ ∧ _
        exact ⟨n + 1 - (i + 1), by omega, i + 1, g3, l3, ys, js2, oD, rfl, hlt, a1, a2, hJ2, hk2.trans hkeys, by omega, hoD, a3⟩
      | true =>
        refine wpAny_mono (show wpAny _ _ _ _ _ _ from h4) (fun x s5 h5 => ?_) fun _ _ e => e
        obtain ⟨g3, l3, a1, a2, a3⟩ := h5
        obtain ⟨hc, nn, hd⟩ := hoD
        refine wpAny_list_append (hsz := by rw [List.size_toArray]; omega) ⟨oD, (a3.own _ (.head _)).1, hc, nn, hd⟩ fun h' ⟨o', b1, b2, b3⟩ hs' => ?_
        have ho' : isListO o' (ys ++ [x]) := ⟨b2, by simpa using b3⟩
        exact ⟨n + 1 - (i + 1), by omega, i + 1, g3, l3, ys ++ [x], js2, o', rfl, hlt, a1, a2, hJ2, hk2.trans hkeys, by simp; omega, ho', a3.own1 (t := s5.toks) b1 ho'.ord hs'⟩
    · refine It.done (f := f) rfl hle1 hJ Fp (by rw [hkeys]; exact hjs) fun s2 F2 => ?_
      obtain ⟨oC, hord, hns, hoC, Fo⟩ := F₀.inner (n := [(D, oD)]) F2 rfl rfl rfl rfl rfl
      exact fin g1 D oD f.L oC _ ys s2 hle1 hInv hoD hns Fo
  refine codeAny_compStart_list loop ?_
  have Fp : St f g (lk []) (js ++ ((D, listO [] 0) :: r)) { s₃ with heap := h₁, toks := s₃.toks + ([] : List (Str × Value)).length } := F₄.perm List.perm_middle.symm
  exact It.self (f := f) rfl hle J0 Fp loop
end
section
variable {c : Fx} {g gB : Heap} {m : Str → Option Value} {js r : List (Addr × Obj)} {s : Shared} {A : Around} {E : Value → Shared → Prop} {env : Env} {sc : Scope} {cl0 : List (Str × Addr)} {cd : Value}

/-- an iterator stands ready in a frame -/
structure Rdy (c : Fx) (A : Around) (target : Expr) (gB : Heap) (n : Nat) (P : Nat → Heap → Value → Prop) (g : Heap) (m : Str → Option Value) (r : List (Addr × Obj)) (it : Value) (s : Shared) : Prop where
  ex : ∃ I J js s₀, it = .ref I ∧ Itr c.toWd A target I n gB P J ∧ J 0 js ∧ St c g m (js ++ r) s ∧ St c g m r s₀ ∧ Le s₀.heap s.heap ∧ s₀.heap.objs.size ≤ s.heap.objs.size ∧ ∀ p ∈ js, s₀.heap.get? p.1 = none
  le : Le gB g

theorem rdy1 {target : Expr} {n : Nat} {P : Nat → Heap → Value → Prop} {J : Nat → List (Addr × Obj) → Prop} {o : Obj} (F : St c g m r s) (It : Itr c.toWd A target s.heap.objs.size n gB P J) (J0 : J 0 [(s.heap.objs.size, o)]) (hf : o.isFreed = false) (ho : ordC o = true) (hle : Le gB g) :
    Rdy c A target gB n P g m r (.ref s.heap.objs.size) { s with heap := s.heap.push o } :=
  ⟨⟨_, J, [(s.heap.objs.size, o)], s, rfl, It, J0, F.allocOwn (t := s.toks) hf ho, F, fun b o e => Heap.get?_push_of_some _ e, (by show _ ≤ (Heap.push _ _).objs.size; rw [Heap.size_push]; exact Nat.le_succ _), fun p hp => (by rw [List.mem_singleton.mp hp]; exact fresh_none (Nat.le_refl _))⟩, hle⟩
theorem rdyList {l : Addr} {items : Array Value} {Q : Value → Shared → Prop} (F : St c g m r s) (H : Hnd A g) (hl : g.IsList l items) (hle : Le gB g) (hlB : gB.IsList l items) (HB : Hnd A gB)
    (h : ∀ it s', (∀ target, plainTgt target → Rdy c A target gB items.size (fun i _ v => items[i]? = some v) g m r it s') → Q it s') : wpAny (model c.prog c.w) A (pyIter (.ref l)) Q E s := by
  exact wpAny_pyIter_list (IsList_le hl F.sub) (h _ _ fun target ht => (rdy1 F (itrList ht HB hlB) ⟨_, rfl, rfl, rfl⟩ rfl rfl hle))
theorem rdyTup {l : Addr} {items : Array Value} {Q : Value → Shared → Prop} (F : St c g m r s) (H : Hnd A g) (hl : IsTup g l items) (hle : Le gB g) (hlB : IsTup gB l items) (HB : Hnd A gB)
    (h : ∀ it s', (∀ target, plainTgt target → Rdy c A target gB items.size (fun i _ v => items[i]? = some v) g m r it s') → Q it s') : wpAny (model c.prog c.w) A (pyIter (.ref l)) Q E s := by
  exact iter_tuple (hl.keeps F.sub) (h _ _ fun target ht => (rdy1 F (itrTup ht HB hlB) ⟨_, rfl, rfl, rfl⟩ rfl rfl hle))

/-- a list made by a comprehension -/
theorem lcE {elt target iter : Expr} {ifs : List Expr} {scope : Scope} {cl : List (Str × Addr)} {pos : Pos} {Q : Value → Shared → Prop}
    (En : EnvOk env sc c.L cl0 cd) (hclos : closureFor scope env = pure cl) (hcell : ∀ x ∈ scope.names, x.2 ≠ .cell) (hkind : scope.kind = .function) (hnames : ∀ x ∈ scope.names, x.2 = .local → scope.names.lookup x.1 = some .local)
    (hs : ∀ x, foldedSetIterable iter env x = pure x)
    (h : wpAny (model c.prog c.w) A (eval iter env) (fun x s₁ => wpAny (model c.prog c.w) A (pyIter x) (fun it s₂ => ∃ gB n P g m r Inv, Rdy c A target gB n P g m r it s₂ ∧ n ≤ sizeLine ∧ Inv 0 g [] ∧ LcTurn c A (relab scope sc) cl cd target ifs elt n gB P Inv ∧
      (∀ g1 g' D ys s', Le gB g1 → Le g1 g' → Inv n g1 ys → g'.IsList D ys.toArray → St c g' m r s' → Q (.ref D) s')) E s₁) E s) :
    wpAny (model c.prog c.w) A (eval (.ListComp elt [⟨target, iter, ifs, 0⟩] scope pos) env) Q E s := by
  rw [eval_ListComp]
  refine wpAny_comprehension_free (use := none) rfl hs hclos hkind hnames (wpAny_mono h (fun xv s₁ h₁ => wpAny_mono h₁ (fun it s₂ h₂ => ?_) fun _ _ e => e) fun _ _ e => e)
  obtain ⟨gB, n, P, g, m, r, Inv, ⟨⟨I, J, js, s₀, rfl, It, J0, F, F₀, ks, zs, js0⟩, hle⟩, hn, h0, turn, fin⟩ := h₂
  have hX := F₀.Xr
  refine lcCore (RR := fun acc C => compPost (model c.prog c.w) A E none Q acc C) En hcell hkind It hle hn J0 F₀ ks zs js0 F Inv h0 turn ?_
  intro g' D oD C oC m' ys s' hle' hInv hoD hns F'
  refine ⟨m', hns, fun h'' hs'' => ?_⟩
  have F2 := F'.dropBut hs'' (head_notX F' fun x hx => (hX x hx).elim fun o z => ⟨o, .tail _ z⟩)
  obtain ⟨g2, l2, k2, F3⟩ := F2.freeze1 (head_notX F2 hX)
  exact fin _ g2 D ys _ hle' l2 hInv ⟨oD, k2, hoD.1, hoD.2⟩ F3

/-- the same, stored at once under a name -/
theorem lcA {elt target iter : Expr} {ifs : List Expr} {scope : Scope} {cl : List (Str × Addr)} {pos spos py : Pos} {y : Str} {Q : Flow → Shared → Prop}
    (hsw : swapsWith (.ListComp elt [⟨target, iter, ifs, 0⟩] scope pos) (some (.Name y py)) spos.line env = pure true)
    (En : EnvOk env sc c.L cl0 cd) (hclos : closureFor scope env = pure cl) (hcell : ∀ x ∈ scope.names, x.2 ≠ .cell) (hkind : scope.kind = .function) (hnames : ∀ x ∈ scope.names, x.2 = .local → scope.names.lookup x.1 = some .local)
    (hs : ∀ x, foldedSetIterable iter env x = pure x)
    (h : wpAny (model c.prog c.w) A (eval iter env) (fun x s₁ => wpAny (model c.prog c.w) A (pyIter x) (fun it s₂ => ∃ gB n P g m r Inv, Rdy c A target gB n P g m r it s₂ ∧ n ≤ sizeLine ∧ Inv 0 g [] ∧ LcTurn c A (relab scope sc) cl cd target ifs elt n gB P Inv ∧
      (∀ g1 g' D ys C oC s', Le gB g1 → Le g1 g' → Inv n g1 ys → g'.IsList D ys.toArray → St c g' m ((C, oC) :: r) s' →
        wpAny (model c.prog c.w) A (storeName env y (.ref D)) (fun _ s'' => ∃ g'' m'' r'', St c g'' m'' ((C, oC) :: r'') s'' ∧ (∀ x ∈ c.X, ∃ o, (x, o) ∈ r'') ∧ ∀ s3, St c g'' m'' r'' s3 → Q .next s3) E s')) E s₁) E s) :
    wpAny (model c.prog c.w) A (exec (.Assign [.Name y py] (.ListComp elt [⟨target, iter, ifs, 0⟩] scope pos) spos) env) Q E s := by
  rw [exec_Assign_Name_used _ _ _ _ hsw]
  refine wpAny_bind (wpAny_standAt (wpAny_bind ?_))
  show wpAny _ A (do let _ ← comprehension (.ListComp elt [⟨target, iter, ifs, 0⟩] scope pos) scope env _ (newList []) false (eval iter env) (some (assign (.Name y py) env))) _ _ s
  refine wpAny_bind (wpAny_mono (wpAny_comprehension_free (use := some (assign (.Name y py) env)) (Q := fun _ s' => Q .next s') rfl hs hclos hkind hnames
    (wpAny_mono h (fun xv s₁ h₁ => wpAny_mono h₁ (fun it s₂ h₂ => ?_) fun _ _ e => e) fun _ _ e => e)) (fun _ s' hq => wpAny_pure (wpAny_pure hq)) fun _ _ e => e)
  obtain ⟨gB, n, P, g, m, r, Inv, ⟨⟨I, J, js, s₀, rfl, It, J0, F, F₀, ks, zs, js0⟩, hle⟩, hn, h0, turn, fin⟩ := h₂
  have hX := F₀.Xr
  refine lcCore (RR := fun acc C => compPost (model c.prog c.w) A E (some (assign (.Name y py) env)) (fun _ s' => Q .next s') acc C) En hcell hkind It hle hn J0 F₀ ks zs js0 F Inv h0 turn ?_
  intro g' D oD C oC m' ys s' hle' hInv hoD hns F'
  have Fp : St c g' m ((D, oD) :: (C, oC) :: r) s' := F'.perm (List.Perm.swap ..)
  obtain ⟨g2, l2, k2, F3⟩ := Fp.freeze1 (head_notX Fp fun x hx => (hX x hx).elim fun o z => ⟨o, .tail _ z⟩)
  show wpAny _ A (assign (.Name y py) env (.ref D)) _ _ _
  refine as_name (wpAny_mono (fin _ g2 D ys C oC s' hle' l2 hInv ⟨oD, k2, hoD.1, hoD.2⟩ F3) (fun _ s'' z => ?_) fun _ _ e => e)
  obtain ⟨g'', m'', r'', F4, hX4, hQ⟩ := z
  have hC := (F'.own _ (.head _)).1
  refine ⟨m', hns.at' fun o e => ?_, fun h'' hs'' => hQ _ (F4.dropBut hs'' (head_notX F4 hX4))⟩
  rw [hC] at e
  cases e
  exact (F4.own _ (.head _)).1
end
/-! ForR -/
/-- one turn of a for loop -/
def ForTurn (c : Fx) (A : Around) (env : Env) (target : Expr) (body : List Stmt) (n : Nat) (gB : Heap) (P : Nat → Heap → Value → Prop) (Inv : Nat → Heap → List (Str × Value) → List (Addr × Obj) → Prop) (Q : Flow → Shared → Prop) (Er : Value → Shared → Prop) : Prop :=
  ∀ i g1 g' l o T s' v E', i < n → Le gB g1 → Le g1 g' → Inv i g1 l o → P i g' v → St c g' (lk l) (o ++ T) s' → (∀ e s, Er e s → E' e s) →
    wpAny (model c.prog c.w) A (assign target env v) (fun _ s₂ => wpAny (model c.prog c.w) A (execs body env) (fun f s₃ => match f with
      | .next | .cont => ∃ g'' l'' o'', Le gB g'' ∧ Inv (i + 1) g'' l'' o'' ∧ St c g'' (lk l'') (o'' ++ T) s₃
      | .brk => False
      | .ret v => Q (.ret v) s₃) E' s₂) E' s'

section
variable {c : Fx} {g gB : Heap} {m : Str → Option Value} {js r : List (Addr × Obj)} {s : Shared} {A : Around} {E : Value → Shared → Prop} {env : Env}

theorem St.dropJs2 {a js r : List (Addr × Obj)} (F : St c g m (a ++ (js ++ r)) s) (hX : ∀ x ∈ c.X, x ∉ js.map (·.1)) : St c g m (a ++ r) s := by
  refine F.drop' (List.Sublist.append_left (List.sublist_append_right js r) a) fun x hx o h => ?_
  rcases List.mem_append.mp h with h | h
  · exact List.mem_append_left _ h
  · rcases List.mem_append.mp h with h | h
    · exact absurd (List.mem_map_of_mem (f := (·.1)) h) (hX x hx)
    · exact List.mem_append_right _ h
theorem js_notX {js r : List (Addr × Obj)} (F : St c g m (js ++ r) s) (hX : ∀ x ∈ c.X, ∃ o, (x, o) ∈ r) : ∀ x ∈ c.X, x ∉ js.map (·.1) := fun x hx h => by
  obtain ⟨o, ho⟩ := hX x hx
  have nd := F.nd
  rw [List.map_append, List.nodup_append] at nd
  exact nd.2.2 _ h _ (List.mem_map_of_mem (f := (·.1)) ho) rfl
theorem perm3 {α : Type} (a b c : List α) : (a ++ (b ++ c)).Perm (b ++ (a ++ c)) := by
  rw [← List.append_assoc, ← List.append_assoc]
  exact List.Perm.append_right c List.perm_append_comm

theorem forE {target iter : Expr} {body : List Stmt} {pos : Pos} {Q : Flow → Shared → Prop} (Er : Value → Shared → Prop) (hs : ∀ x, foldedSetIterable iter env x = pure x)
    (hEr : ∀ e s', Er e s' → notedBy (model c.prog c.w) A env (fun e s' => cameBackBy (model c.prog c.w) A env E e s') e s')
    (h : wpAny (model c.prog c.w) A (eval iter env) (fun x s₁ => wpAny (model c.prog c.w) A (pyIter x) (fun it s₂ => ∃ gB n P g l o r Inv, Rdy c A target gB n P g (lk l) (o ++ r) it s₂ ∧ Inv 0 g l o ∧ ForTurn c A env target body n gB P Inv Q Er ∧
      (∀ g' l' o' s', Le gB g' → Inv n g' l' o' → St c g' (lk l') (o' ++ r) s' → Q .next s')) E s₁) E s) :
    wpAny (model c.prog c.w) A (exec (.For target iter body [] pos) env) Q E s := by
  refine wpAny_For (wpAny_mono h (fun x s₁ h₁ => wpAny_mono h₁ (fun it s₂ h₂ => ?_) fun _ _ e => e) fun _ _ e => e) hs
  obtain ⟨gB, n, P, g, l, o, r, Inv, ⟨⟨I, J, js, s₀, rfl, It, J0, F, F₀, _⟩, hle⟩, h0, turn, fin⟩ := h₂
  have hjs := js_notX F F₀.Xr
  refine codeAny_forLoop_any (fun k s' => ∃ i g1 l o js', k = n + 1 - i ∧ i ≤ n ∧ Le gB g1 ∧ Inv i g1 l o ∧ J i js' ∧ js'.map (·.1) = js.map (·.1) ∧ St c g1 (lk l) (js' ++ (o ++ r)) s') ?_ (n + 1) ⟨0, g, l, o, js, rfl, Nat.zero_le _, hle, h0, J0, rfl, F⟩
  rintro k s' ⟨i, g1, l, o, js', rfl, hi, hle1, hInv, hJ, hkj, F'⟩
  rcases Nat.lt_or_eq_of_le hi with hlt | rfl
  · refine wpAny_mono (It.next (Q' := fun _ => False) (E := notedBy (model c.prog c.w) A env fun e s' => cameBackBy (model c.prog c.w) A env E e s')
      (Q := fun v s₁' => wpAny (model c.prog c.w) A (assign target env v) (fun _ s₂ => wpAny (model c.prog c.w) A (execs body env) (fun f s₃ => match f with
            | .next | .cont => ∃ m, m < n + 1 - i ∧ ∃ i g1 l o js', m = n + 1 - i ∧ i ≤ n ∧ Le gB g1 ∧ Inv i g1 l o ∧ J i js' ∧ js'.map (·.1) = js.map (·.1) ∧ St c g1 (lk l) (js' ++ (o ++ r)) s₃
            | .brk => Q .next s₃
            | .ret v => Q (.ret v) s₃) (notedBy (model c.prog c.w) A env fun e s' => cameBackBy (model c.prog c.w) A env E e s') s₂) (notedBy (model c.prog c.w) A env fun e s' => cameBackBy (model c.prog c.w) A env E e s') s₁') rfl hle1 hlt hJ F' (by rw [hkj]; exact hjs) fun v g2 js2 s2 hle2 hP hJ2 hk2 F2 => ?_) (fun ov s1 h1 => ?_) fun _ _ e => e
    · have F2' : St c g2 (lk l) (o ++ (js2 ++ r)) s2 := F2.perm (perm3 ..)
      refine wpAny_mono (turn i g1 g2 l o _ s2 v _ hlt hle1 hle2 hInv hP F2' hEr) (fun _ s3 h3 => wpAny_mono h3 (fun f s4 h4 => ?_) fun _ _ e => e) fun _ _ e => e
      have go : (∃ g'' l'' o'', Le gB g'' ∧ Inv (i + 1) g'' l'' o'' ∧ St c g'' (lk l'') (o'' ++ (js2 ++ r)) s4) → ∃ m, m < n + 1 - i ∧ ∃ i g1 l o js', m = n + 1 - i ∧ i ≤ n ∧ Le gB g1 ∧ Inv i g1 l o ∧ J i js' ∧ js'.map (·.1) = js.map (·.1) ∧ St c g1 (lk l) (js' ++ (o ++ r)) s4 := by
        rintro ⟨g3, l3, o3, a1, a2, a3⟩
        exact ⟨n + 1 - (i + 1), by omega, i + 1, g3, l3, o3, js2, rfl, hlt, a1, a2, hJ2, hk2.trans hkj, a3.perm (perm3 ..)⟩
      cases f with
      | next => exact go h4
      | cont => exact go h4
      | brk => exact h4.elim
      | ret v => exact h4
    · cases ov with
      | none =>
        exact h1.elim
      | some v => exact h1
  · refine wpAny_mono (It.done (Q := fun _ _ => False) (E := fun _ _ => False) (Q' := fun s₁ => Q .next s₁) rfl hle1 hJ F' (by rw [hkj]; exact hjs) fun s2 F2 => ?_) (fun ov s1 h1 => ?_) fun _ _ e => e.elim
    · exact fin g1 l o s2 hle1 hInv F2
    · cases ov with
      | none => exact wpAny_execs_nil h1
      | some v => exact wpAny_mono h1 (fun _ _ e => e.elim) fun _ _ e => e.elim
end
/-! CellR -/
def CellsAt : List (Str × Addr) → (Str → Option Value) → List (Addr × Obj) → Prop
  | [], _, co => co = []
  | (n, a) :: cs, cm, co => ∃ o co', co = (a, o) :: co' ∧ o.data = .cell (cm n) ∧ CellsAt cs cm co'

theorem cellsAt_of {h : Heap} {cm : Str → Option Value} : ∀ {cs : List (Str × Addr)}, (∀ n a, (n, a) ∈ cs → ∃ o, h.get? a = some o ∧ o.data = .cell (cm n)) → ∃ co, CellsAt cs cm co ∧ co.map (·.1) = cs.map (·.2) ∧ ∀ p ∈ co, h.get? p.1 = some p.2 ∧ ∃ v, p.2.data = .cell v
  | [], _ => ⟨[], rfl, rfl, fun _ h => nomatch h⟩
  | (n, a) :: cs, H => by
    obtain ⟨o, h1, h2⟩ := H n a (.head _)
    obtain ⟨co, a1, a2, a3⟩ := cellsAt_of (h := h) (cm := cm) (cs := cs) fun n a hm => H n a (.tail _ hm)
    refine ⟨(a, o) :: co, ⟨o, co, rfl, h2, a1⟩, by simp [a2], fun p hp => ?_⟩
    rcases List.mem_cons.mp hp with rfl | hp
    · exact ⟨h1, _, h2⟩
    · exact a3 p hp

theorem mem_lookup_nodup : ∀ {cs : List (Str × Addr)}, (cs.map (·.1)).Nodup → ∀ {n : Str} {a : Addr}, (n, a) ∈ cs → cs.lookup n = some a
  | p :: cs, nd, n, a, h => by
    rw [List.map_cons, List.nodup_cons] at nd
    rcases List.mem_cons.mp h with rfl | h
    · simp [List.lookup_cons]
    · have : (n == p.1) = false := beq_eq_false_iff_ne.mpr fun e => nd.1 (by rw [← e]; exact List.mem_map_of_mem (f := (·.1)) h)
      rw [List.lookup_cons, this]
      exact mem_lookup_nodup nd.2 h

theorem bindL_lk {K : Str → Option NameKind} : ∀ (binds l : List (Str × Value)), bindL K binds (lk l) = lk ((binds.filter fun x => decide (K x.1 = some .local)).reverse ++ l)
  | [], l => rfl
  | (n, v) :: bs, l => by
    unfold bindL
    by_cases h : K n = some .local
    · rw [if_pos h, lk_put, bindL_lk bs]
      simp [List.filter_cons, h]
    · rw [if_neg h, bindL_lk bs]
      simp [List.filter_cons, h]
theorem bindC_lk {K : Str → Option NameKind} : ∀ (binds l : List (Str × Value)), bindC K binds (lk l) = lk ((binds.filter fun x => !decide (K x.1 = some .local)).reverse ++ l)
  | [], l => rfl
  | (n, v) :: bs, l => by
    unfold bindC
    by_cases h : K n = some .local
    · rw [if_pos h, bindC_lk bs]
      simp [List.filter_cons, h]
    · rw [if_neg h, lk_put, bindC_lk bs]
      simp [List.filter_cons, h]

theorem cellsFrom_names : ∀ (ns : List (Str × NameKind)) (a b : Nat) (l m : List (Str × Addr)), l.map (·.1) = m.map (·.1) → (cellsFrom a ns l).map (·.1) = (cellsFrom b ns m).map (·.1)
  | [], _, _, _, _, h => h
  | (n, k) :: r, a, b, l, m, h => by
    unfold cellsFrom
    split
    · exact cellsFrom_names r _ _ _ _ (by simp [h])
    · exact cellsFrom_names r _ _ _ _ h
theorem cell_ord {o : Obj} {v : Option Value} (h : o.data = .cell v) : ordC o = true := by simp [ordC, h]

/-- a def of the text with cells -/
theorem enterCell {c : Wd} {K0 : Frag} (hK : c.K = K0) (hB : Base c) {g : Heap} {r : List (Addr × Obj)} {s : Shared} {A : Around} {R : Result → Shared → Prop} {a : Addr} {name qual : Str} {params : Arguments} {body : List Stmt} {scope : Scope} {dV kV doc pm cdv ct oc : Value} {an od : Option Addr} {osl : Array (Option Value)} {args : Args} {binds lbs cbs : List (Str × Value)}
    (W : Wo c g r s) (hrm : A.depth < recursionLimit) (ho : K0.lookup a = some ⟨oc, od, .func (fnX name qual params body scope [] dV kV doc pm an cdv ct), osl⟩) (hcd : codeIn K0 cdv qual = true)
    (hbind : BindsTo s (fnX name qual params body scope [] dV kV doc pm an cdv ct) args binds)
    (hkind : ∀ L, (binds.all fun x => decide (scope.names.lookup x.1 = some .local) || (decide (scope.names.lookup x.1 = some .cell) && ((cellsFrom L scope.names []).lookup x.1).isSome)) = true)
    (hl : (binds.filter fun x => decide (scope.names.lookup x.1 = some .local)).reverse = lbs) (hc : (binds.filter fun x => !decide (scope.names.lookup x.1 = some .local)).reverse = cbs)
    (hnd : ((cellsFrom 0 scope.names []).map (·.1)).Nodup)
    (hco : scope.isCoroutine = false) (hgen : scope.isGenerator = false) (hk : scope.kind = .function)
    (h : ∀ (f : Fx) s₁ env co, f.toWd = c → f.e = s.heap → f.g0 = g → f.X = r.map (·.1) → EnvOk env scope f.L (cellsFrom (f.L + 1) scope.names []) cdv → env = envX qual scope f.L a cdv (cellsFrom (f.L + 1) scope.names []) →
      CellsAt (cellsFrom (f.L + 1) scope.names []) (lk cbs) co → St f g (lk lbs) (co ++ r) s₁ →
      wpAny (model c.prog c.w) (A.deeper env) (execs body env) (fun fl s' => R (.ok (.ret (match fl with | .ret v => v | _ => .none))) s')
        (fun e s' => wpAny (model c.prog c.w) (A.deeper env) (leaving env e) (fun _ s'' => R (.error e) s'') (fun e' s'' => R (.error e') s'') s') s₁) : codeAny (model c.prog c.w) A (.call (.ref a) args) R s := by
  subst hK hl hc
  have X := hB.K.keeps (W.base.trans W.sub)
  refine codeAny_call_function (fd := fnX name qual params body scope [] dV kV doc pm an cdv ct) (body := body) hrm (X _ _ ho) rfl hco hgen rfl (codeRec_of X hcd) (hbind _ _ _ _ ?_)
  refine wpAny_newFunctionEnv_cells hk (fun x hx => ?_) fun env he s' x => ?_
  · have := List.all_eq_true.mp (hkind (s.heap.objs.size + 1)) x hx
    rcases Bool.or_eq_true _ _ |>.mp this with h1 | h1
    · exact .inl (of_decide_eq_true h1)
    · rw [Bool.and_eq_true] at h1
      exact .inr ⟨of_decide_eq_true h1.1, h1.2⟩
  · subst he
    refine ⟨(hB.nolimit.keeps (W.base.trans W.sub)).keeps x.toInCall.keep, codeAny_func ?_⟩
    have kn : (newEnv scope s.heap.objs.size mainGlobals (cellsFrom (s.heap.objs.size + 1) scope.names []) (qual ++ ".<locals>.") (some a) cdv none builtinsNs).kindOf = fun x => scope.names.lookup x := rfl
    have hns := x.toInCall.ns
    rw [show (fun _ => none : Str → Option Value) = lk [] from rfl] at x hns
    have hns' : s'.heap.Ns s.heap.objs.size (lk (binds.filter fun x => decide (scope.names.lookup x.1 = some .local)).reverse) := by
      have := hns
      rw [bindL_lk, List.append_nil] at this
      exact this
    obtain ⟨co, hcA, hck, hco'⟩ := cellsAt_of (h := s'.heap) (cm := lk (binds.filter fun x => !decide (scope.names.lookup x.1 = some .local)).reverse) (cs := cellsFrom (s.heap.objs.size + 1) scope.names []) fun n a hm => by
      have := x.cell n a (mem_lookup_nodup (by have := hnd; rw [cellsFrom_names _ 0 (s.heap.objs.size + 1) _ [] rfl] at this; exact this) hm)
      rw [bindC_lk, List.append_nil] at this
      exact this
    have habove : ∀ p ∈ co, s.heap.objs.size < p.1 := fun p hp => by
      have : p.1 ∈ (cellsFrom (s.heap.objs.size + 1) scope.names []).map (·.2) := by rw [← hck]; exact List.mem_map_of_mem hp
      obtain ⟨q, hq, e⟩ := List.mem_map.mp this
      rw [← e]
      exact x.above q.1 q.2 hq
    have hnew : ∀ p ∈ co, s.heap.get? p.1 = none := fun p hp => fresh_none (Nat.le_of_lt (habove p hp))
    have gn : ∀ b, s.heap.get? b = none → g.get? b = none := fun b hb => by
      cases q : g.get? b with
      | none => rfl
      | some o => rw [W.sub _ _ q] at hb; cases hb
    obtain ⟨hh, tk, rfl⟩ := x.toInCall.same
    have k : Le s.heap hh := x.toInCall.keep
    refine h ⟨c, s.heap, g, r.map (·.1), s.heap.objs.size⟩ _ _ co rfl rfl rfl rfl ⟨rfl, rfl, rfl, rfl, rfl, rfl⟩ rfl hcA ?_
    exact {
      gens := W.gens, os := W.os, base := W.base
      sub := W.sub.trans k
      tabs := fun q hq => ⟨(W.tabs q hq).1.le k, (W.tabs q hq).2⟩
      own := fun p hp => by
        rcases List.mem_append.mp hp with hp | hp
        · exact ⟨(hco' p hp).1, gn _ (hnew p hp), cell_ord (hco' p hp).2.choose_spec⟩
        · exact ⟨k _ _ (W.own p hp).1, (W.own p hp).2⟩
      nd := by
        rw [List.map_append, List.nodup_append]
        refine ⟨?_, W.nd, fun y hy z hz e => ?_⟩
        · rw [hck]
          have := x.apart
          exact List.pairwise_map.mpr (this : List.Pairwise (fun x y : Str × Addr => x.2 ≠ y.2) (cellsFrom (s.heap.objs.size + 1) scope.names []))
        · obtain ⟨p, hp, rfl⟩ := List.mem_map.mp hy
          obtain ⟨q, hq, rfl⟩ := List.mem_map.mp hz
          have := (W.own q hq).1
          rw [← e, hnew p hp] at this; cases this
      Bsz := Nat.le_trans W.Bsz (Nat.le_of_lt hns'.lt)
      g0e := W.sub, Bg0 := W.base, Bse := W.Bsz
      g0g := Le.refl _
      fresh := fun b o e => .inl ⟨o, e⟩
      keep := fun b o e _ _ => k _ _ e
      size := Nat.le_of_lt hns'.lt
      ns := hns'
      gL := gn _ (fresh_none (Nat.le_refl _))
      rL := fun p hp e => by
        have e' : p.1 = s.heap.objs.size := e
        rcases List.mem_append.mp hp with hp | hp
        · exact Nat.ne_of_gt (habove p hp) e'
        · have h2 := (W.own p hp).1
          have h3 : s.heap.get? p.1 = none := by rw [e']; exact fresh_none (Nat.le_refl _)
          rw [h3] at h2; cases h2
      eL := Nat.le_refl _
      ownX := fun p hp => by
        rcases List.mem_append.mp hp with hp | hp
        · exact .inl (hnew p hp)
        · exact .inr (List.mem_map_of_mem hp)
      Xr := fun y hy => by obtain ⟨p, hp, rfl⟩ := List.mem_map.mp hy; exact ⟨p.2, List.mem_append_right _ hp⟩ }

/-- a call that ends well and borrows nothing: a def with cells -/
theorem calmC {d : Wd} {K0 : Frag} {n : Nat} {g : Heap} {Q : Value → Heap → Prop} {a : Addr} {name qual : Str} {params : Arguments} {body : List Stmt} {scope : Scope} {dV kV doc pm cdv ct oc : Value} {an od : Option Addr} {osl : Array (Option Value)} {pos : List Value} {kw : List (Str × Value)} {binds lbs cbs : List (Str × Value)}
    (hK : d.K = K0) (hB : Base d) (ho : K0.lookup a = some ⟨oc, od, .func (fnX name qual params body scope [] dV kV doc pm an cdv ct), osl⟩) (hcd : codeIn K0 cdv qual = true)
    (hbind : ∀ s : Shared, Le d.B s.heap → BindsTo s (fnX name qual params body scope [] dV kV doc pm an cdv ct) ⟨pos, kw⟩ binds)
    (hkind : ∀ L, (binds.all fun x => decide (scope.names.lookup x.1 = some .local) || (decide (scope.names.lookup x.1 = some .cell) && ((cellsFrom L scope.names []).lookup x.1).isSome)) = true)
    (hl : (binds.filter fun x => decide (scope.names.lookup x.1 = some .local)).reverse = lbs) (hc : (binds.filter fun x => !decide (scope.names.lookup x.1 = some .local)).reverse = cbs)
    (hnd : ((cellsFrom 0 scope.names []).map (·.1)).Nodup)
    (hco : scope.isCoroutine = false) (hgen : scope.isGenerator = false) (hk : scope.kind = .function)
    (h : ∀ (f : Fx) s s₁ env A co, f.toWd = d → Room A n → A.handled = none → f.e = s.heap → f.g0 = g → f.X = ([] : List (Addr × Obj)).map (·.1) → EnvOk env scope f.L (cellsFrom (f.L + 1) scope.names []) cdv → env = envX qual scope f.L a cdv (cellsFrom (f.L + 1) scope.names []) →
      CellsAt (cellsFrom (f.L + 1) scope.names []) (lk cbs) co → St f g (lk lbs) co s₁ →
      wpAny (model d.prog d.w) A (execs body env) (fun fl s' => ∃ v' g', (Except.ok (Flow.ret (match fl with | .ret v => v | _ => .none)) : Result) = .ok (.ret v') ∧ Post d g [] s g' [] s' ∧ Q v' g') (fun _ _ => False) s₁) : Calm d (n + 1) (.ref a) pos kw g Q := by
  intro A s hR hh W
  refine enterCell hK hB W hR.depth ho hcd (hbind s (W.base.trans W.sub)) hkind hl hc hnd hco hgen hk fun f s₁ env co e1 e2 e3 e4 En hE hC F => ?_
  rw [List.append_nil] at F
  exact wpAny_mono (h f s s₁ env (A.deeper env) co e1 hR.deeper hh e2 e3 e4 En hE hC F) (fun _ _ z => z) fun _ _ z => z.elim

section
variable {c : Fx} {g : Heap} {m : Str → Option Value} {r : List (Addr × Obj)} {s : Shared} {M : Model} {A : Around} {E : Value → Shared → Prop} {env : Env} {sc : Scope} {cl : List (Str × Addr)} {cd : Value} {x : Str} {pos : Pos} {v : Value}

/-- a name that stands in a known cell -/
theorem nmC {a : Addr} {Q : Value → Shared → Prop} (En : EnvOk env sc c.L cl cd) (F : St c g m r s) (hc : cl.lookup x = some a) (hv : g.IsCell a (some v)) (h : Q v s) (hk : sc.kind = .function := by rfl) (hx : sc.names.lookup x = some .cell := by rfl)
    (hd : (x == ("__debug__" : Str)) = false := by decide) : wpAny M A (eval (.Name x pos) env) Q E s :=
  wpAny_Name (wpAny_loadName_cell (by rw [En.scope]; exact hk) (En.kind hx) (by rw [En.cells]; exact hc) (hv.keeps F.sub) h) hd
theorem nmF {a : Addr} {Q : Value → Shared → Prop} (En : EnvOk env sc c.L cl cd) (F : St c g m r s) (hc : cl.lookup x = some a) (hv : g.IsCell a (some v)) (h : Q v s) (hk : sc.kind = .function := by rfl) (hx : sc.names.lookup x = some .free := by rfl)
    (hn : (x == ("__classdict__" : Str)) = false := by decide) (hd : (x == ("__debug__" : Str)) = false := by decide) : wpAny M A (eval (.Name x pos) env) Q E s :=
  wpAny_Name (wpAny_loadName_free (by rw [En.scope]; exact hk) (En.kind hx) (by rw [En.cells]; exact hc) (hv.keeps F.sub) h hn) hd
/-- a cell of the frame is set, and let be -/
theorem stC {a : Addr} {o : Obj} {v0 : Option Value} {Q : Unit → Shared → Prop} (En : EnvOk env sc c.L cl cd) (F : St c g m ((a, o) :: r) s) (ho : o.data = .cell v0) (hc : cl.lookup x = some a) (hX : a ∉ c.X)
    (h : ∀ g' s', Le g g' → g'.IsCell a (some v) → St c g' m r s' → Q () s') (hk : sc.kind = .function := by rfl) (hx : sc.names.lookup x = some .cell := by rfl) : wpAny M A (storeName env x v) Q E s := by
  refine wpAny_storeName_cell (by rw [En.scope]; exact hk) (En.kind hx) (by rw [En.cells]; exact hc) ⟨o, (F.own _ (.head _)).1, ho⟩ fun h' ⟨o', h1, h2⟩ hs => ?_
  obtain ⟨g', l1, k1, F'⟩ := (F.own1 (t := s.toks) h1 (cell_ord h2) hs).freeze1 hX
  exact h g' _ l1 ⟨_, k1, h2⟩ F'
end
/-! Itrs -/
section
variable {c : Fx} {g : Heap} {m : Str → Option Value} {r : List (Addr × Obj)} {s : Shared}

theorem St.adopt {js : List (Addr × Obj)} (F : St c g m r s) (h : ∀ p ∈ js, s.heap.get? p.1 = some p.2 ∧ ordC p.2 = true ∧ g.get? p.1 = none ∧ p.1 ≠ c.L ∧ c.e.get? p.1 = none) (nd : ((js ++ r).map (·.1)).Nodup) : St c g m (js ++ r) s := { F with
  own := fun p hp => by
    rcases List.mem_append.mp hp with hp | hp
    · exact ⟨(h p hp).1, (h p hp).2.2.1, (h p hp).2.1⟩
    · exact F.own p hp
  nd := nd
  rL := fun p hp => by
    rcases List.mem_append.mp hp with hp | hp
    · exact (h p hp).2.2.2.1
    · exact F.rL p hp
  ownX := fun p hp => by
    rcases List.mem_append.mp hp with hp | hp
    · exact .inl (h p hp).2.2.2.2
    · exact F.ownX p hp
  Xr := fun x hx => (F.Xr x hx).elim fun o z => ⟨o, List.mem_append_right _ z⟩ }

/-- new objects that a step made are the frame's own -/
theorem St.adoptNew {js : List (Addr × Obj)} {h' : Heap} {t : Tok} (F : St c g m r s) (k : Le s.heap h') (h : ∀ p ∈ js, h'.get? p.1 = some p.2 ∧ ordC p.2 = true ∧ s.heap.objs.size ≤ p.1) (nd : (js.map (·.1)).Nodup) : St c g m (js ++ r) { s with heap := h', toks := t } := by
  have F' := F.more (t := t) k
  refine F'.adopt (fun p hp => ⟨(h p hp).1, (h p hp).2.1, ?_⟩) ?_
  · have hn : s.heap.get? p.1 = none := fresh_none (h p hp).2.2
    have := F.absent hn
    exact ⟨this.1, Ne.symm this.2.1, fresh_none (Nat.le_trans F.size (h p hp).2.2)⟩
  · rw [List.map_append, List.nodup_append]
    refine ⟨nd, F.nd, fun x hx y hy e => ?_⟩
    obtain ⟨p, hp, rfl⟩ := List.mem_map.mp hx
    obtain ⟨q, hq, rfl⟩ := List.mem_map.mp hy
    have := (F.own q hq).1
    rw [← e, fresh_none (h p hp).2.2] at this; cases this

/-- own objects that were not borrowed become others -/
theorem St.ownsExt {js js' : List (Addr × Obj)} {h' : Heap} {t : Tok} (F : St c g m (js ++ r) s) (hjs : ∀ x ∈ c.X, x ∉ js.map (·.1)) (hkeys : js'.map (·.1) = js.map (·.1)) (h : ∀ p ∈ js', h'.get? p.1 = some p.2 ∧ ordC p.2 = true)
    (hk : ∀ b o, b ∉ js.map (·.1) → s.heap.get? b = some o → h'.get? b = some o) : St c g m (js' ++ r) { s with heap := h', toks := t } := by
  have F' := F.goneExt (t := t) hjs hk
  refine F'.adopt (fun p hp => ?_) (by rw [List.map_append, hkeys, ← List.map_append]; exact F.nd)
  have : p.1 ∈ js.map (·.1) := by rw [← hkeys]; exact List.mem_map_of_mem hp
  obtain ⟨q, hq, e⟩ := List.mem_map.mp this
  have A := F.own q (List.mem_append_left _ hq)
  refine ⟨(h p hp).1, (h p hp).2, by rw [← e]; exact A.2.1, by rw [← e]; exact F.rL q (List.mem_append_left _ hq), ?_⟩
  rcases F.ownX q (List.mem_append_left _ hq) with z | z
  · rw [← e]; exact z
  · exact absurd (List.mem_map_of_mem (f := (·.1)) hq) (hjs _ z)

/-- a new object that a step made is known from now on -/
theorem St.learnNew {a : Addr} {o : Obj} {s₀ : Shared} (F : St c g m r s) (F₀ : ∃ g₀ m₀ r₀, St c g₀ m₀ r₀ s₀ ∧ r₀.map (·.1) = r.map (·.1)) (ha : s.heap.get? a = some o) (hz : s₀.heap.objs.size ≤ a) (ho : ordC o = true) : ∃ g', Le g g' ∧ g'.get? a = some o ∧ St c g' m r s := by
  obtain ⟨g₀, m₀, r₀, F₀, hr⟩ := F₀
  have hn : s₀.heap.get? a = none := fresh_none hz
  refine F.learn1 ha (fresh_none (Nat.le_trans F₀.size hz)) (fun e => ?_) (fun q hq e => ?_) ho
  · have := F₀.sizeL
    rw [e] at hz
    exact absurd hz (Nat.not_le.mpr this)
  · have : q.1 ∈ r₀.map (·.1) := by rw [hr]; exact List.mem_map_of_mem hq
    obtain ⟨p, hp, e'⟩ := List.mem_map.mp this
    have h2 := (F₀.own p hp).1
    rw [e', e, hn] at h2; cases h2
end

abbrev enumO (it : Addr) (i : Int) (old : Value) : Obj := { cls := .type "enumerate", dict := none, data := .fields #[.none, .bool false, .ref it, rawInt i, .none, old], slots := #[] }

theorem itrEnum {d : Wd} {A : Around} {elts : List Expr} {k : Nat} {tp : Pos} {e it l : Addr} {items : Array Value} {gB : Heap} (H : Hnd A gB) (hl : gB.IsList l items) (hei : e ≠ it) :
    Itr d A (.Tuple elts k tp) e items.size gB (fun i g v => ∃ t x tok, v = .ref t ∧ IsTup g t #[.int i tok, x] ∧ items[i]? = some x)
      (fun i js => ∃ o old, js = [(e, enumO it i old), (it, o)] ∧ o.cls = .type "list_iterator" ∧ o.data = .fields #[.ref l, .int i 0]) where
  next := by
    rintro f g m js r s i Q Q' E rfl hle hi ⟨o, old, rfl, hc, hd⟩ F hX hQ
    have he := F.own _ (.head _)
    have hit := F.own _ (.tail _ (.head _))
    refine wpAny_pyNext_enum_item he.1 ⟨o, hit.1, hc, hd⟩ (IsList_le hl (hle.trans F.sub)) (x := items[i]) (by simp [hi]) hei fun h' heo hit' htup hz hk => ?_
    dsimp only
    refine wpAny_letOwnedTupleGo_enum heo fun h2 he2 hs2 => ?_
    obtain ⟨o2, a1, a2, a3⟩ := hit'
    have hs2' : Heap.SameBut e h' h2 := hs2
    have F2 := F.ownsExt (h' := h2) (t := s.toks + 1) (js' := [(e, enumO it ((i + 1 : Nat) : Int) items[i]), (it, o2)]) hX rfl (fun p hp => by
      rcases List.mem_cons.mp hp with rfl | hp
      · exact ⟨by simpa using he2, rfl⟩
      · obtain rfl := List.mem_singleton.mp hp
        exact ⟨hs2'.extBut _ _ (Ne.symm hei) a1, fields_ord a2 a3 (by simp)⟩) fun b ob hb e1 => by
        have h1 : b ≠ e := fun z => hb (by simp [z])
        have h2 : b ≠ it := fun z => hb (by simp [z])
        exact hs2'.extBut _ _ h1 (hk b ob h1 h2 e1)
    have hne : s.heap.objs.size ≠ e := Nat.ne_of_gt (Heap.lt_size he.1)
    obtain ⟨g', l1, k1, F3⟩ := F2.learnNew (s₀ := s) ⟨g, m, _, F, rfl⟩ (hs2'.extBut _ _ hne htup) (Nat.le_refl _) rfl
    exact hQ _ g' _ _ l1 ⟨_, _, _, rfl, ⟨_, k1, rfl, _, rfl⟩, by simp [hi]⟩ ⟨o2, items[i], rfl, a2, a3⟩ rfl F3
  done := by
    rintro f g m js r s Q Q' E rfl hle ⟨o, old, rfl, hc, hd⟩ F hX hQ
    have he := F.own _ (.head _)
    have hit := F.own _ (.tail _ (.head _))
    refine enum_end (hOk_of H (hle.trans F.sub)) (hnd_ne (H.le hle) hit.2.1) he.1 ⟨o, hit.1, hc, hd⟩ (IsList_le hl (hle.trans F.sub)) (by simp) fun h' hx' _ => ?_
    exact hQ _ (F.goneExt (t := s.toks) hX fun b ob hb e => hx' b ob (fun z => hb (by simp [z])) e)
  self := by
    rintro f g m js r s i Q E rfl hle ⟨o, old, rfl, hc, hd⟩ F hQ
    exact wpAny_pyIter_enum (F.own _ (.head _)).1 hQ

section
variable {c : Fx} {g : Heap} {m : Str → Option Value} {r : List (Addr × Obj)} {s : Shared} {A : Around} {E : Value → Shared → Prop}
theorem rdyN {gB : Heap} {target : Expr} {n : Nat} {P : Nat → Heap → Value → Prop} {J : Nat → List (Addr × Obj) → Prop} {I : Addr} {js : List (Addr × Obj)} {h' : Heap} {t : Tok} (F : St c g m r s) (It : Itr c.toWd A target I n gB P J) (J0 : J 0 js) (k : Le s.heap h') (hz : s.heap.objs.size ≤ h'.objs.size)
    (h : ∀ p ∈ js, h'.get? p.1 = some p.2 ∧ ordC p.2 = true ∧ s.heap.objs.size ≤ p.1) (nd : (js.map (·.1)).Nodup) (hle : Le gB g) : Rdy c A target gB n P g m r (.ref I) { s with heap := h', toks := t } :=
  ⟨⟨_, J, js, s, rfl, It, J0, F.adoptNew k h nd, F, k, hz, fun p hp => fresh_none (h p hp).2.2⟩, hle⟩

theorem Rdy.self {gB : Heap} {target : Expr} {n : Nat} {P : Nat → Heap → Value → Prop} {it : Value} {Q : Value → Shared → Prop} (R : Rdy c A target gB n P g m r it s) (h : Q it s) : wpAny (model c.prog c.w) A (pyIter it) Q E s := by
  obtain ⟨⟨I, J, js, s₀, rfl, It, J0, F, _⟩, hle⟩ := R
  exact It.self rfl hle J0 F h

/-- enumerate over a known list, its iterator ready -/
theorem callEnum {l : Addr} {items : Array Value} {Q : Value → Shared → Prop} (F : St c g m r s) (H : Hnd A g) (hl : g.IsList l items)
    (h : ∀ it s', (∀ elts k tp, Rdy c A (.Tuple elts k tp) g items.size (fun i g v => ∃ t x tok, v = .ref t ∧ IsTup g t #[.int i tok, x] ∧ items[i]? = some x) g m r it s') → Q it s') : wpAny (model c.prog c.w) A (call (.type "enumerate") [.ref l]) Q E s := by
  refine call_enumerate_list (IsList_le hl F.sub) fun h' he hit hz hk => ?_
  obtain ⟨o, h1, h2, h3⟩ := hit
  have hei : s.heap.objs.size + 1 ≠ s.heap.objs.size := Nat.succ_ne_self _
  refine h _ _ fun elts k tp => (rdyN (t := s.toks) F (itrEnum H hl hei) ⟨o, .none, rfl, h2, h3⟩ hk (by omega) (fun p hp => ?_) (by simp) (Le.refl _))
  rcases List.mem_cons.mp hp with rfl | hp
  · exact ⟨he, rfl, Nat.le_succ _⟩
  · obtain rfl := List.mem_singleton.mp hp
    exact ⟨h1, fields_ord h2 h3 (by simp), Nat.le_refl _⟩
end
/-! DataR -/
/-! plain data as values -/
def rd (g : Heap) (v : Value) (d : PyData) : Prop := ∃ as, Reads g v d as
theorem rd.le {g h : Heap} {v : Value} {d : PyData} (x : rd g v d) (k : Le g h) : rd h v d := let ⟨as, r⟩ := x; ⟨as, Reads.keeps k r⟩
theorem readsAll_of {g : Heap} : ∀ {vs : List Value} {ds : List PyData}, Paired (rd g) vs ds → ∃ as, ReadsAll g vs ds as
  | [], [], .nil => ⟨[], .nil⟩
  | _ :: _, _ :: _, .cons ⟨as, h⟩ t => let ⟨bs, r⟩ := readsAll_of t; ⟨as ++ bs, .cons h r⟩
theorem of_readsAll {g : Heap} : ∀ {vs : List Value} {ds : List PyData} {as : List Addr}, ReadsAll g vs ds as → Paired (rd g) vs ds
  | [], [], _, .nil => .nil
  | _ :: _, _ :: _, _, .cons h t => .cons ⟨_, h⟩ (of_readsAll t)
theorem rd_list {g : Heap} {a : Addr} {vs : List Value} {ds : List PyData} (h : g.IsList a vs.toArray) (p : Paired (rd g) vs ds) : rd g (.ref a) (.list ds) := by
  obtain ⟨o, h1, h2, n, h3⟩ := h
  obtain ⟨as, r⟩ := readsAll_of p
  exact ⟨_, .list h1 h2 h3 (by simpa using r)⟩
theorem rd_tup {g : Heap} {a : Addr} {vs : List Value} {ds : List PyData} (h : IsTup g a vs.toArray) (p : Paired (rd g) vs ds) : rd g (.ref a) (.tuple ds) := by
  obtain ⟨o, h1, h2, n, h3⟩ := h
  obtain ⟨as, r⟩ := readsAll_of p
  exact ⟨_, .tuple h1 h2 h3 (by simpa using r)⟩
theorem rd.listI {g : Heap} {v : Value} {ds : List PyData} (x : rd g v (.list ds)) : ∃ a vs, v = .ref a ∧ g.IsList a vs.toArray ∧ Paired (rd g) vs ds := by
  obtain ⟨as, r⟩ := x
  cases r with
  | @list a o vs n xs as h1 h2 h3 h4 => exact ⟨a, vs.toList, rfl, ⟨o, h1, h2, n, by simpa using h3⟩, of_readsAll h4⟩
theorem rd.tupI {g : Heap} {v : Value} {ds : List PyData} (x : rd g v (.tuple ds)) : ∃ a vs, v = .ref a ∧ IsTup g a vs.toArray ∧ Paired (rd g) vs ds := by
  obtain ⟨as, r⟩ := x
  cases r with
  | @tuple a o vs n xs as h1 h2 h3 h4 => exact ⟨a, vs.toList, rfl, ⟨o, h1, h2, n, by simpa using h3⟩, of_readsAll h4⟩
theorem rd.str {g : Heap} {v : Value} {n : Str} (x : rd g v (.str n)) : ∃ t, v = .str n t := by
  obtain ⟨as, r⟩ := x; cases r; exact ⟨_, rfl⟩
theorem rd.int {g : Heap} {v : Value} {n : Int} (x : rd g v (.int n)) : ∃ t, v = .int n t := by
  obtain ⟨as, r⟩ := x; cases r; exact ⟨_, rfl⟩
theorem rd.bool {g : Heap} {v : Value} {n : Bool} (x : rd g v (.bool n)) : v = .bool n := by
  obtain ⟨as, r⟩ := x; cases r; rfl
theorem rd.none {g : Heap} {v : Value} (x : rd g v .none) : v = .none := by
  obtain ⟨as, r⟩ := x; cases r; rfl
theorem rd_str {g : Heap} {n : Str} {t : Tok} : rd g (.str n t) (.str n) := ⟨_, .str ..⟩
theorem rd_int {g : Heap} {n : Int} {t : Tok} : rd g (.int n t) (.int n) := ⟨_, .int ..⟩
theorem rd_bool {g : Heap} {b : Bool} : rd g (.bool b) (.bool b) := ⟨_, .bool ..⟩
theorem rd_none {g : Heap} : rd g .none .none := ⟨_, .none⟩

theorem pmono {α β : Type} {F G : α → β → Prop} (h : ∀ a b, F a b → G a b) : ∀ {l : List α} {m : List β}, Paired F l m → Paired G l m
  | _, _, .nil => .nil
  | _, _, .cons a t => .cons (h _ _ a) (pmono h t)
theorem pat {α β : Type} {F : α → β → Prop} : ∀ {l : List α} {m : List β} {i : Nat} {x : α}, Paired F l m → l[i]? = some x → ∃ y, m[i]? = some y ∧ F x y
  | _, _, 0, _, .cons a _, h => by simp at h; subst h; exact ⟨_, by simp, a⟩
  | _, _, i + 1, _, .cons _ t, h => by
    have := pat (i := i) t (by simpa using h)
    simpa using this
theorem pat' {α β : Type} {F : α → β → Prop} : ∀ {l : List α} {m : List β} {i : Nat} {y : β}, Paired F l m → m[i]? = some y → ∃ x, l[i]? = some x ∧ F x y
  | _, _, 0, _, .cons a _, h => by simp at h; subst h; exact ⟨_, by simp, a⟩
  | _, _, i + 1, _, .cons _ t, h => by
    have := pat' (i := i) t (by simpa using h)
    simpa using this
theorem pcons {α β : Type} {F : α → β → Prop} {l : List α} {y : β} {m : List β} (h : Paired F l (y :: m)) : ∃ x l', l = x :: l' ∧ F x y ∧ Paired F l' m := by
  cases h with
  | cons a t => exact ⟨_, _, rfl, a, t⟩
theorem pnil {α β : Type} {F : α → β → Prop} {l : List α} (h : Paired F l ([] : List β)) : l = [] := by cases h; rfl
theorem rd.tup3 {g : Heap} {v : Value} {a b c : PyData} (x : rd g v (.tuple [a, b, c])) : ∃ t v1 v2 v3, v = .ref t ∧ IsTup g t #[v1, v2, v3] ∧ rd g v1 a ∧ rd g v2 b ∧ rd g v3 c := by
  obtain ⟨t, vs, rfl, ht, hp⟩ := x.tupI
  obtain ⟨v1, _, rfl, h1, hp⟩ := pcons hp
  obtain ⟨v2, _, rfl, h2, hp⟩ := pcons hp
  obtain ⟨v3, _, rfl, h3, hp⟩ := pcons hp
  cases pnil hp
  exact ⟨t, v1, v2, v3, rfl, ht, h1, h2, h3⟩
theorem rd.tup4 {g : Heap} {v : Value} {a b c d : PyData} (x : rd g v (.tuple [a, b, c, d])) : ∃ t v1 v2 v3 v4, v = .ref t ∧ IsTup g t #[v1, v2, v3, v4] ∧ rd g v1 a ∧ rd g v2 b ∧ rd g v3 c ∧ rd g v4 d := by
  obtain ⟨t, vs, rfl, ht, hp⟩ := x.tupI
  obtain ⟨v1, _, rfl, h1, hp⟩ := pcons hp
  obtain ⟨v2, _, rfl, h2, hp⟩ := pcons hp
  obtain ⟨v3, _, rfl, h3, hp⟩ := pcons hp
  obtain ⟨v4, _, rfl, h4, hp⟩ := pcons hp
  cases pnil hp
  exact ⟨t, v1, v2, v3, v4, rfl, ht, h1, h2, h3, h4⟩
theorem prd_le {g h : Heap} {vs : List Value} {ds : List PyData} (p : Paired (rd g) vs ds) (k : Le g h) : Paired (rd h) vs ds := pmono (fun _ _ x => x.le k) p

/-- the first i of a list of rows that is told apart by its place -/
theorem take_map_succ {α β : Type} {f : α → Nat → β} {xs : List α} {i : Nat} {x : α} (h : xs[i]? = some x) : (xs.mapIdx fun k a => f a k).take (i + 1) = (xs.mapIdx fun k a => f a k).take i ++ [f x i] := by
  rw [List.take_add_one]
  congr 1
  simp [List.getElem?_mapIdx, h]

theorem take_d {α β : Type} {f : Nat → α → β} {xs : List α} {i : Nat} {x : α} (h : xs[i]? = some x) : (xs.mapIdx f).take (i + 1) = (xs.mapIdx f).take i ++ [f i x] := by
  rw [List.take_add_one]
  congr 1
  simp [List.getElem?_mapIdx, h]
theorem cast_beq (n k : Nat) : (((n : Nat) : Int) == ((k : Nat) : Int)) = (n == k) := by
  by_cases h : n = k
  · simp [h]
  · rw [beq_eq_false_iff_ne.mpr h, beq_eq_false_iff_ne.mpr (by exact_mod_cast h)]
section
variable {c : Fx} {g : Heap} {m : Str → Option Value} {r : List (Addr × Obj)} {s : Shared} {A : Around} {E : Value → Shared → Prop} {prog : Program} {w : World}

theorem op_powN {x y : Int} {t u : Tok} {Q : Value → Shared → Prop} (F : St c g m r s) (a b : Nat) (hx : x = a) (hy : y = b) (ha : 2 ≤ a) (hfit : a.log2 < 10 ∧ b < 100) (h : ∀ t s', St c g m r s' → Q (.int ((a ^ b : Nat) : Int) t) s') :
    wpAny (model prog w) A (binaryOp .Pow (.int x t) (.int y u)) Q E s := by
  subst hx hy
  by_cases hb : b = 0
  · subst hb
    exact AutoIntOps.pow_0 (by simp) (by simp) (h _ _ F.toks)
  · refine AutoIntOps.pow_4 (by simp) (by simpa using hb) (by simp; omega) (by simp) ?_ ?_
    · have h1 : Builtin.Int.intBits (a : Int) ≤ 10 := by
        unfold Builtin.Int.intBits
        split <;> simp <;> omega
      unfold Builtin.Int.intTooBig
      simp only [decide_eq_true_eq]
      have h2 : ((Builtin.Int.intBits (a : Int) : Nat) : Int) * (b : Int) ≤ 10 * 100 := by
        have := Nat.mul_le_mul h1 (Nat.le_of_lt hfit.2)
        exact_mod_cast this
      have h3 : (1000 : Int) ≤ bitsLine := by decide
      omega
    · have : ((a : Int) ^ (b : Int).toNat) = ((a ^ b : Nat) : Int) := by simp
      show Q (.int ((a : Int) ^ (b : Int).toNat) _) _
      rw [this]
      exact h _ _ F.toks
theorem op_fdN {x y : Int} {t u : Tok} {Q : Value → Shared → Prop} (F : St c g m r s) (a b : Nat) (hx : x = a) (hy : y = b) (hb : 0 < b) (hfit : b.log2 < 1000) (h : ∀ t s', St c g m r s' → Q (.int ((a / b : Nat) : Int) t) s') :
    wpAny (model prog w) A (binaryOp .FloorDiv (.int x t) (.int y u)) Q E s := by
  subst hx hy
  refine AutoIntOps.floordiv_1 (by simp; omega) ?_ ?_
  · unfold Builtin.divisionGoesByPylong
    have : ((b : Int) == 0) = false := by simp; omega
    simp only [this, Bool.false_eq_true, if_false, Int.natAbs_natCast, Bool.and_eq_true, decide_eq_true_eq]
    omega
  · have : Int.fdiv (a : Int) (b : Int) = ((a / b : Nat) : Int) := by
      rw [Int.fdiv_eq_ediv_of_nonneg _ (by omega)]; rfl
    show Q (.int _ _) _
    rw [this]
    exact h _ _ F.toks
theorem op_modN {x y : Int} {t u : Tok} {Q : Value → Shared → Prop} (F : St c g m r s) (a b : Nat) (hx : x = a) (hy : y = b) (hb : 0 < b) (h : ∀ t s', St c g m r s' → Q (.int ((a % b : Nat) : Int) t) s') :
    wpAny (model prog w) A (binaryOp .Mod (.int x t) (.int y u)) Q E s := by
  subst hx hy
  refine AutoIntOps.mod_1 (by simp; omega) ?_
  have : Int.fmod (a : Int) (b : Int) = ((a % b : Nat) : Int) := by
    rw [Int.fmod_eq_emod_of_nonneg _ (by omega)]; rfl
  show Q (.int _ _) _
  rw [this]
  exact h _ _ F.toks
theorem op_eqI {a b : Int} {t u : Tok} {Q : Value → Shared → Prop} (h : Q (.bool (a == b)) s) : wpAny (model prog w) A (compareOp .Eq (.int a t) (.int b u)) Q E s := by
  show wpAny _ _ (richCompare .Eq (.int a t) (.int b u)) Q E s
  exact wpAny_eq_int h
theorem getL {l : Addr} {items : Array Value} {k : Int} {t : Tok} {x : Value} {Q : Value → Shared → Prop} (F : St c g m r s) (hl : g.IsList l items) (i : Nat) (hk : k = i) (hx : items[i]? = some x) (hsz : items.size < 2 ^ 63) (h : Q x s) : wpAny (model prog w) A (getItem (.ref l) (.int k t)) Q E s := by
  subst hk
  have hi : i < items.size := (Array.getElem?_eq_some_iff.mp hx).1
  exact wpAny_getItem_list (IsList_le hl F.sub) (by omega) (by omega) (by simpa using hx) h
theorem subT {value slice : Expr} {o i : Value} {T id : String} {Q : Value → Shared → Prop} (hT : s.TypeIs o T)
    (hl : typeLookup (.type T) "__getitem__" = pure (some (.builtin id))) (h : wpAny (model prog w) A (getItem o i) Q E s)
    (hs : subscripted slice false o i = operate [o, i] (getItem o i)) : wpAny (model prog w) A (subscriptTail value slice o i) Q E s := by
  unfold subscriptTail
  refine wpAny_bind ?_
  rw [getitemInPython_of_ne hT.not_modules]
  refine wpAny_bind (wpAny_specialOf hT hl ?_)
  have fin : wpAny (model prog w) A (subscripted slice false o i) (fun r s₃ => wpAny (model prog w) A (letTemporaryGo value o r >>= fun _ => pure r) Q E s₃) E s := by
    rw [hs]
    exact wpAny_operating (wpAny_mono h (fun r s₃ h₃ => wpAny_bind (wpAny_letTemporaryGo (wpAny_pure h₃))) fun _ _ x => x)
  first
    | exact wpAny_pure (wpAny_bind fin)
    | exact wpAny_bind (wpAny_pure (wpAny_bind fin))
    | exact wpAny_bind fin
theorem sub_list {value slice : Expr} {l : Addr} {items : Array Value} {k : Int} {t : Tok} {x : Value} {Q : Value → Shared → Prop} (F : St c g m r s) (hl : g.IsList l items) (i : Nat) (hk : k = i) (hx : items[i]? = some x) (hsz : items.size < 2 ^ 63)
    (hs : subscripted slice false (.ref l) (.int k t) = operate [.ref l, .int k t] (getItem (.ref l) (.int k t))) (h : Q x s) : wpAny (model prog w) A (subscriptTail value slice (.ref l) (.int k t)) Q E s :=
  subT (IsList_le hl F.sub).typeIs list_getitem_lookup (getL F hl i hk hx hsz h) hs
theorem sub_tup {value slice : Expr} {l : Addr} {items : Array Value} {k : Int} {t : Tok} {j : Nat} {x : Value} {Q : Value → Shared → Prop} (F : St c g m r s) (hl : IsTup g l items) (hlo : -(2 ^ 63) ≤ k) (hhi : k < 2 ^ 63) (hj : seqIndex? k items.size = some j) (hx : items[j]? = some x)
    (hs : subscripted slice false (.ref l) (.int k t) = operate [.ref l, .int k t] (getItem (.ref l) (.int k t))) (h : Q x s) : wpAny (model prog w) A (subscriptTail value slice (.ref l) (.int k t)) Q E s :=
  subT (hl.keeps F.sub).typeIs slot_tuple_getitem.lookup (getItem_tuple (hl.keeps F.sub) hlo hhi hj hx h) hs
end
/-! DictR -/
abbrev sk (c : Wd) : PySem.KeyKind c.prog c.w Str := PySem.strKind c.prog c.w
/-- a known dict of names -/
def DK (c : Wd) (g : Heap) (a : Addr) (kvs : List (Str × Value)) : Prop := g.DictOf (sk c) a kvs ∧ (a == sysModules) = false
theorem DK.le {c : Wd} {g h : Heap} {a : Addr} {kvs : List (Str × Value)} (x : DK c g a kvs) (k : Le g h) : DK c h a kvs := ⟨x.1.keep k, x.2⟩
abbrev DO (c : Wd) (o : Obj) (kvs : List (Str × Value)) : Prop := o.IsDictOf (sk c) kvs
theorem DO.ord {c : Wd} {o : Obj} {kvs : List (Str × Value)} (x : DO c o kvs) : ordC o = true := by
  obtain ⟨es, ep, _, hd, _⟩ := x
  simp [ordC, hd]
/-- a set of names as an object -/
def SO (c : Wd) (o : Obj) (S : Str → Bool) (n : Nat) : Prop := ∃ es ep t, o.ExactSet ∧ o.data = .set es ep t ∧ ElemsOf (sk c) es.toList ∧ (∀ k, S k = true ↔ ∃ e ∈ es.toList, (sk c).is k e.2 = true) ∧ es.size < scanBound ∧ t.fits es.size = true ∧ es.size = n
theorem SO.of {c : Wd} {h : Heap} {a : Addr} {S : Str → Bool} {n : Nat} (x : h.SetOf (sk c) a S n) : ∃ o, h.get? a = some o ∧ SO c o S n := let ⟨o, es, ep, t, ho, r⟩ := x; ⟨o, ho, es, ep, t, r⟩
theorem SO.at {c : Wd} {h : Heap} {a : Addr} {o : Obj} {S : Str → Bool} {n : Nat} (x : SO c o S n) (ho : h.get? a = some o) : h.SetOf (sk c) a S n := let ⟨es, ep, t, r⟩ := x; ⟨o, es, ep, t, ho, r⟩
theorem SO.ord {c : Wd} {o : Obj} {S : Str → Bool} {n : Nat} (x : SO c o S n) : ordC o = true := by
  obtain ⟨es, ep, t, _, hd, _⟩ := x
  simp [ordC, hd]

theorem stored_fresh {kvs : List (Str × Value)} {k : Str} {v : Value} (h : k ∉ kvs.map (·.1)) : stored kvs k v = kvs ++ [(k, v)] := by
  unfold stored
  rw [if_neg]
  intro q
  obtain ⟨kv, h1, h2⟩ := List.any_eq_true.mp q
  exact h (by rw [← of_decide_eq_true h2]; exact List.mem_map_of_mem h1)
theorem pkeys {α β : Type} {F : α → β → Prop} {f : α → Str} {e : β → Str} (h : ∀ a b, F a b → f a = e b) : ∀ {l : List α} {m : List β}, Paired F l m → l.map f = m.map e
  | _, _, .nil => rfl
  | _, _, .cons a t => by rw [List.map_cons, List.map_cons, h _ _ a, pkeys h t]
theorem notin_take {α : Type} {e : α → Str} {l : List α} {i : Nat} {x : α} (hn : (l.map e).Nodup) (hx : l[i]? = some x) : e x ∉ (l.take i).map e := by
  intro h
  have hi : i < l.length := (List.getElem?_eq_some_iff.mp hx).1
  have e1 : l.map e = (l.take i).map e ++ (l.drop i).map e := by rw [← List.map_append, List.take_append_drop]
  rw [e1, List.nodup_append] at hn
  refine hn.2.2 _ h (e x) ?_ rfl
  refine List.mem_map_of_mem ?_
  rw [List.drop_eq_getElem_cons hi]
  have : l[i] = x := by
    have := List.getElem?_eq_getElem hi
    rw [this] at hx; exact Option.some.inj hx
  rw [this]; exact .head _
theorem take_snoc {α : Type} {l : List α} {i : Nat} {x : α} (hx : l[i]? = some x) : l.take (i + 1) = l.take i ++ [x] := by
  rw [List.take_add_one, hx]; rfl
section
variable {c : Fx} {g : Heap} {m : Str → Option Value} {r : List (Addr × Obj)} {s : Shared} {A : Around} {E : Value → Shared → Prop} {env : Env}

theorem St.notMods (F : St c g m r s) (hB : Base c.toWd) {a : Addr} (h : s.heap.objs.size ≤ a) : (a == sysModules) = false := by
  have h1 := hB.g.lt
  have h2 := F.Bsz
  have h3 : mainGlobals < a := Nat.lt_of_lt_of_le h1 (Nat.le_trans h2 h)
  have h4 : sysModules < mainGlobals := by decide
  exact beq_eq_false_iff_ne.mpr (Nat.ne_of_gt (Nat.lt_trans h4 h3))

theorem newDictO {Q : Value → Shared → Prop} {pos : Pos} (hB : Base c.toWd) (F : St c g m r s) (h : ∀ D od s', (D == sysModules) = false → DO c.toWd od [] → St c g m ((D, od) :: r) s' → s.heap.get? D = none → Q (.ref D) s') : wpAny (model c.prog c.w) A (eval (.Dict [] [] pos) env) Q E s := by
  refine wpAny_Dict_empty ?_
  obtain ⟨o, ho, hd⟩ := Heap.dictOf_iff.mp (Heap.DictOf.new (knd := sk c.toWd) s.heap)
  have ho' := Heap.get?_push_size s.heap (o := { cls := .type "dict", data := .dict #[] }) rfl
  rw [ho'] at ho
  cases ho
  exact h _ _ _ (F.notMods hB (Nat.le_refl _)) hd (F.allocOwn (t := s.toks) rfl rfl) (fresh_none (Nat.le_refl _))

theorem setD {D : Addr} {od : Obj} {kvs : List (Str × Value)} {k : Str} {t : Tok} {v : Value} {Q : Unit → Shared → Prop} (F : St c g m ((D, od) :: r) s) (hd : DO c.toWd od kvs) (hz : kvs.length ≤ sizeLine)
    (h : ∀ od' s', DO c.toWd od' (stored kvs k v) → St c g m ((D, od') :: r) s' → Q () s') : wpAny (model c.prog c.w) A (setItem (.ref D) (.str k t) v) Q E s := by
  refine wpAny_setItem_pairs (knd := sk c.toWd) (strKind_is _ _ _ _) (Heap.dictOf_iff.mpr ⟨od, (F.own _ (.head _)).1, hd⟩) (fun h' hm hs => ?_) hz
  obtain ⟨o', h1, h2⟩ := Heap.dictOf_iff.mp hm
  exact h _ _ h2 (F.own1 (t := s.toks + 1) h1 (DO.ord h2) hs)
theorem getD' {a : Addr} {kvs : List (Str × Value)} {k : Str} {t : Tok} {v : Value} {Q : Value → Shared → Prop} (F : St c g m r s) (hd : s.heap.DictOf (sk c.toWd) a kvs) (hv : valueAt kvs k = some v) (h : ∀ s', St c g m r s' → Q v s') : wpAny (model c.prog c.w) A (getItem (.ref a) (.str k t)) Q E s :=
  wpAny_getItem_of (knd := sk c.toWd) (strKind_is _ _ _ _) hd.mapOf hv (h _ F.toks)
theorem subD {value slice : Expr} {a : Addr} {kvs : List (Str × Value)} {k : Str} {t : Tok} {v : Value} {Q : Value → Shared → Prop} (F : St c g m r s) (hd : s.heap.DictOf (sk c.toWd) a kvs) (hv : valueAt kvs k = some v)
    (hs : subscripted slice false (.ref a) (.str k t) = operate [.ref a, .str k t] (getItem (.ref a) (.str k t))) (h : ∀ s', St c g m r s' → Q v s') : wpAny (model c.prog c.w) A (subscriptTail value slice (.ref a) (.str k t)) Q E s :=
  subT hd.typeIs slot_dict_getitem.lookup (getD' F hd hv h) hs
theorem inD {a : Addr} {kvs : List (Str × Value)} {k : Str} {t : Tok} {Q : Value → Shared → Prop} (F : St c g m r s) (hd : s.heap.DictOf (sk c.toWd) a kvs) (hm : (a == sysModules) = false) (h : ∀ s', St c g m r s' → Q (.bool (valueAt kvs k).isSome) s') : wpAny (model c.prog c.w) A (compareOp .In (.str k t) (.ref a)) Q E s :=
  wpAny_in_of (knd := sk c.toWd) (strKind_is _ _ _ _) hm hd.mapOf (h _ F.toks)
theorem notInD {a : Addr} {kvs : List (Str × Value)} {k : Str} {t : Tok} {Q : Value → Shared → Prop} (F : St c g m r s) (hd : s.heap.DictOf (sk c.toWd) a kvs) (hm : (a == sysModules) = false) (h : ∀ s', St c g m r s' → Q (.bool (!(valueAt kvs k).isSome)) s') : wpAny (model c.prog c.w) A (compareOp .NotIn (.str k t) (.ref a)) Q E s :=
  wpAny_notIn_of (knd := sk c.toWd) (strKind_is _ _ _ _) hm hd.mapOf (h _ F.toks)
theorem DO.at {h : Heap} {a : Addr} {o : Obj} {kvs : List (Str × Value)} {c : Wd} (x : DO c o kvs) (ho : h.get? a = some o) : h.DictOf (sk c) a kvs := Heap.dictOf_iff.mpr ⟨o, ho, x⟩
theorem St.freezeD {D : Addr} {od : Obj} {kvs : List (Str × Value)} (F : St c g m ((D, od) :: r) s) (hd : DO c.toWd od kvs) (hm : (D == sysModules) = false) (hX : D ∉ c.X) : ∃ g', Le g g' ∧ DK c.toWd g' D kvs ∧ St c g' m r s := by
  obtain ⟨g', h1, h2, h3⟩ := F.freeze1 hX
  exact ⟨g', h1, ⟨hd.at h2, hm⟩, h3⟩

/-! sets -/
theorem inS {a : Addr} {o : Obj} {S : Str → Bool} {n : Nat} {k : Str} {t : Tok} {Q : Value → Shared → Prop} (F : St c g m r s) (ho : s.heap.get? a = some o) (hS : SO c.toWd o S n) (h : ∀ s', St c g m r s' → Q (.bool (S k)) s') : wpAny (model c.prog c.w) A (compareOp .In (.str k t) (.ref a)) Q E s :=
  wpAny_inSet_of (knd := sk c.toWd) (strKind_is _ _ _ _) rfl (hS.at ho) (h _ F.toks)
theorem addS {D : Addr} {o : Obj} {S : Str → Bool} {n : Nat} {k : Str} {t : Tok} {Q : Value → Shared → Prop} (F : St c g m ((D, o) :: r) s) (hS : SO c.toWd o S n) (hn : n + 1 < scanBound)
    (h : ∀ o' s', SO c.toWd o' (fun k' => S k' || decide (k' = k)) (if S k then n else n + 1) → St c g m ((D, o') :: r) s' → Q .none s') : wpAny (model c.prog c.w) A (call (.builtin "set.add") [.ref D, .str k t]) Q E s := by
  refine call_set_add (knd := sk c.toWd) (strKind_is _ _ _ _) rfl (hS.at (F.own _ (.head _)).1) hn fun h' hs hS' => ?_
  obtain ⟨o', h1, h2⟩ := SO.of hS'
  exact h _ _ h2 (F.own1 (t := s.toks + 1) h1 h2.ord hs)
theorem gmAdd {D : Addr} {o : Obj} {S : Str → Bool} {n : Nat} {pl : Sem Bool} {Q : Value × List Value → Shared → Prop} (hS : SO c.toWd o S n) (ho : s.heap.get? D = some o) (h : Q (.builtin "set.add", [.ref D]) s) : wpAny (model c.prog c.w) A (getMethod (.ref D) "add" pl) Q E s :=
  getMethod_set_add (knd := sk c.toWd) (hS.at ho) h

/-! lists that grow -/
theorem appL {D : Addr} {ys : List Value} {n : Nat} {x : Value} {Q : Value → Shared → Prop} (F : St c g m ((D, listO ys n) :: r) s) (hz : ys.length ≤ sizeLine) (h : ∀ s' n', St c g m ((D, listO (ys ++ [x]) n') :: r) s' → Q .none s') : wpAny (model c.prog c.w) A (call (.builtin "list.append") [.ref D, x]) Q E s := by
  refine wpAny_list_append_plain (items := ys.toArray) ⟨n, (F.own _ (.head _)).1⟩ (fun h' ⟨n', h1⟩ hs => ?_) (by rw [List.size_toArray]; exact hz)
  refine h _ n' (F.own1 (t := s.toks) (o' := listO (ys ++ [x]) n') (by rw [h1]; simp [listO]) rfl hs)
theorem gmApp {D : Addr} {ys : List Value} {n : Nat} {pl : Sem Bool} {Q : Value × List Value → Shared → Prop} (ho : s.heap.get? D = some (listO ys n)) (h : Q (.builtin "list.append", [.ref D]) s) : wpAny (model c.prog c.w) A (getMethod (.ref D) "append" pl) Q E s :=
  Calls.getMethod_list_append ho rfl rfl h
theorem St.freezeL {D : Addr} {ys : List Value} {n : Nat} (F : St c g m ((D, listO ys n) :: r) s) (hX : D ∉ c.X) : ∃ g', Le g g' ∧ g'.IsList D ys.toArray ∧ St c g' m r s := by
  obtain ⟨g', h1, h2, h3⟩ := F.freeze1 hX
  exact ⟨g', h1, ⟨_, h2, rfl, n, rfl⟩, h3⟩

/-! the pairs of a dict -/
theorem gmItems {a : Addr} {kvs : List (Str × Value)} {pl : Sem Bool} {Q : Value × List Value → Shared → Prop} (hd : s.heap.DictOf (sk c.toWd) a kvs) (h : Q (.builtin "dict.items", [.ref a]) s) : wpAny (model c.prog c.w) A (getMethod (.ref a) "items" pl) Q E s :=
  getMethod_builtin hd.typeIs PySem.F.plainAttrs_dict PySem.F.slot_dict_items PySem.F.type_dict_items hd.mapOf.noDict h

abbrev itemsO (d : Addr) (i n ep : Nat) (a b : Value) : Obj := { cls := .type "dict_itemiterator", dict := none, data := .fields #[.none, .bool false, .ref d, .int i 0, .int n 0, .int ep 0, a, b], slots := #[] }
theorem itrItems {c : Wd} {A : Around} {elts : List Expr} {k : Nat} {tp : Pos} {it l : Addr} {kvs : List (Str × Value)} {ep : Nat} {gB : Heap} (hh : A.handled = none) (hl : gB.DictAt (sk c) l kvs ep) :
    Itr c A (.Tuple elts k tp) it kvs.length gB (fun i g v => ∃ t tok kv, v = .ref t ∧ IsTup g t #[.str kv.1 tok, kv.2] ∧ kvs[i]? = some kv)
      (fun i js => ∃ a b, js = [(it, itemsO l i kvs.length ep a b)]) where
  next := by
    rintro f g m js r s i Q Q' E rfl hle hi ⟨a, b, rfl⟩ F hX hQ
    have he := F.own _ (.head _)
    have hkv : kvs[i]? = some (kvs[i].1, kvs[i].2) := by simp [hi]
    refine wpAny_pyNext_items_item (knd := sk f.toWd) he.1 (hl.keep (hle.trans F.sub)) hkv fun key h' hkey heo htup hz hk => ?_
    dsimp only
    refine wpAny_letOwnedTupleGo_items heo fun h2 he2 hs2 => ?_
    have hs2' : Heap.SameBut it h' h2 := hs2
    obtain ⟨tok, rfl⟩ := Value.isStrOf_shape hkey
    have F2 := F.ownsExt (h' := h2) (t := s.toks) (js' := [(it, itemsO l (i + 1) kvs.length ep (.str kvs[i].1 tok) kvs[i].2)]) hX rfl (fun p hp => by
      obtain rfl := List.mem_singleton.mp hp
      exact ⟨he2, rfl⟩) fun b ob hb e1 => by
        have h1 : b ≠ it := fun z => hb (by simp [z])
        exact hs2'.extBut _ _ h1 (hk b ob h1 e1)
    have hne : s.heap.objs.size ≠ it := Nat.ne_of_gt (Heap.lt_size he.1)
    obtain ⟨g', l1, k1, F3⟩ := F2.learnNew (s₀ := s) ⟨g, m, _, F, rfl⟩ (hs2'.extBut _ _ hne htup) (Nat.le_refl _) rfl
    exact hQ _ g' _ _ l1 ⟨_, tok, kvs[i], rfl, ⟨_, k1, rfl, _, rfl⟩, by simp [hi]⟩ ⟨_, _, rfl⟩ rfl F3
  done := by
    rintro f g m js r s Q Q' E rfl hle ⟨a, b, rfl⟩ F hX hQ
    refine wpAny_pyNext_items_end (knd := sk f.toWd) hh (F.own _ (.head _)).1 (hl.keep (hle.trans F.sub)) (by simp) fun h' hx' => ?_
    exact hQ _ (F.goneExt (t := s.toks) hX fun b ob hb e => hx' b ob (fun z => hb (by simp [z])) e)
  self := by
    rintro f g m js r s i Q E rfl hle ⟨a, b, rfl⟩ F hQ
    exact kcp_self (F.own _ (.head _)).1 hQ

theorem callItems {a : Addr} {kvs : List (Str × Value)} {Q : Value → Shared → Prop} (F : St c g m r s) (hd : DK c.toWd g a kvs) (h : ∀ v g' s', Le g g' → g'.IsItemsView v a → St c g' m r s' → Q (.ref v) s') : wpAny (model c.prog c.w) A (call (.builtin "dict.items") [.ref a]) Q E s := by
  refine call_meetsIn PySem.F.slot_dict_items (hd.1.keep F.sub).typeIs PySem.F.entry_dict_items (PySem.F.args_dict_items_1 _) (meets_dict_items (sk c.toWd) a hd.2) ⟨⟨_, hd.1.keep F.sub⟩, ?_⟩
  obtain ⟨g', h1, h2, h3, h4⟩ := F.alloc (o := { cls := .type "dict_items", data := .fields #[.ref a] }) (t := s.toks) rfl
  exact h _ g' _ h1 ⟨_, h2, rfl, rfl⟩ h4
theorem rdyItems {v a : Addr} {kvs : List (Str × Value)} {gB : Heap} {Q : Value → Shared → Prop} (F : St c g m r s) (hh : A.handled = none) (hv : g.IsItemsView v a) (hd : DK c.toWd gB a kvs) (hle : Le gB g) (hz : kvs.length ≤ sizeLine)
    (h : ∀ it s', (∀ elts k tp, Rdy c A (.Tuple elts k tp) gB kvs.length (fun i g v => ∃ t tok kv, v = .ref t ∧ IsTup g t #[.str kv.1 tok, kv.2] ∧ kvs[i]? = some kv) g m r it s') → Q it s') : wpAny (model c.prog c.w) A (pyIter (.ref v)) Q E s := by
  obtain ⟨ep, hat⟩ := hd.1.dictAt
  refine wpAny_pyIter_items (knd := sk c.toWd) (by obtain ⟨o, h1, h2⟩ := hv; exact ⟨o, F.sub _ _ h1, h2⟩) (hat.keep (hle.trans F.sub)) ?_
  exact h _ _ fun elts k tp => rdy1 F (itrItems hh hat) ⟨_, _, rfl⟩ rfl rfl hle
end
/-! FnR -/
/-- a function that a body made: a call that ends well and borrows nothing -/
theorem calmG {d : Wd} {n : Nat} {g : Heap} {Q : Value → Heap → Prop} {a : Addr} {name qual : Str} {params : Arguments} {body : List Stmt} {scope : Scope} {clo : List (Str × Addr)} {dV kV doc pm cdv ct oc : Value} {an od : Option Addr} {osl : Array (Option Value)} {pos : List Value} {kw : List (Str × Value)} {binds bs : List (Str × Value)}
    (hB : Base d) (ho : g.get? a = some ⟨oc, od, .func (fnX name qual params body scope clo dV kV doc pm an cdv ct), osl⟩) (hcd : g.CodeRec cdv qual)
    (hbind : ∀ s : Shared, Le d.B s.heap → BindsTo s (fnX name qual params body scope clo dV kV doc pm an cdv ct) ⟨pos, kw⟩ binds) (hrev : binds.reverse = bs)
    (hcell : ∀ x ∈ scope.names, x.2 ≠ .cell) (hloc : (binds.all fun x => decide (scope.names.lookup x.1 = some .local)) = true)
    (hco : scope.isCoroutine = false) (hgen : scope.isGenerator = false) (hk : scope.kind = .function)
    (h : ∀ (f : Fx) s s₁ env A, f.toWd = d → Room A n → A.handled = none → f.e = s.heap → f.g0 = g → f.X = ([] : List (Addr × Obj)).map (·.1) → EnvOk env scope f.L clo cdv → env = envX qual scope f.L a cdv clo → St f g (lk bs) [] s₁ →
      wpAny (model d.prog d.w) A (execs body env) (fun fl s' => ∃ v' g', (Except.ok (Flow.ret (match fl with | .ret v => v | _ => .none)) : Result) = .ok (.ret v') ∧ Post d g [] s g' [] s' ∧ Q v' g') (fun _ _ => False) s₁) : Calm d (n + 1) (.ref a) pos kw g Q := by
  intro A s hR hh W
  refine enter hB W hR.depth (W.sub _ _ ho) (hcd.keeps W.sub) (hbind s (W.base.trans W.sub)) hrev hcell hloc (fun f s₁ env e1 e2 e3 e4 En hE F => ?_) hco hgen hk
  exact wpAny_mono (h f s s₁ env (A.deeper env) e1 hR.deeper hh e2 e3 e4 En hE F) (fun _ _ z => z) fun _ _ z => z.elim
theorem koG {c : Fx} {g : Heap} {m : Str → Option Value} {r : List (Addr × Obj)} {s : Shared} {M : Model} {a : Addr} {o : Obj} {fd : FuncData} (F : St c g m r s) (ho : g.get? a = some o) (hd : o.data = .func fd) : KeepOk M (.ref a) s.heap := keepOk_fn (F.sub _ _ ho) hd

theorem nocall_bool : typeLookup (.type "bool") "__call__" = pure none := by rw [typeLookup_type, builtinLookup_eq_fast]; kernel_rfl
theorem entry_callable : entryFor table "callable" = some Builtin.«callable» := entryFor_of_tree (by kernel_rfl)
theorem kind_callable : builtinKind "callable" = none := by decide +kernel
theorem plain_callable : plainId "callable" = true := by decide +kernel
theorem args_callable (v : Value) : argsOk "callable" ⟨[v], []⟩ := by
  unfold argsOk; kernel_rfl
theorem callable_bool {prog : Program} {w : World} {A : Around} {E : Value → Shared → Prop} {s : Shared} {b : Bool} {Q : Value → Shared → Prop} (h : Q (.bool false) s) : wpAny (model prog w) A (call (.builtin "callable") [.bool b]) Q E s := by
  refine call_function_meets (S := fun _ R s => R (.ok (.ret (.bool false))) s) kind_callable plain_callable entry_callable (args_callable _) (fun prog w A R s hs => ?_) h
  unfold Builtin.«callable»
  refine wpAny_bind (wpAny_pure ?_)
  refine wpAny_bind (wpAny_specialOf (T := "bool") (PySem.typeIs_bool s b) nocall_bool ?_)
  exact wpAny_pure hs

theorem none_le {g h : Heap} (k : Le g h) {a : Addr} (x : h.get? a = none) : g.get? a = none := by
  cases q : g.get? a with
  | none => rfl
  | some o => rw [k _ _ q] at x; cases x
theorem InstN.left {g0 g g' : Heap} {x C : Addr} {l : List (Str × Value)} (i : InstN g g' x C l) (k : Le g0 g) : InstN g0 g' x C l := let ⟨dx, od, p, q, r⟩ := i; ⟨dx, od, none_le k p, none_le k q, r⟩
/-! EntV -/
theorem peekA_run {α : Type} {K : Frag} {M : Model} {A : Around} {E : Value → Shared → Prop} {Q : α → Shared → Prop} {s : Shared} {o : Obj} (X : K.In s.heap) :
    ∀ (t : Sem α) (g : Addr → Sem α), peekA K ⟨M.prog, M.w.params⟩ t = some (o, g) → wpAny M A (g s.heap.objs.size) Q E { s with heap := s.heap.push o } → wpAny M A t Q E s := by
  intro t
  induction t with
  | rule _ k ih => intro g e q Γ p hΓ; exact ih () g e q Γ p hΓ
  | point _ k ih => intro g e q Γ p hΓ; exact ih () g e q Γ p hΓ
  | ask k ih => intro g e q Γ p hΓ; exact ih _ g e q Γ p hΓ
  | load a _ k ih =>
    intro g e q Γ p hΓ
    simp only [peekA] at e
    split at e
    · rename_i ob ho; exact ⟨ob, X _ _ ho, ih ob g e q Γ p hΓ⟩
    · cases e
  | alloc ob k _ =>
    intro g e q
    have e : some (ob, k) = some (o, g) := e
    obtain ⟨e1, e2⟩ := Prod.mk.inj (Option.some.inj e)
    subst e1
    subst e2
    show wpAny M A (alloc ob >>= k) Q E s
    exact wpAny_bind (wpAny_alloc q)
  | _ => intro g e; cases e

/-- what the binding of arguments leaves -/
structure Bnd (c : Wd) (g : Heap) (r : List (Addr × Obj)) (s : Shared) (g1 : Heap) (s1 : Shared) : Prop where
  wo : Wo c g1 r s1
  le : Le g g1
  ks : Le s.heap s1.heap
  z : s.heap.objs.size ≤ s1.heap.objs.size
  fresh : ∀ b o, g1.get? b = some o → (∃ o', g.get? b = some o') ∨ s.heap.get? b = none
theorem Bnd.refl {c : Wd} {g : Heap} {r : List (Addr × Obj)} {s : Shared} (W : Wo c g r s) : Bnd c g r s g s := ⟨W, Le.refl _, Le.refl _, Nat.le_refl _, fun _ o e => .inl ⟨o, e⟩⟩

theorem Wo.grow {c : Wd} {g : Heap} {r : List (Addr × Obj)} {s : Shared} {h' : Heap} {t : Tok} (W : Wo c g r s) (k : Le s.heap h') (hz : s.heap.objs.size ≤ h'.objs.size) : Wo c g r { s with heap := h', toks := t } where
  gens := W.gens
  os := W.os
  base := W.base
  sub := W.sub.trans k
  tabs := fun q hq => ⟨(W.tabs q hq).1.le k, (W.tabs q hq).2⟩
  own := fun p hp => ⟨k _ _ (W.own p hp).1, (W.own p hp).2⟩
  nd := W.nd
  Bsz := Nat.le_trans W.Bsz hz

theorem Wo.learn1 {c : Wd} {g : Heap} {r : List (Addr × Obj)} {s : Shared} {a : Addr} {o : Obj} (W : Wo c g r s) (ha : s.heap.get? a = some o) (hr : ∀ q ∈ r, q.1 ≠ a) (ho : ordC o = true) :
    ∃ g', Le g g' ∧ g'.get? a = some o ∧ (∀ b o, g'.get? b = some o → g.get? b = some o ∨ b = a) ∧ Wo c g' r s := by
  let P : Addr → Prop := fun b => (∃ o, g.get? b = some o) ∨ b = a
  have up : Le g (pick s.heap P) := fun b o e => (pick_get ..).mpr ⟨.inl ⟨o, e⟩, W.sub b o e⟩
  have down : ∀ b o, (pick s.heap P).get? b = some o → g.get? b = some o ∨ b = a := fun b o e => by
    obtain ⟨hq, e'⟩ := (pick_get ..).mp e
    rcases hq with ⟨o', z⟩ | z
    · have := W.sub _ _ z
      rw [e'] at this
      exact .inl (by rw [z, this])
    · exact .inr z
  refine ⟨pick s.heap P, up, (pick_get ..).mpr ⟨.inr rfl, ha⟩, down, ?_⟩
  have none_of : ∀ b, g.get? b = none → b ≠ a → (pick s.heap P).get? b = none := fun b h1 h2 => by
    cases q : (pick s.heap P).get? b with
    | none => rfl
    | some o => exact (down b o q).elim (fun e => by rw [h1] at e; cases e) fun x => absurd x h2
  exact { W with
    base := W.base.trans up
    sub := fun b o e => ((pick_get ..).mp e).2
    tabs := fun q hq => ⟨(W.tabs q hq).1, none_of _ (W.tabs q hq).2 fun e => by
      obtain ⟨ps, hP, _⟩ := (W.tabs q hq).1
      rw [e, ha] at hP
      exact ord_notTab ho ps (Option.some.inj hP)⟩
    own := fun q hq => ⟨(W.own q hq).1, none_of _ (W.own q hq).2.1 (hr q hq), (W.own q hq).2.2⟩ }

/-- binding: a new object, known from now on -/
theorem Bnd.push {c : Wd} {g g1 : Heap} {r : List (Addr × Obj)} {s s1 : Shared} {o : Obj} {h2 : Heap} {t : Tok} {a : Addr} (B : Bnd c g r s g1 s1) (k : Le s1.heap h2) (hz : s1.heap.objs.size ≤ h2.objs.size) (ha : h2.get? a = some o) (hn : s1.heap.objs.size ≤ a) (ho : ordC o = true) :
    ∃ g2, Le g1 g2 ∧ g2.get? a = some o ∧ Bnd c g r s g2 { s1 with heap := h2, toks := t } := by
  have W := B.wo.grow (t := t) k hz
  obtain ⟨g2, l2, k2, d2, W2⟩ := W.learn1 ha (fun q hq e => by
    have := (B.wo.own q hq).1
    rw [e, fresh_none hn] at this; cases this) ho
  refine ⟨g2, l2, k2, ⟨W2, B.le.trans l2, B.ks.trans k, Nat.le_trans B.z hz, fun b ob e => ?_⟩⟩
  rcases d2 b ob e with h | rfl
  · exact B.fresh b ob h
  · exact .inr (fresh_none (Nat.le_trans B.z hn))

theorem nsSetO {prog : Program} {w : World} {A : Around} {E : Value → Shared → Prop} {s : Shared} {d : Addr} {es : List DictEntry} {n : Nat} {k : Str} {v : Value} {Q : Unit → Shared → Prop} (D : s.heap.get? d = some (dictOf es n))
    (hs : ∀ e ∈ es, e.key.isStr k = false) (hr : ∀ e ∈ es, e.refKey = false)
    (h : ∀ h', h'.get? d = some (dictOf (es ++ [⟨PyData.keyHash w.params k, .str k s.toks, v⟩]) (n + 1)) → Heap.SameBut d s.heap h' → Q () { s with heap := h', toks := s.toks + 1 }) : wpAny (model prog w) A (nsSet d k v) Q E s := by
  have e1 : es.any (·.key.isStr k) = false := List.any_eq_false.mpr fun e he => by rw [hs e he]; exact Bool.false_ne_true
  have e2 : es.any (·.refKey) = false := List.any_eq_false.mpr fun e he => by rw [hr e he]; exact Bool.false_ne_true
  have e : Obj.putName k (PyData.keyHash w.params k) (.str k s.toks) v (dictOf es n) = dictOf (es ++ [⟨PyData.keyHash w.params k, .str k s.toks, v⟩]) (n + 1) := by
    rw [putName_dict, putL_new hs]
    show dictOf _ (if es.any (·.key.isStr k) then n else n + 1) = _
    rw [e1, if_neg Bool.false_ne_true]
  have c : aRefKeyMayBeTheName k es.toArray = false := by
    rw [aRefKeyMayBeTheName_at, ← Array.any_toList, ← Array.any_toList]
    show (!es.any (·.key.isStr k) && es.any (·.refKey)) = false
    rw [e2, Bool.and_false]
  unfold nsSet
  refine wpAny_bind (wpAny_bind (wpAny_askSetting (wpAny_pure (wpAny_bind (wpAny_mkText (wpAny_bind (wpAny_loadPart D ?_)))))))
  dsimp only
  rw [c]
  exact wpAny_updatePart D (h _ ((Heap.get?_update_self _ D (show (Obj.putName k (PyData.keyHash w.params k) (.str k s.toks) v (dictOf es n)).isFreed = false by rw [e]; rfl)).trans (congrArg some e)) (Heap.SameBut.update ..))
theorem fillO {prog : Program} {w : World} {A : Around} {E : Value → Shared → Prop} {d : Addr} {Q : PUnit → Shared → Prop} : ∀ (ex : List (Str × Value)) (s : Shared) (es : List DictEntry) (n : Nat), s.heap.get? d = some (dictOf es n) →
    (∀ e ∈ es, ∀ x ∈ ex, e.key.isStr x.1 = false) → (∀ e ∈ es, e.refKey = false) → (ex.map (·.1)).Nodup →
    (∀ h', h'.get? d = some (dictOf (es ++ kwEs w.params s.toks ex) (n + ex.length)) → Heap.SameBut d s.heap h' → Q ⟨⟩ { s with heap := h', toks := s.toks + ex.length }) →
    wpAny (model prog w) A (forIn ex PUnit.unit fun x _ => (nsSet d x.1 x.2 >>= fun _ => pure (ForInStep.yield PUnit.unit))) Q E s
  | [], s, es, n, D, _, _, _, h => by
    rw [List.forIn_nil]
    exact wpAny_pure (h s.heap (by show s.heap.get? d = some (dictOf (es ++ []) n); rw [List.append_nil]; exact D) (Heap.SameBut.refl ..))
  | x :: r, s, es, n, D, hs, hr, hn, h => by
    obtain ⟨hn1, hn2⟩ := List.nodup_cons.mp (show (x.1 :: r.map (·.1)).Nodup from hn)
    rw [List.forIn_cons]
    refine wpAny_bind (wpAny_bind (nsSetO D (fun e he => hs e he x (.head _)) hr fun h' D' S' => wpAny_pure ?_))
    show wpAny (model prog w) A (forIn r PUnit.unit fun x _ => (nsSet d x.1 x.2 >>= fun _ => pure (ForInStep.yield PUnit.unit))) Q E { s with heap := h', toks := s.toks + 1 }
    refine fillO r { s with heap := h', toks := s.toks + 1 } _ _ D' (fun e he y hy => ?_) (fun e he => ?_) hn2 fun h'' D'' S'' => ?_
    · rcases List.mem_append.mp he with he | he
      · exact hs e he y (.tail _ hy)
      · obtain rfl := List.mem_singleton.mp he
        show (x.1 == y.1) = false
        exact beq_eq_false_iff_ne.mpr fun q => hn1 (by rw [q]; exact List.mem_map_of_mem hy)
    · rcases List.mem_append.mp he with he | he
      · exact hr e he
      · obtain rfl := List.mem_singleton.mp he
        rfl
    · have := h h'' (by rw [D'']; simp [kwEs, Nat.add_assoc, Nat.add_comm 1]) (S'.trans S'')
      simpa [Nat.add_assoc, Nat.add_comm 1] using this

theorem Wo.notMods {c : Wd} (hB : Base c) {g : Heap} {r : List (Addr × Obj)} {s : Shared} (W : Wo c g r s) {a : Addr} (h : s.heap.objs.size ≤ a) : (a == sysModules) = false := by
  have h3 : mainGlobals < a := Nat.lt_of_lt_of_le hB.g.lt (Nat.le_trans W.Bsz h)
  have h4 : sysModules < mainGlobals := by decide
  exact beq_eq_false_iff_ne.mpr (Nat.ne_of_gt (Nat.lt_trans h4 h3))

/-- a dict filled with the names of a call -/
theorem Bnd.kwargs {c : Wd} (hB : Base c) {g g1 : Heap} {r : List (Addr × Obj)} {s s1 : Shared} {A : Around} {E : Value → Shared → Prop} {Q : PUnit → Shared → Prop} {ex : List (Str × Value)} (B : Bnd c g r s g1 s1) (hn : (ex.map (·.1)).Nodup)
    (h : ∀ g2 s2, Le g1 g2 → DK c g2 s1.heap.objs.size ex → Bnd c g r s g2 s2 → Q ⟨⟩ s2) :
    wpAny (model c.prog c.w) A (forIn ex PUnit.unit fun x _ => (nsSet s1.heap.objs.size x.1 x.2 >>= fun _ => pure (ForInStep.yield PUnit.unit))) Q E { s1 with heap := s1.heap.push (dictOf [] 0) } := by
  refine fillO ex { s1 with heap := s1.heap.push (dictOf [] 0) } [] 0 (Heap.get?_push_size _ rfl) (fun _ he => nomatch he) (fun _ he => nomatch he) hn fun h' D' S' => ?_
  have k2 : Le s1.heap h' := fun b o e => S'.extBut b o (Nat.ne_of_lt (Heap.lt_size e)) (Heap.get?_push_of_some _ e)
  have hz : s1.heap.objs.size ≤ h'.objs.size := Nat.le_of_lt (Heap.lt_size D')
  obtain ⟨g2, l2, d2, B2⟩ := B.push (t := s1.toks + ex.length) k2 hz D' (Nat.le_refl _) rfl
  exact h g2 _ l2 ⟨Heap.dictOf_iff.mpr ⟨_, d2, kp_isDict s1.toks (0 + ex.length) hn⟩, B.wo.notMods hB (Nat.le_refl _)⟩ B2

/-- entering a def of the text whose arguments are gathered -/
theorem enterV {c : Wd} {K0 : Frag} (hK : c.K = K0) (hB : Base c) {g : Heap} {r : List (Addr × Obj)} {s : Shared} {A : Around} {R : Result → Shared → Prop} {a : Addr} {name qual : Str} {params : Arguments} {body : List Stmt} {scope : Scope} {clo : List (Str × Addr)} {dV kV doc pm cdv ct oc : Value} {an od : Option Addr} {osl : Array (Option Value)} {args : Args} {PB : Heap → List (Str × Value) → Prop}
    (W : Wo c g r s) (hrm : A.depth < recursionLimit) (ho : K0.lookup a = some ⟨oc, od, .func (fnX name qual params body scope clo dV kV doc pm an cdv ct), osl⟩) (hcd : codeIn K0 cdv qual = true)
    (hbind : ∀ (A : Around) (E : Value → Shared → Prop) (Q : List (Str × Value) → Shared → Prop), (∀ binds g1 s1, Bnd c g r s g1 s1 → PB g1 binds → Q binds s1) → wpAny (model c.prog c.w) A (bindArgs (fnX name qual params body scope clo dV kV doc pm an cdv ct) args) Q E s)
    (hcell : ∀ x ∈ scope.names, x.2 ≠ .cell) (hloc : ∀ g1 binds, PB g1 binds → ∀ x ∈ binds, scope.names.lookup x.1 = some .local)
    (hco : scope.isCoroutine = false) (hgen : scope.isGenerator = false) (hk : scope.kind = .function)
    (h : ∀ (f : Fx) g1 binds s₁ env, f.toWd = c → f.e = s.heap → f.g0 = g → f.X = r.map (·.1) → Le g g1 → PB g1 binds → EnvOk env scope f.L clo cdv → env = envX qual scope f.L a cdv clo → St f g1 (lk binds.reverse) r s₁ →
      wpAny (model c.prog c.w) (A.deeper env) (execs body env) (fun fl s' => R (.ok (.ret (match fl with | .ret v => v | _ => .none))) s')
        (fun e s' => wpAny (model c.prog c.w) (A.deeper env) (leaving env e) (fun _ s'' => R (.error e) s'') (fun e' s'' => R (.error e') s'') s') s₁) : codeAny (model c.prog c.w) A (.call (.ref a) args) R s := by
  subst hK
  have X := hB.K.keeps (W.base.trans W.sub)
  refine codeAny_call_function (fd := fnX name qual params body scope clo dV kV doc pm an cdv ct) (body := body) hrm (X _ _ ho) rfl hco hgen rfl (codeRec_of X hcd) (hbind _ _ _ fun binds g1 s1 B hPB => ?_)
  refine wpAny_newFunctionEnv hcell (hloc _ _ hPB) (fun h₀ hns₀ hsb₀ => ⟨(hB.nolimit.keeps (B.wo.base.trans B.wo.sub)).fresh _ hsb₀, codeAny_func ?_⟩) hk
  have k1 : Le s1.heap h₀ := fun b o e => hsb₀.extBut b o (Nat.ne_of_lt (Heap.lt_size e)) (Heap.get?_push_of_some _ e)
  have hLn : s1.heap.get? s1.heap.objs.size = none := fresh_none (Nat.le_refl _)
  refine h ⟨c, s.heap, g, r.map (·.1), s1.heap.objs.size⟩ g1 binds _ _ rfl rfl rfl rfl B.le hPB ⟨rfl, rfl, rfl, rfl, rfl, rfl⟩ rfl ?_
  exact {
    gens := B.wo.gens, os := B.wo.os, base := B.wo.base
    sub := B.wo.sub.trans k1
    tabs := fun q hq => ⟨(B.wo.tabs q hq).1.le k1, (B.wo.tabs q hq).2⟩
    own := fun p hp => ⟨k1 _ _ (B.wo.own p hp).1, (B.wo.own p hp).2⟩
    nd := B.wo.nd
    Bsz := Nat.le_trans B.wo.Bsz (Nat.le_of_lt hns₀.lt)
    g0e := W.sub, Bg0 := W.base, Bse := W.Bsz
    g0g := B.le
    fresh := fun b o e => by
      rcases B.fresh b o e with h | h
      · exact .inl h
      · exact .inr (.inl h)
    keep := fun b o e _ _ => k1 _ _ (B.ks _ _ e)
    size := Nat.le_trans B.z (Nat.le_of_lt hns₀.lt)
    ns := hns₀
    gL := by
      show g1.get? s1.heap.objs.size = none
      cases q : g1.get? s1.heap.objs.size with
      | none => rfl
      | some o => rw [B.wo.sub _ _ q] at hLn; cases hLn
    rL := fun p hp e => by
      have := (B.wo.own p hp).1
      rw [show p.1 = s1.heap.objs.size from e, hLn] at this; cases this
    eL := B.z
    ownX := fun p hp => .inr (List.mem_map_of_mem hp)
    Xr := fun x hx => by obtain ⟨p, hp, rfl⟩ := List.mem_map.mp hx; exact ⟨p.2, hp⟩ }

theorem calmV {d : Wd} {K0 : Frag} {n : Nat} {g : Heap} {Q : Value → Heap → Prop} {a : Addr} {name qual : Str} {params : Arguments} {body : List Stmt} {scope : Scope} {clo : List (Str × Addr)} {dV kV doc pm cdv ct oc : Value} {an od : Option Addr} {osl : Array (Option Value)} {pos : List Value} {kw : List (Str × Value)} (PB : Heap → List (Str × Value) → Prop)
    (hK : d.K = K0) (hB : Base d) (ho : K0.lookup a = some ⟨oc, od, .func (fnX name qual params body scope clo dV kV doc pm an cdv ct), osl⟩) (hcd : codeIn K0 cdv qual = true)
    (hbind : ∀ (s : Shared) (A : Around) (E : Value → Shared → Prop) (Q : List (Str × Value) → Shared → Prop), Wo d g [] s → (∀ binds g1 s1, Bnd d g [] s g1 s1 → PB g1 binds → Q binds s1) → wpAny (model d.prog d.w) A (bindArgs (fnX name qual params body scope clo dV kV doc pm an cdv ct) ⟨pos, kw⟩) Q E s)
    (hcell : ∀ x ∈ scope.names, x.2 ≠ .cell) (hloc : ∀ g1 binds, PB g1 binds → ∀ x ∈ binds, scope.names.lookup x.1 = some .local)
    (hco : scope.isCoroutine = false) (hgen : scope.isGenerator = false) (hk : scope.kind = .function)
    (h : ∀ (f : Fx) g1 binds s s₁ env A, f.toWd = d → Room A n → A.handled = none → f.e = s.heap → f.g0 = g → f.X = ([] : List (Addr × Obj)).map (·.1) → Le g g1 → PB g1 binds → EnvOk env scope f.L clo cdv → env = envX qual scope f.L a cdv clo → St f g1 (lk binds.reverse) [] s₁ →
      wpAny (model d.prog d.w) A (execs body env) (fun fl s' => ∃ v' g', (Except.ok (Flow.ret (match fl with | .ret v => v | _ => .none)) : Result) = .ok (.ret v') ∧ Post d g [] s g' [] s' ∧ Q v' g') (fun _ _ => False) s₁) : Calm d (n + 1) (.ref a) pos kw g Q := by
  intro A s hR hh W
  refine enterV (PB := PB) hK hB W hR.depth ho hcd (fun A E Q hQ => hbind s A E Q W hQ) hcell hloc hco hgen hk fun f g1 binds s₁ env e1 e2 e3 e4 hle hPB En hE F => ?_
  exact wpAny_mono (h f g1 binds s s₁ env (A.deeper env) e1 hR.deeper hh e2 e3 e4 hle hPB En hE F) (fun _ _ z => z) fun _ _ z => z.elim

/-- names gathered into a dict, the rest told by the text -/
theorem bindsKw {d : Wd} {K0 : Frag} {g : Heap} {fd : FuncData} {args : Args} {ex front : List (Str × Value)} {nm : Str} {g₁ : Addr → Sem (List (Str × Value))} (hK : d.K = K0) (hB : Base d)
    (hp : peekA K0 ⟨d.prog, d.w.params⟩ (bindArgs fd args) = some (dictOf [] 0, g₁)) (hk : ∀ D, g₁ D = (forIn ex PUnit.unit (fun x _ => (nsSet D x.1 x.2 >>= fun _ => pure (ForInStep.yield PUnit.unit))) >>= fun _ => pure (front ++ [(nm, Value.ref D)]))) (hn : (ex.map (·.1)).Nodup) :
    ∀ (s : Shared) (A : Around) (E : Value → Shared → Prop) (Q : List (Str × Value) → Shared → Prop), Wo d g [] s → (∀ binds g1 s1, Bnd d g [] s g1 s1 → (∃ D, binds = front ++ [(nm, Value.ref D)] ∧ DK d g1 D ex) → Q binds s1) → wpAny (model d.prog d.w) A (bindArgs fd args) Q E s := by
  subst hK
  intro s A E Q W hQ
  refine peekA_run (hB.K.keeps (W.base.trans W.sub)) _ _ hp ?_
  rw [hk]
  exact wpAny_bind ((Bnd.refl W).kwargs hB hn fun g2 s2 l2 hd B => wpAny_pure (hQ _ _ _ B ⟨_, rfl, hd⟩))
/-! DispR -/
section
variable {c : Fx} {g : Heap} {m : Str → Option Value} {r : List (Addr × Obj)} {s : Shared} {A : Around} {E : Value → Shared → Prop} {env : Env}
theorem ep0 {pos : Pos} {Q : List (Value × Value) → Shared → Prop} (h : Q [] s) : wpAny (model c.prog c.w) A (evalPairs (pairTrees [] [] env pos)) Q E s := evalPairs_nil h
theorem ep1 {k v : Expr} {ks : List (Option Expr)} {vs : List Expr} {pos : Pos} {prog : Program} {w : World} {Q : List (Value × Value) → Shared → Prop} (h : wpAny (model prog w) A (eval k env) (fun kv s₁ => wpAny (model prog w) A (eval v env) (fun vv s₂ =>
    wpAny (model prog w) A (evalPairs (pairTrees ks vs env pos)) (fun vs s₃ => Q ((kv, vv) :: vs) s₃) E s₂) E s₁) E s) : wpAny (model prog w) A (evalPairs (pairTrees (some k :: ks) (v :: vs) env pos)) Q E s :=
  evalPairs_cons (wpAny_mono h (fun _ _ z => wpAny_bind (wpAny_mono z (fun _ _ z => wpAny_bind (wpAny_standAt (wpAny_pure z))) fun _ _ e => e)) fun _ _ e => e)

/-- a dict display -/
theorem dictP {keys : List (Option Expr)} {values : List Expr} {pos : Pos} {Q : Value → Shared → Prop} (hB : Base c.toWd) (F : St c g m r s) (hall : keys.all (·.isSome) = true) (hl : keys.length = values.length) (h0 : keys ≠ []) (hlen : keys.length ≤ 15)
    (h : ∀ D od s1, (D == sysModules) = false → DO c.toWd od [] → s.heap.get? D = none → St c g m ((D, od) :: r) s1 → wpAny (model c.prog c.w) A (evalPairs (pairTrees keys values env pos)) (fun vs s₂ => ∃ g' m' r' kvs, Carries (sk c.toWd) vs kvs ∧ (kvs.map (·.1)).Nodup ∧ St c g' m' ((D, od) :: r') s₂ ∧
      ∀ od' s3, DO c.toWd od' kvs → St c g' m' ((D, od') :: r') s3 → Q (.ref D) s3) E s1) : wpAny (model c.prog c.w) A (eval (.Dict keys values pos) env) Q E s := by
  have hz := F.notMods hB (Nat.le_refl _)
  obtain ⟨o, ho, hd⟩ := Heap.dictOf_iff.mp (Heap.DictOf.new (knd := sk c.toWd) s.heap)
  have ho' := Heap.get?_push_size s.heap (o := { cls := .type "dict", data := .dict #[] }) rfl
  rw [ho'] at ho
  cases ho
  refine wpAny_Dict_walk (knd := sk c.toWd) hall hl h0 hlen (wpAny_mono (h _ _ _ hz hd (fresh_none (Nat.le_refl _)) (F.allocOwn (t := s.toks) rfl rfl)) (fun vs s₂ z => ?_) fun _ _ e => e)
  obtain ⟨g', m', r', kvs, h1, h2, h3, h4⟩ := z
  refine ⟨kvs, h1, Heap.dictOf_iff.mpr ⟨_, (h3.own _ (.head _)).1, hd⟩, fun h' hm hs => ?_⟩
  rw [merged_nil_of_nodup _ h2] at hm
  obtain ⟨o', k1, k2⟩ := Heap.dictOf_iff.mp hm
  exact h4 _ _ k2 (h3.own1 (t := s₂.toks + vs.length) k1 (DO.ord k2) hs)

theorem gmUpdate {a : Addr} {kvs : List (Str × Value)} {pl : Sem Bool} {Q : Value × List Value → Shared → Prop} (hd : s.heap.DictOf (sk c.toWd) a kvs) (h : Q (.builtin "dict.update", [.ref a]) s) : wpAny (model c.prog c.w) A (getMethod (.ref a) "update" pl) Q E s :=
  getMethod_builtin hd.typeIs PySem.F.plainAttrs_dict PySem.F.slot_dict_update PySem.F.type_dict_update hd.mapOf.noDict h
theorem callUpdate {D o : Addr} {od : Obj} {kvs more : List (Str × Value)} {Q : Value → Shared → Prop} (F : St c g m ((D, od) :: r) s) (hd : DO c.toWd od kvs) (ho : DK c.toWd g o more) (hz : kvs.length + more.length ≤ sizeLine)
    (h : ∀ od' s', DO c.toWd od' (merged kvs more) → St c g m ((D, od') :: r) s' → Q .none s') : wpAny (model c.prog c.w) A (call (.builtin "dict.update") [.ref D, .ref o]) Q E s := by
  have hD := F.own _ (.head _)
  have hne : D ≠ o := fun e => by
    obtain ⟨oo, e1, _⟩ := Heap.dictOf_iff.mp ho.1
    rw [← e, hD.2.1] at e1; cases e1
  refine call_meetsIn PySem.F.slot_dict_update (hd.at hD.1).typeIs PySem.F.entry_dict_update (PySem.F.args_dict_update_2 _ _) (meets_dict_update (sk c.toWd) D o hne ho.2) ⟨kvs, more, hd.at hD.1, ho.1.keep F.sub, hz, fun h' hm _ hs => ?_⟩
  obtain ⟨o', k1, k2⟩ := Heap.dictOf_iff.mp hm
  exact h _ _ k2 (F.own1 (t := s.toks) k1 (DO.ord k2) hs)

/-! the names of a dict -/
theorem itrKeys {d : Wd} {A : Around} {target : Expr} {it l : Addr} {kvs : List (Str × Value)} {ep : Nat} {gB : Heap} (ht : plainTgt target) (hh : A.handled = none) (hl : gB.DictAt (sk d) l kvs ep) :
    Itr d A target it kvs.length gB (fun i _ v => ∃ t kv, v = .str kv.1 t ∧ kvs[i]? = some kv) (fun i js => ∃ o, js = [(it, o)] ∧ o.cls = .type "dict_keyiterator" ∧ o.data = .fields #[.ref l, .int i 0, .int kvs.length 0, .int ep 0]) where
  next := by
    rintro f g m js r s i Q Q' E rfl hle hi ⟨o, rfl, hc, hd⟩ F hX hQ
    have hs := F.own _ (.head _)
    have hkv : kvs[i]? = some (kvs[i].1, kvs[i].2) := by simp [hi]
    refine wpAny_pyNext_dict_item (knd := sk f.toWd) ⟨o, hs.1, hc, hd⟩ (hl.keep (hle.trans F.sub)) hkv fun key h' hkey hit' hs' => ?_
    obtain ⟨o', h1, h2, h3⟩ := hit'
    obtain ⟨tok, rfl⟩ := Value.isStrOf_shape hkey
    dsimp only
    refine ht _ _ _ _ _ _ _ _ ⟨o', _, _, h1, h2, h3, .inr (.inr rfl)⟩ ?_
    exact hQ _ g [(it, o')] _ (Le.refl _) ⟨tok, kvs[i], rfl, by simp [hi]⟩ ⟨o', rfl, h2, h3⟩ rfl (F.own1 (t := s.toks) h1 (fields_ord h2 h3 (by simp)) hs')
  done := by
    rintro f g m js r s Q Q' E rfl hle ⟨o, rfl, hc, hd⟩ F hX hQ
    refine wpAny_pyNext_dict_end (knd := sk f.toWd) hh ⟨o, (F.own _ (.head _)).1, hc, hd⟩ (hl.keep (hle.trans F.sub)) (by simp) fun h' hx' => ?_
    exact hQ _ (F.goneExt (t := s.toks) hX fun b ob hb e => hx' b ob (fun z => hb (by simp [z])) e)
  self := by
    rintro f g m js r s i Q E rfl hle ⟨o, rfl, hc, hd⟩ F hQ
    exact wpAny_pyIter_keyiter ⟨o, (F.own _ (.head _)).1, hc, hd⟩ hQ
theorem rdyKeys {a : Addr} {kvs : List (Str × Value)} {gB : Heap} {Q : Value → Shared → Prop} (F : St c g m r s) (hh : A.handled = none) (hd : DK c.toWd gB a kvs) (hle : Le gB g)
    (h : ∀ it s', (∀ target, plainTgt target → Rdy c A target gB kvs.length (fun i _ v => ∃ t kv, v = .str kv.1 t ∧ kvs[i]? = some kv) g m r it s') → Q it s') : wpAny (model c.prog c.w) A (pyIter (.ref a)) Q E s := by
  obtain ⟨ep, hat⟩ := hd.1.dictAt
  refine wpAny_pyIter_dict (knd := sk c.toWd) hd.2 (hat.keep (hle.trans F.sub)) ?_
  exact h _ _ fun target ht => rdy1 F (itrKeys ht hh hat) ⟨_, rfl, rfl, rfl⟩ rfl rfl hle
end

/-! what an made object's dict holds, told in another order -/
theorem lk_ext {l l' : List (Str × Value)} (h : ∀ k ∈ l.map (·.1), lk l k = lk l' k) (h' : ∀ k ∈ l'.map (·.1), k ∈ l.map (·.1)) : ∀ name, lk l name = lk l' name := fun name => by
  have no : ∀ {m : List (Str × Value)}, name ∉ m.map (·.1) → lk m name = none := by
    intro m
    induction m with
    | nil => intro _; rfl
    | cons p m ih =>
      intro hn
      rw [List.map_cons, List.mem_cons] at hn
      have h1 : (name == p.1) = false := beq_eq_false_iff_ne.mpr fun e => hn (.inl e)
      show List.lookup name (p :: m) = none
      rw [List.lookup_cons, h1]
      exact ih fun e => hn (.inr e)
  by_cases hn : name ∈ l.map (·.1)
  · exact h name hn
  · rw [no hn, no fun e => hn (h' name e)]
theorem DictF.congr {od : Obj} {l l' : List (Str × Value)} {k : Nat} (h : DictF od l k) (e : ∀ name, lk l name = lk l' name) : DictF od l' k := let ⟨es, n, a, b, c, d⟩ := h; ⟨es, n, a, b, c, fun x => (d x).trans (e x)⟩
theorem InstN.congr {g g' : Heap} {x C : Addr} {l l' : List (Str × Value)} (i : InstN g g' x C l) (e : ∀ name, lk l name = lk l' name) : InstN g g' x C l' := let ⟨dx, od, p, q, a, b, c⟩ := i; ⟨dx, od, p, q, a, b, c.congr e⟩
theorem InstF.congr {g : Heap} {x C : Addr} {l l' : List (Str × Value)} (i : InstF g x C l) (e : ∀ name, lk l name = lk l' name) : InstF g x C l' := let ⟨dx, od, a, b, c⟩ := i; ⟨dx, od, a, b, c.congr e⟩

/-! strings -/
section
variable {c : Fx} {g : Heap} {m : Str → Option Value} {r : List (Addr × Obj)} {s : Shared} {A : Around} {E : Value → Shared → Prop} {prog : Program} {w : World}
theorem gmLstrip {x : Str} {t : Tok} {pl : Sem Bool} {Q : Value × List Value → Shared → Prop} (h : Q (.builtin "str.lstrip", [.str x t]) s) : wpAny (model prog w) A (getMethod (.str x t) "lstrip" pl) Q E s :=
  PySem.GM.lstrip h
theorem callLstrip {x y : Str} {t u : Tok} {Q : Value → Shared → Prop} (F : St c g m r s) (hz : x.length ≤ sizeLine) (h : ∀ t' s', St c g m r s' → Q (.str (Txt.lstripChars x y) t') s') : wpAny (model prog w) A (call (.builtin "str.lstrip") [.str x t, .str y u]) Q E s :=
  call_gives PySem.F.slot_str_lstrip (PySem.typeIs_str s x t) PySem.F.entry_str_lstrip (PySem.F.args_str_lstrip_2 _ _) (gives_str_lstrip_chars x y t u) (post_val_or_made (fun _ => fits_stripped _ _ _ hz) fun t' k => h t' _ F.toks)
end
theorem putL_len_old {name : Str} {hsh : Int} {t : Tok} {v : Value} : ∀ {es : List DictEntry}, (findL name es).isSome = true → (putL name hsh (.str name t) v es).length = es.length
  | [], h => by simp [findL] at h
  | e :: r, h => by
    unfold putL
    split
    · rfl
    · rename_i he
      have he' : e.key.isStr name = false := by simpa using he
      have h2 : (findL name r).isSome = true := by
        unfold findL at h ⊢
        rw [List.find?_cons, he'] at h
        exact h
      simp [putL_len_old h2]
section
variable {c : Fx} {g : Heap} {m : Str → Option Value} {r : List (Addr × Obj)} {s : Shared} {A : Around} {E : Value → Shared → Prop}
/-- a field stored again -/
theorem saO {K0 : Frag} {x C dx : Addr} {od : Obj} {l : List (Str × Value)} {k : Nat} {name : Str} {v : Value} {Q : Unit → Shared → Prop} (hB : Base c.toWd) (hK : c.K = K0) (F : St c g m ((dx, od) :: r) s) (hx : s.heap.get? x = some (instObj C dx)) (D : DictF od l k) (hk : k < 900)
    (hf : setOk K0 C name = true) (hl : (lk l name).isSome = true) (h : ∀ od' s', DictF od' ((name, v) :: l) k → St c g m ((dx, od') :: r) s' → Q () s') : wpAny (model c.prog c.w) A (setAttr (.ref x) name v) Q E s := by
  subst hK
  obtain ⟨es, n, rfl, hz, hs, hfi⟩ := D
  unfold setOk at hf
  rw [Bool.and_eq_true, Bool.and_eq_true, Bool.and_eq_true] at hf
  obtain ⟨⟨⟨f1, f2⟩, f3⟩, f4⟩ := hf
  obtain ⟨news, Fr0, N0, D0⟩ := F.lift
  have own := F.own _ (.head _)
  have hmem : (dx, dictOf es n) ∈ news := D0.all _ _ own.1 (F.rL _ (.head _)) (F.Bnone own.2.1)
  refine PySem.W.set_dict Fr0 hB.K N0 ⟨hx, rfl, rfl, own.1⟩ rfl (beq_iff_eq.mp f1) f2 (beq_iff_eq.mp f3) f4 (by rw [getL_of hs]; rfl) rfl (upd_of (news := news) D0.nd hmem) (by have := putL_len (name := name) (hsh := PyData.keyHash c.w.params name) (t := s.toks + 1) (v := v) (es := es); omega) fun h' F' N' => ?_
  have D' : DictF (dictOf (putL name (PyData.keyHash c.w.params name) (.str name (s.toks + 1)) v es) (putN name es n)) ((name, v) :: l) k :=
    ⟨_, _, rfl, by rw [putL_len_old (by rw [hfi]; exact hl)]; exact hz, putL_str hs, fun y => by rw [findL_put, ← lk_put, hfi]⟩
  refine h _ _ D' ?_
  have := F.back (h' := h') (o' := dictOf (putL name (PyData.keyHash c.w.params name) (.str name (s.toks + 1)) v es) (putN name es n)) (t := s.toks + 2) D0 (.head _) rfl F' N' (List.mem_map.mpr ⟨_, hmem, by rw [if_pos rfl]⟩) fun p hp hne => List.mem_map.mpr ⟨p, hp, by rw [if_neg hne]⟩
  simpa only [setR, if_true] using this

/-- an made object that is new is the frame's own again -/
theorem St.thawInst {gA : Heap} {x C : Addr} {l : List (Str × Value)} (F : St c g m r s) (i : InstN gA g x C l) (h0 : Le c.g0 gA) (hle : Le gA g) :
    ∃ g' dx od, Le gA g' ∧ DictF od l 60 ∧ Le g' g ∧ (∀ b o, g.get? b = some o → g'.get? b = some o ∨ b = dx ∨ b = x) ∧ St c g' m ((dx, od) :: (x, instObj C dx) :: r) s := by
  obtain ⟨dx, od, p, q, h1, h2, D⟩ := i
  have hne : x ≠ dx := fun e => by
    rw [e, h2] at h1
    obtain ⟨es, n, rfl, _⟩ := D
    cases h1
  obtain ⟨g1, a1, a2, a3, a4, F1⟩ := F.thaw h2 (none_le h0 q) D.ord
  obtain ⟨g2, b1, b2, b3, b4, F2⟩ := F1.thaw (a2 _ _ hne h1) (none_le h0 p) rfl
  refine ⟨g2, dx, od, fun b o e => b2 b o (fun z => by rw [z, p] at e; cases e) (a2 b o (fun z => by rw [z, q] at e; cases e) (hle _ _ e)), D, b1.trans a1, fun b o e => ?_, F2.perm (List.Perm.swap ..)⟩
  by_cases hb : b = dx
  · exact .inr (.inl hb)
  · by_cases hb' : b = x
    · exact .inr (.inr hb')
    · exact .inl (b2 b o hb' (a2 b o hb e))
end
theorem DK.here {c : Fx} {g0 g : Heap} {m : Str → Option Value} {r : List (Addr × Obj)} {s : Shared} {a : Addr} {kvs : List (Str × Value)} (x : DK c.toWd g0 a kvs) (k : Le g0 g) (F : St c g m r s) : s.heap.DictOf (sk c.toWd) a kvs := x.1.keep (k.trans F.sub)
theorem lk_same {l l' : List (Str × Value)} (h : l.map (fun p => lk l p.1) = l.map (fun p => lk l' p.1)) (h' : ((l'.map (·.1)).all fun k => (l.map (·.1)).contains k) = true) : ∀ name, lk l name = lk l' name :=
  lk_ext (fun k hk => by
    obtain ⟨p, hp, rfl⟩ := List.mem_map.mp hk
    exact List.map_inj_left.mp h p hp) fun k hk => by
    have := List.all_eq_true.mp h' k hk
    exact List.elem_iff.mp this
/-- a field read of an made object that is the frame's own -/
theorem gaO {c : Fx} {g : Heap} {m : Str → Option Value} {r : List (Addr × Obj)} {s : Shared} {A : Around} {E : Value → Shared → Prop} {K0 : Frag} {x C dx : Addr} {od : Obj} {l : List (Str × Value)} {k : Nat} {name : Str} {v : Value} {expr : Bool} {Q : Value → Shared → Prop} (hB : Base c.toWd) (hK : c.K = K0) (F : St c g m ((dx, od) :: r) s) (hx : s.heap.get? x = some (instObj C dx)) (D : DictF od l k)
    (hl : lk l name = some v) (hf : fldOk K0 C name = true) (hv : handedIn v = true) (h : ∀ s', St c g m ((dx, od) :: r) s' → Q v s') : wpAny (model c.prog c.w) A (getAttr (.ref x) name expr) Q E s := by
  subst hK
  obtain ⟨es, n, rfl, hz, hs, hfi⟩ := D
  unfold fldOk at hf
  rw [Bool.and_eq_true, Bool.and_eq_true] at hf
  obtain ⟨⟨f1, f2⟩, f3⟩ := hf
  split at f3
  · rename_i attr ha
    exact get_value (F.KIn hB) ⟨hx, rfl, rfl, (F.own _ (.head _)).1⟩ (plainGet_of f1).1 (findObj_own f2 ha f3 (by rw [lookIn_dict, getL_of hs, hfi, hl])) hv (h _ F.toks)
  · cases f3
/-! SeqR -/
section
variable {c : Fx} {g : Heap} {m : Str → Option Value} {r : List (Addr × Obj)} {s : Shared} {A : Around} {E : Value → Shared → Prop} {prog : Program} {w : World} {env : Env}
theorem eqRd {a b : Value} {x y : PyData} {Q : Value → Shared → Prop} (F : St c g m r s) (ha : rd g a x) (hb : rd g b y) (sa : SeqAt.shaped x = true) (sb : SeqAt.shaped y = true) (hu : A.units + 64 < cLine) (h : Q (.bool (PyData.eqv x y)) s) : wpAny (model prog w) A (compareOp .Eq a b) Q E s := by
  obtain ⟨as, ra⟩ := ha.le F.sub
  obtain ⟨bs, rb⟩ := hb.le F.sub
  exact PyProof.Rows.eq_dataH ra rb sa sb hu h
theorem neRd {a b : Value} {x y : PyData} {Q : Value → Shared → Prop} (F : St c g m r s) (ha : rd g a x) (hb : rd g b y) (sa : SeqAt.shaped x = true) (sb : SeqAt.shaped y = true) (hu : A.units + 64 < cLine) (h : Q (.bool (!PyData.eqv x y)) s) : wpAny (model prog w) A (compareOp .NotEq a b) Q E s := by
  obtain ⟨as, ra⟩ := ha.le F.sub
  obtain ⟨bs, rb⟩ := hb.le F.sub
  exact PyProof.Rows.ne_dataH ra rb sa sb hu h
theorem inRd {a b : Value} {xs : List PyData} {x : PyData} {Q : Value → Shared → Prop} (F : St c g m r s) (ha : rd g a x) (hb : rd g b (.list xs)) (sa : x.canLay0 = true) (sb : PyData.canLayAll0 xs = true) (hd : x.depth ≤ 8) (hu : A.units + 64 < cLine) (h : Q (.bool (xs.any fun y => PyData.eqv y x)) s) : wpAny (model prog w) A (compareOp .In a b) Q E s := by
  obtain ⟨as, ra⟩ := ha.le F.sub
  obtain ⟨bs, rb⟩ := hb.le F.sub
  exact SeqAt.in_list_reads rb ra sb sa (by have := Nat.min_le_right (PyData.depthAll xs) x.depth; omega) h
theorem notInRd {a b : Value} {xs : List PyData} {x : PyData} {Q : Value → Shared → Prop} (F : St c g m r s) (ha : rd g a x) (hb : rd g b (.list xs)) (sa : x.canLay0 = true) (sb : PyData.canLayAll0 xs = true) (hd : x.depth ≤ 8) (hu : A.units + 64 < cLine) (h : Q (.bool (!xs.any fun y => PyData.eqv y x)) s) : wpAny (model prog w) A (compareOp .NotIn a b) Q E s := by
  obtain ⟨as, ra⟩ := ha.le F.sub
  obtain ⟨bs, rb⟩ := hb.le F.sub
  exact SeqAt.notIn_list_reads rb ra sb sa (by have := Nat.min_le_right (PyData.depthAll xs) x.depth; omega) h

/-- a slice of a known list -/
theorem sliceL {value : Expr} {lower upper : Option Expr} {p pos : Pos} {Q : Value → Shared → Prop}
    (h : wpAny (model prog w) A (eval value env) (fun o s₁ => wpAny (model prog w) A (evalPart lower env) (fun vl s₂ => wpAny (model prog w) A (evalPart upper env) (fun vu s₃ =>
      ∃ c : Fx, ∃ g m r l items lo hi, o = .ref l ∧ St c g m r s₃ ∧ g.IsList l items ∧ items.size ≤ sizeLine ∧ IsPart vl lo ∧ IsPart vu hi ∧
        ∀ g' t s', Le g g' → g'.IsList t (slicePick items lo hi none) → St c g' m r s' → Q (.ref t) s') E s₂) E s₁) E s)
    (ht : ∀ o r, letTemporaryGo value o r = pure ()) : wpAny (model prog w) A (eval (.Subscript value (.Slice lower upper none p) pos) env) Q E s := by
  refine wpAny_Subscript_list_slice (wpAny_mono h (fun o s₁ h₁ => wpAny_mono h₁ (fun vl s₂ h₂ => wpAny_mono h₂ (fun vu s₃ h₃ => ?_) fun _ _ e => e) fun _ _ e => e) fun _ _ e => e) ht
  obtain ⟨c, g, m, r, l, items, lo, hi, rfl, F, hl, hz, pl, pu, hQ⟩ := h₃
  refine ⟨l, items, lo, hi, rfl, IsList_le hl F.sub, hz, pl, pu, ?_⟩
  obtain ⟨g1, a1, a2, a3, F1⟩ := F.alloc (o := { cls := .type "slice", data := .fields #[vl, vu, .none] }) (t := s₃.toks) rfl
  obtain ⟨g2, b1, b2, b3, F2⟩ := F1.alloc (o := { cls := .type "list", data := .seq (slicePick items lo hi none) }) (t := s₃.toks) rfl
  have hs : (s₃.heap.push { cls := .type "slice", data := .fields #[vl, vu, .none] }).objs.size = s₃.heap.objs.size + 1 := Heap.size_push ..
  have := hQ g2 _ _ (a1.trans b1) ⟨_, b2, rfl, 0, rfl⟩ F2
  rw [← hs]
  exact this
end
theorem Room.u64 {A : Around} {n : Nat} (h : Room A n) (hn : 17 ≤ n) : A.units + 64 < cLine := by have := h.2; omega
/-- a call that ends well whatever is in hand -/
def CalmH (d : Wd) (n : Nat) (f : Value) (pos : List Value) (kw : List (Str × Value)) (g : Heap) (Q : Value → Heap → Prop) : Prop :=
  ∀ A s, Room A n → Hnd A g → Wo d g [] s → codeAny (model d.prog d.w) A (.call f ⟨pos, kw⟩) (fun r s' => ∃ v g', r = .ok (.ret v) ∧ Post d g [] s g' [] s' ∧ Q v g') s
theorem CalmH.calm {d : Wd} {n : Nat} {f : Value} {pos : List Value} {kw : List (Str × Value)} {g : Heap} {Q : Value → Heap → Prop} (C : CalmH d n f pos kw g Q) : Calm d n f pos kw g Q := fun A s hR hh W => C A s hR (hnd0 hh) W
theorem CalmH.use {c : Fx} {n : Nat} {f : Value} {pos : List Value} {kw : List (Str × Value)} {g : Heap} {Q : Value → Heap → Prop} {m : Str → Option Value} {r : List (Addr × Obj)} {s : Shared} {A : Around} {E : Value → Shared → Prop} {Q' : Value → Shared → Prop}
    (C : CalmH c.toWd n f pos kw g Q) (F : St c g m r s) (hR : Room A n) (hh : Hnd A g) (h : ∀ v g' s', Le g g' → Q v g' → St c g' m r s' → Q' v s') : wpAny (model c.prog c.w) A (call f pos kw) Q' E s := by
  refine wpAny_call (codeAny_mono (C A s hR hh ?_) fun r' s' hr => ?_)
  · exact { F.toWo with own := (fun _ h => nomatch h), nd := List.nodup_nil }
  · obtain ⟨v, g', rfl, P, q⟩ := hr
    exact h v g' s' P.le q (F.after P)
theorem calmCH {d : Wd} {K0 : Frag} {n : Nat} {g : Heap} {Q : Value → Heap → Prop} {a : Addr} {name qual : Str} {params : Arguments} {body : List Stmt} {scope : Scope} {dV kV doc pm cdv ct oc : Value} {an od : Option Addr} {osl : Array (Option Value)} {pos : List Value} {kw : List (Str × Value)} {binds lbs cbs : List (Str × Value)}
    (hK : d.K = K0) (hB : Base d) (ho : K0.lookup a = some ⟨oc, od, .func (fnX name qual params body scope [] dV kV doc pm an cdv ct), osl⟩) (hcd : codeIn K0 cdv qual = true)
    (hbind : ∀ s : Shared, Le d.B s.heap → BindsTo s (fnX name qual params body scope [] dV kV doc pm an cdv ct) ⟨pos, kw⟩ binds)
    (hkind : ∀ L, (binds.all fun x => decide (scope.names.lookup x.1 = some .local) || (decide (scope.names.lookup x.1 = some .cell) && ((cellsFrom L scope.names []).lookup x.1).isSome)) = true)
    (hl : (binds.filter fun x => decide (scope.names.lookup x.1 = some .local)).reverse = lbs) (hc : (binds.filter fun x => !decide (scope.names.lookup x.1 = some .local)).reverse = cbs)
    (hnd : ((cellsFrom 0 scope.names []).map (·.1)).Nodup)
    (hco : scope.isCoroutine = false) (hgen : scope.isGenerator = false) (hk : scope.kind = .function)
    (h : ∀ (f : Fx) s s₁ env A co, f.toWd = d → Room A n → Hnd A g → f.e = s.heap → f.g0 = g → f.X = ([] : List (Addr × Obj)).map (·.1) → EnvOk env scope f.L (cellsFrom (f.L + 1) scope.names []) cdv → env = envX qual scope f.L a cdv (cellsFrom (f.L + 1) scope.names []) →
      CellsAt (cellsFrom (f.L + 1) scope.names []) (lk cbs) co → St f g (lk lbs) co s₁ →
      wpAny (model d.prog d.w) A (execs body env) (fun fl s' => ∃ v' g', (Except.ok (Flow.ret (match fl with | .ret v => v | _ => .none)) : Result) = .ok (.ret v') ∧ Post d g [] s g' [] s' ∧ Q v' g') (fun _ _ => False) s₁) : CalmH d (n + 1) (.ref a) pos kw g Q := by
  intro A s hR hh W
  refine enterCell hK hB W hR.depth ho hcd (hbind s (W.base.trans W.sub)) hkind hl hc hnd hco hgen hk fun f s₁ env co e1 e2 e3 e4 En hE hC F => ?_
  rw [List.append_nil] at F
  exact wpAny_mono (h f s s₁ env (A.deeper env) co e1 hR.deeper hh e2 e3 e4 En hE hC F) (fun _ _ z => z) fun _ _ z => z.elim
theorem ev0 {M : Model} {A : Around} {E : Value → Shared → Prop} {s : Shared} {env : Env} {Q : Value → Shared → Prop} (h : Q .none s) : wpAny M A (evalPart none env) Q E s := by rw [evalPart_none]; exact wpAny_pure h
theorem ev1 {M : Model} {A : Around} {E : Value → Shared → Prop} {s : Shared} {env : Env} {e : Expr} {Q : Value → Shared → Prop} (h : wpAny M A (eval e env) Q E s) : wpAny M A (evalPart (some e) env) Q E s := by rw [evalPart_some]; exact h
theorem prd_bools {g : Heap} : ∀ (bs : List Bool), Paired (rd g) (bs.map Value.bool) (bs.map PyData.bool)
  | [] => .nil
  | _ :: bs => .cons rd_bool (prd_bools bs)
theorem any_bools : ∀ (bs : List Bool), ((bs.map PyData.bool).any fun y => PyData.eqv y (.bool true)) = bs.contains true
  | [] => rfl
  | b :: bs => by
    rw [List.map_cons, List.any_cons, any_bools bs]
    cases b <;> simp [PyData.eqv]
/-- lists of flat data -/
def flatD : PyData → Bool
  | .none | .bool _ | .int _ => true
  | .str x => PyData.canLay0 (.str x)
  | _ => false
theorem flat_lay {d : PyData} (h : flatD d = true) : d.canLay0 = true ∧ d.depth = 0 := by
  cases d <;> simp_all [flatD, PyData.canLay0, PyData.depth]
theorem flats_lay : ∀ {ds : List PyData}, (∀ d ∈ ds, flatD d = true) → PyData.canLayAll0 ds = true ∧ PyData.depthAll ds ≤ 1
  | [], _ => ⟨rfl, by simp [PyData.depthAll]⟩
  | d :: ds, h => by
    have h1 := flat_lay (h d (.head _))
    have h2 := flats_lay (ds := ds) fun x hx => h x (.tail _ hx)
    refine ⟨by simp [PyData.canLayAll0, h1.1, h2.1], ?_⟩
    simp only [PyData.depthAll, h1.2]
    omega
theorem shaped_flats {ds : List PyData} (h : ∀ d ∈ ds, flatD d = true) : SeqAt.shaped (.list ds) = true := by
  have := flats_lay h
  unfold SeqAt.shaped
  simp only [PyData.canLay0, this.1, PyData.depth, Bool.true_and]
  exact decide_eq_true (by have := this.2; omega)
theorem eqv_nil : ∀ (xs : List PyData), PyData.eqv (.list xs) (.list []) = xs.isEmpty
  | [] => rfl
  | _ :: _ => rfl
theorem ones_empty : ∀ (l : List Bool), ((l.filter id).map fun _ => PyData.int 1).isEmpty = l.all (!·)
  | [] => rfl
  | b :: l => by
    cases b
    · rw [List.filter_cons_of_neg (by simp)]; simpa using ones_empty l
    · rw [List.filter_cons_of_pos (by rfl)]; simp
/-! IsiR -/
section
variable {c : Fx} {g : Heap} {m : Str → Option Value} {r : List (Addr × Obj)} {s : Shared} {A : Around} {E : Value → Shared → Prop} {K0 : Frag} {x C D : Addr} {l : List (Str × Value)} {Q : Value → Shared → Prop}
/-- what the base heap says of a class whose instances are asked for their class -/
def plainCls (K : Frag) (D : Addr) : Bool := plainGet K D "__class__" && hasDictIn K D && (findIn K (.ref D) "__class__" == some (some (.builtin "object.__class__"))) && (specialIn K (.builtin "object.__class__") "__get__" == some (some (.builtin "getset_descriptor.__get__"))) && (takesIn K (.builtin "object.__class__") == some true) && (mroIn K D (.type "object") == some true)
/-- an made object of the class itself -/
theorem isiT {dx : Addr} (hB : Base c.toWd) (hK : c.K = K0) (F : St c g m r s) (hx : g.get? x = some (instObj C dx)) (e : isIn K0 (.ref C) C = true) (h : Q (.bool true) s) : wpAny (model c.prog c.w) A (call (.builtin "isinstance") [.ref x, .ref C]) Q E s := by
  subst hK
  refine isi_call (t := .ref C) (F.KIn hB) (fun M => ?_) e (by intro q; cases q) h
  exact (Looks.ld (F.sub _ _ hx)).andThen .now
/-- an made object of another class -/
theorem isiF (hB : Base c.toWd) (hK : c.K = K0) (F : St c g m r s) (I : InstF g x D l) (e : kin_not K0 D C = true) (hp : plainCls K0 D = true) (h : ∀ s', St c g m r s' → Q (.bool false) s') : wpAny (model c.prog c.w) A (call (.builtin "isinstance") [.ref x, .ref C]) Q E s := by
  subst hK
  obtain ⟨dx, od, h1, h2, es, n, rfl, _⟩ := I
  unfold plainCls at hp
  simp only [Bool.and_eq_true] at hp
  obtain ⟨⟨⟨⟨⟨p1, p2⟩, p3⟩, p4⟩, p5⟩, p6⟩ := hp
  exact kin_callC (F.KIn hB) (PySem.W.InstAt.mk (F.sub _ _ h1) rfl rfl (F.sub _ _ h2)) e p1 p2 (beq_iff_eq.mp p3) (beq_iff_eq.mp p4) (beq_iff_eq.mp p5) (beq_iff_eq.mp p6) (h _ F.toks)
/-- a number is no made object of a class of the text -/
theorem isiI {n : Int} {u : Tok} (hB : Base c.toWd) (hK : c.K = K0) (F : St c g m r s) (e : isNotIn K0 "int" C = true) (h : ∀ s', St c g m r s' → Q (.bool false) s') : wpAny (model c.prog c.w) A (call (.builtin "isinstance") [.int n u, .ref C]) Q E s := by
  subst hK
  exact isn_call (T := "int") (P := fun _ => True) (F.KIn hB) (fun M => Looks.of_pure rfl) e (by intro q; cases q) trivial (fun p q => int_cls p q) (h _ F.toks)
theorem isiTupI {n : Int} {u : Tok} {tp : Addr} {its : List Value} {b : Bool} (hB : Base c.toWd) (hK : c.K = K0) (F : St c g m r s) (ht : IsTup g tp its.toArray) (e : kitAny K0 (.type "int") its = some b) (h : ∀ s', St c g m r s' → Q (.bool b) s') : wpAny (model c.prog c.w) A (call (.builtin "isinstance") [.int n u, .ref tp]) Q E s := by
  subst hK
  obtain ⟨⟨oc, dd, dt, sl⟩, h1, h2, n, h3⟩ := ht
  dsimp only at h2 h3
  subst h2 h3
  exact kia_tup (kitx_int (K := c.K)) (F.KIn hB) trivial (F.sub _ _ h1) e (by intro q; cases q) fun tk => h _ F.toks
theorem isiDict {a : Addr} {kvs : List (Str × Value)} (hB : Base c.toWd) (F : St c g m r s) (hd : s.heap.DictOf (sk c.toWd) a kvs) (e : kitOne c.K (.type "dict") (.type "dict") = some true) (h : ∀ s', St c g m r s' → Q (.bool true) s') : wpAny (model c.prog c.w) A (call (.builtin "isinstance") [.ref a, .type "dict"]) Q E s :=
  kia_one (kitx_dict (K := c.K)) (F.KIn hB) hd.typeIs e (by intro q; cases q) fun tk => h _ F.toks
end
section
variable {c : Fx} {g : Heap} {m : Str → Option Value} {r : List (Addr × Obj)} {s : Shared} {A : Around} {E : Value → Shared → Prop}
theorem gmGet {a : Addr} {kvs : List (Str × Value)} {pl : Sem Bool} {Q : Value × List Value → Shared → Prop} (hd : s.heap.DictOf (sk c.toWd) a kvs) (h : Q (.builtin "dict.get", [.ref a]) s) : wpAny (model c.prog c.w) A (getMethod (.ref a) "get" pl) Q E s :=
  getMethod_builtin hd.typeIs PySem.F.plainAttrs_dict PySem.F.slot_dict_get PySem.F.type_dict_get hd.mapOf.noDict h
theorem callGet2 {a : Addr} {kvs : List (Str × Value)} {k : Str} {t : Tok} {dv : Value} {Q : Value → Shared → Prop} (F : St c g m r s) (hd : s.heap.DictOf (sk c.toWd) a kvs) (hm : (a == sysModules) = false) (h : ∀ s', St c g m r s' → Q ((valueAt kvs k).getD dv) s') : wpAny (model c.prog c.w) A (call (.builtin "dict.get") [.ref a, .str k t, dv]) Q E s :=
  call_meetsIn PySem.F.slot_dict_get hd.typeIs PySem.F.entry_dict_get (PySem.F.args_dict_get_3 _ _ _) (meets_dict_get_default (sk c.toWd) a (strKind_is c.prog c.w k t) hm dv) ⟨_, hd.mapOf, h _ F.toks⟩
end
section
variable {c : Fx} {g : Heap} {m : Str → Option Value} {r : List (Addr × Obj)} {s : Shared} {A : Around} {E : Value → Shared → Prop} {prog : Program} {w : World}
/-- two known lists joined -/
theorem addL {l b : Addr} {vs ws : List Value} {Q : Value → Shared → Prop} (F : St c g m r s) (hl : g.IsList l vs.toArray) (hb : g.IsList b ws.toArray) (hz : vs.length + ws.length ≤ sizeLine)
    (h : ∀ g' t s', Le g g' → g'.IsList t (vs ++ ws).toArray → s.heap.get? t = none → St c g' m r s' → Q (.ref t) s') : wpAny (model prog w) A (binaryOp .Add (.ref l) (.ref b)) Q E s := by
  obtain ⟨⟨cls, dd, data, sl⟩, ho, hc, n, hd⟩ := IsList_le hl F.sub
  obtain ⟨⟨cls2, dd2, data2, sl2⟩, ho2, hc2, n2, hd2⟩ := IsList_le hb F.sub
  simp only at hc hd hc2 hd2
  subst hc hd hc2 hd2
  have e : vs.toArray ++ ws.toArray = (vs ++ ws).toArray := by simp
  refine concat_meets ⟨_, ho, rfl⟩ ⟨_, ho2, rfl⟩ noFill_list_add seq_list_add PySem.F.slot_list_add PySem.F.entry_list_add (PySem.F.args_list_add_2 _ _) (list_addW l b vs.toArray ws.toArray n n2 dd dd2 sl sl2 (by simpa using hz)) ⟨ho, ho2, ?_⟩
  rw [e]
  obtain ⟨g', h1, h2, h3, h4⟩ := F.alloc (o := { cls := .type "list", data := .seq (vs ++ ws).toArray }) (t := s.toks) rfl
  exact h g' _ _ h1 ⟨_, h2, rfl, _, rfl⟩ h3 h4
theorem tupL {l : Addr} {vs : List Value} {Q : Value → Shared → Prop} (F : St c g m r s) (hl : g.IsList l vs.toArray) (hz : vs.length ≤ sizeLine) (h : ∀ g' t s', Le g g' → IsTup g' t vs.toArray → s.heap.get? t = none → St c g' m r s' → Q (.ref t) s') :
    wpAny (model prog w) A (call (.type "tuple") [.ref l]) Q E s := by
  refine call_tuple_list (IsList_le hl F.sub) (fun h' hk => ?_) (by rw [List.size_toArray]; exact hz)
  have F1 := F.more (t := s.toks) hk
  obtain ⟨g', h1, h2, h3, h4⟩ := F1.alloc (o := { cls := .type "tuple", data := .seq vs.toArray }) (t := s.toks) rfl
  refine h g' _ _ h1 ⟨_, h2, rfl, _, rfl⟩ ?_ h4
  cases q : s.heap.get? h'.objs.size with
  | none => rfl
  | some o => have := hk _ _ q; rw [fresh_none (Nat.le_refl _)] at this; cases this
theorem tupT {l : Addr} {vs : Array Value} {Q : Value → Shared → Prop} (F : St c g m r s) (hl : IsTup g l vs) (h : Q (.ref l) s) : wpAny (model prog w) A (call (.type "tuple") [.ref l]) Q E s := call_tuple_tup (hl.keeps F.sub) h
theorem t_not {b : Bool} {Q : Value → Shared → Prop} (h : Q (.bool b) s) : Q (.bool b) s := h
/-- whether a known list is empty -/
theorem trL {l : Addr} {vs : List Value} {Q : Bool → Shared → Prop} (F : St c g m r s) (hl : g.IsList l vs.toArray) (hz : vs.length < 1000) (h : ∀ s', St c g m r s' → Q (!vs.isEmpty) s') : wpAny (model prog w) A (truthy (.ref l)) Q E s := by
  refine wpAny_truthy_list (IsList_le hl F.sub) (by rw [List.size_toArray]; omega) ?_
  rw [List.isEmpty_toArray]
  exact h _ F.toks
end
theorem whileE {prog : Program} {w : World} {A : Around} {E : Value → Shared → Prop} {s : Shared} {env : Env} {test : Expr} {body : List Stmt} {pos : Pos} {Q : Flow → Shared → Prop} (I : Nat → Shared → Prop) (n : Nat) (h : I n s)
    (turn : ∀ n s N, I n s → wpAny (model prog w) A (isTrue test env (eval test env)) (fun b s₂ => if b = true then wpAny (model prog w) A (execs body env) (fun f s₃ => match f with
      | .next | .cont => ∃ m, m < n ∧ I m s₃
      | .brk => Q .next s₃
      | .ret v => Q (.ret v) s₃) N s₂ else Q .next s₂) N s) : wpAny (model prog w) A (exec (.While test body [] pos) env) Q E s := by
  refine wpAny_While (codeAny_whileLoop I (fun n s hI => wpAny_mono (turn n s _ hI) (fun b s₂ hb => ?_) fun _ _ e => e) n h)
  cases b with
  | true =>
    rw [if_pos rfl]
    rw [if_pos rfl] at hb
    exact wpAny_mono hb (fun f s₃ hf => by cases f <;> exact hf) fun _ _ e => e
  | false =>
    rw [if_neg Bool.false_ne_true]
    rw [if_neg Bool.false_ne_true] at hb
    exact wpAny_execs_nil hb
/-! LcX -/
theorem cellsFrom_acc : ∀ (ns : List (Str × NameKind)) (n : Nat) (a b : List (Str × Addr)), cellsFrom n ns (a ++ b) = cellsFrom n ns a ++ b
  | [], _, _, _ => rfl
  | (x, k) :: r, n, a, b => by
    unfold cellsFrom
    split
    · exact cellsFrom_acc r (n + 1) ((x, n) :: a) b
    · exact cellsFrom_acc r n a b
theorem cellsFrom_nil (ns : List (Str × NameKind)) (n : Nat) (b : List (Str × Addr)) : cellsFrom n ns b = cellsFrom n ns [] ++ b := cellsFrom_acc ns n [] b

theorem pushCells_size : ∀ (ns : List (Str × NameKind)) (h : Heap), h.objs.size ≤ (pushCells h ns).objs.size
  | [], _ => Nat.le_refl _
  | (_, k) :: r, h => by
    unfold pushCells
    split
    · exact Nat.le_trans (by rw [Heap.size_push]; exact Nat.le_succ _) (pushCells_size r _)
    · exact pushCells_size r h

/-- the cells of a comprehension's own names -/
def CellsAny (cs : List (Str × Addr)) (co : List (Addr × Obj)) : Prop := co.map (·.1) = cs.map (·.2) ∧ ∀ p ∈ co, ∃ v, p.2.data = .cell v

/-- one turn of a comprehension with cells of its own that makes a list -/
def LcTurnX (c : Fx) (A : Around) (scope sc' : Scope) (cl : List (Str × Addr)) (cd : Value) (target : Expr) (ifs : List Expr) (elt : Expr) (n : Nat) (gB : Heap) (P : Nat → Heap → Value → Prop) (Inv : Nat → Heap → List Value → Prop) : Prop :=
  ∀ (f' : Fx) (cenv : Env) co i g1 g' l T s' v ys E', f'.toWd = c.toWd → EnvOk cenv sc' f'.L (cellsFrom (f'.L + 1) scope.names [] ++ cl) cd → CellsAny (cellsFrom (f'.L + 1) scope.names []) co → (∀ a ∈ (cellsFrom (f'.L + 1) scope.names []).map (·.2), a ∉ f'.X ∧ f'.g0.get? a = none ∧ gB.get? a = none) → i < n → Le gB g1 → Le g1 g' → Inv i g1 ys → P i g' v → St f' g' (lk l) (co ++ T) s' →
    wpAny (model f'.prog f'.w) A (assign target cenv v) (fun _ s₃ => wpAny (model f'.prog f'.w) A (tests ifs cenv) (fun ok s₄ => if ok = true then
      wpAny (model f'.prog f'.w) A (eval elt cenv) (fun x s₅ => ∃ g'' l'' co'', Le gB g'' ∧ Inv (i + 1) g'' (ys ++ [x]) ∧ CellsAny (cellsFrom (f'.L + 1) scope.names []) co'' ∧ St f' g'' (lk l'') (co'' ++ T) s₅) E' s₄
      else ∃ g'' l'' co'', Le gB g'' ∧ Inv (i + 1) g'' ys ∧ CellsAny (cellsFrom (f'.L + 1) scope.names []) co'' ∧ St f' g'' (lk l'') (co'' ++ T) s₄) E' s₃) E' s'

section
variable {c : Fx} {g gB : Heap} {m : Str → Option Value} {js r : List (Addr × Obj)} {s : Shared} {A : Around} {E : Value → Shared → Prop} {env : Env} {sc : Scope} {cl0 : List (Str × Addr)} {cd : Value}

theorem lcCoreX {elt target iter : Expr} {ifs : List Expr} {scope : Scope} {cl : List (Str × Addr)} {pos : Pos} {I : Addr} {n : Nat} {P : Nat → Heap → Value → Prop} {J : Nat → List (Addr × Obj) → Prop} {RR : Value → Addr → Result → Shared → Prop}
    (En : EnvOk env sc c.L cl0 cd) (hkind : scope.kind = .function) (hnd : ((cellsFrom 0 scope.names []).map (·.1)).Nodup) (It : Itr c.toWd A target I n gB P J) (hle : Le gB g) (hn : n ≤ sizeLine) (J0 : J 0 js)
    {s₀ : Shared} (F₀ : St c g m r s₀) (ks : Le s₀.heap s.heap) (zs : s₀.heap.objs.size ≤ s.heap.objs.size) (js0 : ∀ p ∈ js, s₀.heap.get? p.1 = none) (F : St c g m (js ++ r) s) (Inv : Nat → Heap → List Value → Prop) (h0 : Inv 0 g []) (turn : LcTurnX c A scope (relab scope sc) cl cd target ifs elt n gB P Inv)
    (fin : ∀ g' D oD C oC m' ys s', Le gB g' → Inv n g' ys → isListO oD ys → s'.heap.Ns C m' → St c g' m ((C, oC) :: (D, oD) :: r) s' → RR (.ref D) C (.ok .next) s') :
    wpAny (model c.prog c.w) A (newList []) (fun acc s₃ => wpAny (model c.prog c.w) A (newFunctionEnv scope env.globals cl [] env.qual none .none (some env)) (fun cenv s₄ =>
      codeAny (model c.prog c.w) A (.compStart (.ListComp elt [⟨target, iter, ifs, 0⟩] scope pos) 0 (.ref I) acc { cenv with scope := relabel scope env }) (RR acc cenv.locals) s₄) E s₃) E s := by
  have mk : ∀ {Q : Value → Shared → Prop}, (∀ D s₃, St c g m ((D, listO [] 0) :: (js ++ r)) s₃ → Le s.heap s₃.heap → s.heap.objs.size ≤ s₃.heap.objs.size → s.heap.get? D = none → Q (.ref D) s₃) → wpAny (model c.prog c.w) A (newList []) Q E s := fun h => by
    have h4 := F.allocOwn (o := { cls := .type "list", data := .seq ([] : List Value).toArray }) (t := s.toks) rfl rfl
    exact wpAny_newObj_type (h _ _ h4 (fun b o e => Heap.get?_push_of_some _ e) (by show _ ≤ (Heap.push _ _).objs.size; rw [Heap.size_push]; exact Nat.le_succ _) (fresh_none (Nat.le_refl _))) (by size_fits)
  refine mk fun D s₃ F₃ k₃ z₃ hD => ?_
  simp only [newFunctionEnv, Option.isSome_some, if_true]
  refine wpAny_bind (wpAny_alloc ?_)
  refine wpAny_bind (wpAny_layCells _ (fun name kind cells => by cases hkc : kind == NameKind.cell <;> simp [hkc]) _ _ _ _ ?_)
  rw [List.forIn_nil]
  refine wpAny_bind (wpAny_pure (wpAny_pure ?_))
  rw [relab_eq En]
  have hC1 : ({ s₃ with heap := s₃.heap.push { cls := .type "dict", data := .dict #[] } } : Shared).heap.objs.size = s₃.heap.objs.size + 1 := Heap.size_push ..
  rw [hC1, cellsFrom_nil]
  have hCn : s₃.heap.get? s₃.heap.objs.size = none := fresh_none (Nat.le_refl _)
  have ok := cellsFrom_ok scope.names (s₃.heap.push { cls := .type "dict", data := .dict #[] }) (s₃.heap.objs.size + 1) [] ⟨fun _ _ hm => (nomatch hm), List.Pairwise.nil⟩ (by rw [Heap.size_push]; exact Nat.le_refl _)
  have hz1 : s₃.heap.objs.size + 1 ≤ (pushCells (s₃.heap.push { cls := .type "dict", data := .dict #[] }) scope.names).objs.size := by
    have := pushCells_size scope.names (s₃.heap.push { cls := .type "dict", data := .dict #[] })
    rw [Heap.size_push] at this
    exact this
  rw [Heap.size_push] at ok
  have k₁ : Le s₃.heap (pushCells (s₃.heap.push { cls := .type "dict", data := .dict #[] }) scope.names) := fun b o e => pushCells_keeps _ _ b o (Heap.get?_push_of_some _ e)
  have hns₁ : (pushCells (s₃.heap.push { cls := .type "dict", data := .dict #[] }) scope.names).Ns s₃.heap.objs.size (lk []) := (Heap.Ns.new s₃.heap (.type "dict")).keeps (pushCells_keeps _ _)
  generalize pushCells (s₃.heap.push { cls := .type "dict", data := .dict #[] }) scope.names = h₁ at ok hz1 k₁ hns₁
  generalize hcs : cellsFrom (s₃.heap.objs.size + 1) scope.names [] = cs at ok
  obtain ⟨co, hcA, hck, hco'⟩ := cellsAt_of (h := h₁) (cm := fun _ => none) (cs := cs) fun n a hm => (ok.empty n a hm).1
  have habove : ∀ a ∈ cs.map (·.2), s₃.heap.objs.size + 1 ≤ a := fun a ha => by
    obtain ⟨q, hq, rfl⟩ := List.mem_map.mp ha
    exact (ok.empty q.1 q.2 hq).2
  have hcoNew : ∀ p ∈ co, s₃.heap.objs.size + 1 ≤ p.1 := fun p hp => habove _ (by rw [← hck]; exact List.mem_map_of_mem hp)
  let f : Fx := ⟨c.toWd, s₀.heap, g, r.map (·.1), s₃.heap.objs.size⟩
  have absent : ∀ a, s₃.heap.objs.size ≤ a → s₃.heap.get? a = none := fun a ha => fresh_none ha
  have s0none : ∀ a, s₃.heap.objs.size ≤ a → s₀.heap.get? a = none := fun a ha => fresh_none (Nat.le_trans zs (Nat.le_trans z₃ ha))
  have En' : EnvOk { scope := relab scope sc, locals := s₃.heap.objs.size, globals := env.globals, cells := cs ++ cl, qual := env.qual, func := none, code := env.code, frame := env.frame, builtins := env.builtins } (relab scope sc) f.L (cs ++ cl) cd := ⟨rfl, rfl, En.globals, En.builtins, rfl, En.code⟩
  have F₄ : St f g (lk []) (co ++ ((D, listO [] 0) :: (js ++ r))) { s₃ with heap := h₁ } := {
    gens := F₃.gens, os := F₃.os, base := F₃.base
    sub := F₃.sub.trans k₁
    tabs := fun q hq => ⟨(F₃.tabs q hq).1.le k₁, (F₃.tabs q hq).2⟩
    own := fun p hp => by
      rcases List.mem_append.mp hp with hp | hp
      · exact ⟨(hco' p hp).1, (F₃.absent (absent _ (Nat.le_of_succ_le (hcoNew p hp)))).1, cell_ord (hco' p hp).2.choose_spec⟩
      · exact ⟨k₁ _ _ (F₃.own p hp).1, (F₃.own p hp).2⟩
    nd := by
      rw [List.map_append, List.nodup_append]
      refine ⟨?_, F₃.nd, fun y hy z hz e => ?_⟩
      · rw [hck]
        exact List.pairwise_map.mpr (ok.apart : List.Pairwise (fun x y : Str × Addr => x.2 ≠ y.2) cs)
      · obtain ⟨p, hp, rfl⟩ := List.mem_map.mp hy
        obtain ⟨q, hq, rfl⟩ := List.mem_map.mp hz
        have := (F₃.own q hq).1
        rw [← e, absent _ (Nat.le_of_succ_le (hcoNew p hp))] at this; cases this
    Bsz := Nat.le_trans F₃.Bsz (Nat.le_of_succ_le hz1)
    g0e := F₀.sub, Bg0 := F₀.base, Bse := F₀.Bsz
    g0g := Le.refl _
    fresh := fun b o e => .inl ⟨o, e⟩
    keep := fun b o e _ _ => k₁ _ _ (k₃ _ _ (ks _ _ e))
    size := Nat.le_trans zs (Nat.le_trans z₃ (Nat.le_of_succ_le hz1))
    ns := hns₁
    gL := (F₃.absent hCn).1
    rL := fun p hp => by
      rcases List.mem_append.mp hp with hp | hp
      · exact Nat.ne_of_gt (hcoNew p hp)
      · exact (F₃.absent hCn).2.2 p hp
    eL := Nat.le_trans zs z₃
    ownX := fun p hp => by
      rcases List.mem_append.mp hp with hp | hp
      · exact .inl (s0none _ (Nat.le_of_succ_le (hcoNew p hp)))
      · rcases List.mem_cons.mp hp with rfl | hp
        · left
          cases q : s₀.heap.get? D with
          | none => rfl
          | some o => rw [ks _ _ q] at hD; cases hD
        · rcases List.mem_append.mp hp with hp | hp
          · exact .inl (js0 p hp)
          · exact .inr (List.mem_map_of_mem hp)
    Xr := fun x hx => by obtain ⟨p, hp, rfl⟩ := List.mem_map.mp hx; exact ⟨p.2, List.mem_append_right _ (.tail _ (List.mem_append_right _ hp))⟩ }
  have hjs : ∀ x ∈ f.X, x ∉ js.map (·.1) := fun x hx h => by
    have nd := F.nd
    rw [List.map_append, List.nodup_append] at nd
    exact nd.2.2 _ h _ hx rfl
  have hcell : ∀ a ∈ cs.map (·.2), a ∉ f.X ∧ f.g0.get? a = none ∧ gB.get? a = none := fun a ha => by
    have h1 := Nat.le_of_succ_le (habove a ha)
    have h2 := (F₃.absent (absent a h1)).1
    refine ⟨fun hx => ?_, h2, none_le hle h2⟩
    obtain ⟨p, hp, e⟩ := List.mem_map.mp hx
    have := (F₀.own p hp).1
    rw [e, s0none a h1] at this; cases this
  have loop : codeAny (model c.prog c.w) A (.compLoop (.ListComp elt [⟨target, iter, ifs, 0⟩] scope pos) 0 (.ref I) (.ref D) { scope := relab scope sc, locals := s₃.heap.objs.size, globals := env.globals, cells := cs ++ cl, qual := env.qual, func := none, code := env.code, frame := env.frame, builtins := env.builtins })
      (RR (.ref D) s₃.heap.objs.size) { s₃ with heap := h₁ } := by
    refine lcLoop (fun k s' => ∃ i g1 l ys js' oD co', k = n + 1 - i ∧ i ≤ n ∧ Le gB g1 ∧ Inv i g1 ys ∧ J i js' ∧ js'.map (·.1) = js.map (·.1) ∧ ys.length ≤ i ∧ isListO oD ys ∧ CellsAny cs co' ∧ St f g1 (lk l) (co' ++ ((D, oD) :: (js' ++ r))) s') ?_ (n + 1)
      ⟨0, g, [], [], js, listO [] 0, co, rfl, Nat.zero_le _, hle, h0, J0, rfl, Nat.le_refl _, ⟨rfl, _, rfl⟩, ⟨hck, fun p hp => (hco' p hp).2⟩, F₄⟩
    rintro k s' ⟨i, g1, l, ys, js', oD, co1, rfl, hi, hle1, hInv, hJ, hkeys, hys, hoD, hco1, F'⟩ N
    have pm : ∀ (co js : List (Addr × Obj)) (oD : Obj), (co ++ ((D, oD) :: (js ++ r))).Perm (js ++ (co ++ ((D, oD) :: r))) := fun co js oD => by
      refine (List.Perm.append_left co (List.perm_middle (a := (D, oD)) (l₁ := js) (l₂ := r)).symm).trans ?_
      exact perm3 co js _
    have Fp : St f g1 (lk l) (js' ++ (co1 ++ ((D, oD) :: r))) s' := F'.perm (pm ..)
    rcases Nat.lt_or_eq_of_le hi with hlt | rfl
    · refine It.next (f := f) rfl hle1 hlt hJ Fp (by rw [hkeys]; exact hjs) fun v g2 js2 s2 hle2 hP hJ2 hk2 F2 => ?_
      have F2' : St f g2 (lk l) (co1 ++ ((D, oD) :: (js2 ++ r))) s2 := F2.perm (pm ..).symm
      subst hcs
      refine wpAny_mono (turn f _ co1 i g1 g2 l _ s2 v ys N rfl En' hco1 hcell hlt hle1 hle2 hInv hP F2') (fun _ s3 h3 => wpAny_mono h3 (fun ok s4 h4 => ?_) fun _ _ e => e) fun _ _ e => e
      cases ok with
      | false =>
        obtain ⟨g3, l3, co3, a1, a2, a4, a3⟩ := (by simpa using h4 : ∃ g'' l'' co'', Le gB g'' ∧ Inv (i + 1) g'' ys ∧ CellsAny (cellsFrom (s₃.heap.objs.size + 1) scope.names []) co'' ∧ St f g'' (lk l'') (co'' ++ ((D, oD) :: (js2 ++ r))) s4)
        show ∃ m, _ ∧ _
        exact ⟨n + 1 - (i + 1), by omega, i + 1, g3, l3, ys, js2, oD, co3, rfl, hlt, a1, a2, hJ2, hk2.trans hkeys, by omega, hoD, a4, a3⟩
      | true =>
        refine wpAny_mono (show wpAny _ _ _ _ _ _ from h4) (fun x s5 h5 => ?_) fun _ _ e => e
        obtain ⟨g3, l3, co3, a1, a2, a4, a3⟩ := h5
        obtain ⟨hc, nn, hd⟩ := hoD
        have a3' : St f g3 (lk l3) ((D, oD) :: (co3 ++ (js2 ++ r))) s5 := a3.perm List.perm_middle
        refine wpAny_list_append (hsz := by rw [List.size_toArray]; omega) ⟨oD, (a3'.own _ (.head _)).1, hc, nn, hd⟩ fun h' ⟨o', b1, b2, b3⟩ hs' => ?_
        have ho' : isListO o' (ys ++ [x]) := ⟨b2, by simpa using b3⟩
        have a5 := (a3'.own1 (t := s5.toks) b1 ho'.ord hs').perm (List.perm_middle (a := (D, o')) (l₁ := co3) (l₂ := js2 ++ r)).symm
        exact ⟨n + 1 - (i + 1), by omega, i + 1, g3, l3, ys ++ [x], js2, o', co3, rfl, hlt, a1, a2, hJ2, hk2.trans hkeys, by simp; omega, ho', a4, a5⟩
    · refine It.done (f := f) rfl hle1 hJ Fp (by rw [hkeys]; exact hjs) fun s2 F2 => ?_
      have F3 : St f g1 (lk l) ([(D, oD)] ++ r) s2 := by
        refine F2.drop' (r' := [(D, oD)] ++ r) (List.sublist_append_right _ _) fun x hx o hm => ?_
        rcases List.mem_append.mp hm with hm | hm
        · have : x ∈ cs.map (·.2) := by rw [← hco1.1]; exact List.mem_map_of_mem (f := (·.1)) hm
          exact absurd hx (hcell x this).1
        · exact hm
      obtain ⟨oC, hord, hns, hoC, Fo⟩ := F₀.inner (n := [(D, oD)]) F3 rfl rfl rfl rfl rfl
      exact fin g1 D oD f.L oC _ ys s2 hle1 hInv hoD hns Fo
  refine codeAny_compStart_list loop ?_
  have Fp : St f g (lk []) (js ++ (co ++ ((D, listO [] 0) :: r))) { s₃ with heap := h₁ } := F₄.perm (by
    refine (List.Perm.append_left co (List.perm_middle (a := (D, listO [] 0)) (l₁ := js) (l₂ := r)).symm).trans ?_
    exact perm3 co js _)
  exact It.self (f := f) rfl hle J0 Fp loop

/-- a list made by a comprehension whose names are kept in cells -/
theorem lcEX {elt target iter : Expr} {ifs : List Expr} {scope : Scope} {cl : List (Str × Addr)} {pos : Pos} {Q : Value → Shared → Prop}
    (En : EnvOk env sc c.L cl0 cd) (hclos : closureFor scope env = pure cl) (hkind : scope.kind = .function) (hnd : ((cellsFrom 0 scope.names []).map (·.1)).Nodup) (hnames : ∀ x ∈ scope.names, x.2 = .local → scope.names.lookup x.1 = some .local)
    (hs : ∀ x, foldedSetIterable iter env x = pure x)
    (h : wpAny (model c.prog c.w) A (eval iter env) (fun x s₁ => wpAny (model c.prog c.w) A (pyIter x) (fun it s₂ => ∃ gB n P g m r Inv, Rdy c A target gB n P g m r it s₂ ∧ n ≤ sizeLine ∧ Inv 0 g [] ∧ LcTurnX c A scope (relab scope sc) cl cd target ifs elt n gB P Inv ∧
      (∀ g1 g' D ys s', Le gB g1 → Le g1 g' → Inv n g1 ys → g'.IsList D ys.toArray → St c g' m r s' → Q (.ref D) s')) E s₁) E s) :
    wpAny (model c.prog c.w) A (eval (.ListComp elt [⟨target, iter, ifs, 0⟩] scope pos) env) Q E s := by
  rw [eval_ListComp]
  refine wpAny_comprehension_free (use := none) rfl hs hclos hkind hnames (wpAny_mono h (fun xv s₁ h₁ => wpAny_mono h₁ (fun it s₂ h₂ => ?_) fun _ _ e => e) fun _ _ e => e)
  obtain ⟨gB, n, P, g, m, r, Inv, ⟨⟨I, J, js, s₀, rfl, It, J0, F, F₀, ks, zs, js0⟩, hle⟩, hn, h0, turn, fin⟩ := h₂
  have hX := F₀.Xr
  refine lcCoreX (RR := fun acc C => compPost (model c.prog c.w) A E none Q acc C) En hkind hnd It hle hn J0 F₀ ks zs js0 F Inv h0 turn ?_
  intro g' D oD C oC m' ys s' hle' hInv hoD hns F'
  refine ⟨m', hns, fun h'' hs'' => ?_⟩
  have F2 := F'.dropBut hs'' (head_notX F' fun x hx => (hX x hx).elim fun o z => ⟨o, .tail _ z⟩)
  obtain ⟨g2, l2, k2, F3⟩ := F2.freeze1 (head_notX F2 hX)
  exact fin _ g2 D ys _ hle' l2 hInv ⟨oD, k2, hoD.1, hoD.2⟩ F3
end
section
variable {c : Fx} {g : Heap} {m : Str → Option Value} {r : List (Addr × Obj)} {s : Shared} {A : Around} {E : Value → Shared → Prop} {env : Env} {sc : Scope} {cl0 : List (Str × Addr)} {cd : Value} {prog : Program} {w : World}
theorem lcE1 {elt target iter : Expr} {ifs : List Expr} {scope : Scope} {cl : List (Str × Addr)} {pos : Pos} {Q : Value → Shared → Prop} (_ : St c g m r s) (hp : c.prog = prog) (hw : c.w = w)
    (En : EnvOk env sc c.L cl0 cd) (hclos : closureFor scope env = pure cl) (hcell : ∀ x ∈ scope.names, x.2 ≠ .cell) (hkind : scope.kind = .function) (hnames : ∀ x ∈ scope.names, x.2 = .local → scope.names.lookup x.1 = some .local)
    (hs : ∀ x, foldedSetIterable iter env x = pure x)
    (h : wpAny (model prog w) A (eval iter env) (fun x s₁ => wpAny (model prog w) A (pyIter x) (fun it s₂ => ∃ gB n P g m r Inv, Rdy c A target gB n P g m r it s₂ ∧ n ≤ sizeLine ∧ Inv 0 g [] ∧ LcTurn c A (relab scope sc) cl cd target ifs elt n gB P Inv ∧
      (∀ g1 g' D ys s', Le gB g1 → Le g1 g' → Inv n g1 ys → g'.IsList D ys.toArray → St c g' m r s' → Q (.ref D) s')) E s₁) E s) :
    wpAny (model prog w) A (eval (.ListComp elt [⟨target, iter, ifs, 0⟩] scope pos) env) Q E s := by
  subst hp hw
  exact lcE En hclos hcell hkind hnames hs h
theorem lcEX1 {elt target iter : Expr} {ifs : List Expr} {scope : Scope} {cl : List (Str × Addr)} {pos : Pos} {Q : Value → Shared → Prop} (_ : St c g m r s) (hp : c.prog = prog) (hw : c.w = w)
    (En : EnvOk env sc c.L cl0 cd) (hclos : closureFor scope env = pure cl) (hkind : scope.kind = .function) (hnd : ((cellsFrom 0 scope.names []).map (·.1)).Nodup) (hnames : ∀ x ∈ scope.names, x.2 = .local → scope.names.lookup x.1 = some .local)
    (hs : ∀ x, foldedSetIterable iter env x = pure x)
    (h : wpAny (model prog w) A (eval iter env) (fun x s₁ => wpAny (model prog w) A (pyIter x) (fun it s₂ => ∃ gB n P g m r Inv, Rdy c A target gB n P g m r it s₂ ∧ n ≤ sizeLine ∧ Inv 0 g [] ∧ LcTurnX c A scope (relab scope sc) cl cd target ifs elt n gB P Inv ∧
      (∀ g1 g' D ys s', Le gB g1 → Le g1 g' → Inv n g1 ys → g'.IsList D ys.toArray → St c g' m r s' → Q (.ref D) s')) E s₁) E s) :
    wpAny (model prog w) A (eval (.ListComp elt [⟨target, iter, ifs, 0⟩] scope pos) env) Q E s := by
  subst hp hw
  exact lcEX En hclos hkind hnd hnames hs h
end
theorem CellsAny.one {n : Str} {a : Addr} {co : List (Addr × Obj)} (h : CellsAny [(n, a)] co) : ∃ o, co = [(a, o)] ∧ ∃ v, o.data = .cell v := by
  obtain ⟨h1, h2⟩ := h
  cases co with
  | nil => cases h1
  | cons p r =>
    cases r with
    | nil =>
      obtain ⟨b, o⟩ := p
      have e : b = a := (List.cons.inj h1).1
      obtain ⟨v, hv⟩ := h2 (b, o) (.head _)
      exact ⟨o, by rw [e], v, hv⟩
    | cons q r => cases (List.cons.inj h1).2
theorem CellsAny.mk1 {n : Str} {a : Addr} {o : Obj} {v : Option Value} (h : o.data = .cell v) : CellsAny [(n, a)] [(a, o)] := ⟨rfl, fun p hp => by rw [List.mem_singleton.mp hp]; exact ⟨v, h⟩⟩
/-! ExcR -/
/-- an exception on its way, without a context; fl tells the frame that holds it -/
structure Exc (h base : Heap) (e : Addr) (fl : Value) : Prop where
  bn : base.get? e = none
  ex : ∃ oe vs T oT ts, h.get? e = some oe ∧ oe.cls = .type "ValueError" ∧ oe.data = .fields vs ∧ vs[2]? = some .none ∧ vs[1]? = some (.ref T) ∧ base.get? T = none ∧ T ≠ e ∧ h.get? T = some oT ∧ oT.data = .fields ts ∧ ts[3]? = some fl
/-- an exception just made -/
structure Exc0 (h base : Heap) (e : Addr) : Prop where
  bn : base.get? e = none
  ex : ∃ oe vs, h.get? e = some oe ∧ oe.cls = .type "ValueError" ∧ oe.data = .fields vs ∧ vs[2]? = some .none ∧ vs[1]? = some .none

abbrev tbO (head : Value) (L : Addr) (pl : List Value) : Obj := { cls := .type "traceback", dict := none, data := .fields ([head, .ref L, .none, rawInt L, .none] ++ (if pl.isEmpty then List.replicate 6 Value.none else pl)).toArray }

/-- what noting leaves: all that base holds, the frames, all but the records up to slots -/
structure Noted (base : Heap) (l : List Env) (h h' : Heap) : Prop where
  stays : base.StaysIn h'
  frames : h'.FunFrames base l
  up : h.UpToSlots h'

section
variable {M : Model} {A : Around} {E : Value → Shared → Prop} {s : Shared} {base : Heap} {env : Env} {outer : List Env} {L e : Addr}

theorem newEntry {oe : Obj} {vs : Array Value} {head : Value} {hadNext : Bool} {Q : Unit → Shared → Prop}
    (hfr : A.frames = some (env :: outer)) (hl : s.heap.FunFrames base (env :: outer)) (hf : env.frame = some L) (hkb : base.StaysIn s.heap)
    (hen : base.get? e = none) (he : s.heap.get? e = some oe) (hc : oe.cls = .type "ValueError") (hd : oe.data = .fields vs) (h2 : vs[2]? = some .none)
    (h : ∀ h', Noted base (env :: outer) s.heap h' → Exc h' base e (rawInt L) → Q () { s with heap := h' }) :
    wpAny M A (do let a ← frameOf env; let pl ← entryPlaceOf L hadNext; let b ← EntryCells.newEntry head a .none (rawInt L) .none pl; setField (.ref e) 1 b) Q E s := by
  have hsz : 2 < vs.size := (Array.getElem?_eq_some_iff.mp h2).1
  have rec_ne : ∀ b o, s.heap.get? b = some o → (∀ vs, o.data ≠ .fields vs) → b ≠ e := fun b o ho hn z => by
    rw [z, he] at ho
    cases ho
    exact hn vs hd
  have out : e ∉ (env :: outer).filterMap (·.frame) := fun hm => by
    obtain ⟨_, o, ho, hn⟩ := hl.mem hm
    exact rec_ne _ o ho hn rfl
  refine wpAny_bind (wpAny_frameOf_fun hfr hl hf fun h1 S1 => ?_)
  refine wpAny_bind (wpAny_entryPlaceOf fun pl hpl => ?_)
  unfold EntryCells.newEntry newFields
  refine wpAny_bind (wpAny_newObj_type ?_ (hpl.sizeOk5 _ _ _ _ _))
  have e1 : h1.get? e = some oe := (S1.2.1 e out).trans he
  have hTe : h1.objs.size ≠ e := Nat.ne_of_gt (Heap.lt_size e1)
  have e2 := Heap.get?_push_of_some (h := h1) (tbO head L pl) e1
  have hd3 := Obj.data_mapFields hd (·.setIfInBounds 1 (Value.ref h1.objs.size))
  refine wpAny_setField e2 hd (Nat.lt_of_succ_lt hsz) (h _ ?_ ?_)
  · have keep : ∀ b o, b ≠ e → h1.get? b = some o → ((h1.push (tbO head L pl)).update e (Obj.mapFields (·.setIfInBounds 1 (Value.ref h1.objs.size)))).get? b = some o := fun b o hb ho => by
      rw [Heap.get?_update_other _ _ (Ne.symm hb)]
      exact Heap.get?_push_of_some _ ho
    refine ⟨fun b o hb => keep b o (fun z => by rw [z, hen] at hb; cases hb) ((S1.2.1 b fun hm => by rw [(hl.mem hm).1] at hb; cases hb).trans (hkb b o hb)), hl.of_keeps fun b o hb hn => ?_, fun b o hb hn => ?_⟩
    · obtain ⟨sl, z⟩ := S1.2.2 b o hb
      exact ⟨_, keep b _ (rec_ne b o hb hn) z, rfl⟩
    · obtain ⟨sl, z⟩ := S1.2.2 b o hb
      exact ⟨sl, keep b _ (rec_ne b o hb hn) z⟩
  · refine ⟨hen, _, _, h1.objs.size, tbO head L pl, _, Heap.get?_update_self _ e2 (Obj.isFreed_of_fields hd3), (Obj.cls_mapFields _ _).trans hc, hd3, ?_, ?_, ?_, hTe, ?_, rfl, ?_⟩
    · rw [Array.getElem?_setIfInBounds_ne (by decide)]; exact h2
    · show (vs.setIfInBounds 1 (Value.ref h1.objs.size))[1]? = _
      rw [Array.getElem?_setIfInBounds_self_of_lt (Nat.lt_of_succ_lt hsz)]
    · cases q : base.get? h1.objs.size with
      | none => rfl
      | some o =>
        have := (S1.2.1 _ fun hm => by rw [(hl.mem hm).1] at q; cases q).trans (hkb _ o q)
        exact absurd (Heap.lt_size this) (Nat.lt_irrefl _)
    · rw [Heap.get?_update_other _ _ (Ne.symm hTe)]
      exact Heap.get?_push_size h1 rfl
    · rcases hpl with rfl | ⟨_, _, _, _, _, _, _, rfl⟩ <;> rfl

/-- the first frame an exception meets -/
theorem note0 {Q : Unit → Shared → Prop} (hfr : A.frames = some (env :: outer)) (hl : s.heap.FunFrames base (env :: outer)) (hf : env.frame = some L) (hkb : base.StaysIn s.heap) (x : Exc0 s.heap base e)
    (h : ∀ h', Noted base (env :: outer) s.heap h' → Exc h' base e (rawInt L) → Q () { s with heap := h' }) : wpAny M A (noteFrame (.ref e) env) Q E s := by
  obtain ⟨bn, oe, vs, he, hc, hd, h2, h1⟩ := x
  unfold noteFrame
  simp only [hf]
  refine wpAny_bind (wpAny_field he hd h1 ?_)
  rw [if_neg (by decide)]
  exact newEntry hfr hl hf hkb bn he hc hd h2 h

theorem updOther {T : Addr} {f : Obj → Obj} {b : Addr} {h : Heap} (hb : b ≠ T) : (h.update T f).get? b = h.get? b := Heap.get?_update_other _ _ (Ne.symm hb)

/-- the next frame that it meets -/
theorem note1 {Q : Unit → Shared → Prop} (hfr : A.frames = some (env :: outer)) (hl : s.heap.FunFrames base (env :: outer)) (hf : env.frame = some L) (hkb : base.StaysIn s.heap) (x : Exc s.heap base e .none)
    (h : ∀ h', Noted base (env :: outer) s.heap h' → Exc h' base e (rawInt L) → Q () { s with heap := h' }) : wpAny M A (noteFrame (.ref e) env) Q E s := by
  obtain ⟨bn, oe, vs, T, oT, ts, he, hc, hd, h2, h1, hT, hTe, heT, hdT, h3⟩ := x
  unfold noteFrame
  simp only [hf]
  refine wpAny_bind (wpAny_field he hd h1 ?_)
  rw [if_pos (show (Value.ref T != Value.none) = true from by simp)]
  refine wpAny_bind (wpAny_field heT hdT h3 ?_)
  rw [if_neg (show ¬ ((Value.none == rawInt L) = true) from by simp [rawInt])]
  refine wpAny_bind (wpAny_setField heT hdT (Array.getElem?_eq_some_iff.mp h3).1 ?_)
  have rec_ne : ∀ b o, s.heap.get? b = some o → (∀ vs, o.data ≠ .fields vs) → b ≠ T := fun b o ho hn z => by
    rw [z, heT] at ho
    cases ho
    exact hn ts hdT
  refine newEntry hfr (hl.of_keeps fun b o hb hn => ⟨o, (updOther (rec_ne b o hb hn)).trans hb, rfl⟩) hf (fun b o hb => (updOther fun z => by rw [z, hT] at hb; cases hb).trans (hkb b o hb)) bn ((updOther (Ne.symm hTe)).trans he) hc hd h2 fun h' N X => ?_
  exact h h' ⟨N.stays, N.frames, fun b o hb hn => N.up b o ((updOther (rec_ne b o hb hn)).trans hb) hn⟩ X

/-- a frame that holds it already -/
theorem noteA {Q : Unit → Shared → Prop} (hf : env.frame = some L) (x : Exc s.heap base e (rawInt L)) (h : Q () s) : wpAny M A (noteFrame (.ref e) env) Q E s := by
  obtain ⟨bn, oe, vs, T, oT, ts, he, hc, hd, h2, h1, hT, hTe, heT, hdT, h3⟩ := x
  unfold noteFrame
  simp only [hf]
  refine wpAny_bind (wpAny_field he hd h1 ?_)
  rw [if_pos (show (Value.ref T != Value.none) = true from by simp)]
  refine wpAny_bind (wpAny_field heT hdT h3 ?_)
  rw [if_pos (show (rawInt L == rawInt L) = true from by simp)]
  exact wpAny_pure h

theorem flight {fl : Value} {fr : Option Addr} {l : List Env} {Q : Unit → Shared → Prop} (hl : s.heap.FunFrames base l) (hkb : base.StaysIn s.heap) (x : Exc s.heap base e fl)
    (h : ∀ h', Noted base l s.heap h' → Exc h' base e (fr.elim Value.none fun f => rawInt f) → Q () { s with heap := h' }) : wpAny M A (setFlight (.ref e) fr) Q E s := by
  obtain ⟨bn, oe, vs, T, oT, ts, he, hc, hd, h2, h1, hT, hTe, heT, hdT, h3⟩ := x
  have hs3 : 3 < ts.size := (Array.getElem?_eq_some_iff.mp h3).1
  have rec_ne : ∀ b o, s.heap.get? b = some o → (∀ vs, o.data ≠ .fields vs) → b ≠ T := fun b o ho hn z => by
    rw [z, heT] at ho
    cases ho
    exact hn ts hdT
  unfold setFlight
  refine wpAny_bind (wpAny_field he hd h1 ?_)
  rw [if_pos (show (Value.ref T != Value.none) = true from by simp)]
  refine wpAny_setField heT hdT hs3 (h _ ⟨fun b o hb => (updOther fun z => by rw [z, hT] at hb; cases hb).trans (hkb b o hb), hl.of_keeps fun b o hb hn => ⟨o, (updOther (rec_ne b o hb hn)).trans hb, rfl⟩, fun b o hb hn => ⟨o.slots, (updOther (rec_ne b o hb hn)).trans hb⟩⟩ ?_)
  exact ⟨bn, oe, vs, T, _, _, (updOther (Ne.symm hTe)).trans he, hc, hd, h2, h1, hT, hTe, Heap.get?_update_self _ heT (Obj.isFreed_of_fields (Obj.data_mapFields hdT _)), Obj.data_mapFields hdT _, by simp [hs3]⟩

/-- leaving a frame that holds it -/
theorem leaveHeld {Q : Unit → Shared → Prop} (hf : env.frame = some L) (hl : s.heap.FunFrames base (env :: outer)) (hkb : base.StaysIn s.heap) (x : Exc s.heap base e (rawInt L))
    (h : ∀ h', Noted base (env :: outer) s.heap h' → Exc h' base e .none → Q () { s with heap := h' }) : wpAny M A (leaving env (.ref e)) Q E s := by
  unfold leaving
  exact wpAny_bind (noteA hf x (flight hl hkb x fun h' N X => h h' N X))
/-- leaving a frame that it passes -/
theorem leavePass {Q : Unit → Shared → Prop} (hfr : A.frames = some (env :: outer)) (hf : env.frame = some L) (hl : s.heap.FunFrames base (env :: outer)) (hkb : base.StaysIn s.heap) (x : Exc s.heap base e .none)
    (h : ∀ h', Noted base (env :: outer) s.heap h' → Exc h' base e .none → Q () { s with heap := h' }) : wpAny M A (leaving env (.ref e)) Q E s := by
  unfold leaving
  refine wpAny_bind (note1 hfr hl hf hkb x fun h1 N1 X1 => ?_)
  exact flight N1.frames N1.stays X1 fun h' N X => h h' ⟨N.stays, N.frames, N1.up.trans N.up⟩ X
end
/-! RaiseR -/
/-! calls that borrow -/
section
variable {d : Wd} {g g' : Heap} {B T B' : List (Addr × Obj)} {s s' : Shared}

theorem Post.frame (W : Wo d g (B ++ T) s) (P : Post d g B s g' B' s') : Post d g (B ++ T) s g' (B' ++ T) s' := by
  have nd := W.nd
  rw [List.map_append, List.nodup_append] at nd
  have hT : ∀ p ∈ T, s'.heap.get? p.1 = some p.2 ∧ g'.get? p.1 = none ∧ ordC p.2 = true := fun p hp => by
    have A := W.own p (List.mem_append_right _ hp)
    have hB : p.1 ∉ B.map (·.1) := fun h => nd.2.2 _ h _ (List.mem_map_of_mem (f := (·.1)) hp) rfl
    have k := P.keep _ _ A.1 (W.ordNotTab A.1 A.2.2) hB
    refine ⟨k, ?_, A.2.2⟩
    cases q : g'.get? p.1 with
    | none => rfl
    | some o' =>
      rcases P.fresh _ o' q with ⟨o2, z⟩ | z | z
      · rw [A.2.1] at z; cases z
      · rw [A.1] at z; cases z
      · have := P.wo.sub _ _ q
        rw [k] at this
        rw [← Option.some.inj this, A.2.2] at z
        cases z
  exact { P with
    wo := { P.wo with
      own := fun p hp => by
        rcases List.mem_append.mp hp with hp | hp
        · exact P.wo.own p hp
        · exact hT p hp
      nd := by rw [List.map_append, P.keys, ← List.map_append]; exact W.nd }
    keep := fun b o e n x => P.keep b o e n fun h => x (by rw [List.map_append]; exact List.mem_append_left _ h)
    keys := by rw [List.map_append, List.map_append, P.keys] }
end

theorem Wo.part {d : Wd} {g : Heap} {B T : List (Addr × Obj)} {s : Shared} (W : Wo d g (B ++ T) s) : Wo d g B s := { W with
  own := fun p hp => W.own p (List.mem_append_left _ hp)
  nd := by have := W.nd; rw [List.map_append, List.nodup_append] at this; exact this.1 }

/-- a call that ends well and borrows own objects of its caller -/
def CalmB (d : Wd) (n : Nat) (f : Value) (pos : List Value) (kw : List (Str × Value)) (g : Heap) (B : List (Addr × Obj)) (Q : Value → Heap → List (Addr × Obj) → Prop) : Prop :=
  ∀ A s, Room A n → A.handled = none → Wo d g B s → codeAny (model d.prog d.w) A (.call f ⟨pos, kw⟩) (fun r s' => ∃ v g' B', r = .ok (.ret v) ∧ Post d g B s g' B' s' ∧ Q v g' B') s

theorem CalmB.use {c : Fx} {n : Nat} {f : Value} {pos : List Value} {kw : List (Str × Value)} {g : Heap} {B T : List (Addr × Obj)} {Q : Value → Heap → List (Addr × Obj) → Prop} {m : Str → Option Value} {s : Shared} {A : Around} {E : Value → Shared → Prop} {Q' : Value → Shared → Prop}
    (C : CalmB c.toWd n f pos kw g B Q) (F : St c g m (B ++ T) s) (hR : Room A n) (hh : A.handled = none) (h : ∀ v g' B' s', Le g g' → B'.map (·.1) = B.map (·.1) → Q v g' B' → St c g' m (B' ++ T) s' → Q' v s') : wpAny (model c.prog c.w) A (call f pos kw) Q' E s := by
  refine wpAny_call (codeAny_mono (C A s hR hh F.toWo.part) fun r' s' hr => ?_)
  obtain ⟨v, g', B', rfl, P, q⟩ := hr
  exact h v g' B' s' P.le P.keys q (F.afterR (P.frame F.toWo))

theorem Calm.borrow {d : Wd} {n : Nat} {f : Value} {pos : List Value} {kw : List (Str × Value)} {g : Heap} {B : List (Addr × Obj)} {Q : Value → Heap → Prop} (C : Calm d n f pos kw g Q) : CalmB d n f pos kw g B fun v g' B' => B' = B ∧ Q v g' := fun A s hR hh W => by
  refine codeAny_mono (C A s hR hh { W with own := (fun _ h => nomatch h), nd := List.nodup_nil }) fun r s' hr => ?_
  obtain ⟨v, g', rfl, P, q⟩ := hr
  exact ⟨v, g', B, rfl, P.frame (B := []) W, rfl, q⟩

/-- a def of the text -/
theorem calmKB {d : Wd} {K0 : Frag} {n : Nat} {g : Heap} {B : List (Addr × Obj)} {Q : Value → Heap → List (Addr × Obj) → Prop} {a : Addr} {name qual : Str} {params : Arguments} {body : List Stmt} {scope : Scope} {clo : List (Str × Addr)} {dV kV doc pm cdv ct oc : Value} {an od : Option Addr} {osl : Array (Option Value)} {pos : List Value} {kw : List (Str × Value)} {binds bs : List (Str × Value)}
    (hK : d.K = K0) (hB : Base d) (ho : K0.lookup a = some ⟨oc, od, .func (fnX name qual params body scope clo dV kV doc pm an cdv ct), osl⟩) (hcd : codeIn K0 cdv qual = true)
    (hbind : ∀ s : Shared, Le d.B s.heap → BindsTo s (fnX name qual params body scope clo dV kV doc pm an cdv ct) ⟨pos, kw⟩ binds) (hrev : binds.reverse = bs)
    (hcell : ∀ x ∈ scope.names, x.2 ≠ .cell) (hloc : (binds.all fun x => decide (scope.names.lookup x.1 = some .local)) = true)
    (hco : scope.isCoroutine = false) (hgen : scope.isGenerator = false) (hk : scope.kind = .function)
    (h : ∀ (f : Fx) s s₁ env A, f.toWd = d → Room A n → A.handled = none → f.e = s.heap → f.g0 = g → f.X = B.map (·.1) → EnvOk env scope f.L clo cdv → env = envX qual scope f.L a cdv clo → St f g (lk bs) B s₁ →
      wpAny (model d.prog d.w) A (execs body env) (fun fl s' => ∃ v' g' B', (Except.ok (Flow.ret (match fl with | .ret v => v | _ => .none)) : Result) = .ok (.ret v') ∧ Post d g B s g' B' s' ∧ Q v' g' B') (fun _ _ => False) s₁) : CalmB d (n + 1) (.ref a) pos kw g B Q := by
  intro A s hR hh W
  refine enterK hK hB W hR.depth ho hcd (hbind s (W.base.trans W.sub)) hrev hcell hloc hco hgen hk fun f s₁ env e1 e2 e3 e4 En hE F => ?_
  exact wpAny_mono (h f s s₁ env (A.deeper env) e1 hR.deeper hh e2 e3 e4 En hE F) (fun _ _ z => z) fun _ _ z => z.elim

/-- a function that a body made -/
theorem calmGB {d : Wd} {n : Nat} {g : Heap} {B : List (Addr × Obj)} {Q : Value → Heap → List (Addr × Obj) → Prop} {a : Addr} {name qual : Str} {params : Arguments} {body : List Stmt} {scope : Scope} {clo : List (Str × Addr)} {dV kV doc pm cdv ct oc : Value} {an od : Option Addr} {osl : Array (Option Value)} {pos : List Value} {kw : List (Str × Value)} {binds bs : List (Str × Value)}
    (hB : Base d) (ho : g.get? a = some ⟨oc, od, .func (fnX name qual params body scope clo dV kV doc pm an cdv ct), osl⟩) (hcd : g.CodeRec cdv qual)
    (hbind : ∀ s : Shared, Le d.B s.heap → BindsTo s (fnX name qual params body scope clo dV kV doc pm an cdv ct) ⟨pos, kw⟩ binds) (hrev : binds.reverse = bs)
    (hcell : ∀ x ∈ scope.names, x.2 ≠ .cell) (hloc : (binds.all fun x => decide (scope.names.lookup x.1 = some .local)) = true)
    (hco : scope.isCoroutine = false) (hgen : scope.isGenerator = false) (hk : scope.kind = .function)
    (h : ∀ (f : Fx) s s₁ env A, f.toWd = d → Room A n → A.handled = none → f.e = s.heap → f.g0 = g → f.X = B.map (·.1) → EnvOk env scope f.L clo cdv → env = envX qual scope f.L a cdv clo → St f g (lk bs) B s₁ →
      wpAny (model d.prog d.w) A (execs body env) (fun fl s' => ∃ v' g' B', (Except.ok (Flow.ret (match fl with | .ret v => v | _ => .none)) : Result) = .ok (.ret v') ∧ Post d g B s g' B' s' ∧ Q v' g' B') (fun _ _ => False) s₁) : CalmB d (n + 1) (.ref a) pos kw g B Q := by
  intro A s hR hh W
  refine enter hB W hR.depth (W.sub _ _ ho) (hcd.keeps W.sub) (hbind s (W.base.trans W.sub)) hrev hcell hloc (fun f s₁ env e1 e2 e3 e4 En hE F => ?_) hco hgen hk
  exact wpAny_mono (h f s s₁ env (A.deeper env) e1 hR.deeper hh e2 e3 e4 En hE F) (fun _ _ z => z) fun _ _ z => z.elim

theorem backB {f : Fx} {g0 g : Heap} {m : Str → Option Value} {B B' r : List (Addr × Obj)} {s0 s : Shared} {v : Value} {Q : Value → Heap → List (Addr × Obj) → Prop} (F : St f g m r s) (he : f.e = s0.heap) (hg : f.g0 = g0) (hX : f.X = B.map (·.1)) (hs : B'.Sublist r) (hk : B'.map (·.1) = B.map (·.1)) (q : Q v g B') :
    ∃ v' g' B', (Except.ok (Flow.ret v) : Result) = .ok (.ret v') ∧ Post f.toWd g0 B s0 g' B' s ∧ Q v' g' B' := ⟨v, g, B', rfl, F.exit he hg hX hs hk, q⟩

/-! calls that may raise -/
def frs (l : List Env) : List Addr := l.filterMap (·.frame)
/-- the frames below: none is known or borrowed, none is a table -/
def FrOk (d : Wd) (g : Heap) (B : List (Addr × Obj)) (h : Heap) (l : List Env) : Prop :=
  ∀ env ∈ l, env.scope.kind ≠ .module ∧ ∃ L o, env.frame = some L ∧ h.get? L = some o ∧ (∀ vs, o.data ≠ .fields vs) ∧ g.get? L = none ∧ L ∉ B.map (·.1) ∧ ∀ q ∈ d.tabs, q.P ≠ L

theorem FrOk.mem {d : Wd} {g : Heap} {B : List (Addr × Obj)} {h : Heap} {l : List Env} (H : FrOk d g B h l) {b : Addr} (hb : b ∈ frs l) : ∃ o, h.get? b = some o ∧ (∀ vs, o.data ≠ .fields vs) ∧ g.get? b = none ∧ b ∉ B.map (·.1) ∧ ∀ q ∈ d.tabs, q.P ≠ b := by
  obtain ⟨env, he, hf⟩ := List.mem_filterMap.mp hb
  obtain ⟨_, L, o, h1, h2, h3, h4, h5⟩ := H env he
  rw [h1] at hf
  cases hf
  exact ⟨o, h2, h3, h4, h5⟩

theorem FrOk.fun {d : Wd} {g base : Heap} {B : List (Addr × Obj)} {h : Heap} : ∀ {l : List Env}, FrOk d g B h l → (∀ b ∈ frs l, base.get? b = none) → h.FunFrames base l
  | [], _, _ => trivial
  | env :: l, H, hb => by
    obtain ⟨hk, L, o, h1, h2, h3, _⟩ := H env (.head _)
    have e : frs (env :: l) = L :: frs l := by unfold frs; rw [List.filterMap_cons, h1]
    rw [e] at hb
    exact ⟨hk, ⟨L, o, h1, hb L (.head _), h2, h3⟩, FrOk.fun (fun x hx => H x (.tail _ hx)) fun b z => hb b (.tail _ z)⟩

theorem nofields_ord {o : Obj} (h : ∀ vs, o.data ≠ .fields vs) : ordC o = true := by
  unfold ordC
  split
  · rename_i vs e; exact absurd e (h vs)
  · rfl

/-- a frame below stands still -/
theorem St.kept {c : Fx} {g : Heap} {m : Str → Option Value} {r B : List (Addr × Obj)} {s : Shared} (F : St c g m r s) (hX : c.X = B.map (·.1)) {L : Addr} {o : Obj} (h1 : c.e.get? L = some o) (h2 : ∀ vs, o.data ≠ .fields vs) (h3 : c.g0.get? L = none) (h4 : L ∉ B.map (·.1)) (h5 : ∀ q ∈ c.tabs, q.P ≠ L) :
    s.heap.get? L = some o ∧ g.get? L = none ∧ L ∉ r.map (·.1) := by
  have nx : L ∉ c.X := by rw [hX]; exact h4
  have hs := F.keep L o h1 h5 nx
  refine ⟨hs, ?_, fun hm => ?_⟩
  · cases q : g.get? L with
    | none => rfl
    | some o' =>
      rcases F.fresh L o' q with ⟨o2, z⟩ | z | z
      · rw [h3] at z; cases z
      · rw [h1] at z; cases z
      · have := F.sub _ _ q
        rw [hs] at this
        rw [← Option.some.inj this, nofields_ord h2] at z
        cases z
  · obtain ⟨p, hp, rfl⟩ := List.mem_map.mp hm
    rcases F.ownX p hp with z | z
    · rw [h1] at z; cases z
    · exact nx z

/-- the frames below and the frame itself -/
theorem FrOk.now {c : Fx} {g : Heap} {m : Str → Option Value} {r B : List (Addr × Obj)} {s : Shared} {env : Env} {l : List Env} (H : FrOk c.toWd c.g0 B c.e l) (F : St c g m r s) (hX : c.X = B.map (·.1)) (hf : env.frame = some c.L) (hk : env.scope.kind ≠ .module) : FrOk c.toWd g r s.heap (env :: l) := fun x hx => by
  rcases List.mem_cons.mp hx with rfl | hx
  · obtain ⟨o, es, ep, ho, hd, _⟩ := F.ns
    refine ⟨hk, c.L, o, hf, ho, (fun vs z => by rw [hd] at z; cases z), F.gL, (fun hm => ?_), F.LNotTab⟩
    obtain ⟨p, hp, e⟩ := List.mem_map.mp hm
    exact F.rL p hp e
  · obtain ⟨k, L, o, h1, h2, h3, h4, h5, h6⟩ := H x hx
    obtain ⟨k1, k2, k3⟩ := F.kept hX h2 h3 h4 h5 h6
    exact ⟨k, L, o, h1, k1, h3, k2, k3, h6⟩

/-- what a call that raises leaves behind; base holds all that stands but the frames and the exception -/
structure PostE (d : Wd) (g : Heap) (B : List (Addr × Obj)) (s : Shared) (outer l : List Env) (base : Heap) (ex : Addr) (fl : Value) (g' : Heap) (B' : List (Addr × Obj)) (s' : Shared) : Prop where
  wo : Wo d g' B' { s' with heap := base }
  le : Le g g'
  fresh : ∀ b o, g'.get? b = some o → (∃ o', g.get? b = some o') ∨ s.heap.get? b = none ∨ ordC o = false
  keep : ∀ b o, s.heap.get? b = some o → (∀ q ∈ d.tabs, q.P ≠ b) → b ∉ B.map (·.1) → b ∉ frs outer → base.get? b = some o
  size : s.heap.objs.size ≤ base.objs.size
  keys : B'.map (·.1) = B.map (·.1)
  up : ∀ b o, s.heap.get? b = some o → b ∈ frs outer → ∃ sl, s'.heap.get? b = some { o with slots := sl }
  stays : base.StaysIn s'.heap
  frames : s'.heap.FunFrames base l
  exc : Exc s'.heap base ex fl

/-- a call that may raise a ValueError -/
def CalmE (d : Wd) (n : Nat) (f : Value) (pos : List Value) (kw : List (Str × Value)) (g : Heap) (B : List (Addr × Obj)) (Q : Option Value → Heap → List (Addr × Obj) → Prop) : Prop :=
  ∀ A s outer, Room A n → A.handled = none → A.frames = some outer → FrOk d g B s.heap outer → Wo d g B s → codeAny (model d.prog d.w) A (.call f ⟨pos, kw⟩) (fun r s' => (∃ v g' B', r = .ok (.ret v) ∧ Post d g B s g' B' s' ∧ Q (some v) g' B') ∨
    (∃ ex base g' B', r = .error (.ref ex) ∧ PostE d g B s outer outer base ex .none g' B' s' ∧ Q none g' B')) s

theorem CalmB.mayRaise {d : Wd} {n : Nat} {f : Value} {pos : List Value} {kw : List (Str × Value)} {g : Heap} {B : List (Addr × Obj)} {Q : Value → Heap → List (Addr × Obj) → Prop} (C : CalmB d n f pos kw g B Q) : CalmE d n f pos kw g B fun v g' B' => ∃ w, v = some w ∧ Q w g' B' := fun A s outer hR hh _ _ W => by
  refine codeAny_mono (C A s hR hh W) fun r s' hr => ?_
  obtain ⟨v, g', B', rfl, P, q⟩ := hr
  exact .inl ⟨v, g', B', rfl, P, v, rfl, q⟩

theorem UpToSlots.frs {h h' : Heap} {b : Addr} {o : Obj} {sl : Array (Option Value)} (x : h.UpToSlots h') (e : h.get? b = some { o with slots := sl }) (hn : ∀ vs, o.data ≠ .fields vs) : ∃ sl', h'.get? b = some { o with slots := sl' } := by
  obtain ⟨sl', z⟩ := x b _ e hn
  exact ⟨sl', z⟩

/-- on through noting and leaving -/
theorem PostE.on {d : Wd} {g : Heap} {B : List (Addr × Obj)} {s : Shared} {outer l l' : List Env} {base : Heap} {ex : Addr} {fl fl' : Value} {g' : Heap} {B' : List (Addr × Obj)} {s' : Shared} {h' : Heap} (P : PostE d g B s outer l base ex fl g' B' s') (H : FrOk d g B s.heap outer)
    (N : Noted base l' s'.heap h') (X : Exc h' base ex fl') : PostE d g B s outer l' base ex fl' g' B' { s' with heap := h' } := { P with
  up := fun b o e hb => by
    obtain ⟨sl, z⟩ := P.up b o e hb
    obtain ⟨o2, e2, hn, _⟩ := H.mem hb
    rw [e] at e2
    cases e2
    exact UpToSlots.frs N.up z hn
  stays := N.stays
  frames := N.frames
  exc := X }

/-- the raising itself: what stands but the frames is the base -/
theorem St.raise {f : Fx} {g : Heap} {m : Str → Option Value} {r B B' : List (Addr × Obj)} {s s0 : Shared} {env : Env} {outer : List Env} {h' : Heap} {e : Addr} {args : List Value} (F : St f g m r s) (he : f.e = s0.heap) (hX : f.X = B.map (·.1)) (hs : B'.Sublist r) (hk : B'.map (·.1) = B.map (·.1))
    (H : FrOk f.toWd f.g0 B f.e outer) (hf : env.frame = some f.L) (hkd : env.scope.kind ≠ .module) (M : Heap.MadeExc s.heap h' e "ValueError" args) :
    ∃ base, base.StaysIn h' ∧ h'.FunFrames base (env :: outer) ∧ Exc0 h' base e ∧ ∀ h'' fl, Noted base (env :: outer) h' h'' → Exc h'' base e fl → PostE f.toWd f.g0 B s0 outer (env :: outer) base e fl g B' { s with heap := h'' } := by
  classical
  have H' := H.now F hX hf hkd
  let base := pick s.heap fun b => b ∉ frs (env :: outer)
  have bs : ∀ b o, base.get? b = some o → s.heap.get? b = some o := fun b o e => ((pick_get ..).mp e).2
  have sb : ∀ b o, b ∉ frs (env :: outer) → s.heap.get? b = some o → base.get? b = some o := fun b o hb e => (pick_get ..).mpr ⟨hb, e⟩
  have nb : ∀ b, b ∈ frs (env :: outer) → base.get? b = none := fun b hb => by
    cases q : base.get? b with
    | none => rfl
    | some o => exact absurd hb ((pick_get ..).mp q).1
  have new : base.get? e = none := by
    cases q : base.get? e with
    | none => rfl
    | some o => have := bs _ _ q; rw [M.new] at this; cases this
  have efrs : frs (env :: outer) = f.L :: frs outer := by unfold frs; rw [List.filterMap_cons, hf]
  obtain ⟨tp, ht, _, _⟩ := M.there
  refine ⟨base, fun b o z => M.keeps b o (bs b o z), (H'.fun nb).of_keeps fun b o z _ => ⟨o, M.keeps b o z, rfl⟩, ⟨new, _, _, ht, rfl, rfl, rfl, rfl⟩, fun h'' fl N X => ?_⟩
  have gfr : ∀ b o, g.get? b = some o → b ∉ frs (env :: outer) := fun b o e hb => by
    obtain ⟨_, _, _, z, _⟩ := H'.mem hb
    rw [e] at z; cases z
  exact {
    wo := {
      gens := F.gens, os := F.os, base := F.base
      sub := fun b o e => sb b o (gfr b o e) (F.sub b o e)
      tabs := fun q hq => ⟨(F.tabs q hq).1.step fun b o e vs hd _ => sb b o (fun hb => by
        obtain ⟨o2, z, hn, _⟩ := H'.mem hb
        rw [e] at z
        cases z
        exact hn vs hd) e, (F.tabs q hq).2⟩
      own := fun p hp => ⟨sb _ _ (fun hb => by
        obtain ⟨_, _, _, _, z, _⟩ := H'.mem hb
        exact z (List.mem_map_of_mem (hs.subset hp))) (F.own p (hs.subset hp)).1, (F.own p (hs.subset hp)).2⟩
      nd := (hs.map (·.1)).nodup F.nd
      Bsz := by
        show f.B.objs.size ≤ (pick s.heap _).objs.size
        unfold pick
        simpa using F.Bsz }
    le := F.g0g
    fresh := fun b o e => by rw [← he]; exact F.fresh b o e
    keep := fun b o e n x y => sb b o (fun hb => by
      rw [efrs] at hb
      rcases List.mem_cons.mp hb with z | z
      · have := Heap.lt_size e
        rw [← he, z] at this
        exact absurd this (Nat.not_lt.mpr F.eL)
      · exact y z) (F.keep b o (by rw [he]; exact e) n (by rw [hX]; exact x))
    size := by
      show s0.heap.objs.size ≤ (pick s.heap _).objs.size
      unfold pick
      have := F.size
      rw [he] at this
      simpa using this
    keys := hk
    up := fun b o e hb => by
      obtain ⟨o2, e2, hn, h3, h4, h5⟩ := H.mem hb
      rw [he, e] at e2
      cases e2
      have := (F.kept hX (by rw [he]; exact e) hn h3 h4 h5).1
      exact N.up b o (M.keeps b o this) hn
    stays := N.stays
    frames := N.frames
    exc := X }

/-- a call that raises, seen from the frame below -/
theorem St.passE {f : Fx} {g : Heap} {m : Str → Option Value} {r B B' r' : List (Addr × Obj)} {s s0 s' : Shared} {env : Env} {outer : List Env} {base : Heap} {e : Addr} {fl : Value} {g' : Heap} (F : St f g m r s) (he : f.e = s0.heap) (hX : f.X = B.map (·.1)) (hs : B'.Sublist r') (hk : B'.map (·.1) = B.map (·.1))
    (H : FrOk f.toWd f.g0 B f.e outer) (hf : env.frame = some f.L) (P : PostE f.toWd g r s (env :: outer) (env :: outer) base e fl g' r' s') : PostE f.toWd f.g0 B s0 outer (env :: outer) base e fl g' B' s' := by
  have efrs : frs (env :: outer) = f.L :: frs outer := by unfold frs; rw [List.filterMap_cons, hf]
  exact {
    wo := { P.wo with
      own := fun p hp => P.wo.own p (hs.subset hp)
      nd := (hs.map (·.1)).nodup P.wo.nd }
    le := F.g0g.trans P.le
    fresh := fun b o e => by
      rw [← he]
      rcases P.fresh b o e with ⟨o2, z⟩ | z | z
      · have := P.le _ _ z
        rw [e] at this
        cases this
        exact F.fresh b o z
      rotate_left
      · exact .inr (.inr z)
      · right; left
        cases q : f.e.get? b with
        | none => rfl
        | some oe =>
          exfalso
          by_cases hx : b ∈ f.X
          · cases q2 : f.g0.get? b with
            | some o3 => have := F.sub _ _ (F.g0g _ _ q2); rw [z] at this; cases this
            | none => exact (F.Xr b hx).elim fun o3 h3 => by have := (F.own _ h3).1; rw [z] at this; cases this
          · by_cases ht : ∀ q ∈ f.tabs, q.P ≠ b
            · rw [F.keep b oe q ht hx] at z; cases z
            · have : ∃ q ∈ f.tabs, q.P = b := Classical.byContradiction fun n => ht fun q hq e => n ⟨q, hq, e⟩
              obtain ⟨tq, hq, rfl⟩ := this
              obtain ⟨ps, h1, _⟩ := (F.tabs tq hq).1
              rw [z] at h1; cases h1
    keep := fun b o e n x y => by
      have hb := F.keep b o (by rw [he]; exact e) n (by rw [hX]; exact x)
      refine P.keep b o hb n (fun hm => ?_) fun hm => ?_
      · obtain ⟨p, hp, q⟩ := List.mem_map.mp hm
        rcases F.ownX p hp with z | z
        · rw [q, he, e] at z; cases z
        · rw [hX, q] at z; exact x z
      · rw [efrs] at hm
        rcases List.mem_cons.mp hm with z | z
        · have := Heap.lt_size e
          rw [← he, z] at this
          exact absurd this (Nat.not_lt.mpr F.eL)
        · exact y z
    size := by rw [← he]; exact Nat.le_trans F.size P.size
    keys := hk
    up := fun b o e hb => by
      obtain ⟨o2, e2, hn, h3, h4, h5⟩ := H.mem hb
      rw [he, e] at e2
      cases e2
      have := (F.kept hX (by rw [he]; exact e) hn h3 h4 h5).1
      exact P.up b o this (by rw [efrs]; exact .tail _ hb)
    stays := P.stays
    frames := P.frames
    exc := P.exc }

/-- an exception in a frame, on its way out -/
def Out (f : Fx) (g : Heap) (B : List (Addr × Obj)) (s : Shared) (env : Env) (outer : List Env) (Q : Heap → List (Addr × Obj) → Prop) (e : Value) (s' : Shared) : Prop :=
  ∃ ex base g' B' fl, e = .ref ex ∧ (fl = .none ∨ fl = rawInt f.L) ∧ PostE f.toWd g B s outer (env :: outer) base ex fl g' B' s' ∧ Q g' B'

theorem Out.leave {f : Fx} {g : Heap} {B : List (Addr × Obj)} {s : Shared} {env : Env} {outer : List Env} {Q : Heap → List (Addr × Obj) → Prop} {e : Value} {s' : Shared} {M : Model} {A : Around} {E : Value → Shared → Prop} {R : Shared → Prop} (O : Out f g B s env outer Q e s')
    (hfr : A.frames = some (env :: outer)) (hf : env.frame = some f.L) (H : FrOk f.toWd g B s.heap outer) (h : ∀ ex base g' B' s'', e = .ref ex → PostE f.toWd g B s outer outer base ex .none g' B' s'' → Q g' B' → R s'') : wpAny M A (leaving env e) (fun _ s'' => R s'') E s' := by
  obtain ⟨ex, base, g', B', fl, rfl, hfl, P, q⟩ := O
  have fin : ∀ h', Noted base (env :: outer) s'.heap h' → Exc h' base ex .none → R { s' with heap := h' } := fun h' N X => h ex base g' B' _ rfl { P.on H N X with frames := N.frames.2.2 } q
  rcases hfl with rfl | rfl
  · exact leavePass hfr hf P.frames P.stays P.exc fin
  · exact leaveHeld hf P.frames P.stays P.exc fin

theorem calmCE {d : Wd} {K0 : Frag} {n : Nat} {g : Heap} {B : List (Addr × Obj)} {Q : Option Value → Heap → List (Addr × Obj) → Prop} {a : Addr} {name qual : Str} {params : Arguments} {body : List Stmt} {scope : Scope} {dV kV doc pm cdv ct oc : Value} {an od : Option Addr} {osl : Array (Option Value)} {pos : List Value} {kw : List (Str × Value)} {binds lbs cbs : List (Str × Value)}
    (hK : d.K = K0) (hB : Base d) (ho : K0.lookup a = some ⟨oc, od, .func (fnX name qual params body scope [] dV kV doc pm an cdv ct), osl⟩) (hcd : codeIn K0 cdv qual = true)
    (hbind : ∀ s : Shared, Le d.B s.heap → BindsTo s (fnX name qual params body scope [] dV kV doc pm an cdv ct) ⟨pos, kw⟩ binds)
    (hkind : ∀ L, (binds.all fun x => decide (scope.names.lookup x.1 = some .local) || (decide (scope.names.lookup x.1 = some .cell) && ((cellsFrom L scope.names []).lookup x.1).isSome)) = true)
    (hl : (binds.filter fun x => decide (scope.names.lookup x.1 = some .local)).reverse = lbs) (hc : (binds.filter fun x => !decide (scope.names.lookup x.1 = some .local)).reverse = cbs)
    (hnd : ((cellsFrom 0 scope.names []).map (·.1)).Nodup)
    (hco : scope.isCoroutine = false) (hgen : scope.isGenerator = false) (hk : scope.kind = .function)
    (h : ∀ (f : Fx) s s₁ env A co outer, f.toWd = d → Room A n → A.handled = none → A.frames = some (env :: outer) → FrOk f.toWd f.g0 B f.e outer → f.e = s.heap → f.g0 = g → f.X = B.map (·.1) → EnvOk env scope f.L (cellsFrom (f.L + 1) scope.names []) cdv → env = envX qual scope f.L a cdv (cellsFrom (f.L + 1) scope.names []) →
      CellsAt (cellsFrom (f.L + 1) scope.names []) (lk cbs) co → St f g (lk lbs) (co ++ B) s₁ →
      wpAny (model d.prog d.w) A (execs body env) (fun fl s' => ∃ v' g' B', (Except.ok (Flow.ret (match fl with | .ret v => v | _ => .none)) : Result) = .ok (.ret v') ∧ Post d g B s g' B' s' ∧ Q (some v') g' B') (Out f g B s env outer fun g' B' => Q none g' B') s₁) : CalmE d (n + 1) (.ref a) pos kw g B Q := by
  intro A s outer hR hh hfr H W
  refine enterCell hK hB W hR.depth ho hcd (hbind s (W.base.trans W.sub)) hkind hl hc hnd hco hgen hk fun f s₁ env co e1 e2 e3 e4 En hE hC F => ?_
  subst hE
  refine wpAny_mono (h f s s₁ _ (A.deeper _) co outer e1 hR.deeper hh (Around.frames_deeper hfr) (by rw [e1, e2, e3]; exact H) e2 e3 e4 En rfl hC F) (fun _ _ z => .inl z) fun e s' z => ?_
  subst e1
  refine z.leave (Around.frames_deeper hfr) rfl H fun ex base g' B' s'' he P q => ?_
  subst he
  exact .inr ⟨ex, base, g', B', rfl, P, q⟩

theorem calmKE {d : Wd} {K0 : Frag} {n : Nat} {g : Heap} {B : List (Addr × Obj)} {Q : Option Value → Heap → List (Addr × Obj) → Prop} {a : Addr} {name qual : Str} {params : Arguments} {body : List Stmt} {scope : Scope} {clo : List (Str × Addr)} {dV kV doc pm cdv ct oc : Value} {an od : Option Addr} {osl : Array (Option Value)} {pos : List Value} {kw : List (Str × Value)} {binds bs : List (Str × Value)}
    (hK : d.K = K0) (hB : Base d) (ho : K0.lookup a = some ⟨oc, od, .func (fnX name qual params body scope clo dV kV doc pm an cdv ct), osl⟩) (hcd : codeIn K0 cdv qual = true)
    (hbind : ∀ s : Shared, Le d.B s.heap → BindsTo s (fnX name qual params body scope clo dV kV doc pm an cdv ct) ⟨pos, kw⟩ binds) (hrev : binds.reverse = bs)
    (hcell : ∀ x ∈ scope.names, x.2 ≠ .cell) (hloc : (binds.all fun x => decide (scope.names.lookup x.1 = some .local)) = true)
    (hco : scope.isCoroutine = false) (hgen : scope.isGenerator = false) (hk : scope.kind = .function)
    (h : ∀ (f : Fx) s s₁ env A outer, f.toWd = d → Room A n → A.handled = none → A.frames = some (env :: outer) → FrOk f.toWd f.g0 B f.e outer → f.e = s.heap → f.g0 = g → f.X = B.map (·.1) → EnvOk env scope f.L clo cdv → env = envX qual scope f.L a cdv clo → St f g (lk bs) B s₁ →
      wpAny (model d.prog d.w) A (execs body env) (fun fl s' => ∃ v' g' B', (Except.ok (Flow.ret (match fl with | .ret v => v | _ => .none)) : Result) = .ok (.ret v') ∧ Post d g B s g' B' s' ∧ Q (some v') g' B') (Out f g B s env outer fun g' B' => Q none g' B') s₁) : CalmE d (n + 1) (.ref a) pos kw g B Q := by
  intro A s outer hR hh hfr H W
  refine enterK hK hB W hR.depth ho hcd (hbind s (W.base.trans W.sub)) hrev hcell hloc hco hgen hk fun f s₁ env e1 e2 e3 e4 En hE F => ?_
  subst hE
  refine wpAny_mono (h f s s₁ _ (A.deeper _) outer e1 hR.deeper hh (Around.frames_deeper hfr) (by rw [e1, e2, e3]; exact H) e2 e3 e4 En rfl F) (fun _ _ z => .inl z) fun e s' z => ?_
  subst e1
  refine z.leave (Around.frames_deeper hfr) rfl H fun ex base g' B' s'' he P q => ?_
  subst he
  exact .inr ⟨ex, base, g', B', rfl, P, q⟩

/-- the use of such a call: behind it all is well, or the exception is on its way -/
theorem CalmE.use {c : Fx} {n : Nat} {f : Value} {pos : List Value} {kw : List (Str × Value)} {g : Heap} {B : List (Addr × Obj)} {Q : Option Value → Heap → List (Addr × Obj) → Prop} {m : Str → Option Value} {s : Shared} {A : Around} {E : Value → Shared → Prop} {Q' : Value → Shared → Prop} {outer : List Env}
    (C : CalmE c.toWd n f pos kw g B Q) (F : St c g m B s) (hR : Room A n) (hh : A.handled = none) (hfr : A.frames = some outer) (H : FrOk c.toWd g B s.heap outer)
    (h : ∀ v g' B' s', Le g g' → B'.map (·.1) = B.map (·.1) → Q (some v) g' B' → St c g' m B' s' → Q' v s')
    (he : ∀ ex base g' B' s', PostE c.toWd g B s outer outer base ex .none g' B' s' → Q none g' B' → E (.ref ex) s') : wpAny (model c.prog c.w) A (call f pos kw) Q' E s := by
  refine wpAny_call (codeAny_mono (C A s outer hR hh hfr H F.toWo) fun r' s' hr => ?_)
  rcases hr with ⟨v, g', B', rfl, P, q⟩ | ⟨ex, base, g', B', rfl, P, q⟩
  · exact h v g' B' s' P.le P.keys q (F.afterR P)
  · exact he ex base g' B' s' P q

/-- raised in a loop of a frame -/
def Raised (f : Fx) (B : List (Addr × Obj)) (Q : Heap → List (Addr × Obj) → Prop) (e : Value) (s' : Shared) : Prop :=
  ∃ ex s h' g m r B' args, e = .ref ex ∧ s' = { s with heap := h' } ∧ St f g m r s ∧ Heap.MadeExc s.heap h' ex "ValueError" args ∧ B'.Sublist r ∧ B'.map (·.1) = B.map (·.1) ∧ Q g B'

theorem Raised.out {f : Fx} {B : List (Addr × Obj)} {s0 : Shared} {env : Env} {outer : List Env} {Q : Heap → List (Addr × Obj) → Prop} {e : Value} {s' : Shared} {M : Model} {A : Around} (O : Raised f B Q e s') (he : f.e = s0.heap) (hX : f.X = B.map (·.1))
    (hfr : A.frames = some (env :: outer)) (hf : env.frame = some f.L) (hkd : env.scope.kind ≠ .module) (H : FrOk f.toWd f.g0 B f.e outer) :
    notedBy M A env (fun e s' => cameBackBy M A env (Out f f.g0 B s0 env outer Q) e s') e s' := by
  obtain ⟨ex, s, h', g, m, r, B', args, rfl, rfl, F, mx, hs, hk, q⟩ := O
  obtain ⟨base, st, fr, x0, fin⟩ := F.raise he hX hs hk H hf hkd mx
  refine note0 hfr fr hf st x0 fun h1 N1 X1 => ?_
  obtain ⟨bn, oe, vs, T, oT, ts, e1, e2, e3, e4, e5, _⟩ := id X1
  unfold cameBackBy
  refine wpAny_bind (wpAny_field e1 e3 e5 ?_)
  rw [if_neg (show ¬ ((Value.ref T == Value.none) = true) from by simp)]
  refine flight N1.frames N1.stays X1 fun h2 N2 X2 => ?_
  have X2' : Exc h2 base ex (rawInt f.L) := by rw [hf] at X2; exact X2
  exact ⟨ex, base, g, B', _, rfl, .inr rfl, fin h2 _ ⟨N2.stays, N2.frames, N1.up.trans N2.up⟩ X2', q⟩
/-! CatchR -/
section
variable {c : Fx} {g : Heap} {m : Str → Option Value} {B B' : List (Addr × Obj)} {s s' : Shared} {env : Env} {outer : List Env} {base : Heap} {ex : Addr} {fl : Value} {g' : Heap}

/-- the frame that catches: all that stood, stands; the exception is known -/
theorem St.caught {h' : Heap} {fl' : Value} (F : St c g m B s) (hf : env.frame = some c.L) (P : PostE c.toWd g B s [env] [env] base ex fl g' B' s')
    (N : Noted base [env] s'.heap h') (X : Exc h' base ex fl') :
    St c g' m B' { s' with heap := h' } ∧ ∃ g2 o vs, Le g' g2 ∧ g2.get? ex = some o ∧ o.cls = .type "ValueError" ∧ o.data = .fields vs ∧ vs[2]? = some .none ∧ St c g2 m B' { s' with heap := h' } := by
  have efrs : frs [env] = [c.L] := by simp [frs, hf]
  have bh : ∀ b o, base.get? b = some o → h'.get? b = some o := N.stays
  have bL : base.get? c.L = none := by
    obtain ⟨_, ⟨L, o, h1, h2, _⟩, _⟩ := P.frames
    rw [hf] at h1
    cases h1
    exact h2
  obtain ⟨oL, es, ep, hoL, hdL, hkL, hfL⟩ := F.ns
  obtain ⟨sl, up1⟩ := P.up c.L oL hoL (by rw [efrs]; exact .head _)
  obtain ⟨sl2, up2⟩ := N.up c.L _ up1 (fun vs z => by rw [show ({ oL with slots := sl } : Obj).data = oL.data from rfl, hdL] at z; cases z)
  have hns : h'.Ns c.L m := ⟨_, es, ep, up2, hdL, hkL, hfL⟩
  have hkeys : ∀ a ∈ c.X, ∃ o, (a, o) ∈ B' := fun a ha => by
    obtain ⟨o, ho⟩ := F.Xr a ha
    have : a ∈ B'.map (·.1) := by rw [P.keys]; exact List.mem_map_of_mem (f := (·.1)) ho
    obtain ⟨p, hp, rfl⟩ := List.mem_map.mp this
    exact ⟨p.2, hp⟩
  have ownX : ∀ p ∈ B', c.e.get? p.1 = none ∨ p.1 ∈ c.X := fun p hp => by
    have : p.1 ∈ B.map (·.1) := by rw [← P.keys]; exact List.mem_map_of_mem (f := (·.1)) hp
    obtain ⟨q, hq, e⟩ := List.mem_map.mp this
    rw [← e]
    exact F.ownX q hq
  have keepB : ∀ b o, c.e.get? b = some o → (∀ q ∈ c.tabs, q.P ≠ b) → b ∉ c.X → base.get? b = some o := fun b o e n x => by
    refine P.keep b o (F.keep b o e n x) n (fun hm => ?_) fun hm => ?_
    · obtain ⟨p, hp, q⟩ := List.mem_map.mp hm
      rcases F.ownX p hp with z | z
      · rw [q, e] at z; cases z
      · rw [q] at z; exact x z
    · rw [efrs, List.mem_singleton] at hm
      have := Heap.lt_size e
      rw [hm] at this
      exact absurd this (Nat.not_lt.mpr F.eL)
  have F' : St c g' m B' { s' with heap := h' } := {
    gens := P.wo.gens, os := P.wo.os, base := P.wo.base
    sub := fun b o e => bh b o (P.wo.sub b o e)
    tabs := fun q hq => ⟨(P.wo.tabs q hq).1.le bh, (P.wo.tabs q hq).2⟩
    own := fun p hp => ⟨bh _ _ (P.wo.own p hp).1, (P.wo.own p hp).2⟩
    nd := P.wo.nd
    Bsz := Nat.le_trans F.Bse (Nat.le_trans F.eL (Nat.le_of_lt hns.lt))
    g0e := F.g0e, Bg0 := F.Bg0, Bse := F.Bse
    g0g := F.g0g.trans P.le
    fresh := fun b o e => by
      rcases P.fresh b o e with ⟨o2, z⟩ | z | z
      · have := P.le _ _ z
        rw [e] at this
        cases this
        exact F.fresh b o z
      rotate_left
      · exact .inr (.inr z)
      · right; left
        cases q : c.e.get? b with
        | none => rfl
        | some oe =>
          exfalso
          by_cases hx : b ∈ c.X
          · cases q2 : c.g0.get? b with
            | some o3 => have := F.sub _ _ (F.g0g _ _ q2); rw [z] at this; cases this
            | none => exact (F.Xr b hx).elim fun o3 h3 => by have := (F.own _ h3).1; rw [z] at this; cases this
          · by_cases ht : ∀ q ∈ c.tabs, q.P ≠ b
            · rw [F.keep b oe q ht hx] at z; cases z
            · have : ∃ q ∈ c.tabs, q.P = b := Classical.byContradiction fun n => ht fun q hq e => n ⟨q, hq, e⟩
              obtain ⟨tq, hq, rfl⟩ := this
              obtain ⟨ps, h1, _⟩ := (F.tabs tq hq).1
              rw [z] at h1; cases h1
    keep := fun b o e n x => bh b o (keepB b o e n x)
    size := Nat.le_trans F.eL (Nat.le_of_lt hns.lt)
    ns := hns
    gL := by
      cases q : g'.get? c.L with
      | none => rfl
      | some o => have := P.wo.sub _ _ q; rw [bL] at this; cases this
    rL := fun p hp e => by have := (P.wo.own p hp).1; rw [e] at this; rw [bL] at this; cases this
    eL := F.eL
    ownX := ownX
    Xr := hkeys }
  refine ⟨F', ?_⟩
  obtain ⟨bn, oe, vs, T, oT, ts, he, hc, hd, h2, _⟩ := id X
  have exL : ex ≠ c.L := fun z => by
    rw [z, up2] at he
    cases he
    rw [show ({ ({ oL with slots := sl } : Obj) with slots := sl2 } : Obj).data = oL.data from rfl, hdL] at hd
    cases hd
  obtain ⟨g2, l2, k2, _, F2⟩ := F'.learn (fun b => b = ex) fun b o hb _ _ => by
    subst hb
    refine ⟨.inl ?_, exL, fun q hq e => ?_, fun q hq e => ?_⟩
    · cases q : c.e.get? b with
      | none => rfl
      | some oe2 =>
        exfalso
        by_cases hx : b ∈ c.X
        · obtain ⟨o3, h3⟩ := hkeys b hx
          have := (P.wo.own _ h3).1
          rw [show ({ s' with heap := base } : Shared).heap = base from rfl, bn] at this; cases this
        · by_cases ht : ∀ q ∈ c.tabs, q.P ≠ b
          · have := keepB b oe2 q ht hx
            rw [bn] at this; cases this
          · have : ∃ q ∈ c.tabs, q.P = b := Classical.byContradiction fun n => ht fun q hq e => n ⟨q, hq, e⟩
            obtain ⟨tq, hq, rfl⟩ := this
            obtain ⟨ps, h1, _⟩ := (P.wo.tabs tq hq).1
            rw [show ({ s' with heap := base } : Shared).heap = base from rfl, bn] at h1; cases h1
    · have := (P.wo.own q hq).1
      rw [e, show ({ s' with heap := base } : Shared).heap = base from rfl, bn] at this; cases this
    · obtain ⟨ps, h1, _⟩ := (P.wo.tabs q hq).1
      rw [e, show ({ s' with heap := base } : Shared).heap = base from rfl, bn] at h1; cases h1
  exact ⟨g2, oe, vs, l2, k2 _ _ rfl he, hc, hd, h2, F2⟩

/-- a try with one clause for ValueError, whose clause's suite goes under the exception -/
theorem tryVE {prog : Program} {w : World} {A : Around} {E : Value → Shared → Prop} {b₀ : Stmt} {suite : List Stmt} {hpos npos : Pos} {Q : Flow → Shared → Prop} {nm : Str}
    (F : St c g m B s) (hf : env.frame = some c.L) (hfr : A.frames = some [env]) (P : PostE c.toWd g B s [env] [env] base ex .none g' B' s')
    (hn : ∀ g2 s2 A2, St c g2 m B' s2 → wpAny (model prog w) A2 (eval (.Name nm npos) env) (fun v s3 => v = .type "ValueError" ∧ s3 = s2) (fun _ _ => False) s2)
    (hQ : ∀ g2 s2 A2, A2 = A.mark (some (.ref ex)) → Le g' g2 → Hnd A2 g2 → St c g2 m B' s2 → wpAny (model prog w) A2 (execs (b₀ :: suite) env) Q (fun _ _ => False) s2) :
    wpAny (model prog w) A (noteFrame (.ref ex) env) (fun _ s₂ => wpAny (model prog w) A (setFlight (.ref ex) none) (fun _ s₃ => wpAny (model prog w) A (handleBy (.ref ex) env [.ExceptHandler (some (.Name nm npos)) none (b₀ :: suite) hpos]) Q E s₃) E s₂) E s' := by
  refine note1 hfr P.frames hf P.stays P.exc fun h1 N1 X1 => ?_
  refine flight N1.frames N1.stays X1 fun h2 N2 X2 => ?_
  have N2' : Noted base [env] s'.heap h2 := ⟨N2.stays, N2.frames, N1.up.trans N2.up⟩
  obtain ⟨F2, _⟩ := F.caught hf P N2' X2
  refine wpAny_handleBy_builtin (X := "ValueError") (T := "ValueError") (b := true) (by rfl) (by rfl) (by rfl) ?_
  refine wpAny_mono (hn g' _ _ F2) ?_ fun _ _ z => z.elim
  rintro v s3 ⟨rfl, rfl⟩
  refine ⟨rfl, ?_, ?_⟩
  · obtain ⟨_, oe, vs, T, oT, ts, he, hc, _⟩ := id X2
    exact ⟨oe, he, hc⟩
  rw [if_pos rfl]
  refine flight N2.frames N2.stays X2 fun h3 N3 X3 => ?_
  have N3' : Noted base [env] s'.heap h3 := ⟨N3.stays, N3.frames, N2'.up.trans N3.up⟩
  obtain ⟨_, g2, o, vs, l2, k2, _, hd, hv, F3⟩ := F.caught hf P N3' X3
  exact wpAny_mono (hQ g2 _ _ rfl l2 (.inr ⟨ex, o, vs, rfl, k2, hd, hv⟩) F3) (fun _ _ z => z) fun _ _ z => z.elim
end
/-! MoreR -/
section
variable {g : Heap} {m : Str → Option Value} {r : List (Addr × Obj)} {s : Shared} {A : Around} {E : Value → Shared → Prop} {prog : Program} {w : World} {env : Env}
theorem subTS {value slice : Expr} {o i : Value} {T id : String} {Q : Value → Shared → Prop} (hT : s.TypeIs o T)
    (hl : typeLookup (.type T) "__getitem__" = pure (some (.builtin id))) (h : wpAny (model prog w) A (getItem o i) Q E s)
    (hs : subscripted slice false o i = operate [i, o] (getItem o i)) : wpAny (model prog w) A (subscriptTail value slice o i) Q E s := by
  unfold subscriptTail
  refine wpAny_bind ?_
  rw [getitemInPython_of_ne hT.not_modules]
  refine wpAny_bind (wpAny_specialOf hT hl ?_)
  have fin : wpAny (model prog w) A (subscripted slice false o i) (fun r s₃ => wpAny (model prog w) A (letTemporaryGo value o r >>= fun _ => pure r) Q E s₃) E s := by
    rw [hs]
    exact wpAny_operating (wpAny_mono h (fun r s₃ h₃ => wpAny_bind (wpAny_letTemporaryGo (wpAny_pure h₃))) fun _ _ x => x)
  first
    | exact wpAny_pure (wpAny_bind fin)
    | exact wpAny_bind (wpAny_pure (wpAny_bind fin))
    | exact wpAny_bind fin
/-- a slice of a known list that some expression gives -/
theorem sliceV {value : Expr} {lower upper : Option Expr} {p pos : Pos} {Q : Value → Shared → Prop}
    (h : wpAny (model prog w) A (eval value env) (fun o s₁ => wpAny (model prog w) A (evalPart lower env) (fun vl s₂ => wpAny (model prog w) A (evalPart upper env) (fun vu s₃ =>
      ∃ c : Fx, ∃ g m r l items lo hi, o = .ref l ∧ St c g m r s₃ ∧ g.IsList l items ∧ items.size ≤ sizeLine ∧ IsPart vl lo ∧ IsPart vu hi ∧
        ∀ g' t s', Le g g' → g'.IsList t (slicePick items lo hi none) → St c g' m r s' → Q (.ref t) s') E s₂) E s₁) E s) : wpAny (model prog w) A (eval (.Subscript value (.Slice lower upper none p) pos) env) Q E s := by
  refine Subscript_ (wpAny_mono h (fun o s₁ h₁ => wpAny_Slice (wpAny_mono h₁ (fun vl s₂ h₂ => wpAny_mono h₂ (fun vu s₃ h₃ => ?_) fun _ _ e => e) fun _ _ e => e)) fun _ _ e => e)
  obtain ⟨c, g, m, r, l, items, lo, hi, rfl, F, hl0, hz, pl, pu, hQ⟩ := h₃
  have hl := IsList_le hl0 F.sub
  rw [evalPart_none]
  refine wpAny_pure (subTS (hl.push _).typeIs list_getitem_lookup (wpAny_getItem_list_slice (hl.push _) (Heap.IsSliceOf.new ..) pl pu .none (by simp) ?_ hz) rfl)
  obtain ⟨g1, a1, a2, a3, F1⟩ := F.alloc (o := { cls := .type "slice", data := .fields #[vl, vu, .none] }) (t := s₃.toks) rfl
  obtain ⟨g2, b1, b2, b3, F2⟩ := F1.alloc (o := { cls := .type "list", data := .seq (slicePick items lo hi none) }) (t := s₃.toks) rfl
  exact hQ g2 _ _ (a1.trans b1) ⟨_, b2, rfl, 0, rfl⟩ F2
end
theorem pm3 {α : Type} (a b c : α) (T : List α) : (a :: b :: c :: T).Perm (c :: a :: b :: T) := (List.Perm.cons a (List.Perm.swap c b T)).trans (List.Perm.swap c a (b :: T))
theorem pm2 {α : Type} (a b : α) (T : List α) : (a :: b :: T).Perm (b :: a :: T) := List.Perm.swap b a T
theorem contains_snoc (l : List Str) (x k : Str) : (l ++ [x]).contains k = (l.contains k || decide (k = x)) := by
  rw [List.contains_eq_mem, List.contains_eq_mem]
  by_cases h1 : k ∈ l <;> by_cases h2 : k = x <;> simp [h1, h2]
section
variable {c : Fx} {g : Heap} {m : Str → Option Value} {r : List (Addr × Obj)} {s : Shared} {A : Around} {E : Value → Shared → Prop}
/-- a classmethod met at its class -/
theorem gmCM {K0 : Frag} {C p f : Addr} {mc : Value} {name : Str} {rest : List Value} {pl : Sem Bool} {Q : Value × List Value → Shared → Prop} (hB : Base c.toWd) (hK : c.K = K0) (F : St c g m r s) (hg : specialIn K0 (.ref C) "__getattribute__" = some (some (.builtin "type.__getattribute__")))
    (hr : readsIn K0 C mc = true) (e : findCls K0 (.ref C) mc name = some (.get (.builtin "classmethod.__get__") (.ref p) .none (.ref C))) (hp : recIn K0 p "classmethod" = some (.ref f :: rest))
    (h : ∀ g' q s', Le g g' → g'.get? q = some (methodObj (.ref f) (.ref C)) → St c g' m r s' → Q (.ref q, []) s') : wpAny (model c.prog c.w) A (getMethod (.ref C) name pl) Q E s := by
  subst hK
  have X := F.KIn hB
  obtain ⟨g', h1, h2, h3, h4⟩ := F.alloc (o := methodObj (.ref f) (.ref C)) (t := s.toks + 1) rfl
  exact method_cls X hg (cls_bind X hr e (wpAny_call (cm_get (s := { s with toks := s.toks + 1 }) X hp (handed_on rfl (h g' _ _ h1 h2 h4)))))
theorem koM {M : Model} {K0 : Frag} {q f : Addr} {self : Value} (hB : Base c.toWd) (hK : c.K = K0) (F : St c g m r s) (ho : g.get? q = some (methodObj (.ref f) self)) (hf : fnIn K0 f = true) : KeepOk M (.ref q) s.heap := by
  subst hK
  exact keeps_M hf s.heap ⟨F.sub _ _ ho, F.KIn hB⟩
theorem Calm.meth {d : Wd} {n : Nat} {f q : Addr} {self : Value} {pos : List Value} {kw : List (Str × Value)} {g : Heap} {Q : Value → Heap → Prop} (C : Calm d n (.ref f) (self :: pos) kw g Q) (ho : g.get? q = some (methodObj (.ref f) self)) : Calm d n (.ref q) pos kw g Q := fun A s hR hh W =>
  method_call (W.sub _ _ ho) (C A s hR hh W)
end
theorem jn {M : Model} {A : Around} {E : Value → Shared → Prop} {env : Env} {stm : Stmt} {rest : List Stmt} {s : Shared} {Q : Flow → Shared → Prop} (Mid : Shared → Prop) (h1 : wpAny M A (exec stm env) (fun fl s' => fl = .next ∧ Mid s') E s) (h2 : ∀ s', Mid s' → wpAny M A (execs rest env) Q E s') : wpAny M A (execs (stm :: rest) env) Q E s := by
  refine wpAny_execs_cons (wpAny_mono h1 (fun fl s' h => ?_) fun _ _ e => e)
  obtain ⟨rfl, hm⟩ := h
  exact h2 s' hm
theorem setSelf {α : Type} : ∀ {l : List α} {i : Nat} {a : α}, l[i]? = some a → l.set i a = l
  | [], _, _, h => by simp at h
  | b :: l, 0, a, h => by simp at h; simp [h]
  | b :: l, i + 1, a, h => by
    have := setSelf (l := l) (i := i) (by simpa using h)
    simp [this]
theorem trS {c : Fx} {g : Heap} {m : Str → Option Value} {r : List (Addr × Obj)} {s : Shared} {A : Around} {E : Value → Shared → Prop} {prog : Program} {w : World} {x : Str} {t : Tok} {Q : Bool → Shared → Prop} (F : St c g m r s) (hz : x.length ≤ sizeLine) (hx : x.length ≠ 0) (h : ∀ s', St c g m r s' → Q true s') : wpAny (model prog w) A (truthy (.str x t)) Q E s := by
  refine PySem.P.truthy_str (by have : sizeLine < 2 ^ 63 := by decide
                                omega) ?_
  rw [show ((x.length : Int) != 0) = true by simpa using hx]
  exact h _ F.toks
theorem rdySeq {c : Fx} {g gB : Heap} {m : Str → Option Value} {r : List (Addr × Obj)} {s : Shared} {A : Around} {E : Value → Shared → Prop} {l : Addr} {items : Array Value} {Q : Value → Shared → Prop} (F : St c g m r s) (H : Hnd A g) (hl : g.IsList l items ∨ IsTup g l items) (hle : Le gB g) (hlB : gB.IsList l items ∨ IsTup gB l items) (HB : Hnd A gB)
    (h : ∀ it s', (∀ target, plainTgt target → Rdy c A target gB items.size (fun i _ v => items[i]? = some v) g m r it s') → Q it s') : wpAny (model c.prog c.w) A (pyIter (.ref l)) Q E s := by
  rcases hlB with hlB | hlB
  · exact rdyList F H (IsList_le hlB hle) hle hlB HB h
  · exact rdyTup F H (hlB.keeps hle) hle hlB HB h
theorem isrs {M : Model} {A : Around} {E : Value → Shared → Prop} {s : Shared} {a : Addr} {Q : Value → Shared → Prop} (h : Q (.bool true) s) : wpAny M A (compareOp .Is (.ref a) (.ref a)) Q E s := by
  show wpAny M A (do return Value.bool (← isSame (.ref a) (.ref a))) Q E s
  unfold isSame
  simp only [beq_self_eq_true, if_true]
  exact wpAny_bind (wpAny_pure (wpAny_pure h))
theorem typeCall_dict0 : checkTypeCall "dict" ⟨[], []⟩ = pure () := by kernel_rfl
theorem newCall_dict0 : checkBuiltinCall "dict.__new__" ⟨[.type "dict"], []⟩ = pure () := by kernel_rfl
section
variable {prog : Program} {w : World} {A : Around} {E : Value → Shared → Prop} {s : Shared}
theorem code_dict_new0 {Q₁ : Value → Shared → Prop} (h : Q₁ (.ref s.heap.objs.size) { s with heap := s.heap.push { cls := .type "dict", data := .dict #[] } }) :
    codeAny (model prog w) A (.call (.builtin "dict.__new__") ⟨[.type "dict"], []⟩) (wants Q₁ E) s := by
  refine codeAny_call_builtin PySem.F.kt_plain_dict_new PySem.F.kt_entry_dict_new (wpAny_of_eq newCall_dict0 ?_)
  have hsub := PySem.F.kt_sub_dict
  have hmro := PySem.F.kt_mro_dict
  obtain ⟨hp, g, d, tk, os⟩ := s
  unfold Builtin.«dict.__new__»
  wp_walk
  exact h
end
theorem callDict0 {c : Fx} {g : Heap} {m : Str → Option Value} {r : List (Addr × Obj)} {s : Shared} {A : Around} {E : Value → Shared → Prop} {Q : Value → Shared → Prop} (hB : Base c.toWd) (F : St c g m r s) (h : ∀ D od s', (D == sysModules) = false → DO c.toWd od [] → St c g m ((D, od) :: r) s' → s.heap.get? D = none → Q (.ref D) s') : wpAny (model c.prog c.w) A (call (.type "dict") []) Q E s := by
  refine callType_codes (Q₁ := fun obj s₁ => obj = .ref s.heap.objs.size ∧ s₁ = { s with heap := s.heap.push { cls := .type "dict", data := .dict #[] } }) PySem.F.kt_called_dict typeCall_dict0 PySem.F.entry_dict_init (code_dict_new0 ⟨rfl, rfl⟩) ?_
  rintro obj s₁ ⟨rfl, rfl⟩
  have hnew : (s.heap.push { cls := .type "dict", data := .dict #[] }).DictOf (sk c.toWd) s.heap.objs.size [] := Heap.DictOf.new s.heap
  refine ⟨hnew.typeIs, PySem.F.args_dict_init_1 _, ?_⟩
  unfold Builtin.«dict.__init__»
  refine wpAny_bind ?_
  unfold Builtin.Dict.selfAndRest
  refine wpAny_bind (wpAny_notOrdered_dict hnew.typeIs ?_)
  show wpAny _ _ (pure (s.heap.objs.size, ([] : List Value))) _ _ _
  refine wpAny_pure ?_
  show wpAny _ _ (Builtin.Dict.addKeywords s.heap.objs.size [] >>= _) _ _ _
  obtain ⟨o, ho, hd⟩ := Heap.dictOf_iff.mp hnew
  have ho' := Heap.get?_push_size s.heap (o := { cls := .type "dict", data := .dict #[] }) rfl
  rw [ho'] at ho
  cases ho
  exact wpAny_bind (wpAny_pure (wpAny_pure ⟨rfl, h _ _ _ (F.notMods hB (Nat.le_refl _)) hd (F.allocOwn (t := s.toks) rfl rfl) (fresh_none (Nat.le_refl _))⟩))
/-! CompG -/
/-! comprehensions that fill something else than a list -/
section
variable {prog : Program} {w : World} {A : Around} {R : Result → Shared → Prop} {s : Shared}
def AcLoop (prog : Program) (w : World) (A : Around) (e target : Expr) (ifs : List Expr) (it : Value) (emit : Value → Env → Sem Unit) : Prop :=
  ∀ (acc : Addr) (env : Env) (R : Result → Shared → Prop) (I : Nat → Shared → Prop),
    (∀ n s, I n s → ∀ N, wpAny (model prog w) A (pyNext it) (fun r s₁ => match r with
      | none => R (.ok .next) s₁
      | some v => wpAny (model prog w) A (letOwnedTupleGo target it v) (fun _ s₁' => wpAny (model prog w) A (assign target env v) (fun _ s₂ =>
          wpAny (model prog w) A (tests ifs env) (fun ok s₃ => if ok = true then
            wpAny (model prog w) A (emit (.ref acc) env) (fun _ s₅ => ∃ m, m < n ∧ I m s₅) N s₃
            else ∃ m, m < n ∧ I m s₃) N s₂) N s₁') N s₁) N s) →
    ∀ n s, I n s → codeAny (model prog w) A (.compLoop e 0 it (.ref acc) env) R s

def emitD (kx vx : Expr) (acc : Value) (env : Env) : Sem Unit := do
  let kv ← eval kx env
  let vv ← holding [kv] (eval vx env)
  match acc with
  | .ref d => do
    standAt { kx.pos with endLine := vx.pos.endLine, endCol := vx.pos.endCol }
    holding [kv, vv] (dictSet d kv vv)
  | _ => unsupported "internal:dictcomp"
theorem loopD {kx vx target iter : Expr} {ifs : List Expr} {scope : Scope} {pos : Pos} {it : Value} : AcLoop prog w A (.DictComp kx vx [⟨target, iter, ifs, 0⟩] scope pos) target ifs it (emitD kx vx) := fun acc env R I turn n s h => by
  refine codeAny_loop rfl I (fun n s hI => ?_) n h
  show wpAny _ A ((compTurn (.DictComp kx vx [⟨target, iter, ifs, 0⟩] scope pos) 0 it (.ref acc) env).onRaise (fun x => do noteFrame x env; theTreesLotGoes x)) _ _ s
  refine wpAny_noted ?_
  rw [compTurn_dict]
  refine wpAny_bind (wpAny_standAt (wpAny_bind (wpAny_mono (turn n s hI _) (fun r s₁ h₁ => ?_) fun _ _ h' => h')))
  cases r with
  | none => exact wpAny_pure h₁
  | some v =>
    refine wpAny_bind (wpAny_mono h₁ (fun _ s₁' h₁' => ?_) fun _ _ h' => h')
    refine wpAny_bind (wpAny_mono h₁' (fun _ s₂ h₂ => wpAny_bind (wpAny_mono h₂ (fun ok s₃ h₃ => ?_) fun _ _ h' => h')) fun _ _ h' => h')
    cases ok with
    | false => exact wpAny_pure ⟨rfl, by simpa using h₃⟩
    | true => exact wpAny_bind (wpAny_mono (show wpAny _ _ (emitD kx vx (.ref acc) env) _ _ s₃ by simpa using h₃) (fun _ s₅ h₅ => wpAny_pure ⟨rfl, h₅⟩) fun _ _ h' => h')

def emitS (elt : Expr) (acc : Value) (env : Env) : Sem Unit := do
  let v ← eval elt env
  standAt elt.pos
  let _ ← call (.builtin "set.add") [acc, v]
theorem compTurn_set (elt target iter : Expr) (ifs : List Expr) (scope : Scope) (pos : Pos) (it acc : Value) (env : Env) :
    compTurn (.SetComp elt [⟨target, iter, ifs, 0⟩] scope pos) 0 it acc env = (do
      standAt iter.pos
      match ← pyNext it with
      | none => pure (.done .next)
      | some v =>
        letOwnedTupleGo target it v
        assign target env v
        let mut ok := true
        for c in ifs do
          if ok then ok ← isTrue c env (eval c env)
        if ok then emitS elt acc env
        again (.compLoop (.SetComp elt [⟨target, iter, ifs, 0⟩] scope pos) 0 it acc env)) := by rfl
theorem loopS {elt target iter : Expr} {ifs : List Expr} {scope : Scope} {pos : Pos} {it : Value} : AcLoop prog w A (.SetComp elt [⟨target, iter, ifs, 0⟩] scope pos) target ifs it (emitS elt) := fun acc env R I turn n s h => by
  refine codeAny_loop rfl I (fun n s hI => ?_) n h
  show wpAny _ A ((compTurn (.SetComp elt [⟨target, iter, ifs, 0⟩] scope pos) 0 it (.ref acc) env).onRaise (fun x => do noteFrame x env; theTreesLotGoes x)) _ _ s
  refine wpAny_noted ?_
  rw [compTurn_set]
  refine wpAny_bind (wpAny_standAt (wpAny_bind (wpAny_mono (turn n s hI _) (fun r s₁ h₁ => ?_) fun _ _ h' => h')))
  cases r with
  | none => exact wpAny_pure h₁
  | some v =>
    refine wpAny_bind (wpAny_mono h₁ (fun _ s₁' h₁' => ?_) fun _ _ h' => h')
    refine wpAny_bind (wpAny_mono h₁' (fun _ s₂ h₂ => wpAny_bind (wpAny_mono h₂ (fun ok s₃ h₃ => ?_) fun _ _ h' => h')) fun _ _ h' => h')
    cases ok with
    | false => exact wpAny_pure ⟨rfl, by simpa using h₃⟩
    | true => exact wpAny_bind (wpAny_mono (show wpAny _ _ (emitS elt (.ref acc) env) _ _ s₃ by simpa using h₃) (fun _ s₅ h₅ => wpAny_pure ⟨rfl, h₅⟩) fun _ _ h' => h')

theorem startS {E : Value → Shared → Prop} {elt target iter : Expr} {ifs : List Expr} {scope : Scope} {pos : Pos} {it acc : Value} {env : Env}
    (h0 : codeAny (model prog w) A (.compLoop (.SetComp elt [⟨target, iter, ifs, 0⟩] scope pos) 0 it acc env) R s)
    (h : wpAny (model prog w) A (pyIter it) (fun it' s' => codeAny (model prog w) A (.compLoop (.SetComp elt [⟨target, iter, ifs, 0⟩] scope pos) 0 it' acc env) R s') (notedBy (model prog w) A env fun x s' => R (.error x) s') s) :
    codeAny (model prog w) A (.compStart (.SetComp elt [⟨target, iter, ifs, 0⟩] scope pos) 0 it acc env) R s := by
  refine codeAny_of_tree ?_
  show wpAny _ A ((compStart (.SetComp elt [⟨target, iter, ifs, 0⟩] scope pos) 0 it acc env).onRaise (fun x => do noteFrame x env; standAt theWindowsPlace)) _ _ s
  refine wpAny_notedAt ?_
  unfold compStart
  show wpAny _ A (ask >>= _) _ _ s
  refine wpAny_bind (wpAny_askSetting (wpAny_ite ?_))
  split
  · first
      | exact wpAny_bind (wpAny_pure (wpAny_pure (And.intro rfl h0)))
      | exact wpAny_pure (And.intro rfl h0)
  · first
      | exact wpAny_bind (wpAny_rule (wpAny_bind (wpAny_standAt (wpAny_bind (wpAny_mono h (fun it' s' h' => wpAny_pure (And.intro rfl h')) fun _ _ x => x)))))
      | (refine wpAny_bind (wpAny_rule ?_); show wpAny _ _ (standAt iter.pos >>= _) _ _ s; exact wpAny_bind (wpAny_standAt (wpAny_bind (wpAny_mono h (fun it' s' h' => wpAny_pure (And.intro rfl h')) fun _ _ x => x))))
end
/-- how a comprehension starts -/
def AcStart (prog : Program) (w : World) (A : Around) (e : Expr) : Prop := ∀ (it acc : Value) (env : Env) (R : Result → Shared → Prop) (s : Shared), codeAny (model prog w) A (.compLoop e 0 it acc env) R s →
    wpAny (model prog w) A (pyIter it) (fun it' s' => codeAny (model prog w) A (.compLoop e 0 it' acc env) R s') (notedBy (model prog w) A env fun x s' => R (.error x) s') s →
    codeAny (model prog w) A (.compStart e 0 it acc env) R s

/-- one turn -/
def AcTurn {α : Type} (c : Fx) (A : Around) (sc' : Scope) (cl : List (Str × Addr)) (cd : Value) (target : Expr) (ifs : List Expr) (emit : Value → Env → Sem Unit) (Acc : Obj → α → Prop) (n : Nat) (gB : Heap) (P : Nat → Heap → Value → Prop) (Inv : Nat → Heap → α → Prop) : Prop :=
  ∀ (f' : Fx) (cenv : Env) i g1 g' l D oD T s' v a E', f'.toWd = c.toWd → EnvOk cenv sc' f'.L cl cd → i < n → Le gB g1 → Le g1 g' → Inv i g1 a → P i g' v → Acc oD a → St f' g' (lk l) ((D, oD) :: T) s' →
    wpAny (model f'.prog f'.w) A (assign target cenv v) (fun _ s₃ => wpAny (model f'.prog f'.w) A (tests ifs cenv) (fun ok s₄ => if ok = true then
      wpAny (model f'.prog f'.w) A (emit (.ref D) cenv) (fun _ s₅ => ∃ g'' l'' oD' a', Le gB g'' ∧ Inv (i + 1) g'' a' ∧ Acc oD' a' ∧ St f' g'' (lk l'') ((D, oD') :: T) s₅) E' s₄
      else ∃ g'' l'', Le gB g'' ∧ Inv (i + 1) g'' a ∧ St f' g'' (lk l'') ((D, oD) :: T) s₄) E' s₃) E' s'

section
variable {c : Fx} {g gB : Heap} {m : Str → Option Value} {js r : List (Addr × Obj)} {s : Shared} {A : Around} {E : Value → Shared → Prop} {env : Env} {sc : Scope} {cl0 : List (Str × Addr)} {cd : Value}

theorem acCore {α : Type} {e target : Expr} {ifs : List Expr} {emit : Value → Env → Sem Unit} {Acc : Obj → α → Prop} {a0 : α} {newAcc : Sem Value} {scope : Scope} {cl : List (Str × Addr)} {I : Addr} {n : Nat} {P : Nat → Heap → Value → Prop} {J : Nat → List (Addr × Obj) → Prop} {RR : Value → Addr → Result → Shared → Prop}
    (loop : AcLoop c.prog c.w A e target ifs (.ref I) emit) (start : AcStart c.prog c.w A e)
    (mk : ∀ {Q : Value → Shared → Prop}, (∀ o t, Acc o a0 → ordC o = true → o.isFreed = false → Q (.ref s.heap.objs.size) { s with heap := s.heap.push o, toks := t }) → wpAny (model c.prog c.w) A newAcc Q E s)
    (En : EnvOk env sc c.L cl0 cd) (hcell : ∀ x ∈ scope.names, x.2 ≠ .cell) (hkind : scope.kind = .function) (It : Itr c.toWd A target I n gB P J) (hle : Le gB g) (J0 : J 0 js)
    {s₀ : Shared} (F₀ : St c g m r s₀) (ks : Le s₀.heap s.heap) (zs : s₀.heap.objs.size ≤ s.heap.objs.size) (js0 : ∀ p ∈ js, s₀.heap.get? p.1 = none) (F : St c g m (js ++ r) s) (Inv : Nat → Heap → α → Prop) (h0 : Inv 0 g a0) (turn : AcTurn c A (relab scope sc) cl cd target ifs emit Acc n gB P Inv)
    (fin : ∀ g' D oD C oC m' a s', Le gB g' → Inv n g' a → Acc oD a → s'.heap.Ns C m' → s.heap.objs.size ≤ D → St c g' m ((C, oC) :: (D, oD) :: r) s' → RR (.ref D) C (.ok .next) s') :
    wpAny (model c.prog c.w) A newAcc (fun acc s₃ => wpAny (model c.prog c.w) A (newFunctionEnv scope env.globals cl [] env.qual none .none (some env)) (fun cenv s₄ =>
      codeAny (model c.prog c.w) A (.compStart e 0 (.ref I) acc { cenv with scope := relabel scope env }) (RR acc cenv.locals) s₄) E s₃) E s := by
  refine mk fun o0 t0 hacc hord hfree => ?_
  have F₃ : St c g m ((s.heap.objs.size, o0) :: (js ++ r)) { s with heap := s.heap.push o0, toks := t0 } := F.allocOwn hfree hord
  have k₃ : Le s.heap (s.heap.push o0) := fun b o e => Heap.get?_push_of_some _ e
  have z₃ : s.heap.objs.size ≤ (s.heap.push o0).objs.size := by rw [Heap.size_push]; exact Nat.le_succ _
  have hD : s.heap.get? s.heap.objs.size = none := fresh_none (Nat.le_refl _)
  generalize hDn : s.heap.objs.size = D at F₃ hD
  generalize hs₃ : ({ s with heap := s.heap.push o0, toks := t0 } : Shared) = s₃ at F₃
  have k₃ : Le s.heap s₃.heap := by rw [← hs₃]; exact k₃
  have z₃ : s.heap.objs.size ≤ s₃.heap.objs.size := by rw [← hs₃]; exact z₃
  refine wpAny_newFunctionEnv hcell (by intro y hy; simp at hy) (fun h₁ hns₁ hsb₁ => ?_) hkind
  rw [relab_eq En]
  let f : Fx := ⟨c.toWd, s₀.heap, g, r.map (·.1), s₃.heap.objs.size⟩
  have hCn : s₃.heap.get? s₃.heap.objs.size = none := fresh_none (Nat.le_refl _)
  have k₁ : Le s₃.heap h₁ := fun b o e => hsb₁.extBut b o (Nat.ne_of_lt (Heap.lt_size e)) (Heap.get?_push_of_some _ e)
  have En' : EnvOk { newEnv scope s₃.heap.objs.size env.globals cl env.qual none .none (some env) builtinsNs with scope := relab scope sc } (relab scope sc) f.L cl cd := ⟨rfl, rfl, En.globals, En.builtins, rfl, En.code⟩
  have F₄ : St f g (lk []) ((D, o0) :: (js ++ r)) { s₃ with heap := h₁, toks := s₃.toks + ([] : List (Str × Value)).length } := {
    gens := F₃.gens, os := F₃.os, base := F₃.base
    sub := F₃.sub.trans k₁
    tabs := fun q hq => ⟨(F₃.tabs q hq).1.le k₁, (F₃.tabs q hq).2⟩
    own := fun p hp => ⟨k₁ _ _ (F₃.own p hp).1, (F₃.own p hp).2⟩
    nd := F₃.nd
    Bsz := Nat.le_trans F₃.Bsz (Nat.le_of_lt hns₁.lt)
    g0e := F₀.sub, Bg0 := F₀.base, Bse := F₀.Bsz
    g0g := Le.refl _
    fresh := fun b o e => .inl ⟨o, e⟩
    keep := fun b o e _ _ => k₁ _ _ (k₃ _ _ (ks _ _ e))
    size := Nat.le_trans zs (Nat.le_trans z₃ (Nat.le_of_lt hns₁.lt))
    ns := hns₁
    gL := (F₃.absent hCn).1
    rL := fun p hp => (F₃.absent hCn).2.2 p hp
    eL := Nat.le_trans zs z₃
    ownX := fun p hp => by
      rcases List.mem_cons.mp hp with rfl | hp
      · left
        cases q : s₀.heap.get? D with
        | none => rfl
        | some o => rw [ks _ _ q] at hD; cases hD
      · rcases List.mem_append.mp hp with hp | hp
        · exact .inl (js0 p hp)
        · exact .inr (List.mem_map_of_mem hp)
    Xr := fun x hx => by obtain ⟨p, hp, rfl⟩ := List.mem_map.mp hx; exact ⟨p.2, .tail _ (List.mem_append_right _ hp)⟩ }
  have hjs : ∀ x ∈ f.X, x ∉ js.map (·.1) := fun x hx h => by
    have nd := F.nd
    rw [List.map_append, List.nodup_append] at nd
    exact nd.2.2 _ h _ hx rfl
  have lp : codeAny (model c.prog c.w) A (.compLoop e 0 (.ref I) (.ref D) { newEnv scope s₃.heap.objs.size env.globals cl env.qual none .none (some env) builtinsNs with scope := relab scope sc })
      (RR (.ref D) s₃.heap.objs.size) { s₃ with heap := h₁, toks := s₃.toks + ([] : List (Str × Value)).length } := by
    refine loop D _ _ (fun k s' => ∃ i g1 l a js' oD, k = n + 1 - i ∧ i ≤ n ∧ Le gB g1 ∧ Inv i g1 a ∧ J i js' ∧ js'.map (·.1) = js.map (·.1) ∧ Acc oD a ∧ St f g1 (lk l) ((D, oD) :: (js' ++ r)) s') ?_ (n + 1) _
      ⟨0, g, [], a0, js, o0, rfl, Nat.zero_le _, hle, h0, J0, rfl, hacc, F₄⟩
    rintro k s' ⟨i, g1, l, a, js', oD, rfl, hi, hle1, hInv, hJ, hkeys, hoD, F'⟩ N
    have Fp : St f g1 (lk l) (js' ++ ((D, oD) :: r)) s' := F'.perm List.perm_middle.symm
    rcases Nat.lt_or_eq_of_le hi with hlt | rfl
    · refine It.next (f := f) rfl hle1 hlt hJ Fp (by rw [hkeys]; exact hjs) fun v g2 js2 s2 hle2 hP hJ2 hk2 F2 => ?_
      have F2' : St f g2 (lk l) ((D, oD) :: (js2 ++ r)) s2 := F2.perm List.perm_middle
      refine wpAny_mono (turn f _ i g1 g2 l D oD _ s2 v a N rfl En' hlt hle1 hle2 hInv hP hoD F2') (fun _ s3 h3 => wpAny_mono h3 (fun ok s4 h4 => ?_) fun _ _ e => e) fun _ _ e => e
      cases ok with
      | false =>
        obtain ⟨g3, l3, a1, a2, a3⟩ := (by simpa using h4 : ∃ g'' l'', Le gB g'' ∧ Inv (i + 1) g'' a ∧ St f g'' (lk l'') ((D, oD) :: (js2 ++ r)) s4)
        show ∃ m, _ ∧ _
        exact ⟨n + 1 - (i + 1), by omega, i + 1, g3, l3, a, js2, oD, rfl, hlt, a1, a2, hJ2, hk2.trans hkeys, hoD, a3⟩
      | true =>
        refine wpAny_mono (show wpAny _ _ _ _ _ _ from h4) (fun x s5 h5 => ?_) fun _ _ e => e
        obtain ⟨g3, l3, oD', a', a1, a2, a4, a3⟩ := h5
        exact ⟨n + 1 - (i + 1), by omega, i + 1, g3, l3, a', js2, oD', rfl, hlt, a1, a2, hJ2, hk2.trans hkeys, a4, a3⟩
    · refine It.done (f := f) rfl hle1 hJ Fp (by rw [hkeys]; exact hjs) fun s2 F2 => ?_
      obtain ⟨oC, hord, hns, hoC, Fo⟩ := F₀.inner (n := [(D, oD)]) F2 rfl rfl rfl rfl rfl
      exact fin g1 D oD f.L oC _ a s2 hle1 hInv hoD hns (Nat.le_of_eq hDn) Fo
  subst hs₃
  subst hDn
  refine start _ _ _ _ _ lp ?_
  have Fp : St f g (lk []) (js ++ ((s.heap.objs.size, o0) :: r)) _ := F₄.perm List.perm_middle.symm
  exact It.self (f := f) rfl hle J0 Fp lp
end
section
variable {c : Fx} {g gB : Heap} {m : Str → Option Value} {js r : List (Addr × Obj)} {s : Shared} {A : Around} {E : Value → Shared → Prop} {env : Env} {sc : Scope} {cl0 : List (Str × Addr)} {cd : Value} {prog : Program} {w : World}

theorem acEnd {Q : Value → Shared → Prop} {g' : Heap} {D C : Addr} {oD oC : Obj} {m' : Str → Option Value} {s' : Shared} {M : Model} (hX : ∀ x ∈ c.X, ∃ o, (x, o) ∈ r) (hns : s'.heap.Ns C m') (F' : St c g' m ((C, oC) :: (D, oD) :: r) s') (fin : ∀ s'', St c g' m ((D, oD) :: r) s'' → Q (.ref D) s'') : compPost M A E none Q (.ref D) C (.ok .next) s' := by
  refine ⟨m', hns, fun h'' hs'' => ?_⟩
  exact fin _ (F'.dropBut hs'' (head_notX F' fun x hx => (hX x hx).elim fun o z => ⟨o, .tail _ z⟩))

/-- a dict made by a comprehension; it is the frame's own -/
theorem dcE {kx vx target iter : Expr} {ifs : List Expr} {scope : Scope} {cl : List (Str × Addr)} {pos : Pos} {Q : Value → Shared → Prop} (hB : Base c.toWd) (_ : St c g m r s) (hp : c.prog = prog) (hw : c.w = w)
    (En : EnvOk env sc c.L cl0 cd) (hclos : closureFor scope env = pure cl) (hcell : ∀ x ∈ scope.names, x.2 ≠ .cell) (hkind : scope.kind = .function) (hnames : ∀ x ∈ scope.names, x.2 = .local → scope.names.lookup x.1 = some .local)
    (hs : ∀ x, foldedSetIterable iter env x = pure x)
    (h : wpAny (model prog w) A (eval iter env) (fun x s₁ => wpAny (model prog w) A (pyIter x) (fun it s₂ => ∃ gB n P g m r, ∃ Inv : Nat → Heap → List (Str × Value) → Prop, Rdy c A target gB n P g m r it s₂ ∧ Inv 0 g [] ∧ AcTurn c A (relab scope sc) cl cd target ifs (emitD kx vx) (DO c.toWd) n gB P Inv ∧
      (∀ g1 D oD kvs s', Le gB g1 → Inv n g1 kvs → DO c.toWd oD kvs → (D == sysModules) = false → St c g1 m ((D, oD) :: r) s' → Q (.ref D) s')) E s₁) E s) :
    wpAny (model prog w) A (eval (.DictComp kx vx [⟨target, iter, ifs, 0⟩] scope pos) env) Q E s := by
  subst hp hw
  rw [arm_eval_DictComp]
  refine wpAny_comprehension_free (use := none) rfl hs hclos hkind hnames (wpAny_mono h (fun xv s₁ h₁ => wpAny_mono h₁ (fun it s₂ h₂ => ?_) fun _ _ e => e) fun _ _ e => e)
  obtain ⟨gB, n, P, g, m, r, Inv, ⟨⟨I, J, js, s₀, rfl, It, J0, F, F₀, ks, zs, js0⟩, hle⟩, h0, turn, fin⟩ := h₂
  have hX := F₀.Xr
  refine acCore (RR := fun acc C => compPost (model c.prog c.w) A E none Q acc C) (Acc := DO c.toWd) (a0 := []) loopD (fun it acc env R s a b => codeAny_compStart_dict a b) (fun k => ?_) En hcell hkind It hle J0 F₀ ks zs js0 F Inv h0 turn ?_
  · unfold newDict
    refine wpAny_newObj_type ?_ (by show _ ≤ _; simp)
    obtain ⟨o, ho, hd⟩ := Heap.dictOf_iff.mp (Heap.DictOf.new (knd := sk c.toWd) s₂.heap)
    have ho' := Heap.get?_push_size s₂.heap (o := { cls := .type "dict", data := .dict #[] }) rfl
    rw [ho'] at ho
    cases ho
    exact k _ s₂.toks hd rfl rfl
  · intro g' D oD C oC m' kvs s' hle' hInv hoD hns hz F'
    exact acEnd hX hns F' fun s'' F'' => fin _ D _ kvs _ hle' hInv hoD (F.notMods hB hz) F''

/-- a set made by a comprehension; it is the frame's own -/
theorem scE {elt target iter : Expr} {ifs : List Expr} {scope : Scope} {cl : List (Str × Addr)} {pos : Pos} {Q : Value → Shared → Prop} (_ : St c g m r s) (hp : c.prog = prog) (hw : c.w = w)
    (En : EnvOk env sc c.L cl0 cd) (hclos : closureFor scope env = pure cl) (hcell : ∀ x ∈ scope.names, x.2 ≠ .cell) (hkind : scope.kind = .function) (hnames : ∀ x ∈ scope.names, x.2 = .local → scope.names.lookup x.1 = some .local)
    (hs : ∀ x, foldedSetIterable iter env x = pure x)
    (h : wpAny (model prog w) A (eval iter env) (fun x s₁ => wpAny (model prog w) A (pyIter x) (fun it s₂ => ∃ gB n P g m r, ∃ Inv : Nat → Heap → (Str → Bool) × Nat → Prop, Rdy c A target gB n P g m r it s₂ ∧ Inv 0 g (fun _ => false, 0) ∧ AcTurn c A (relab scope sc) cl cd target ifs (emitS elt) (fun o a => SO c.toWd o a.1 a.2) n gB P Inv ∧
      (∀ g1 D oD a s', Le gB g1 → Inv n g1 a → SO c.toWd oD a.1 a.2 → St c g1 m ((D, oD) :: r) s' → Q (.ref D) s')) E s₁) E s) :
    wpAny (model prog w) A (eval (.SetComp elt [⟨target, iter, ifs, 0⟩] scope pos) env) Q E s := by
  subst hp hw
  rw [arm_eval_SetComp]
  refine wpAny_comprehension_free (use := none) rfl hs hclos hkind hnames (wpAny_mono h (fun xv s₁ h₁ => wpAny_mono h₁ (fun it s₂ h₂ => ?_) fun _ _ e => e) fun _ _ e => e)
  obtain ⟨gB, n, P, g, m, r, Inv, ⟨⟨I, J, js, s₀, rfl, It, J0, F, F₀, ks, zs, js0⟩, hle⟩, h0, turn, fin⟩ := h₂
  have hX := F₀.Xr
  refine acCore (RR := fun acc C => compPost (model c.prog c.w) A E none Q acc C) (Acc := fun o (a : (Str → Bool) × Nat) => SO c.toWd o a.1 a.2) (a0 := (fun _ => false, 0)) loopS (fun it acc env R s a b => startS (E := E) a b) (fun k => ?_) En hcell hkind It hle J0 F₀ ks zs js0 F Inv h0 turn ?_
  · refine wpAny_newSet_of (knd := sk c.toWd) fun led hS => ?_
    obtain ⟨o, ho, hS'⟩ := SO.of hS
    have ho' := Heap.get?_push_size s₂.heap (o := { cls := .type "set", dict := none, data := .set #[] 0 (.fresh 0 0 led) }) rfl
    rw [ho'] at ho
    cases ho
    exact k _ s₂.toks hS' rfl rfl
  · intro g' D oD C oC m' a s' hle' hInv hoD hns hz F'
    exact acEnd hX hns F' fun s'' F'' => fin _ D _ a _ hle' hInv hoD F''

/-- what a turn of a dict comprehension does behind its tests -/
theorem emD {kx vx : Expr} {D : Addr} {Q : Unit → Shared → Prop} (h : wpAny (model prog w) A (eval kx env) (fun kv s₁ => wpAny (model prog w) A (eval vx env) (fun vv s₂ => wpAny (model prog w) A (dictSet D kv vv) Q E s₂) E s₁) E s) : wpAny (model prog w) A (emitD kx vx (.ref D) env) Q E s :=
  wpAny_bind (wpAny_mono h (fun kv s₄ h₄ => wpAny_bind (wpAny_holding (wpAny_mono h₄ (fun vv s₅ h₅ => wpAny_bind (wpAny_standAt (wpAny_holding h₅))) fun _ _ h' => h'))) fun _ _ h' => h')
theorem emS {elt : Expr} {D : Addr} {Q : Unit → Shared → Prop} (h : wpAny (model prog w) A (eval elt env) (fun v s₁ => wpAny (model prog w) A (call (.builtin "set.add") [.ref D, v]) (fun _ s₂ => Q () s₂) E s₁) E s) : wpAny (model prog w) A (emitS elt (.ref D) env) Q E s :=
  wpAny_bind (wpAny_mono h (fun v s₄ h₄ => wpAny_bind (wpAny_standAt (wpAny_bind (wpAny_mono h₄ (fun _ s₅ h₅ => wpAny_pure h₅) fun _ _ h' => h')))) fun _ _ h' => h')
theorem dsD {D : Addr} {od : Obj} {kvs : List (Str × Value)} {k : Str} {t : Tok} {v : Value} {Q : Unit → Shared → Prop} (F : St c g m ((D, od) :: r) s) (hd : DO c.toWd od kvs) (hz : kvs.length ≤ sizeLine)
    (h : ∀ od' s', DO c.toWd od' (stored kvs k v) → St c g m ((D, od') :: r) s' → Q () s') : wpAny (model c.prog c.w) A (dictSet D (.str k t) v) Q E s := by
  refine wpAny_dictSet_pairs (knd := sk c.toWd) (strKind_is _ _ _ _) (Heap.dictOf_iff.mpr ⟨od, (F.own _ (.head _)).1, hd⟩) (fun h' hm hs => ?_) hz
  obtain ⟨o', h1, h2⟩ := Heap.dictOf_iff.mp hm
  exact h _ _ h2 (F.own1 (t := s.toks + 1) h1 (DO.ord h2) hs)
end
section
variable {c : Fx} {g : Heap} {m : Str → Option Value} {r : List (Addr × Obj)} {s : Shared} {A : Around} {E : Value → Shared → Prop} {env : Env} {sc : Scope} {cl0 : List (Str × Addr)} {cd : Value}
/-- a list made by a comprehension, stored at once under a local name -/
theorem lcAL {elt target iter : Expr} {ifs : List Expr} {scope : Scope} {cl : List (Str × Addr)} {pos spos py : Pos} {y : Str} {Q : Flow → Shared → Prop}
    (hsw : swapsWith (.ListComp elt [⟨target, iter, ifs, 0⟩] scope pos) (some (.Name y py)) spos.line env = pure true)
    (En : EnvOk env sc c.L cl0 cd) (hclos : closureFor scope env = pure cl) (hcell : ∀ x ∈ scope.names, x.2 ≠ .cell) (hkind : scope.kind = .function) (hnames : ∀ x ∈ scope.names, x.2 = .local → scope.names.lookup x.1 = some .local)
    (hs : ∀ x, foldedSetIterable iter env x = pure x) (hk : sc.kind = .function) (hx : sc.names.lookup y = some .local)
    (h : wpAny (model c.prog c.w) A (eval iter env) (fun x s₁ => wpAny (model c.prog c.w) A (pyIter x) (fun it s₂ => ∃ gB n P g l r Inv, Rdy c A target gB n P g (lk l) r it s₂ ∧ n ≤ sizeLine ∧ Inv 0 g [] ∧ LcTurn c A (relab scope sc) cl cd target ifs elt n gB P Inv ∧
      (∀ g1 g' D ys s', Le gB g1 → Le g1 g' → Inv n g1 ys → g'.IsList D ys.toArray → St c g' (lk ((y, .ref D) :: l)) r s' → Q .next s')) E s₁) E s) :
    wpAny (model c.prog c.w) A (exec (.Assign [.Name y py] (.ListComp elt [⟨target, iter, ifs, 0⟩] scope pos) spos) env) Q E s := by
  refine lcA hsw En hclos hcell hkind hnames hs (wpAny_mono h (fun x s₁ h₁ => wpAny_mono h₁ (fun it s₂ h₂ => ?_) fun _ _ e => e) fun _ _ e => e)
  obtain ⟨gB, n, P, g, l, r, Inv, R, hn, h0, turn, fin⟩ := h₂
  have hX : ∀ x ∈ c.X, ∃ o, (x, o) ∈ r := by
    obtain ⟨⟨I, J, js, s₀, _, _, _, _, F₀, _⟩, _⟩ := R
    exact F₀.Xr
  refine ⟨gB, n, P, g, lk l, r, Inv, R, hn, h0, turn, fun g1 g' D ys C oC s' a1 a2 a3 a4 F => ?_⟩
  refine stL En F (fun s'' F' => ?_) hk hx
  exact ⟨g', _, r, F', hX, fun s3 F3 => fin g1 g' D ys s3 a1 a2 a3 a4 F3⟩
end
section
variable {c : Fx} {g : Heap} {m : Str → Option Value} {r : List (Addr × Obj)} {s : Shared} {A : Around} {E : Value → Shared → Prop} {env : Env} {sc : Scope} {cl0 : List (Str × Addr)} {cd : Value}
/-- a dict made by a comprehension, stored at once under a local name -/
theorem dcAL {kx vx target iter : Expr} {ifs : List Expr} {scope : Scope} {cl : List (Str × Addr)} {pos spos py : Pos} {y : Str} {Q : Flow → Shared → Prop} (hB : Base c.toWd)
    (hsw : swapsWith (.DictComp kx vx [⟨target, iter, ifs, 0⟩] scope pos) (some (.Name y py)) spos.line env = pure true)
    (En : EnvOk env sc c.L cl0 cd) (hclos : closureFor scope env = pure cl) (hcell : ∀ x ∈ scope.names, x.2 ≠ .cell) (hkind : scope.kind = .function) (hnames : ∀ x ∈ scope.names, x.2 = .local → scope.names.lookup x.1 = some .local)
    (hs : ∀ x, foldedSetIterable iter env x = pure x) (hk : sc.kind = .function) (hx : sc.names.lookup y = some .local)
    (h : wpAny (model c.prog c.w) A (eval iter env) (fun x s₁ => wpAny (model c.prog c.w) A (pyIter x) (fun it s₂ => ∃ gB n P g l r, ∃ Inv : Nat → Heap → List (Str × Value) → Prop, Rdy c A target gB n P g (lk l) r it s₂ ∧ Inv 0 g [] ∧ AcTurn c A (relab scope sc) cl cd target ifs (emitD kx vx) (DO c.toWd) n gB P Inv ∧
      (∀ g1 D oD kvs s', Le gB g1 → Inv n g1 kvs → DO c.toWd oD kvs → (D == sysModules) = false → St c g1 (lk ((y, .ref D) :: l)) ((D, oD) :: r) s' → Q .next s')) E s₁) E s) :
    wpAny (model c.prog c.w) A (exec (.Assign [.Name y py] (.DictComp kx vx [⟨target, iter, ifs, 0⟩] scope pos) spos) env) Q E s := by
  rw [exec_Assign_Name_used _ _ _ _ hsw]
  refine wpAny_bind (wpAny_standAt (wpAny_bind ?_))
  show wpAny _ A (do let _ ← comprehension (.DictComp kx vx [⟨target, iter, ifs, 0⟩] scope pos) scope env _ newDict false (eval iter env) (some (assign (.Name y py) env))) _ _ s
  refine wpAny_bind (wpAny_mono (wpAny_comprehension_free (use := some (assign (.Name y py) env)) (Q := fun _ s' => Q .next s') rfl hs hclos hkind hnames
    (wpAny_mono h (fun xv s₁ h₁ => wpAny_mono h₁ (fun it s₂ h₂ => ?_) fun _ _ e => e) fun _ _ e => e)) (fun _ s' hq => wpAny_pure (wpAny_pure hq)) fun _ _ e => e)
  obtain ⟨gB, n, P, g, l, r, Inv, ⟨⟨I, J, js, s₀, rfl, It, J0, F, F₀, ks, zs, js0⟩, hle⟩, h0, turn, fin⟩ := h₂
  have hX := F₀.Xr
  refine acCore (RR := fun acc C => compPost (model c.prog c.w) A E (some (assign (.Name y py) env)) (fun _ s' => Q .next s') acc C) (Acc := DO c.toWd) (a0 := []) loopD (fun it acc env R s a b => codeAny_compStart_dict a b) (fun k => ?_) En hcell hkind It hle J0 F₀ ks zs js0 F Inv h0 turn ?_
  · unfold newDict
    refine wpAny_newObj_type ?_ (by show _ ≤ _; simp)
    obtain ⟨o, ho, hd⟩ := Heap.dictOf_iff.mp (Heap.DictOf.new (knd := sk c.toWd) s₂.heap)
    have ho' := Heap.get?_push_size s₂.heap (o := { cls := .type "dict", data := .dict #[] }) rfl
    rw [ho'] at ho
    cases ho
    exact k _ s₂.toks hd rfl rfl
  · intro g' D oD C oC m' kvs s' hle' hInv hoD hns hz F'
    show wpAny _ A (assign (.Name y py) env (.ref D)) _ _ _
    refine as_name (stL En F' (fun s'' F4 => ?_) hk hx)
    have hC := (F'.own _ (.head _)).1
    refine ⟨m', hns.at' fun o e => ?_, fun h'' hs'' => fin _ D _ kvs _ hle' hInv hoD (F.notMods hB hz) (F4.dropBut hs'' (head_notX F4 fun x hx => (hX x hx).elim fun o z => ⟨o, .tail _ z⟩))⟩
    rw [hC] at e
    cases e
    exact (F4.own _ (.head _)).1
end
/-! ZipT -/
/-! a list and a tuple, side by side -/
section
variable {prog : Program} {w : World} {A : Around} {E : Value → Shared → Prop} {s : Shared}
theorem ti_ext {h h' : Heap} {it t : Addr} {i : Nat} {b : Addr} (x : IsTupIter h it t i) (k : Heap.ExtBut b h h') (hb : it ≠ b) : IsTupIter h' it t i := let ⟨o, ho, r⟩ := x; ⟨o, k _ _ hb ho, r⟩
theorem tu_ext {h h' : Heap} {t : Addr} {ys : Array Value} {b : Addr} (x : IsTup h t ys) (k : Heap.ExtBut b h h') (hb : t ≠ b) : IsTup h' t ys := let ⟨o, ho, r⟩ := x; ⟨o, k _ _ hb ho, r⟩

theorem nxT_item {it t : Addr} {i : Nat} {items : Array Value} {x : Value} {Q : Value → Shared → Prop} (hit : IsTupIter s.heap it t i) (ht : IsTup s.heap t items) (hx : items[i]? = some x)
    (hQ : ∀ h', IsTupIter h' it t (i + 1) → Heap.SameBut it s.heap h' → Q x { s with heap := h' }) : wpAny (model prog w) A (Builtin.SmallTypes.nextOf (.ref it)) Q E s := by
  obtain ⟨o, ho, hc, hd⟩ := id hit
  obtain ⟨ol, hol, _, nl, hdl⟩ := ht
  unfold Builtin.SmallTypes.nextOf
  refine wpAny_bind (wpAny_callSpecial?_slot (name := Str.ofString "__next__") hit.typeIs slot_tupleiter_next
    (wpAny_call_entry slot_tupleiter_next hit.typeIs entry_tupleiter_next ?_ (args_tupleiter_next _)))
  show wpAny _ _ (field (.ref it) 0 >>= _) _ _ s
  refine wpAny_bind (wpAny_field ho hd (x := .ref t) rfl ?_)
  show wpAny _ _ (if (Value.ref t == Value.none) = true then _ else _) _ _ s
  rw [if_neg (show ¬ ((Value.ref t == Value.none) = true) from Bool.false_ne_true)]
  show wpAny _ _ (field (.ref it) 1 >>= _) _ _ s
  refine wpAny_bind (wpAny_field ho hd (x := .int i 0) rfl ?_)
  show wpAny _ _ (seqItems? (.ref t) >>= _) _ _ s
  refine wpAny_bind (wpAny_seqItems hol hdl ?_)
  simp only [Int.toNat_natCast, hx]
  refine wpAny_bind (wpAny_setField ho hd (by simp) (wpAny_pure ⟨x, rfl, wpAny_pure (hQ _ ?_ (Heap.SameBut.update ..))⟩))
  exact ⟨_, Heap.get?_update_self _ ho (Obj.isFreed_of_fields (Obj.data_mapFields hd _)), (Obj.cls_mapFields ..).trans hc, by
    rw [Obj.data_mapFields hd]; simp [rawInt]⟩

theorem nxT_end {it t : Addr} {i : Nat} {items : Array Value} {Q : Value → Shared → Prop} (hh : A.handled = none) (hit : IsTupIter s.heap it t i) (ht : IsTup s.heap t items) (hx : items[i]? = none)
    (hE : ∀ h' e, Heap.ExtBut it s.heap h' → (∃ o, h'.get? e = some o ∧ o.cls = .type "StopIteration") → E (.ref e) { s with heap := h' }) : wpAny (model prog w) A (Builtin.SmallTypes.nextOf (.ref it)) Q E s := by
  obtain ⟨o, ho, hc, hd⟩ := id hit
  obtain ⟨ol, hol, _, nl, hdl⟩ := ht
  unfold Builtin.SmallTypes.nextOf
  refine wpAny_bind (wpAny_callSpecial?_slot (name := Str.ofString "__next__") hit.typeIs slot_tupleiter_next
    (wpAny_call_entry slot_tupleiter_next hit.typeIs entry_tupleiter_next ?_ (args_tupleiter_next _)))
  show wpAny _ _ (field (.ref it) 0 >>= _) _ _ s
  refine wpAny_bind (wpAny_field ho hd (x := .ref t) rfl ?_)
  show wpAny _ _ (if (Value.ref t == Value.none) = true then _ else _) _ _ s
  rw [if_neg (show ¬ ((Value.ref t == Value.none) = true) from Bool.false_ne_true)]
  show wpAny _ _ (field (.ref it) 1 >>= _) _ _ s
  refine wpAny_bind (wpAny_field ho hd (x := .int i 0) rfl ?_)
  show wpAny _ _ (seqItems? (.ref t) >>= _) _ _ s
  refine wpAny_bind (wpAny_seqItems hol hdl ?_)
  simp only [Int.toNat_natCast, hx]
  refine wpAny_bind (wpAny_rule (wpAny_bind (wpAny_setField ho hd (by simp) ?_)))
  show wpAny _ _ (newExc (.type "StopIteration") [] >>= _) _ _ _
  refine stop_made (s := { s with heap := s.heap.update it (Obj.mapFields (·.setIfInBounds 0 .none)) }) (.inl hh) fun h' e hk hx' => ?_
  exact hE h' e (fun b ob hb he => hk _ _ ((Heap.SameBut.update ..).extBut b ob hb he)) hx'

/-- what a zip stands on -/
structure ZipAt (h : Heap) (z TI TO i1 i2 l t : Addr) (f0 a b : Value) (k : Nat) (xs ys : Array Value) : Prop where
  z : IsZip h z TI TO f0
  TI : IsPair h TI (.ref i1) (.ref i2)
  TO : IsPair h TO a b
  i1 : h.IsListIter i1 l k
  i2 : IsTupIter h i2 t k

theorem zipT_item {z TI TO i1 i2 l t : Addr} {k : Nat} {xs ys : Array Value} {x y a b : Value} {Q : Value → Shared → Prop} (D : ZipApart z TI TO i1 i2 l t) (Z : ZipAt s.heap z TI TO i1 i2 l t .none a b k xs ys) (hl : s.heap.IsList l xs) (ht : IsTup s.heap t ys) (hx : xs[k]? = some x) (hy : ys[k]? = some y)
    (hQ : ∀ h', ZipAt h' z TI TO i1 i2 l t (rawInt s.heap.objs.size) x y (k + 1) xs ys → IsPair h' s.heap.objs.size x y → (∀ c o, c ≠ z → c ≠ TO → c ≠ i1 → c ≠ i2 → s.heap.get? c = some o → h'.get? c = some o) → Q (.ref s.heap.objs.size) { s with heap := h' }) :
    wpAny (model prog w) A (Builtin.«zip.__next__» ⟨[.ref z], []⟩) (fun fin s' => ∃ v, fin = .done (.ret v) ∧ Q v s') E s := by
  obtain ⟨hz, hTI, hTO, h1, h2⟩ := Z
  show wpAny _ _ (field (.ref z) 2 >>= _) _ _ _
  refine wpAny_bind (wpAny_field hz rfl (x := .bool false) rfl ?_)
  show wpAny _ _ (field (.ref z) 3 >>= _) _ _ _
  refine wpAny_bind (wpAny_field hz rfl (x := .ref TI) rfl ?_)
  refine wpAny_bind (wpAny_seqItems hTI rfl ?_)
  show wpAny _ _ (Builtin.SmallTypes.ownedTupleIsFree (.ref z) >>= _) _ _ _
  refine wpAny_bind ?_
  unfold Builtin.SmallTypes.ownedTupleIsFree
  refine wpAny_bind (wpAny_field hz rfl (x := .none) rfl (wpAny_pure ?_))
  simp only [if_true]
  refine wpAny_bind (wpAny_rule ?_)
  refine wpAny_bind (wpAny_field hz rfl (x := .ref TO) rfl ?_)
  refine wpAny_bind (wpAny_setField_rec hz (by simp) fun h₁ hz₁ s₁ => ?_)
  replace hz₁ : IsZip h₁ z TI TO .ellipsis := hz₁
  refine wpAny_bind ?_
  simp only [List.zipIdx_cons, List.zipIdx_nil, List.forIn_cons, List.forIn_nil]
  refine wpAny_bind (wpAny_bind (wpAny_onRaise ?_))
  show wpAny _ _ (Builtin.SmallTypes.nextOf (.ref i1) >>= _) _ _ _
  refine wpAny_bind (wpAny_nextOf_list_item (h1.extBut s₁.extBut D.i1z) (hl.extBut s₁.extBut D.l1z) hx fun h₂ h1₂ s₂ => wpAny_pure ?_)
  have hTO₂ : IsPair h₂ TO a b := s₂.extBut _ _ D.TOi1 (s₁.extBut _ _ D.TOz hTO)
  refine wpAny_bind (wpAny_seqItems hTO₂ rfl ?_)
  refine wpAny_bind (wpAny_updateSeq_pair hTO₂ fun h₃ hTO₃ s₃ => ?_)
  replace hTO₃ : IsPair h₃ TO x b := hTO₃
  refine wpAny_bind (wpAny_letGo (wpAny_pure ?_))
  refine wpAny_bind (wpAny_bind (wpAny_onRaise ?_))
  show wpAny _ _ (Builtin.SmallTypes.nextOf (.ref i2) >>= _) _ _ _
  refine wpAny_bind (nxT_item (ti_ext (ti_ext (ti_ext h2 s₁.extBut D.i2z) s₂.extBut D.i12.symm) s₃.extBut D.TOi2.symm) (tu_ext (tu_ext (tu_ext ht s₁.extBut D.l2z) s₂.extBut D.l2i1) s₃.extBut D.l2TO) hy fun h₄ h2₄ s₄ => wpAny_pure ?_)
  have hTO₄ : IsPair h₄ TO x b := s₄.extBut _ _ D.TOi2 hTO₃
  refine wpAny_bind (wpAny_seqItems hTO₄ rfl ?_)
  refine wpAny_bind (wpAny_updateSeq_pair hTO₄ fun h₅ hTO₅ s₅ => ?_)
  replace hTO₅ : IsPair h₅ TO x y := hTO₅
  refine wpAny_bind (wpAny_letGo (wpAny_pure (wpAny_pure ?_)))
  refine wpAny_bind (wpAny_seqItems hTO₅ rfl ?_)
  refine wpAny_bind (wpAny_newTuple ?_)
  have hsz : h₅.objs.size = s.heap.objs.size := by rw [s₅.1, s₄.1, s₃.1, s₂.1, s₁.1]
  have up5 : ∀ c o, c ≠ z → c ≠ TO → c ≠ i1 → c ≠ i2 → s.heap.get? c = some o → h₅.get? c = some o := fun c o c1 c2 c3 c4 e =>
    s₅.extBut _ _ c2 (s₄.extBut _ _ c4 (s₃.extBut _ _ c2 (s₂.extBut _ _ c3 (s₁.extBut _ _ c1 e))))
  have hz₅ : IsZip h₅ z TI TO .ellipsis := s₅.extBut _ _ D.TOz.symm (s₄.extBut _ _ D.i2z.symm (s₃.extBut _ _ D.TOz.symm (s₂.extBut _ _ D.i1z.symm hz₁)))
  have h1₅ : h₅.IsListIter i1 l (k + 1) := ((h1₂.extBut s₃.extBut D.TOi1.symm).extBut s₄.extBut D.i12).extBut s₅.extBut D.TOi1.symm
  have h2₅ : IsTupIter h₅ i2 t (k + 1) := ti_ext h2₄ s₅.extBut D.TOi2.symm
  have hTI₅ : IsPair h₅ TI (.ref i1) (.ref i2) := up5 _ _ D.TIz D.TITO D.TIi1 D.TIi2 hTI
  have hzlt : z < h₅.objs.size := Heap.lt_size hz₅
  show wpAny _ _ (Builtin.SmallTypes.ownedTupleHandOut (.ref z) (.ref h₅.objs.size) >>= _) _ _ _
  refine wpAny_bind ?_
  unfold Builtin.SmallTypes.ownedTupleHandOut
  have hz₆ : IsZip (h₅.push { cls := .type "tuple", data := .seq #[x, y] }) z TI TO .ellipsis := Heap.get?_push_of_some _ hz₅
  refine wpAny_bind (wpAny_setField_rec hz₆ (by simp) fun h₇ hz₇ s₇ => ?_)
  replace hz₇ : IsZip h₇ z TI TO (rawInt h₅.objs.size) := hz₇
  refine wpAny_setField_rec hz₇ (by simp) fun h₈ hz₈ s₈ => ?_
  replace hz₈ : IsZip h₈ z TI TO (rawInt h₅.objs.size) := hz₈
  have up : ∀ c o, c ≠ z → h₅.get? c = some o → h₈.get? c = some o := fun c o c1 e => s₈.extBut _ _ c1 (s₇.extBut _ _ c1 (Heap.get?_push_of_some _ e))
  have hT₈ : IsPair h₈ h₅.objs.size x y := s₈.extBut _ _ (Nat.ne_of_gt hzlt) (s₇.extBut _ _ (Nat.ne_of_gt hzlt) (Heap.get?_push_size _ rfl))
  rw [hsz] at hz₈ hT₈
  refine wpAny_pure ⟨_, rfl, ?_⟩
  show Q (.ref h₅.objs.size) _
  rw [hsz]
  exact hQ h₈ ⟨hz₈, up _ _ D.TIz hTI₅, up _ _ D.TOz hTO₅, h1₅.at fun o e => up _ o D.i1z e, let ⟨o, ho, r⟩ := h2₅; ⟨o, up _ _ D.i2z ho, r⟩⟩ hT₈ fun c o c1 c2 c3 c4 e => up c o c1 (up5 c o c1 c2 c3 c4 e)

theorem zipT_end {z TI TO i1 i2 l t : Addr} {k : Nat} {xs ys : Array Value} {a b : Value} {Q : Fin → Shared → Prop} (hh : A.handled = none) (D : ZipApart z TI TO i1 i2 l t) (Z : ZipAt s.heap z TI TO i1 i2 l t .none a b k xs ys) (hl : s.heap.IsList l xs) (ht : IsTup s.heap t ys) (hend : xs[k]? = none ∨ ys[k]? = none)
    (hE : ∀ h' e, (∀ c o, c ≠ z → c ≠ TO → c ≠ i1 → c ≠ i2 → s.heap.get? c = some o → h'.get? c = some o) → (∃ o, h'.get? e = some o ∧ o.cls = .type "StopIteration") → E (.ref e) { s with heap := h' }) :
    wpAny (model prog w) A (Builtin.«zip.__next__» ⟨[.ref z], []⟩) Q E s := by
  obtain ⟨hz, hTI, hTO, h1, h2⟩ := Z
  show wpAny _ _ (field (.ref z) 2 >>= _) _ _ _
  refine wpAny_bind (wpAny_field hz rfl (x := .bool false) rfl ?_)
  show wpAny _ _ (field (.ref z) 3 >>= _) _ _ _
  refine wpAny_bind (wpAny_field hz rfl (x := .ref TI) rfl ?_)
  refine wpAny_bind (wpAny_seqItems hTI rfl ?_)
  show wpAny _ _ (Builtin.SmallTypes.ownedTupleIsFree (.ref z) >>= _) _ _ _
  refine wpAny_bind ?_
  unfold Builtin.SmallTypes.ownedTupleIsFree
  refine wpAny_bind (wpAny_field hz rfl (x := .none) rfl (wpAny_pure ?_))
  simp only [if_true]
  refine wpAny_bind (wpAny_rule ?_)
  refine wpAny_bind (wpAny_field hz rfl (x := .ref TO) rfl ?_)
  refine wpAny_bind (wpAny_setField_rec hz (by simp) fun h₁ hz₁ s₁ => ?_)
  replace hz₁ : IsZip h₁ z TI TO .ellipsis := hz₁
  refine wpAny_bind ?_
  simp only [List.zipIdx_cons, List.zipIdx_nil, List.forIn_cons, List.forIn_nil]
  refine wpAny_bind (wpAny_bind (wpAny_onRaise ?_))
  show wpAny _ _ (Builtin.SmallTypes.nextOf (.ref i1) >>= _) _ _ _
  cases hx : xs[k]? with
  | none =>
    refine wpAny_bind (wpAny_nextOf_list_end hh (h1.extBut s₁.extBut D.i1z) (hl.extBut s₁.extBut D.l1z) hx fun h₂ e s₂ he => ?_)
    obtain ⟨oe, hoe, hce⟩ := he
    have hz₂ : IsZip h₂ z TI TO .ellipsis := s₂ _ _ D.i1z.symm hz₁
    have hez : e ≠ z := fun x => by subst x; rw [hz₂] at hoe; cases hoe; simp at hce
    refine wpAny_setField_rec hz₂ (by simp) fun h₃ _ s₃ => hE h₃ e (fun c o c1 _ c3 _ x => s₃.extBut _ _ c1 (s₂ _ _ c3 (s₁.extBut _ _ c1 x))) ⟨oe, s₃.extBut _ _ hez hoe, hce⟩
  | some x =>
    have hy : ys[k]? = none := by rcases hend with h | h; rw [hx] at h; cases h; exact h
    refine wpAny_bind (wpAny_nextOf_list_item (h1.extBut s₁.extBut D.i1z) (hl.extBut s₁.extBut D.l1z) hx fun h₂ h1₂ s₂ => wpAny_pure ?_)
    have hTO₂ : IsPair h₂ TO a b := s₂.extBut _ _ D.TOi1 (s₁.extBut _ _ D.TOz hTO)
    refine wpAny_bind (wpAny_seqItems hTO₂ rfl ?_)
    refine wpAny_bind (wpAny_updateSeq_pair hTO₂ fun h₃ hTO₃ s₃ => ?_)
    refine wpAny_bind (wpAny_letGo (wpAny_pure ?_))
    refine wpAny_bind (wpAny_bind (wpAny_onRaise ?_))
    show wpAny _ _ (Builtin.SmallTypes.nextOf (.ref i2) >>= _) _ _ _
    refine wpAny_bind (nxT_end hh (ti_ext (ti_ext (ti_ext h2 s₁.extBut D.i2z) s₂.extBut D.i12.symm) s₃.extBut D.TOi2.symm) (tu_ext (tu_ext (tu_ext ht s₁.extBut D.l2z) s₂.extBut D.l2i1) s₃.extBut D.l2TO) hy fun h₄ e s₄ he => ?_)
    obtain ⟨oe, hoe, hce⟩ := he
    have hz₄ : IsZip h₄ z TI TO .ellipsis := s₄ _ _ D.i2z.symm (s₃.extBut _ _ D.TOz.symm (s₂.extBut _ _ D.i1z.symm hz₁))
    have hez : e ≠ z := fun x => by subst x; rw [hz₄] at hoe; cases hoe; simp at hce
    refine wpAny_setField_rec hz₄ (by simp) fun h₅ _ s₅ => hE h₅ e (fun c o c1 c2 c3 c4 x => s₅.extBut _ _ c1 (s₄ _ _ c4 (s₃.extBut _ _ c2 (s₂.extBut _ _ c3 (s₁.extBut _ _ c1 x))))) ⟨oe, s₅.extBut _ _ hez hoe, hce⟩

theorem nextZip_item {z TI TO i1 i2 l t : Addr} {k : Nat} {xs ys : Array Value} {x y a b : Value} {Q : Option Value → Shared → Prop} (D : ZipApart z TI TO i1 i2 l t) (Z : ZipAt s.heap z TI TO i1 i2 l t .none a b k xs ys) (hl : s.heap.IsList l xs) (ht : IsTup s.heap t ys) (hx : xs[k]? = some x) (hy : ys[k]? = some y)
    (hQ : ∀ h', ZipAt h' z TI TO i1 i2 l t (rawInt s.heap.objs.size) x y (k + 1) xs ys → IsPair h' s.heap.objs.size x y → (∀ c o, c ≠ z → c ≠ TO → c ≠ i1 → c ≠ i2 → s.heap.get? c = some o → h'.get? c = some o) → Q (some (.ref s.heap.objs.size)) { s with heap := h' }) :
    wpAny (model prog w) A (pyNext (.ref z)) Q E s := by
  have hT : s.TypeIs (.ref z) "zip" := ⟨_, Z.z, rfl⟩
  unfold pyNext
  exact wpAny_bind (wpAny_attempt (wpAny_callSpecial?_slot (name := Str.ofString "__next__") hT F.slot_zip_next
    (wpAny_call_entry F.slot_zip_next hT F.entry_zip_next (zipT_item D Z hl ht hx hy fun h' a1 a2 a3 => wpAny_pure (hQ h' a1 a2 a3)) (F.args_zip_next_1 _))))
theorem nextZip_end {z TI TO i1 i2 l t : Addr} {k : Nat} {xs ys : Array Value} {a b : Value} {Q : Option Value → Shared → Prop} (hh : A.handled = none) (D : ZipApart z TI TO i1 i2 l t) (Z : ZipAt s.heap z TI TO i1 i2 l t .none a b k xs ys) (hl : s.heap.IsList l xs) (ht : IsTup s.heap t ys) (hend : xs[k]? = none ∨ ys[k]? = none)
    (hQ : ∀ h', (∀ c o, c ≠ z → c ≠ TO → c ≠ i1 → c ≠ i2 → s.heap.get? c = some o → h'.get? c = some o) → Q none { s with heap := h' }) : wpAny (model prog w) A (pyNext (.ref z)) Q E s := by
  have hT : s.TypeIs (.ref z) "zip" := ⟨_, Z.z, rfl⟩
  unfold pyNext
  refine wpAny_bind (wpAny_attempt (wpAny_callSpecial?_slot (name := Str.ofString "__next__") hT F.slot_zip_next
    (wpAny_call_entry F.slot_zip_next hT F.entry_zip_next (zipT_end hh D Z hl ht hend fun h' e hk he => ?_) (F.args_zip_next_1 _))))
  exact stop_caught he (hQ _ hk)
end

abbrev ziA (h : Heap) (l : Addr) : Heap := h.push { cls := .type "list_iterator", data := .fields #[.ref l, .int 0 0] }
abbrev ziB (h : Heap) (l t : Addr) : Heap := (ziA h l).push { cls := .type "tuple_iterator", data := .fields #[.ref t, .int 0 0] }
abbrev ziC (h : Heap) (l t : Addr) : Heap := (ziB h l t).push { cls := .type "tuple", data := .seq #[.ref h.objs.size, .ref (ziA h l).objs.size] }
abbrev ziD (h : Heap) (l t : Addr) : Heap := (ziC h l t).push { cls := .type "tuple", data := .seq #[.none, .none] }
abbrev ziE (h : Heap) (l t : Addr) : Heap := (ziD h l t).push { cls := .type "zip", data := .fields #[.none, .bool false, .bool false, .ref (ziB h l t).objs.size, .ref (ziC h l t).objs.size] }
theorem meets_zipT (l t : Addr) (xs ys : Array Value) :
    Meets (Builtin.«zip.__new__» ⟨[.type "zip", .ref l, .ref t], []⟩) (fun _ R s => s.heap.IsList l xs ∧ IsTup s.heap t ys ∧ R (.ok (.ret (.ref (ziD s.heap l t).objs.size))) { s with heap := ziE s.heap l t }) :=
  .of_wp fun prog w A R s h => by
    obtain ⟨hp, g, d, tk, os⟩ := s; obtain ⟨hl1, hl2, h⟩ := h
    have hsub := sub_zip
    have hL1 : Heap.IsList (Shared.heap ⟨hp, g, d, tk, os⟩) l xs := hl1
    have hL2 : IsTup (Shared.heap ⟨hp.push { cls := .type "list_iterator", data := .fields #[.ref l, .int 0 0] }, g, d, tk, os⟩) t ys := let ⟨o, ho, r⟩ := hl2; ⟨o, Heap.get?_push_of_some _ ho, r⟩
    wp_walk using wpAny_pyIter_list hL1, iter_tuple hL2
    exact ⟨_, rfl, h⟩
abbrev zO (f0 : Value) (TI TO : Addr) : Obj := { cls := .type "zip", dict := none, data := .fields #[f0, .bool false, .bool false, .ref TI, .ref TO], slots := #[] }
abbrev pO (a b : Value) : Obj := { cls := .type "tuple", data := .seq #[a, b] }
def ZipJ (z TI TO i1 i2 l t : Addr) (i : Nat) (js : List (Addr × Obj)) : Prop := ∃ a b o1 o2, js = [(z, zO .none TI TO), (TO, pO a b), (i1, o1), (i2, o2), (TI, pO (.ref i1) (.ref i2))] ∧
  (o1.cls = .type "list_iterator" ∧ o1.data = .fields #[.ref l, .int i 0]) ∧ o2.cls = .type "tuple_iterator" ∧ o2.data = .fields #[.ref t, .int i 0]
theorem zip_apart (n l t : Nat) (hl : l < n) (ht : t < n) : ZipApart (n + 4) (n + 2) (n + 3) n (n + 1) l t := by
  constructor <;> (refine fun e => ?_; have e : (_ : Nat) = _ := e; omega)
theorem itrZip {d : Wd} {A : Around} {elts : List Expr} {k : Nat} {tp : Pos} {z TI TO i1 i2 l t : Addr} {xs ys : Array Value} {gB : Heap} (hh : A.handled = none) (D : ZipApart z TI TO i1 i2 l t) (hl : gB.IsList l xs) (ht : IsTup gB t ys) :
    Itr d A (.Tuple elts k tp) z (min xs.size ys.size) gB (fun i g v => ∃ T x y, v = .ref T ∧ IsTup g T #[x, y] ∧ xs[i]? = some x ∧ ys[i]? = some y) (ZipJ z TI TO i1 i2 l t) where
  next := by
    rintro f g m js r s i Q Q' E rfl hle hi ⟨a, b, o1, o2, rfl, ⟨c1, d1⟩, c2, d2⟩ F hX hQ
    have h0 := F.own (z, _) (.head _)
    have h1 := F.own (TO, _) (.tail _ (.head _))
    have h2 := F.own (i1, o1) (.tail _ (.tail _ (.head _)))
    have h3 := F.own (i2, o2) (.tail _ (.tail _ (.tail _ (.head _))))
    have h4 := F.own (TI, _) (.tail _ (.tail _ (.tail _ (.tail _ (.head _)))))
    have hx : xs[i]? = some xs[i] := by simp
    have hy : ys[i]? = some ys[i] := by simp
    refine nextZip_item D ⟨h0.1, h4.1, h1.1, ⟨o1, h2.1, c1, d1⟩, ⟨o2, h3.1, c2, d2⟩⟩ (IsList_le hl (hle.trans F.sub)) (ht.keeps (hle.trans F.sub)) hx hy fun h' Z hT hk => ?_
    dsimp only
    refine wpAny_letOwnedTupleGo_zip Z.z fun h2' hz2 hs2 => ?_
    have hs2' : Heap.SameBut z h' h2' := hs2
    obtain ⟨p1, e1, pc1, pd1⟩ := Z.i1
    obtain ⟨p2, e2, pc2, pd2⟩ := Z.i2
    have ex := hs2'.extBut
    have F2 := F.ownsExt (h' := h2') (t := s.toks) (js' := [(z, zO .none TI TO), (TO, pO xs[i] ys[i]), (i1, p1), (i2, p2), (TI, pO (.ref i1) (.ref i2))]) hX rfl (fun p hp => by
      simp only [List.mem_cons, List.not_mem_nil, or_false] at hp
      rcases hp with rfl | rfl | rfl | rfl | rfl
      · exact ⟨hz2, rfl⟩
      · exact ⟨ex _ _ D.TOz Z.TO, rfl⟩
      · exact ⟨ex _ _ D.i1z e1, fields_ord pc1 pd1 (by simp)⟩
      · exact ⟨ex _ _ D.i2z e2, fields_ord pc2 pd2 (by simp)⟩
      · exact ⟨ex _ _ D.TIz Z.TI, rfl⟩) fun b ob hb e => by
        simp only [List.map_cons, List.map_nil, List.mem_cons, List.not_mem_nil, or_false, not_or] at hb
        exact ex _ _ hb.1 (hk b ob hb.1 hb.2.1 hb.2.2.1 hb.2.2.2.1 e)
    have hne : s.heap.objs.size ≠ z := Nat.ne_of_gt (Heap.lt_size h0.1)
    obtain ⟨g', l1, k1, F3⟩ := F2.learnNew (s₀ := s) ⟨g, m, _, F, rfl⟩ (ex _ _ hne hT) (Nat.le_refl _) rfl
    exact hQ _ g' _ _ l1 ⟨_, _, _, rfl, ⟨_, k1, rfl, _, rfl⟩, hx, hy⟩ ⟨xs[i], ys[i], p1, p2, rfl, ⟨pc1, pd1⟩, pc2, pd2⟩ rfl F3
  done := by
    rintro f g m js r s Q Q' E rfl hle ⟨a, b, o1, o2, rfl, ⟨c1, d1⟩, c2, d2⟩ F hX hQ
    have h0 := F.own (z, _) (.head _)
    have h1 := F.own (TO, _) (.tail _ (.head _))
    have h2 := F.own (i1, o1) (.tail _ (.tail _ (.head _)))
    have h3 := F.own (i2, o2) (.tail _ (.tail _ (.tail _ (.head _))))
    have h4 := F.own (TI, _) (.tail _ (.tail _ (.tail _ (.tail _ (.head _)))))
    refine nextZip_end hh D ⟨h0.1, h4.1, h1.1, ⟨o1, h2.1, c1, d1⟩, ⟨o2, h3.1, c2, d2⟩⟩ (IsList_le hl (hle.trans F.sub)) (ht.keeps (hle.trans F.sub)) ?_ fun h' hk => ?_
    · rw [Array.getElem?_eq_none_iff, Array.getElem?_eq_none_iff]
      omega
    · exact hQ _ (F.goneExt (t := s.toks) hX fun b ob hb e => by
        simp only [List.map_cons, List.map_nil, List.mem_cons, List.not_mem_nil, or_false, not_or] at hb
        exact hk b ob hb.1 hb.2.1 hb.2.2.1 hb.2.2.2.1 e)
  self := by
    rintro f g m js r s i Q E rfl hle ⟨a, b, o1, o2, rfl, _⟩ F hQ
    exact wpAny_pyIter_zip (F.own (z, _) (.head _)).1 hQ

section
variable {c : Fx} {g : Heap} {m : Str → Option Value} {r : List (Addr × Obj)} {s : Shared} {A : Around} {E : Value → Shared → Prop}
theorem callZip {l t : Addr} {xs ys : Array Value} {Q : Value → Shared → Prop} (F : St c g m r s) (hh : A.handled = none) (hl : g.IsList l xs) (ht : IsTup g t ys)
    (h : ∀ it s', (∀ elts k tp, Rdy c A (.Tuple elts k tp) g (min xs.size ys.size) (fun i g v => ∃ T x y, v = .ref T ∧ IsTup g T #[x, y] ∧ xs[i]? = some x ∧ ys[i]? = some y) g m r it s') → Q it s') : wpAny (model c.prog c.w) A (call (.type "zip") [.ref l, .ref t]) Q E s := by
  refine callType_new PySem.F.called_zip (by decide) (PySem.F.typeCall_zip_2 _ _) (PySem.F.newCall_zip_2 _ _) (fun obj => PySem.F.args_object_init_3 obj _ _) PySem.F.entry_zip_new (meets_zipT l t xs ys) ⟨IsList_le hl F.sub, ht.keeps F.sub, ?_⟩
  have z1 : (ziA s.heap l).objs.size = s.heap.objs.size + 1 := Heap.size_push ..
  have z2 : (ziB s.heap l t).objs.size = s.heap.objs.size + 2 := by rw [Heap.size_push, z1]
  have z3 : (ziC s.heap l t).objs.size = s.heap.objs.size + 3 := by rw [Heap.size_push, z2]
  have z4 : (ziD s.heap l t).objs.size = s.heap.objs.size + 4 := by rw [Heap.size_push, z3]
  have z5 : (ziE s.heap l t).objs.size = s.heap.objs.size + 5 := by rw [Heap.size_push, z4]
  have g5 : (ziE s.heap l t).get? (ziD s.heap l t).objs.size = some _ := Heap.get?_push_size _ rfl
  have g4 : (ziE s.heap l t).get? (ziC s.heap l t).objs.size = some _ := Heap.get?_push_of_some _ (Heap.get?_push_size _ rfl)
  have g3 : (ziE s.heap l t).get? (ziB s.heap l t).objs.size = some _ := Heap.get?_push_of_some _ (Heap.get?_push_of_some _ (Heap.get?_push_size _ rfl))
  have g2 : (ziE s.heap l t).get? (ziA s.heap l).objs.size = some _ := Heap.get?_push_of_some _ (Heap.get?_push_of_some _ (Heap.get?_push_of_some _ (Heap.get?_push_size _ rfl)))
  have g1 : (ziE s.heap l t).get? s.heap.objs.size = some _ := Heap.get?_push_of_some _ (Heap.get?_push_of_some _ (Heap.get?_push_of_some _ (Heap.get?_push_of_some _ (Heap.get?_push_size _ rfl))))
  have k5 : Le s.heap (ziE s.heap l t) := fun b o e => Heap.get?_push_of_some _ (Heap.get?_push_of_some _ (Heap.get?_push_of_some _ (Heap.get?_push_of_some _ (Heap.get?_push_of_some _ e))))
  rw [z2, z3, z4] at g5
  rw [z1, z2] at g3
  rw [z3] at g4
  rw [z1] at g2
  have hll : l < s.heap.objs.size := by obtain ⟨o, ho, _⟩ := IsList_le hl F.sub; exact Heap.lt_size ho
  have htl : t < s.heap.objs.size := by obtain ⟨o, ho, _⟩ := ht.keeps F.sub; exact Heap.lt_size ho
  generalize ziE s.heap l t = h' at *
  rw [z4]
  clear z1 z2 z3 z4
  refine ⟨⟨_, g5, rfl⟩, h _ _ fun elts k tp => ?_⟩
  refine rdyN (t := s.toks) F (itrZip (i1 := s.heap.objs.size) (i2 := s.heap.objs.size + 1) (TI := s.heap.objs.size + 2) (TO := s.heap.objs.size + 3) hh ?_ hl ht) ⟨.none, .none, { cls := .type "list_iterator", data := .fields #[.ref l, .int 0 0] }, { cls := .type "tuple_iterator", data := .fields #[.ref t, .int 0 0] }, rfl, ⟨rfl, rfl⟩, rfl, rfl⟩ k5 (by omega) (fun p hp => ?_) (by simp) (Le.refl _)
  · exact zip_apart _ _ _ hll htl
  · simp only [List.mem_cons, List.not_mem_nil, or_false] at hp
    rcases hp with rfl | rfl | rfl | rfl | rfl
    · exact ⟨g5, rfl, by omega⟩
    · exact ⟨g4, rfl, by omega⟩
    · exact ⟨g1, rfl, Nat.le_refl _⟩
    · exact ⟨g2, rfl, by omega⟩
    · exact ⟨g3, rfl, by omega⟩
end
theorem fillHd : Mine.hd.heap_39 = Mine.hd.heap_39 ∧ PySem.Challenge.rw_vc0015_01 = PySem.Challenge.rw_vc0015_01 := by
  k_fill
  exact ⟨rfl, rfl⟩
/-! local lines for the walk -/
local macro_rules | `(tactic| walk_at "x1") => `(tactic| with_reducible refine wpAny_execs_cons ?_)
local macro_rules | `(tactic| walk_at "x0") => `(tactic| with_reducible refine wpAny_execs_nil ?_)
local macro_rules | `(tactic| walk_at "xif") => `(tactic| with_reducible refine wpAny_If ?_)
local macro_rules | `(tactic| walk_at "xret") => `(tactic| with_reducible refine wpAny_Return_some ?_)
local macro_rules | `(tactic| walk_at "xcon") => `(tactic| with_reducible refine wpAny_Continue ?_)
local macro_rules | `(tactic| walk_at "xan") => `(tactic| ((with_reducible refine' x_asgN ?h ?hs); (case hs => rfl)))
local macro_rules | `(tactic| walk_at "xaa") => `(tactic| ((with_reducible refine' x_asgA ?h ?hs); (case hs => rfl)))
local macro_rules | `(tactic| walk_at "xas") => `(tactic| ((with_reducible refine' x_asgS ?h ?hs); (case hs => rfl)))
local macro_rules | `(tactic| walk_at "xat") => `(tactic| ((with_reducible refine' x_asgT ?h ?hs ?hw); (case hs => rfl); (case hw => rfl)))
local macro_rules | `(tactic| walk_at "xex") => `(tactic| ((with_reducible refine' x_expr ?h ?hi ?hs); (case hi => exact interactive_no (by assumption) rfl); (case hs => rfl)))
local macro_rules | `(tactic| walk_at "tc") => `(tactic| ((with_reducible refine' t_cmp1 ?h ?hm); (case hm => rfl)))
local macro_rules | `(tactic| walk_at "ta") => `(tactic| with_reducible refine isTrue_and ?_)
local macro_rules | `(tactic| walk_at "to") => `(tactic| with_reducible refine isTrue_or ?_)
local macro_rules | `(tactic| walk_at "tn") => `(tactic| with_reducible refine isTrue_not ?_)
local macro_rules | `(tactic| walk_at "ta0") => `(tactic| with_reducible refine isTrue_and_nil ?_)
local macro_rules | `(tactic| walk_at "to0") => `(tactic| with_reducible refine isTrue_or_nil ?_)
local macro_rules | `(tactic| walk_at "tif") => `(tactic| with_reducible refine isTrue_IfExp ?_)
local macro_rules | `(tactic| walk_at "tp") => `(tactic| ((with_reducible refine' t_plain ?h ?he); (case he => rfl)))
local macro_rules | `(tactic| walk_at "ec1") => `(tactic| ((with_reducible refine' e_cmp1 ?h ?hm); (case hm => rfl)))
local macro_rules | `(tactic| walk_at "eb") => `(tactic| with_reducible refine wpAny_BinOp ?_)
local macro_rules | `(tactic| walk_at "eu") => `(tactic| with_reducible refine wpAny_UnaryOp ?_)
local macro_rules | `(tactic| walk_at "ei") => `(tactic| with_reducible refine wpAny_IfExp ?_)
local macro_rules | `(tactic| walk_at "eand") => `(tactic| with_reducible refine BoolOp_and ?_)
local macro_rules | `(tactic| walk_at "eor") => `(tactic| with_reducible refine BoolOp_or ?_)
local macro_rules | `(tactic| walk_at "eo1") => `(tactic| with_reducible refine BoolOp_one ?_)
local macro_rules | `(tactic| walk_at "et") => `(tactic| with_reducible refine Tuple_ ?_)
local macro_rules | `(tactic| walk_at "el") => `(tactic| with_reducible refine List_ ?_)
local macro_rules | `(tactic| walk_at "es") => `(tactic| with_reducible refine Subscript_ ?_)
local macro_rules | `(tactic| walk_at "s1") => `(tactic| ((with_reducible refine' sp_cons ?h ?he); (case he => rfl)))
local macro_rules | `(tactic| walk_at "s0") => `(tactic| with_reducible refine sp_nil ?_)
local macro_rules | `(tactic| walk_at "em") => `(tactic| ((with_reducible refine' e_mcall ?h ?he); (case he => rfl)))
local macro_rules | `(tactic| walk_at "ec") => `(tactic| ((with_reducible refine' e_call ?h ?he); (case he => rfl)))
local macro_rules | `(tactic| walk_at "cw") => `(tactic| ((with_reducible refine' c_any ?h ?hp); (case hp => rfl)))
local macro_rules | `(tactic| walk_at "a0") => `(tactic| with_reducible refine ea_nil ?_)
local macro_rules | `(tactic| walk_at "a1") => `(tactic| ((with_reducible refine' ea_pos ?h ?he); (case he => rfl)))
local macro_rules | `(tactic| walk_at "a2") => `(tactic| ((with_reducible refine' ea_kw ?h ?ha ?hn); (case ha => rfl); (case hn => rfl)))
local macro_rules | `(tactic| walk_at "a3") => `(tactic| ((with_reducible refine' ea_both ?h ?he ?ha ?hn); (case he => rfl); (case ha => rfl); (case hn => rfl)))
local macro_rules | `(tactic| walk_at "w1") => `(tactic| with_reducible refine kw_cons ?_)
local macro_rules | `(tactic| walk_at "w0") => `(tactic| with_reducible refine kw_nil ?_)
local macro_rules | `(tactic| walk_at "ea") => `(tactic| ((with_reducible refine' e_attr ?h ?he); (case he => rfl)))
local macro_rules | `(tactic| walk_at "io") => `(tactic| ((with_reducible show wpAny _ _ (assignInOrder _ _) _ _ _); first | refine io_cons ?_ | refine io_nil ?_))
local macro_rules | `(tactic| walk_at "as1") => `(tactic| with_reducible refine as_name ?_)
local macro_rules | `(tactic| walk_at "as2") => `(tactic| with_reducible refine as_attr ?_)
local macro_rules | `(tactic| walk_at "bn") => `(tactic| with_reducible refine bn ?_)
local macro_rules | `(tactic| walk_at "tb") => `(tactic| with_reducible refine t_bool ?_)
local macro_rules | `(tactic| walk_at "t0") => `(tactic| with_reducible refine t_none ?_)
local macro_rules | `(tactic| walk_at "kb") => `(tactic| with_reducible refine wpAny_Constant_bool ?_)
local macro_rules | `(tactic| walk_at "kn") => `(tactic| with_reducible refine wpAny_Constant_none ?_)
local macro_rules | `(tactic| walk_at "nL") => `(tactic| ((with_reducible refine' nmL ?En ?F ?hv ?_ ?hk ?hx ?hd); (case F => assumption); (case En => assumption); (case hx => rfl); (case hv => first | rfl | assumption); (case hk => rfl); (case hd => decide)))
local macro_rules | `(tactic| walk_at "nG") => `(tactic| ((with_reducible refine' nmG ?hB ?En ?F ?hv ?_ ?hk ?hx ?hd); (case F => assumption); (case En => assumption); (case hx => rfl); (case hB => assumption); (case hv => (rw [Good.K (by assumption)]; k_is)); (case hk => rfl); (case hd => decide)))
local macro_rules | `(tactic| walk_at "nB") => `(tactic| ((with_reducible refine' nmB ?hB ?En ?F ?hv ?hb ?hn ?_ ?hk ?hx ?hd); (case F => assumption); (case En => assumption); (case hx => rfl); (case hB => assumption); (case hv => (rw [Good.K (by assumption)]; k_is)); (case hb => boot_by_name); (case hn => decide); (case hk => rfl); (case hd => decide)))
local macro_rules | `(tactic| walk_at "is1") => `(tactic| ((with_reducible refine' is_t ?h ?e ?_); (case h => rfl); (case e => rfl)))
local macro_rules | `(tactic| walk_at "is2") => `(tactic| ((with_reducible refine' is_f ?h ?e ?_); (case h => rfl); (case e => rfl)))
local macro_rules | `(tactic| walk_at "is3") => `(tactic| ((with_reducible refine' isn_t ?h ?e ?_); (case h => rfl); (case e => rfl)))
local macro_rules | `(tactic| walk_at "is4") => `(tactic| ((with_reducible refine' isn_f ?h ?e ?_); (case h => rfl); (case e => rfl)))
local macro_rules | `(tactic| walk_at "i1") => `(tactic| ((with_reducible refine' if_tb ?e ?_); (case e => rfl)))
local macro_rules | `(tactic| walk_at "i0") => `(tactic| ((with_reducible refine' if_fb ?e ?_); (case e => rfl)))
local macro_rules | `(tactic| walk_at "d") => `(tactic| dsimp only)
local macro_rules | `(tactic| walk_at "le") => `(tactic| (first | assumption | exact Le.refl _ | (refine Le.trans ?_ (by assumption); walk_at "le")))
local macro_rules | `(tactic| walk_at "ko") => `(tactic| first | refine ⟨keepOk_val (f := Value.type _) rfl, ?_⟩ | refine ⟨keepOk_val (f := Value.builtin _) rfl, ?_⟩ | refine ⟨koG (by assumption) (by first | assumption | exact (by walk_at "le" : Le _ _) _ _ (by assumption)) rfl, ?_⟩ | refine ⟨koM (by assumption) (Good.K (by assumption)) (by assumption) (by assumption) (by k_is), ?_⟩ | refine ⟨koK (f := Value.ref _) (by assumption) (Good.K (by assumption)) (by assumption) (by kernel_rfl), ?_⟩)
local macro_rules | `(tactic| walk_at "ts0") => `(tactic| with_reducible refine wpAny_tests_nil ?_)
local macro_rules | `(tactic| walk_at "ts1") => `(tactic| with_reducible refine wpAny_tests_one ?_)
local macro_rules | `(tactic| walk_at "stt") => `(tactic| ((with_reducible refine' sub_tup ?F ?hl ?h1 ?h2 ?hj ?hx ?hs ?_); (case F => assumption); (case hl => first | assumption | exact IsTup.keeps (by assumption) (by walk_at "le")); (case h1 => decide); (case h2 => decide); (case hj => rfl); (case hx => rfl); (case hs => rfl)))
local macro_rules | `(tactic| walk_at "eqI") => `(tactic| with_reducible refine op_eqI ?_)
local macro_rules | `(tactic| walk_at "cab") => `(tactic| with_reducible refine callable_bool ?_)
local macro_rules | `(tactic| walk_at "ep") => `(tactic| with_reducible first | refine ep1 ?_ | refine ep0 ?_)
local macro_rules | `(tactic| walk_at "slc") => `(tactic| ((with_reducible refine' sliceL ?h ?ht); (case ht => (intro _ _; rfl))))
local macro_rules | `(tactic| walk_at "ev") => `(tactic| with_reducible first | refine ev0 ?_ | refine ev1 ?_)
local macro_rules | `(tactic| walk_at "lcl") => `(tactic| ((with_reducible refine' lcE1 (cl := []) ?F ?hp ?hw ?En ?hc ?h1 ?h2 ?h3 ?h4 ?_); (case F => assumption); (case hp => rfl); (case hw => rfl); (case En => assumption); (case hc => (rw [clos_eq (by assumption)]; kernel_rfl)); (case h1 => decide); (case h2 => rfl); (case h3 => decide); (case h4 => exact fun _ => rfl)))
local macro_rules | `(tactic| walk_at "lcx") => `(tactic| ((with_reducible refine' lcEX1 ?F ?hp ?hw ?En ?hc ?h2 ?hnd ?h3 ?h4 ?_); (case F => assumption); (case hp => rfl); (case hw => rfl); (case En => assumption); (case h2 => rfl); (case hnd => decide); (case h3 => decide); (case h4 => exact fun _ => rfl)))
local macro_rules | `(tactic| walk_at "slv") => `(tactic| with_reducible refine sliceV ?_)
local macro_rules | `(tactic| walk_at "scl") => `(tactic| ((with_reducible refine' scE (cl := []) ?F ?hp ?hw ?En ?hc ?h1 ?h2 ?h3 ?h4 ?_); (case F => assumption); (case hp => rfl); (case hw => rfl); (case En => assumption); (case hc => (rw [clos_eq (by assumption)]; kernel_rfl)); (case h1 => decide); (case h2 => rfl); (case h3 => decide); (case h4 => exact fun _ => rfl)))
local macro_rules | `(tactic| walk_at "dcl") => `(tactic| ((with_reducible refine' dcE (cl := []) ?hB ?F ?hp ?hw ?En ?hc ?h1 ?h2 ?h3 ?h4 ?_); (case hB => assumption); (case F => assumption); (case hp => rfl); (case hw => rfl); (case En => assumption); (case hc => (rw [clos_eq (by assumption)]; kernel_rfl)); (case h1 => decide); (case h2 => rfl); (case h3 => decide); (case h4 => exact fun _ => rfl)))
local macro_rules | `(tactic| walk_at "emS") => `(tactic| with_reducible refine emS ?_)
local macro_rules | `(tactic| walk_at "emD") => `(tactic| with_reducible refine emD ?_)
local macro_rules | `(tactic| walk_at "not") => `(tactic| with_reducible refine not_of ?_)
local macro_rules | `(tactic| walk_at "ks") => do
  let F := Lean.mkIdent `F
  `(tactic| ((with_reducible refine' K_str ?F ?_); (case F => assumption); intro _ _ $F:ident))
local macro_rules | `(tactic| walk_at "ki") => do
  let F := Lean.mkIdent `F
  `(tactic| ((with_reducible refine' K_int ?F ?_); (case F => assumption); intro _ _ $F:ident))
local macro_rules | `(tactic| walk_at "l") => do
  let F := Lean.mkIdent `F
  `(tactic| ((with_reducible refine' stL ?En ?F ?_ ?hk ?hx); (case F => assumption); (case En => assumption); (case hk => rfl); (case hx => rfl); intro _ $F:ident))
local macro_rules | `(tactic| walk_at "tup") => do
  let F := Lean.mkIdent `F
  let hle := Lean.mkIdent `hle
  let ht := Lean.mkIdent `ht
  let hnew := Lean.mkIdent `hnew
  `(tactic| ((with_reducible refine' newTupK ?F ?_ ?z); (case F => assumption); (case z => exact Nat.le_of_ble_eq_true rfl); intro _ _ _ $hle:ident $ht:ident $hnew:ident $F:ident))
local macro_rules | `(tactic| walk_at "lst") => do
  let F := Lean.mkIdent `F
  let hle := Lean.mkIdent `hle
  let ht := Lean.mkIdent `ht
  let hnew := Lean.mkIdent `hnew
  `(tactic| ((with_reducible refine' newListK ?F ?_ ?z); (case F => assumption); (case z => exact Nat.le_of_ble_eq_true rfl); intro _ _ _ $hle:ident $ht:ident $hnew:ident $F:ident))
local macro_rules | `(tactic| walk_at "un") => do
  let F := Lean.mkIdent `F
  `(tactic| ((with_reducible refine' unp ?F ?H ?ht ?hn ?_); (case F => assumption); (case H => first | assumption | exact hnd0 (by assumption)); (case ht => assumption); (case hn => rfl); intro _ $F:ident))
local macro_rules | `(tactic| walk_at "sa") => do
  let F := Lean.mkIdent `F
  let D := Lean.mkIdent `D
  `(tactic| ((with_reducible refine' sa ?hB ?hK ?F ?hx ?D ?hk ?hf ?_); (case hB => assumption); (case hK => exact Good.K (by assumption)); (case F => assumption); (case hx => first | exact (Wo.own (St.toWo (by assumption)) _ (List.Mem.tail _ (List.Mem.head _))).1 | exact Wo.sub (St.toWo (by assumption)) _ _ (by assumption)); (case D => assumption); (case hk => decide); (case hf => kernel_rfl); intro _ _ $D:ident $F:ident))
local macro_rules | `(tactic| walk_at "ga") => do
  let F := Lean.mkIdent `F
  `(tactic| ((with_reducible refine' ga ?hB ?hK ?F ?I ?hl ?hf ?hv ?_); (case hB => assumption); (case hK => exact Good.K (by assumption)); (case F => assumption); (case I => first | assumption | exact InstF.le (by assumption) (by walk_at "le")); (case hl => rfl); (case hf => kernel_rfl); (case hv => first | rfl | assumption); intro _ $F:ident))
local macro_rules | `(tactic| walk_at "asT") => do
  let F := Lean.mkIdent `F
  `(tactic| ((with_reducible refine' as_tup ?F ?H ?ht ?hn ?hs ?_); (case F => assumption); (case H => first | assumption | exact hnd0 (by assumption)); (case ht => assumption); (case hn => rfl); (case hs => rfl); intro _ $F:ident))
local macro_rules | `(tactic| walk_at "nC") => do
  `(tactic| ((with_reducible refine' nmC ?En ?F ?hc ?hv ?_ ?hk ?hx ?hd); (case F => assumption); (case En => assumption); (case hx => rfl); (case hc => rfl); (case hv => first | assumption | exact Heap.IsCell.keeps (by assumption) (by walk_at "le")); (case hk => rfl); (case hd => decide)))
local macro_rules | `(tactic| walk_at "nF") => do
  `(tactic| ((with_reducible refine' nmF ?En ?F ?hc ?hv ?_ ?hk ?hx ?hn ?hd); (case F => assumption); (case En => assumption); (case hx => rfl); (case hc => rfl); (case hv => first | assumption | exact Heap.IsCell.keeps (by assumption) (by walk_at "le")); (case hk => rfl); (case hn => decide); (case hd => decide)))
local macro_rules | `(tactic| walk_at "subD") => do
  let F := Lean.mkIdent `F
  `(tactic| ((with_reducible refine' subD ?F ?hd ?hv ?hs ?_); (case F => assumption); (case hd => (refine' DK.here ?dx ?dk ?dF; (case dF => assumption); (case dx => assumption); (case dk => walk_at "le"))); (case hv => rfl); (case hs => rfl); intro _ $F:ident))
local macro_rules | `(tactic| walk_at "dp") => do
  let F := Lean.mkIdent `F
  let PD := Lean.mkIdent `PD
  let pd := Lean.mkIdent `pd
  let hPm := Lean.mkIdent `hPm
  let hpd := Lean.mkIdent `hpd
  `(tactic| ((with_reducible refine' dictP ?hB ?F ?h1 ?h2 ?h3 ?h4 ?_); (case hB => assumption); (case F => assumption); (case h1 => rfl); (case h2 => rfl); (case h3 => exact List.cons_ne_nil _ _); (case h4 => exact Nat.le_of_ble_eq_true rfl); intro $PD:ident $pd:ident _ $hPm:ident $hpd:ident _ $F:ident))
local macro_rules | `(tactic| walk_at "saO") => do
  let F := Lean.mkIdent `F
  let D := Lean.mkIdent `D
  `(tactic| ((with_reducible refine' saO ?hB ?hK ?F ?hx ?D ?hk ?hf ?hl ?_); (case hB => assumption); (case hK => exact Good.K (by assumption)); (case F => assumption); (case D => assumption); (case hl => rfl); (case hx => first | exact (Wo.own (St.toWo (by assumption)) _ (List.Mem.tail _ (List.Mem.head _))).1 | exact Wo.sub (St.toWo (by assumption)) _ _ (by assumption)); (case hk => decide); (case hf => kernel_rfl); intro _ _ $D:ident $F:ident))
local macro_rules | `(tactic| walk_at "xatE") => do
  let hE := Lean.mkIdent `hE
  `(tactic| ((with_reducible refine' x_asgT ?h ?hs ?hw); (case hs => rfl); (case hw => (rw [$hE:ident]; rfl))))
local macro_rules | `(tactic| walk_at "gaO") => do
  let F := Lean.mkIdent `F
  `(tactic| ((with_reducible refine' gaO ?hB ?hK ?F ?hx ?D ?hl ?hf ?hv ?_); (case hB => assumption); (case hK => exact Good.K (by assumption)); (case F => assumption); (case D => assumption); (case hl => rfl); (case hx => first | exact (Wo.own (St.toWo (by assumption)) _ (List.Mem.tail _ (List.Mem.head _))).1 | exact Wo.sub (St.toWo (by assumption)) _ _ (by assumption)); (case hf => kernel_rfl); (case hv => first | rfl | assumption); intro _ $F:ident))
local macro_rules | `(tactic| walk_at "xanE") => do
  let hE := Lean.mkIdent `hE
  `(tactic| ((with_reducible refine' x_asgN ?h ?hs); (case hs => (rw [$hE:ident]; rfl))))
local macro_rules | `(tactic| walk_at "isF") => do
  let F := Lean.mkIdent `F
  `(tactic| ((with_reducible refine' isiF ?hB ?hK ?F ?I ?e ?hp ?_); (case hB => assumption); (case hK => exact Good.K (by assumption)); (case F => assumption); (case I => first | assumption | exact InstF.le (by assumption) (by walk_at "le")); (case e => kernel_rfl); (case hp => kernel_rfl); intro _ $F:ident))
local macro_rules | `(tactic| walk_at "gmAdd") => do
  `(tactic| ((with_reducible refine' gmAdd ?hS ?ho ?_); (case hS => assumption); (case ho => exact (Wo.own (St.toWo (by assumption)) _ (by first | exact List.Mem.head _ | exact List.Mem.tail _ (List.Mem.head _) | exact List.Mem.tail _ (List.Mem.tail _ (List.Mem.head _)))).1)))
local macro_rules | `(tactic| walk_at "lal") => do
  let hE := Lean.mkIdent `hE
  `(tactic| ((with_reducible refine' lcAL (cl := []) ?hsw ?En ?hc ?h1 ?h2 ?h3 ?h4 ?hk ?hx ?_); (case hsw => (rw [$hE:ident]; rfl)); (case En => assumption); (case hc => (rw [clos_eq (by assumption)]; kernel_rfl)); (case h1 => decide); (case h2 => rfl); (case h3 => decide); (case h4 => exact fun _ => rfl); (case hk => rfl); (case hx => rfl)))
local macro_rules | `(tactic| walk_at "gm8") => do
  `(tactic| ((with_reducible refine' gm (f := 308) ?hB ?hK ?F ?I ?hl ?hg ?hf ?ht ?_); (case hB => assumption); (case hK => exact Good.K (by assumption)); (case F => assumption); (case I => first | assumption | exact InstF.le (by assumption) (by walk_at "le")); (case hl => rfl); (case hg => kernel_rfl); (case hf => k_is); (case ht => k_is)))
local macro_rules | `(tactic| walk_at "dal") => do
  let hE := Lean.mkIdent `hE
  `(tactic| ((with_reducible refine' dcAL (cl := []) ?hB ?hsw ?En ?hc ?h1 ?h2 ?h3 ?h4 ?hk ?hx ?_); (case hB => assumption); (case hsw => (rw [$hE:ident]; rfl)); (case En => assumption); (case hc => (rw [clos_eq (by assumption)]; kernel_rfl)); (case h1 => decide); (case h2 => rfl); (case h3 => decide); (case h4 => exact fun _ => rfl); (case hk => rfl); (case hx => rfl)))
/-! Det -/
theorem det_spec {d : Wd} (G : Good d) {g : Heap} : Calm d 5 (.ref 243) [.none, .none, .none, .bool true] [] g (fun v g' => ∃ t, v = .ref t ∧ IsTup g' t #[.bool true, .none, .bool true, .none]) := by
  refine calmK (n := 4) (binds := [("cmp", .none), ("eq", .none), ("order", .none), ("default_eq", .bool true)]) (bs := [("default_eq", .bool true), ("order", .none), ("eq", .none), ("cmp", .none)]) G.K G.base (by k_is) (by k_is) (binds_eq (by kernel_rfl)) rfl (by decide) rfl rfl rfl rfl ?_
  intro f s s₁ env A hfd hR hh hfe hfg hfX En hE F
  subst hfd
  have hB := G.base
  walk_at "x1"
  walk_at "xif"
  walk_at "ta"
  walk_at "tc"
  walk_at "nL"
  walk_at "kn"
  walk_at "is4"
  walk_at "tb"
  walk_at "i0"
  walk_at "i0"
  walk_at "x0"
  walk_at "x1"
  refine x_def rfl rfl rfl ?_
  refine' mkFn (q := qD) hB ?En F G.hqD ?hp ?hq (G.one _ G.hqD) ?hc ?_
  case En => exact En
  case hp => rfl
  case hc => rfl
  case hq => (rw [hE]; kernel_rfl)
  intro fn cv ctv doc pm g' s' hle hfn hcv hnew F
  walk_at "l"
  walk_at "x1"
  walk_at "xif"
  walk_at "tc"
  walk_at "nL"
  walk_at "kn"
  walk_at "is4"
  walk_at "tb"
  walk_at "i0"
  walk_at "x0"
  walk_at "x1"
  walk_at "xif"
  walk_at "tc"
  walk_at "nL"
  walk_at "kn"
  walk_at "is1"
  walk_at "tb"
  walk_at "i1"
  walk_at "x1"
  refine x_asgTS (names := ["eq", "eq_key"]) ?_ rfl (by rw [hE]; kernel_rfl)
  walk_at "et"
  walk_at "s1"
  walk_at "nL"
  walk_at "s1"
  walk_at "kn"
  walk_at "s0"
  walk_at "tup"
  walk_at "un"
  walk_at "io"
  walk_at "bn"
  walk_at "l"
  walk_at "io"
  walk_at "bn"
  walk_at "l"
  walk_at "io"
  walk_at "x0"
  walk_at "x1"
  walk_at "xif"
  walk_at "tc"
  walk_at "nL"
  walk_at "kn"
  walk_at "is1"
  walk_at "tb"
  walk_at "i1"
  walk_at "x1"
  refine x_asgTS (names := ["order", "order_key"]) ?_ rfl (by rw [hE]; kernel_rfl)
  walk_at "et"
  walk_at "s1"
  walk_at "nL"
  walk_at "s1"
  walk_at "nL"
  walk_at "s0"
  walk_at "tup"
  walk_at "un"
  walk_at "io"
  walk_at "bn"
  walk_at "l"
  walk_at "io"
  walk_at "bn"
  walk_at "l"
  walk_at "io"
  walk_at "x0"
  walk_at "x1"
  walk_at "xif"
  walk_at "ta"
  walk_at "tc"
  walk_at "nL"
  walk_at "kb"
  walk_at "is2"
  walk_at "tb"
  walk_at "i0"
  walk_at "i0"
  walk_at "x0"
  walk_at "x1"
  walk_at "xret"
  walk_at "et"
  walk_at "s1"
  walk_at "nL"
  walk_at "s1"
  walk_at "nL"
  walk_at "s1"
  walk_at "nL"
  walk_at "s1"
  walk_at "nL"
  walk_at "s0"
  walk_at "tup"
  walk_at "d"
  exact back F hfe hfg hfX ⟨_, rfl, ht⟩
/-! CA -/
def caF (D K : Value) : List (Str × Value) := [("alias", .none), ("on_setattr", .none), ("kw_only", K), ("init", .bool true), ("order_key", .none), ("order", .bool true), ("eq_key", .none), ("eq", .bool true), ("converter", .none), ("_validator", .none), ("_default", D)]
theorem ca_spec {d : Wd} (G : Good d) {g : Heap} {Dv K : Value} : Calm d 3 (.ref 346) [] [("default", Dv), ("validator", .none), ("init", .bool true), ("converter", .none), ("kw_only", K), ("eq", .bool true), ("eq_key", .none), ("order", .bool true), ("order_key", .none), ("on_setattr", .none), ("alias", .none)] g
    (fun v g' => ∃ a, v = .ref a ∧ InstF g' a 346 (caF Dv K)) := by
  refine calmCls (n := 1) (binds := fun x => [("self", .ref x), ("default", Dv), ("validator", .none), ("init", .bool true), ("converter", .none), ("kw_only", K), ("eq", .bool true), ("eq_key", .none), ("order", .bool true), ("order_key", .none), ("on_setattr", .none), ("alias", .none)])
    (bs := fun x => [("alias", .none), ("on_setattr", .none), ("order_key", .none), ("order", .bool true), ("eq_key", .none), ("eq", .bool true), ("kw_only", K), ("converter", .none), ("init", .bool true), ("validator", .none), ("default", Dv), ("self", .ref x)])
    G.K G.base (by k_is) (by k_is) (by k_is) (by k_is) (by k_is) (fun x => binds_eq (by kernel_rfl)) (fun x => rfl) (by decide) (fun x => rfl) rfl rfl rfl ?_
  intro f s s₁ env A x dx hfd hR hh hfe hfg hfX En hE F hnx hnd
  subst hfd
  have hB := G.base
  have D0 := DictF.empty
  walk_at "x1"
  walk_at "xaa"
  walk_at "nL"
  walk_at "nL"
  walk_at "sa"
  walk_at "x1"
  walk_at "xaa"
  walk_at "nL"
  walk_at "nL"
  walk_at "sa"
  walk_at "x1"
  walk_at "xaa"
  walk_at "nL"
  walk_at "nL"
  walk_at "sa"
  walk_at "x1"
  walk_at "xaa"
  walk_at "nL"
  walk_at "nL"
  walk_at "sa"
  walk_at "x1"
  walk_at "xaa"
  walk_at "nL"
  walk_at "nL"
  walk_at "sa"
  walk_at "x1"
  walk_at "xaa"
  walk_at "nL"
  walk_at "nL"
  walk_at "sa"
  walk_at "x1"
  walk_at "xaa"
  walk_at "nL"
  walk_at "nL"
  walk_at "sa"
  walk_at "x1"
  walk_at "xaa"
  walk_at "nL"
  walk_at "nL"
  walk_at "sa"
  walk_at "x1"
  walk_at "xaa"
  walk_at "nL"
  walk_at "nL"
  walk_at "sa"
  walk_at "x1"
  walk_at "xaa"
  walk_at "nL"
  walk_at "nL"
  walk_at "sa"
  walk_at "x1"
  walk_at "xaa"
  walk_at "nL"
  walk_at "nL"
  walk_at "sa"
  walk_at "x0"
  walk_at "d"
  exact ⟨rfl, backInst F D (by decide) hfe hfg hfX fun g' h1 h2 => ⟨x, rfl, h2.inst⟩⟩
/-! Attrib -/
theorem attrib_spec {d : Wd} (G : Good d) {g : Heap} {Dv K : Value} : Calm d 6 (.ref 78) [] [("default", Dv), ("kw_only", K)] g (fun v g' => ∃ a, v = .ref a ∧ InstF g' a 346 (caF Dv K)) := by
  refine calmK (n := 5) (binds := [("default", Dv), ("validator", .none), ("cmp", .none), ("init", .bool true), ("converter", .none), ("factory", .none), ("kw_only", K), ("eq", .none), ("order", .none), ("on_setattr", .none), ("alias", .none)])
    (bs := [("alias", .none), ("on_setattr", .none), ("order", .none), ("eq", .none), ("kw_only", K), ("factory", .none), ("converter", .none), ("init", .bool true), ("cmp", .none), ("validator", .none), ("default", Dv)])
    G.K G.base (by k_is) (by k_is) (binds_peek G.K G.base (fun S => by kernel_rfl)) rfl (by decide) rfl rfl rfl rfl ?_
  intro f s s₁ env A hfd hR hh hfe hfg hfX En hE F
  subst hfd
  have hB := G.base
  walk_at "x1"
  walk_at "xat"
  walk_at "ec"
  walk_at "nG"
  walk_at "cw"
  walk_at "a1"
  walk_at "s1"
  walk_at "nL"
  walk_at "s1"
  walk_at "nL"
  walk_at "s1"
  walk_at "nL"
  walk_at "s1"
  walk_at "kb"
  walk_at "s0"
  walk_at "ko"
  walk_at "d"
  refine Calm.use (det_spec G) F hR hh ?_
  rintro v g1 s2 hle ⟨t, rfl, ht⟩ F
  walk_at "asT"
  walk_at "io"
  walk_at "as1"
  walk_at "l"
  walk_at "io"
  walk_at "as1"
  walk_at "l"
  walk_at "io"
  walk_at "as1"
  walk_at "l"
  walk_at "io"
  walk_at "as1"
  walk_at "l"
  walk_at "io"
  walk_at "x1"
  walk_at "xif"
  walk_at "tc"
  walk_at "nL"
  walk_at "kn"
  walk_at "is4"
  walk_at "tb"
  walk_at "i0"
  walk_at "x0"
  walk_at "x1"
  walk_at "xif"
  walk_at "ta"
  walk_at "tp"
  walk_at "nL"
  walk_at "t0"
  walk_at "i0"
  walk_at "i0"
  walk_at "x0"
  walk_at "x1"
  walk_at "xif"
  walk_at "ta"
  walk_at "tp"
  walk_at "nL"
  walk_at "t0"
  walk_at "i0"
  walk_at "i0"
  walk_at "x0"
  walk_at "x1"
  walk_at "xret"
  walk_at "ec"
  walk_at "nG"
  walk_at "cw"
  walk_at "a2"
  walk_at "w1"
  walk_at "nL"
  walk_at "w1"
  walk_at "nL"
  walk_at "w1"
  walk_at "nL"
  walk_at "w1"
  walk_at "nL"
  walk_at "w1"
  walk_at "nL"
  walk_at "w1"
  walk_at "nL"
  walk_at "w1"
  walk_at "nL"
  walk_at "w1"
  walk_at "nL"
  walk_at "w1"
  walk_at "nL"
  walk_at "w1"
  walk_at "nL"
  walk_at "w1"
  walk_at "nL"
  walk_at "w0"
  walk_at "ko"
  walk_at "d"
  refine Calm.use (ca_spec G) F (hR.le (by decide)) hh ?_
  rintro v g2 s3 hle2 ⟨a, rfl, ha⟩ F
  exact back F hfe hfg hfX ⟨_, rfl, ha⟩
theorem attrib_spec2 {d : Wd} (G : Good d) {g : Heap} {K : Value} : Calm d 6 (.ref 78) [] [("kw_only", K)] g (fun v g' => ∃ a, v = .ref a ∧ InstF g' a 346 (caF (.ref 70) K)) := by
  refine calmK (n := 5) (binds := [("default", .ref 70), ("validator", .none), ("cmp", .none), ("init", .bool true), ("converter", .none), ("factory", .none), ("kw_only", K), ("eq", .none), ("order", .none), ("on_setattr", .none), ("alias", .none)])
    (bs := [("alias", .none), ("on_setattr", .none), ("order", .none), ("eq", .none), ("kw_only", K), ("factory", .none), ("converter", .none), ("init", .bool true), ("cmp", .none), ("validator", .none), ("default", .ref 70)])
    G.K G.base (by k_is) (by k_is) (binds_peek G.K G.base (fun S => by kernel_rfl)) rfl (by decide) rfl rfl rfl rfl ?_
  intro f s s₁ env A hfd hR hh hfe hfg hfX En hE F
  subst hfd
  have hB := G.base
  walk_at "x1"
  walk_at "xat"
  walk_at "ec"
  walk_at "nG"
  walk_at "cw"
  walk_at "a1"
  walk_at "s1"
  walk_at "nL"
  walk_at "s1"
  walk_at "nL"
  walk_at "s1"
  walk_at "nL"
  walk_at "s1"
  walk_at "kb"
  walk_at "s0"
  walk_at "ko"
  walk_at "d"
  refine Calm.use (det_spec G) F hR hh ?_
  rintro v g1 s2 hle ⟨t, rfl, ht⟩ F
  walk_at "asT"
  walk_at "io"
  walk_at "as1"
  walk_at "l"
  walk_at "io"
  walk_at "as1"
  walk_at "l"
  walk_at "io"
  walk_at "as1"
  walk_at "l"
  walk_at "io"
  walk_at "as1"
  walk_at "l"
  walk_at "io"
  walk_at "x1"
  walk_at "xif"
  walk_at "tc"
  walk_at "nL"
  walk_at "kn"
  walk_at "is4"
  walk_at "tb"
  walk_at "i0"
  walk_at "x0"
  walk_at "x1"
  walk_at "xif"
  walk_at "ta"
  walk_at "tp"
  walk_at "nL"
  walk_at "t0"
  walk_at "i0"
  walk_at "i0"
  walk_at "x0"
  walk_at "x1"
  walk_at "xif"
  walk_at "ta"
  walk_at "tp"
  walk_at "nL"
  walk_at "t0"
  walk_at "i0"
  walk_at "i0"
  walk_at "x0"
  walk_at "x1"
  walk_at "xret"
  walk_at "ec"
  walk_at "nG"
  walk_at "cw"
  walk_at "a2"
  walk_at "w1"
  walk_at "nL"
  walk_at "w1"
  walk_at "nL"
  walk_at "w1"
  walk_at "nL"
  walk_at "w1"
  walk_at "nL"
  walk_at "w1"
  walk_at "nL"
  walk_at "w1"
  walk_at "nL"
  walk_at "w1"
  walk_at "nL"
  walk_at "w1"
  walk_at "nL"
  walk_at "w1"
  walk_at "nL"
  walk_at "w1"
  walk_at "nL"
  walk_at "w1"
  walk_at "nL"
  walk_at "w0"
  walk_at "ko"
  walk_at "d"
  refine Calm.use (ca_spec G) F (hR.le (by decide)) hh ?_
  rintro v g2 s3 hle2 ⟨a, rfl, ha⟩ F
  exact back F hfe hfg hfX ⟨_, rfl, ha⟩
/-! Det2 -/
theorem det2_spec {d : Wd} (G : Good d) {g : Heap} : Calm d 8 (.ref 243) [.none, .bool true, .bool true, .bool true] [] g (fun v g' => ∃ t, v = .ref t ∧ IsTup g' t #[.bool true, .none, .bool true, .none]) := by
  refine calmK (n := 7) (binds := [("cmp", .none), ("eq", .bool true), ("order", .bool true), ("default_eq", .bool true)]) (bs := [("default_eq", .bool true), ("order", .bool true), ("eq", .bool true), ("cmp", .none)]) G.K G.base (by k_is) (by k_is) (binds_eq (by kernel_rfl)) rfl (by decide) rfl rfl rfl rfl ?_
  intro f s s₁ env A hfd hR hh hfe hfg hfX En hE F
  subst hfd
  have hB := G.base
  walk_at "x1"
  walk_at "xif"
  walk_at "ta"
  walk_at "tc"
  walk_at "nL"
  walk_at "kn"
  walk_at "is4"
  walk_at "tb"
  walk_at "i0"
  walk_at "i0"
  walk_at "x0"
  walk_at "x1"
  refine x_def rfl rfl rfl ?_
  refine' mkFn (q := qD) hB ?En F G.hqD ?hp ?hq (G.one _ G.hqD) ?hc ?_
  case En => exact En
  case hp => rfl
  case hc => rfl
  case hq => (rw [hE]; kernel_rfl)
  intro fn cv ctv doc pm g' s' hle hfn hcv hnew F
  have inner : ∀ g2, Le g' g2 → Calm f.toWd 3 (.ref fn) [.bool true] [] g2 (fun v g'' => ∃ t, v = .ref t ∧ IsTup g'' t #[.bool true, .none]) := by
    intro g2 hl2
    refine calmG (n := 2) (binds := [("value", .bool true)]) (bs := [("value", .bool true)]) hB (hl2 _ _ hfn) (hcv.keeps hl2) (binds_eq (by kernel_rfl)) rfl (by decide) rfl rfl rfl rfl ?_
    intro f2 s s₁ env A hfd hR hh hfe hfg hfX En hE F
    rw [← hfd]
    have hB : Base f2.toWd := by rw [hfd]; exact G.base
    have G : Good f2.toWd := by rw [hfd]; exact G
    walk_at "x1"
    walk_at "xif"
    walk_at "tp"
    walk_at "ec"
    walk_at "nB"
    walk_at "cw"
    walk_at "a1"
    walk_at "s1"
    walk_at "nL"
    walk_at "s0"
    walk_at "ko"
    walk_at "d"
    refine callable_bool ?_
    walk_at "tb"
    walk_at "i0"
    walk_at "x1"
    walk_at "xan"
    walk_at "kn"
    walk_at "l"
    walk_at "x0"
    walk_at "x1"
    walk_at "xret"
    walk_at "et"
    walk_at "s1"
    walk_at "nL"
    walk_at "s1"
    walk_at "nL"
    walk_at "s0"
    walk_at "tup"
    walk_at "d"
    exact back F hfe hfg hfX ⟨_, rfl, ht⟩
  walk_at "l"
  walk_at "x1"
  walk_at "xif"
  walk_at "tc"
  walk_at "nL"
  walk_at "kn"
  walk_at "is4"
  walk_at "tb"
  walk_at "i0"
  walk_at "x0"
  walk_at "x1"
  walk_at "xif"
  walk_at "tc"
  walk_at "nL"
  walk_at "kn"
  walk_at "is2"
  walk_at "tb"
  walk_at "i0"
  walk_at "x1"
  walk_at "xat"
  walk_at "ec"
  walk_at "nL"
  walk_at "cw"
  walk_at "a1"
  walk_at "s1"
  walk_at "nL"
  walk_at "s0"
  walk_at "ko"
  walk_at "d"
  refine Calm.use (inner _ (by walk_at "le")) F (hR.le (by decide)) hh ?_
  rintro v g1 s2 hle2 ⟨t, rfl, ht⟩ F
  walk_at "asT"
  walk_at "io"
  walk_at "as1"
  walk_at "l"
  walk_at "io"
  walk_at "as1"
  walk_at "l"
  walk_at "io"
  walk_at "x0"
  walk_at "x1"
  walk_at "xif"
  walk_at "tc"
  walk_at "nL"
  walk_at "kn"
  walk_at "is2"
  walk_at "tb"
  walk_at "i0"
  walk_at "x1"
  walk_at "xat"
  walk_at "ec"
  walk_at "nL"
  walk_at "cw"
  walk_at "a1"
  walk_at "s1"
  walk_at "nL"
  walk_at "s0"
  walk_at "ko"
  walk_at "d"
  refine Calm.use (inner _ (by walk_at "le")) F (hR.le (by decide)) hh ?_
  rintro v g1 s2 hle2 ⟨t, rfl, ht⟩ F
  walk_at "asT"
  walk_at "io"
  walk_at "as1"
  walk_at "l"
  walk_at "io"
  walk_at "as1"
  walk_at "l"
  walk_at "io"
  walk_at "x0"
  walk_at "x1"
  walk_at "xif"
  walk_at "ta"
  walk_at "tc"
  walk_at "nL"
  walk_at "kb"
  walk_at "is2"
  walk_at "tb"
  walk_at "i0"
  walk_at "i0"
  walk_at "x0"
  walk_at "x1"
  walk_at "xret"
  walk_at "et"
  walk_at "s1"
  walk_at "nL"
  walk_at "s1"
  walk_at "nL"
  walk_at "s1"
  walk_at "nL"
  walk_at "s1"
  walk_at "nL"
  walk_at "s0"
  walk_at "tup"
  walk_at "d"
  exact back F hfe hfg hfX ⟨_, rfl, ht⟩
/-! AttrI -/
def atF (nm D kw inh al ald : Value) : List (Str × Value) := [("alias_is_default", ald), ("alias", al), ("on_setattr", .none), ("inherited", inh), ("kw_only", kw), ("converter", .none), ("init", .bool true), ("order_key", .none), ("order", .bool true), ("eq_key", .none), ("eq", .bool true), ("validator", .none), ("default", D), ("name", nm)]
theorem attrA_spec {d : Wd} (G : Good d) {g : Heap} {nm Dv K : Value} : Calm d 11 (.ref 311) [nm, Dv, .none, .none, .bool true, .bool false, .none, K, .bool true, .none, .bool true, .none, .none, .none, .bool true] [] g
    (fun v g' => ∃ a, v = .ref a ∧ InstN g g' a 311 (atF nm Dv K (.bool false) .none (.bool true))) := by
  refine calmCls (n := 9) (binds := fun x => [("self", .ref x), ("name", nm), ("default", Dv), ("validator", .none), ("cmp", .none), ("init", .bool true), ("inherited", .bool false), ("converter", .none), ("kw_only", K), ("eq", .bool true), ("eq_key", .none), ("order", .bool true), ("order_key", .none), ("on_setattr", .none), ("alias", .none), ("alias_is_default", .bool true)])
    (bs := fun x => [("alias_is_default", .bool true), ("alias", .none), ("on_setattr", .none), ("order_key", .none), ("order", .bool true), ("eq_key", .none), ("eq", .bool true), ("kw_only", K), ("converter", .none), ("inherited", .bool false), ("init", .bool true), ("cmp", .none), ("validator", .none), ("default", Dv), ("name", nm), ("self", .ref x)])
    G.K G.base (by k_is) (by k_is) (by k_is) (by k_is) (by k_is) (fun x => binds_peek G.K G.base (fun S => by kernel_rfl)) (fun x => rfl) (by decide) (fun x => rfl) rfl rfl rfl ?_
  intro f s s₁ env A x dx hfd hR hh hfe hfg hfX En hE F hnx hnd
  subst hfd
  have hB := G.base
  have D0 := DictF.empty
  walk_at "x1"
  walk_at "xat"
  walk_at "ec"
  walk_at "nG"
  walk_at "cw"
  walk_at "a1"
  walk_at "s1"
  walk_at "nL"
  walk_at "s1"
  walk_at "eor"
  walk_at "nL"
  walk_at "t0"
  walk_at "i0"
  walk_at "eo1"
  walk_at "nL"
  walk_at "s1"
  walk_at "eor"
  walk_at "nL"
  walk_at "t0"
  walk_at "i0"
  walk_at "eo1"
  walk_at "nL"
  walk_at "s1"
  walk_at "kb"
  walk_at "s0"
  walk_at "ko"
  walk_at "d"
  refine Calm.use (det2_spec G) F (hR.le (by decide)) hh ?_
  rintro v g1 s2 hle ⟨t, rfl, ht⟩ F
  walk_at "asT"
  walk_at "io"
  walk_at "as1"
  walk_at "l"
  walk_at "io"
  walk_at "as1"
  walk_at "l"
  walk_at "io"
  walk_at "as1"
  walk_at "l"
  walk_at "io"
  walk_at "as1"
  walk_at "l"
  walk_at "io"
  walk_at "x1"
  walk_at "xaa"
  walk_at "nL"
  walk_at "nL"
  walk_at "sa"
  walk_at "x1"
  walk_at "xaa"
  walk_at "nL"
  walk_at "nL"
  walk_at "sa"
  walk_at "x1"
  walk_at "xaa"
  walk_at "nL"
  walk_at "nL"
  walk_at "sa"
  walk_at "x1"
  walk_at "xaa"
  walk_at "nL"
  walk_at "nL"
  walk_at "sa"
  walk_at "x1"
  walk_at "xaa"
  walk_at "nL"
  walk_at "nL"
  walk_at "sa"
  walk_at "x1"
  walk_at "xaa"
  walk_at "nL"
  walk_at "nL"
  walk_at "sa"
  walk_at "x1"
  walk_at "xaa"
  walk_at "nL"
  walk_at "nL"
  walk_at "sa"
  walk_at "x1"
  walk_at "xaa"
  walk_at "nL"
  walk_at "nL"
  walk_at "sa"
  walk_at "x1"
  walk_at "xaa"
  walk_at "nL"
  walk_at "nL"
  walk_at "sa"
  walk_at "x1"
  walk_at "xaa"
  walk_at "nL"
  walk_at "nL"
  walk_at "sa"
  walk_at "x1"
  walk_at "xaa"
  walk_at "nL"
  walk_at "nL"
  walk_at "sa"
  walk_at "x1"
  walk_at "xaa"
  walk_at "nL"
  walk_at "nL"
  walk_at "sa"
  walk_at "x1"
  walk_at "xaa"
  walk_at "nL"
  walk_at "nL"
  walk_at "sa"
  walk_at "x1"
  walk_at "xaa"
  walk_at "ei"
  walk_at "tc"
  walk_at "nL"
  walk_at "kn"
  walk_at "is2"
  walk_at "tb"
  walk_at "i0"
  walk_at "nL"
  walk_at "nL"
  walk_at "sa"
  walk_at "x0"
  walk_at "d"
  exact ⟨rfl, backInst F D (by decide) hfe hfg hfX fun g' h1 h2 => ⟨x, rfl, h2.left (by walk_at "le")⟩⟩
theorem attrB_spec {d : Wd} (G : Good d) {g : Heap} {nm : Value} : Calm d 11 (.ref 311) [nm, .none, .none, .none, .bool true, .bool false] [] g
    (fun v g' => ∃ a, v = .ref a ∧ InstN g g' a 311 (atF nm .none (.bool false) (.bool false) .none (.bool true))) := by
  refine calmCls (n := 9) (binds := fun x => [("self", .ref x), ("name", nm), ("default", .none), ("validator", .none), ("cmp", .none), ("init", .bool true), ("inherited", .bool false), ("converter", .none), ("kw_only", .bool false), ("eq", .none), ("eq_key", .none), ("order", .none), ("order_key", .none), ("on_setattr", .none), ("alias", .none), ("alias_is_default", .none)])
    (bs := fun x => [("alias_is_default", .none), ("alias", .none), ("on_setattr", .none), ("order_key", .none), ("order", .none), ("eq_key", .none), ("eq", .none), ("kw_only", .bool false), ("converter", .none), ("inherited", .bool false), ("init", .bool true), ("cmp", .none), ("validator", .none), ("default", .none), ("name", nm), ("self", .ref x)])
    G.K G.base (by k_is) (by k_is) (by k_is) (by k_is) (by k_is) (fun x => binds_peek G.K G.base (fun S => by kernel_rfl)) (fun x => rfl) (by decide) (fun x => rfl) rfl rfl rfl ?_
  intro f s s₁ env A x dx hfd hR hh hfe hfg hfX En hE F hnx hnd
  subst hfd
  have hB := G.base
  have D0 := DictF.empty
  walk_at "x1"
  walk_at "xat"
  walk_at "ec"
  walk_at "nG"
  walk_at "cw"
  walk_at "a1"
  walk_at "s1"
  walk_at "nL"
  walk_at "s1"
  walk_at "eor"
  walk_at "nL"
  walk_at "t0"
  walk_at "i0"
  walk_at "eo1"
  walk_at "nL"
  walk_at "s1"
  walk_at "eor"
  walk_at "nL"
  walk_at "t0"
  walk_at "i0"
  walk_at "eo1"
  walk_at "nL"
  walk_at "s1"
  walk_at "kb"
  walk_at "s0"
  walk_at "ko"
  walk_at "d"
  refine Calm.use (det_spec G) F (hR.le (by decide)) hh ?_
  rintro v g1 s2 hle ⟨t, rfl, ht⟩ F
  walk_at "asT"
  walk_at "io"
  walk_at "as1"
  walk_at "l"
  walk_at "io"
  walk_at "as1"
  walk_at "l"
  walk_at "io"
  walk_at "as1"
  walk_at "l"
  walk_at "io"
  walk_at "as1"
  walk_at "l"
  walk_at "io"
  walk_at "x1"
  walk_at "xaa"
  walk_at "nL"
  walk_at "nL"
  walk_at "sa"
  walk_at "x1"
  walk_at "xaa"
  walk_at "nL"
  walk_at "nL"
  walk_at "sa"
  walk_at "x1"
  walk_at "xaa"
  walk_at "nL"
  walk_at "nL"
  walk_at "sa"
  walk_at "x1"
  walk_at "xaa"
  walk_at "nL"
  walk_at "nL"
  walk_at "sa"
  walk_at "x1"
  walk_at "xaa"
  walk_at "nL"
  walk_at "nL"
  walk_at "sa"
  walk_at "x1"
  walk_at "xaa"
  walk_at "nL"
  walk_at "nL"
  walk_at "sa"
  walk_at "x1"
  walk_at "xaa"
  walk_at "nL"
  walk_at "nL"
  walk_at "sa"
  walk_at "x1"
  walk_at "xaa"
  walk_at "nL"
  walk_at "nL"
  walk_at "sa"
  walk_at "x1"
  walk_at "xaa"
  walk_at "nL"
  walk_at "nL"
  walk_at "sa"
  walk_at "x1"
  walk_at "xaa"
  walk_at "nL"
  walk_at "nL"
  walk_at "sa"
  walk_at "x1"
  walk_at "xaa"
  walk_at "nL"
  walk_at "nL"
  walk_at "sa"
  walk_at "x1"
  walk_at "xaa"
  walk_at "nL"
  walk_at "nL"
  walk_at "sa"
  walk_at "x1"
  walk_at "xaa"
  walk_at "nL"
  walk_at "nL"
  walk_at "sa"
  walk_at "x1"
  walk_at "xaa"
  walk_at "ei"
  walk_at "tc"
  walk_at "nL"
  walk_at "kn"
  walk_at "is1"
  walk_at "tb"
  walk_at "i1"
  walk_at "ec1"
  walk_at "nL"
  walk_at "kn"
  walk_at "is1"
  walk_at "nL"
  walk_at "sa"
  walk_at "x0"
  walk_at "d"
  exact ⟨rfl, backInst F D (by decide) hfe hfg hfX fun g' h1 h2 => ⟨x, rfl, h2.left (by walk_at "le")⟩⟩
/-! Evolve -/
theorem alias_spec {d : Wd} (G : Good d) {g : Heap} {x : Str} {t : Tok} (hz : x.length ≤ sizeLine) : Calm d 3 (.ref 262) [.str x t] [] g (fun v _ => ∃ t', v = .str (Txt.lstripChars x "_") t') := by
  refine calmK (n := 2) (binds := [("name", .str x t)]) (bs := [("name", .str x t)]) G.K G.base (by k_is) (by k_is) (binds_eq (by kernel_rfl)) rfl (by decide) rfl rfl rfl rfl ?_
  intro f s s₁ env A hfd hR hh hfe hfg hfX En hE F
  subst hfd
  have hB := G.base
  walk_at "x1"
  walk_at "xret"
  walk_at "em"
  walk_at "nL"
  walk_at "d"
  refine gmLstrip ?_
  walk_at "cw"
  walk_at "a1"
  walk_at "s1"
  walk_at "ks"
  walk_at "s0"
  walk_at "ko"
  walk_at "d"
  refine callLstrip F hz fun t' s' F => ?_
  exact back F hfe hfg hfX ⟨_, rfl⟩
def partsL (nm D kw inh al ald : Value) : List (Str × Value) := [("name", nm), ("default", D), ("validator", .none), ("eq", .bool true), ("eq_key", .none), ("order", .bool true), ("order_key", .none), ("init", .bool true), ("converter", .none), ("kw_only", kw), ("inherited", inh), ("on_setattr", .none), ("alias", al), ("alias_is_default", ald)]
theorem evolveI_spec {d : Wd} (G : Good d) {g : Heap} {a : Addr} {nm Dv K inh al ald v : Value} (I : InstF g a 311 (atF nm Dv K inh al ald)) (h1 : handedIn nm = true) (h2 : handedIn Dv = true) (h3 : handedIn K = true) (h4 : handedIn inh = true) (h5 : handedIn al = true) (h6 : handedIn ald = true) :
    Calm d 13 (.ref 308) [.ref a] [("inherited", v)] g (fun x g' => ∃ b, x = .ref b ∧ InstN g g' b 311 (atF nm Dv K v al ald)) := by
  refine calmV (n := 12) (fun g1 binds => ∃ D, binds = ([("self", Value.ref a)] : List (Str × Value)) ++ [(("changes" : Str), Value.ref D)] ∧ DK d g1 D [("inherited", v)]) G.K G.base (by k_is) (by k_is)
    (bindsKw (g₁ := fun D => (forIn [(("inherited" : Str), v)] PUnit.unit (fun x _ => (nsSet D x.1 x.2 >>= fun _ => pure (ForInStep.yield PUnit.unit))) >>= fun _ => pure (([("self", Value.ref a)] : List (Str × Value)) ++ [(("changes" : Str), Value.ref D)]))) G.K G.base (by kernel_rfl) (fun D => rfl) (kwDistinct_nodup (ex := [("inherited", v)]) rfl)) (by decide) ?_ rfl rfl rfl ?_
  · rintro g1 binds ⟨D, rfl, _⟩ x hx
    rcases List.mem_cons.mp hx with rfl | hx
    · rfl
    · rw [List.mem_singleton.mp hx]; rfl
  rintro f g1 binds s s₁ env A hfd hR hh hfe hfg hfX hle0 ⟨P, rfl, hP⟩ En hE F
  subst hfd
  have hB := G.base
  have F : St f g1 (lk [("changes", .ref P), ("self", .ref a)]) [] s₁ := F
  walk_at "x1"
  walk_at "xan"
  walk_at "ec"
  walk_at "nG"
  walk_at "cw"
  walk_at "a1"
  walk_at "s1"
  walk_at "ea"
  walk_at "nL"
  walk_at "ga"
  walk_at "s1"
  walk_at "kn"
  walk_at "s1"
  walk_at "kn"
  walk_at "s1"
  walk_at "kn"
  walk_at "s1"
  walk_at "kb"
  walk_at "s1"
  walk_at "kb"
  walk_at "s0"
  walk_at "ko"
  walk_at "d"
  refine Calm.use (attrB_spec G) F (hR.le (by decide)) hh ?_
  rintro v2 g2 s2 hle1 ⟨x, rfl, hx⟩ F
  obtain ⟨g3, dx, od, l3, D, _, _, F⟩ := F.thawInst hx (by rw [hfg]; exact hle0) hle1
  walk_at "l"
  walk_at "x1"
  walk_at "xan"
  walk_at "d"
  walk_at "dp"
  walk_at "ep"
  walk_at "ks"
  walk_at "ea"
  walk_at "nL"
  walk_at "ga"
  walk_at "ep"
  walk_at "ks"
  walk_at "ea"
  walk_at "nL"
  walk_at "ga"
  walk_at "ep"
  walk_at "ks"
  walk_at "ea"
  walk_at "nL"
  walk_at "ga"
  walk_at "ep"
  walk_at "ks"
  walk_at "ea"
  walk_at "nL"
  walk_at "ga"
  walk_at "ep"
  walk_at "ks"
  walk_at "ea"
  walk_at "nL"
  walk_at "ga"
  walk_at "ep"
  walk_at "ks"
  walk_at "ea"
  walk_at "nL"
  walk_at "ga"
  walk_at "ep"
  walk_at "ks"
  walk_at "ea"
  walk_at "nL"
  walk_at "ga"
  walk_at "ep"
  walk_at "ks"
  walk_at "ea"
  walk_at "nL"
  walk_at "ga"
  walk_at "ep"
  walk_at "ks"
  walk_at "ea"
  walk_at "nL"
  walk_at "ga"
  walk_at "ep"
  walk_at "ks"
  walk_at "ea"
  walk_at "nL"
  walk_at "ga"
  walk_at "ep"
  walk_at "ks"
  walk_at "ea"
  walk_at "nL"
  walk_at "ga"
  walk_at "ep"
  walk_at "ks"
  walk_at "ea"
  walk_at "nL"
  walk_at "ga"
  walk_at "ep"
  walk_at "ks"
  walk_at "ea"
  walk_at "nL"
  walk_at "ga"
  walk_at "ep"
  walk_at "ks"
  walk_at "ea"
  walk_at "nL"
  walk_at "ga"
  walk_at "ep"
  refine ⟨_, _, _, partsL nm Dv K inh al ald, by repeat' (first | exact trivial | refine ⟨strKind_is _ _ _ _, rfl, ?_⟩), kwDistinct_nodup rfl, F, ?_⟩
  intro od' s3 hD F
  walk_at "l"
  walk_at "x1"
  refine forE (fun _ _ => False) (fun _ => rfl) (fun _ _ z => z.elim) ?_
  walk_at "nL"
  walk_at "d"
  refine rdyKeys (gB := g1) F hh hP l3 fun it s' R => ?_
  refine ⟨_, _, _, _, _, [(PD, od')], [(dx, od), (x, instObj 311 dx)], fun i g' l o => Le g3 g' ∧ o = [(PD, od')] ∧ lk l "new" = some (.ref x) ∧ lk l "changes" = some (.ref P) ∧ lk l "self" = some (.ref a) ∧ lk l "parts" = some (.ref PD), R _ plainTgt_name, ⟨Le.refl _, rfl, rfl, rfl, rfl, rfl⟩, ?_, ?_⟩
  · rintro i g4 g5 l o T s' v4 E' hi hle2 hle3 ⟨hle4, rfl, m1, m2, m3, m4⟩ ⟨t, kv, rfl, hkv⟩ F hE'
    obtain rfl : i = 0 := by simpa using hi
    obtain rfl : kv = (("inherited" : Str), v) := by simpa using hkv.symm
    walk_at "as1"
    walk_at "l"
    walk_at "x1"
    walk_at "xif"
    walk_at "tc"
    walk_at "nL"
    walk_at "nL"
    walk_at "d"
    refine notInD F (DO.at hD (F.own (PD, od') (List.mem_append_left _ List.mem_cons_self)).1) hPm fun s' F => ?_
    rw [show valueAt (partsL nm Dv K inh al ald) "inherited" = some inh from rfl]
    walk_at "tb"
    walk_at "i0"
    walk_at "x0"
    walk_at "x0"
    walk_at "d"
    refine ⟨_, _, _, hle2.trans hle3, ?_, F⟩
    exact ⟨hle4.trans hle3, rfl, m1, m2, m3, m4⟩
  rintro g4 l4 o4 s4 hle4 ⟨hle5, rfl, m1, m2, m3, m4⟩ F
  have F : St f g4 (lk l4) ((PD, od') :: [(dx, od), (x, instObj 311 dx)]) s4 := F
  walk_at "x1"
  walk_at "xex"
  walk_at "em"
  walk_at "nL"
  walk_at "d"
  refine gmUpdate (DO.at hD (F.own (PD, od') List.mem_cons_self).1) ?_
  walk_at "cw"
  walk_at "a1"
  walk_at "s1"
  walk_at "nL"
  walk_at "s0"
  walk_at "ko"
  walk_at "d"
  refine callUpdate F hD (hP.le (l3.trans hle5)) (show 15 ≤ sizeLine by decide) fun od2 s5 hD F => ?_
  rw [show merged (partsL nm Dv K inh al ald) [("inherited", v)] = partsL nm Dv K v al ald from rfl] at hD
  obtain ⟨g5, l5, hPD, F⟩ := F.freezeD hD hPm (by rw [hfX]; exact fun h => nomatch h)
  walk_at "x1"
  walk_at "xatE"
  walk_at "et"
  walk_at "s1"
  walk_at "es"
  walk_at "nL"
  walk_at "ks"
  walk_at "subD"
  walk_at "s1"
  walk_at "es"
  walk_at "nL"
  walk_at "ks"
  walk_at "subD"
  walk_at "s1"
  walk_at "es"
  walk_at "nL"
  walk_at "ks"
  walk_at "subD"
  walk_at "s0"
  walk_at "tup"
  walk_at "asT"
  walk_at "io"
  walk_at "as2"
  walk_at "nL"
  walk_at "saO"
  walk_at "io"
  walk_at "as2"
  walk_at "nL"
  walk_at "saO"
  walk_at "io"
  walk_at "as2"
  walk_at "nL"
  walk_at "saO"
  walk_at "io"
  walk_at "x1"
  walk_at "xat"
  walk_at "et"
  walk_at "s1"
  walk_at "es"
  walk_at "nL"
  walk_at "ks"
  walk_at "subD"
  walk_at "s1"
  walk_at "es"
  walk_at "nL"
  walk_at "ks"
  walk_at "subD"
  walk_at "s1"
  walk_at "es"
  walk_at "nL"
  walk_at "ks"
  walk_at "subD"
  walk_at "s1"
  walk_at "es"
  walk_at "nL"
  walk_at "ks"
  walk_at "subD"
  walk_at "s0"
  walk_at "tup"
  walk_at "asT"
  walk_at "io"
  walk_at "as2"
  walk_at "nL"
  walk_at "saO"
  walk_at "io"
  walk_at "as2"
  walk_at "nL"
  walk_at "saO"
  walk_at "io"
  walk_at "as2"
  walk_at "nL"
  walk_at "saO"
  walk_at "io"
  walk_at "as2"
  walk_at "nL"
  walk_at "saO"
  walk_at "io"
  walk_at "x1"
  walk_at "xatE"
  walk_at "et"
  walk_at "s1"
  walk_at "es"
  walk_at "nL"
  walk_at "ks"
  walk_at "subD"
  walk_at "s1"
  walk_at "es"
  walk_at "nL"
  walk_at "ks"
  walk_at "subD"
  walk_at "s1"
  walk_at "es"
  walk_at "nL"
  walk_at "ks"
  walk_at "subD"
  walk_at "s0"
  walk_at "tup"
  walk_at "asT"
  walk_at "io"
  walk_at "as2"
  walk_at "nL"
  walk_at "saO"
  walk_at "io"
  walk_at "as2"
  walk_at "nL"
  walk_at "saO"
  walk_at "io"
  walk_at "as2"
  walk_at "nL"
  walk_at "saO"
  walk_at "io"
  walk_at "x1"
  walk_at "xatE"
  walk_at "et"
  walk_at "s1"
  walk_at "es"
  walk_at "nL"
  walk_at "ks"
  walk_at "subD"
  walk_at "s1"
  walk_at "es"
  walk_at "nL"
  walk_at "ks"
  walk_at "subD"
  walk_at "s0"
  walk_at "tup"
  walk_at "asT"
  walk_at "io"
  walk_at "as2"
  walk_at "nL"
  walk_at "saO"
  walk_at "io"
  walk_at "as2"
  walk_at "nL"
  walk_at "saO"
  walk_at "io"
  walk_at "x1"
  walk_at "xatE"
  walk_at "et"
  walk_at "s1"
  walk_at "es"
  walk_at "nL"
  walk_at "ks"
  walk_at "subD"
  walk_at "s1"
  walk_at "es"
  walk_at "nL"
  walk_at "ks"
  walk_at "subD"
  walk_at "s0"
  walk_at "tup"
  walk_at "asT"
  walk_at "io"
  walk_at "as2"
  walk_at "nL"
  walk_at "saO"
  walk_at "io"
  walk_at "as2"
  walk_at "nL"
  walk_at "saO"
  walk_at "io"
  walk_at "x1"
  walk_at "xif"
  walk_at "ta"
  walk_at "tc"
  walk_at "ks"
  walk_at "nL"
  refine inD F (DK.here hP (by walk_at "le") F) hP.2 fun s' F => ?_
  rw [show valueAt [(("inherited" : Str), v)] "alias" = none from rfl]
  walk_at "tb"
  walk_at "i0"
  walk_at "i0"
  walk_at "x1"
  walk_at "xif"
  walk_at "ta"
  walk_at "tc"
  walk_at "ks"
  walk_at "nL"
  refine inD F (DK.here hP (by walk_at "le") F) hP.2 fun s' F => ?_
  rw [show valueAt [(("inherited" : Str), v)] "name" = none from rfl]
  walk_at "tb"
  walk_at "i0"
  walk_at "i0"
  walk_at "x0"
  walk_at "x0"
  walk_at "x1"
  walk_at "xret"
  walk_at "nL"
  walk_at "d"
  obtain ⟨g9, l9, hN, _, F⟩ := finInst F D (by decide) hfX
  refine back F hfe hfg hfX ⟨x, rfl, (hN.left (by walk_at "le")).congr (lk_same (by kernel_rfl) (by kernel_rfl))⟩
theorem evolveK_spec {d : Wd} (G : Good d) {g : Heap} {a : Addr} {nm Dv K inh al ald v : Value} (I : InstF g a 311 (atF nm Dv K inh al ald)) (h1 : handedIn nm = true) (h2 : handedIn Dv = true) (h3 : handedIn K = true) (h4 : handedIn inh = true) (h5 : handedIn al = true) (h6 : handedIn ald = true) :
    Calm d 13 (.ref 308) [.ref a] [("kw_only", v)] g (fun x g' => ∃ b, x = .ref b ∧ InstN g g' b 311 (atF nm Dv v inh al ald)) := by
  refine calmV (n := 12) (fun g1 binds => ∃ D, binds = ([("self", Value.ref a)] : List (Str × Value)) ++ [(("changes" : Str), Value.ref D)] ∧ DK d g1 D [("kw_only", v)]) G.K G.base (by k_is) (by k_is)
    (bindsKw (g₁ := fun D => (forIn [(("kw_only" : Str), v)] PUnit.unit (fun x _ => (nsSet D x.1 x.2 >>= fun _ => pure (ForInStep.yield PUnit.unit))) >>= fun _ => pure (([("self", Value.ref a)] : List (Str × Value)) ++ [(("changes" : Str), Value.ref D)]))) G.K G.base (by kernel_rfl) (fun D => rfl) (kwDistinct_nodup (ex := [("kw_only", v)]) rfl)) (by decide) ?_ rfl rfl rfl ?_
  · rintro g1 binds ⟨D, rfl, _⟩ x hx
    rcases List.mem_cons.mp hx with rfl | hx
    · rfl
    · rw [List.mem_singleton.mp hx]; rfl
  rintro f g1 binds s s₁ env A hfd hR hh hfe hfg hfX hle0 ⟨P, rfl, hP⟩ En hE F
  subst hfd
  have hB := G.base
  have F : St f g1 (lk [("changes", .ref P), ("self", .ref a)]) [] s₁ := F
  walk_at "x1"
  walk_at "xan"
  walk_at "ec"
  walk_at "nG"
  walk_at "cw"
  walk_at "a1"
  walk_at "s1"
  walk_at "ea"
  walk_at "nL"
  walk_at "ga"
  walk_at "s1"
  walk_at "kn"
  walk_at "s1"
  walk_at "kn"
  walk_at "s1"
  walk_at "kn"
  walk_at "s1"
  walk_at "kb"
  walk_at "s1"
  walk_at "kb"
  walk_at "s0"
  walk_at "ko"
  walk_at "d"
  refine Calm.use (attrB_spec G) F (hR.le (by decide)) hh ?_
  rintro v2 g2 s2 hle1 ⟨x, rfl, hx⟩ F
  obtain ⟨g3, dx, od, l3, D, _, _, F⟩ := F.thawInst hx (by rw [hfg]; exact hle0) hle1
  walk_at "l"
  walk_at "x1"
  walk_at "xan"
  walk_at "d"
  walk_at "dp"
  walk_at "ep"
  walk_at "ks"
  walk_at "ea"
  walk_at "nL"
  walk_at "ga"
  walk_at "ep"
  walk_at "ks"
  walk_at "ea"
  walk_at "nL"
  walk_at "ga"
  walk_at "ep"
  walk_at "ks"
  walk_at "ea"
  walk_at "nL"
  walk_at "ga"
  walk_at "ep"
  walk_at "ks"
  walk_at "ea"
  walk_at "nL"
  walk_at "ga"
  walk_at "ep"
  walk_at "ks"
  walk_at "ea"
  walk_at "nL"
  walk_at "ga"
  walk_at "ep"
  walk_at "ks"
  walk_at "ea"
  walk_at "nL"
  walk_at "ga"
  walk_at "ep"
  walk_at "ks"
  walk_at "ea"
  walk_at "nL"
  walk_at "ga"
  walk_at "ep"
  walk_at "ks"
  walk_at "ea"
  walk_at "nL"
  walk_at "ga"
  walk_at "ep"
  walk_at "ks"
  walk_at "ea"
  walk_at "nL"
  walk_at "ga"
  walk_at "ep"
  walk_at "ks"
  walk_at "ea"
  walk_at "nL"
  walk_at "ga"
  walk_at "ep"
  walk_at "ks"
  walk_at "ea"
  walk_at "nL"
  walk_at "ga"
  walk_at "ep"
  walk_at "ks"
  walk_at "ea"
  walk_at "nL"
  walk_at "ga"
  walk_at "ep"
  walk_at "ks"
  walk_at "ea"
  walk_at "nL"
  walk_at "ga"
  walk_at "ep"
  walk_at "ks"
  walk_at "ea"
  walk_at "nL"
  walk_at "ga"
  walk_at "ep"
  refine ⟨_, _, _, partsL nm Dv K inh al ald, by repeat' (first | exact trivial | refine ⟨strKind_is _ _ _ _, rfl, ?_⟩), kwDistinct_nodup rfl, F, ?_⟩
  intro od' s3 hD F
  walk_at "l"
  walk_at "x1"
  refine forE (fun _ _ => False) (fun _ => rfl) (fun _ _ z => z.elim) ?_
  walk_at "nL"
  walk_at "d"
  refine rdyKeys (gB := g1) F hh hP l3 fun it s' R => ?_
  refine ⟨_, _, _, _, _, [(PD, od')], [(dx, od), (x, instObj 311 dx)], fun i g' l o => Le g3 g' ∧ o = [(PD, od')] ∧ lk l "new" = some (.ref x) ∧ lk l "changes" = some (.ref P) ∧ lk l "self" = some (.ref a) ∧ lk l "parts" = some (.ref PD), R _ plainTgt_name, ⟨Le.refl _, rfl, rfl, rfl, rfl, rfl⟩, ?_, ?_⟩
  · rintro i g4 g5 l o T s' v4 E' hi hle2 hle3 ⟨hle4, rfl, m1, m2, m3, m4⟩ ⟨t, kv, rfl, hkv⟩ F hE'
    obtain rfl : i = 0 := by simpa using hi
    obtain rfl : kv = (("kw_only" : Str), v) := by simpa using hkv.symm
    walk_at "as1"
    walk_at "l"
    walk_at "x1"
    walk_at "xif"
    walk_at "tc"
    walk_at "nL"
    walk_at "nL"
    walk_at "d"
    refine notInD F (DO.at hD (F.own (PD, od') (List.mem_append_left _ List.mem_cons_self)).1) hPm fun s' F => ?_
    rw [show valueAt (partsL nm Dv K inh al ald) "kw_only" = some K from rfl]
    walk_at "tb"
    walk_at "i0"
    walk_at "x0"
    walk_at "x0"
    walk_at "d"
    refine ⟨_, _, _, hle2.trans hle3, ?_, F⟩
    exact ⟨hle4.trans hle3, rfl, m1, m2, m3, m4⟩
  rintro g4 l4 o4 s4 hle4 ⟨hle5, rfl, m1, m2, m3, m4⟩ F
  have F : St f g4 (lk l4) ((PD, od') :: [(dx, od), (x, instObj 311 dx)]) s4 := F
  walk_at "x1"
  walk_at "xex"
  walk_at "em"
  walk_at "nL"
  walk_at "d"
  refine gmUpdate (DO.at hD (F.own (PD, od') List.mem_cons_self).1) ?_
  walk_at "cw"
  walk_at "a1"
  walk_at "s1"
  walk_at "nL"
  walk_at "s0"
  walk_at "ko"
  walk_at "d"
  refine callUpdate F hD (hP.le (l3.trans hle5)) (show 15 ≤ sizeLine by decide) fun od2 s5 hD F => ?_
  rw [show merged (partsL nm Dv K inh al ald) [("kw_only", v)] = partsL nm Dv v inh al ald from rfl] at hD
  obtain ⟨g5, l5, hPD, F⟩ := F.freezeD hD hPm (by rw [hfX]; exact fun h => nomatch h)
  walk_at "x1"
  walk_at "xatE"
  walk_at "et"
  walk_at "s1"
  walk_at "es"
  walk_at "nL"
  walk_at "ks"
  walk_at "subD"
  walk_at "s1"
  walk_at "es"
  walk_at "nL"
  walk_at "ks"
  walk_at "subD"
  walk_at "s1"
  walk_at "es"
  walk_at "nL"
  walk_at "ks"
  walk_at "subD"
  walk_at "s0"
  walk_at "tup"
  walk_at "asT"
  walk_at "io"
  walk_at "as2"
  walk_at "nL"
  walk_at "saO"
  walk_at "io"
  walk_at "as2"
  walk_at "nL"
  walk_at "saO"
  walk_at "io"
  walk_at "as2"
  walk_at "nL"
  walk_at "saO"
  walk_at "io"
  walk_at "x1"
  walk_at "xat"
  walk_at "et"
  walk_at "s1"
  walk_at "es"
  walk_at "nL"
  walk_at "ks"
  walk_at "subD"
  walk_at "s1"
  walk_at "es"
  walk_at "nL"
  walk_at "ks"
  walk_at "subD"
  walk_at "s1"
  walk_at "es"
  walk_at "nL"
  walk_at "ks"
  walk_at "subD"
  walk_at "s1"
  walk_at "es"
  walk_at "nL"
  walk_at "ks"
  walk_at "subD"
  walk_at "s0"
  walk_at "tup"
  walk_at "asT"
  walk_at "io"
  walk_at "as2"
  walk_at "nL"
  walk_at "saO"
  walk_at "io"
  walk_at "as2"
  walk_at "nL"
  walk_at "saO"
  walk_at "io"
  walk_at "as2"
  walk_at "nL"
  walk_at "saO"
  walk_at "io"
  walk_at "as2"
  walk_at "nL"
  walk_at "saO"
  walk_at "io"
  walk_at "x1"
  walk_at "xatE"
  walk_at "et"
  walk_at "s1"
  walk_at "es"
  walk_at "nL"
  walk_at "ks"
  walk_at "subD"
  walk_at "s1"
  walk_at "es"
  walk_at "nL"
  walk_at "ks"
  walk_at "subD"
  walk_at "s1"
  walk_at "es"
  walk_at "nL"
  walk_at "ks"
  walk_at "subD"
  walk_at "s0"
  walk_at "tup"
  walk_at "asT"
  walk_at "io"
  walk_at "as2"
  walk_at "nL"
  walk_at "saO"
  walk_at "io"
  walk_at "as2"
  walk_at "nL"
  walk_at "saO"
  walk_at "io"
  walk_at "as2"
  walk_at "nL"
  walk_at "saO"
  walk_at "io"
  walk_at "x1"
  walk_at "xatE"
  walk_at "et"
  walk_at "s1"
  walk_at "es"
  walk_at "nL"
  walk_at "ks"
  walk_at "subD"
  walk_at "s1"
  walk_at "es"
  walk_at "nL"
  walk_at "ks"
  walk_at "subD"
  walk_at "s0"
  walk_at "tup"
  walk_at "asT"
  walk_at "io"
  walk_at "as2"
  walk_at "nL"
  walk_at "saO"
  walk_at "io"
  walk_at "as2"
  walk_at "nL"
  walk_at "saO"
  walk_at "io"
  walk_at "x1"
  walk_at "xatE"
  walk_at "et"
  walk_at "s1"
  walk_at "es"
  walk_at "nL"
  walk_at "ks"
  walk_at "subD"
  walk_at "s1"
  walk_at "es"
  walk_at "nL"
  walk_at "ks"
  walk_at "subD"
  walk_at "s0"
  walk_at "tup"
  walk_at "asT"
  walk_at "io"
  walk_at "as2"
  walk_at "nL"
  walk_at "saO"
  walk_at "io"
  walk_at "as2"
  walk_at "nL"
  walk_at "saO"
  walk_at "io"
  walk_at "x1"
  walk_at "xif"
  walk_at "ta"
  walk_at "tc"
  walk_at "ks"
  walk_at "nL"
  refine inD F (DK.here hP (by walk_at "le") F) hP.2 fun s' F => ?_
  rw [show valueAt [(("kw_only" : Str), v)] "alias" = none from rfl]
  walk_at "tb"
  walk_at "i0"
  walk_at "i0"
  walk_at "x1"
  walk_at "xif"
  walk_at "ta"
  walk_at "tc"
  walk_at "ks"
  walk_at "nL"
  refine inD F (DK.here hP (by walk_at "le") F) hP.2 fun s' F => ?_
  rw [show valueAt [(("kw_only" : Str), v)] "name" = none from rfl]
  walk_at "tb"
  walk_at "i0"
  walk_at "i0"
  walk_at "x0"
  walk_at "x0"
  walk_at "x1"
  walk_at "xret"
  walk_at "nL"
  walk_at "d"
  obtain ⟨g9, l9, hN, _, F⟩ := finInst F D (by decide) hfX
  refine back F hfe hfg hfX ⟨x, rfl, (hN.left (by walk_at "le")).congr (lk_same (by kernel_rfl) (by kernel_rfl))⟩
theorem evolveD_spec {d : Wd} (G : Good d) {g : Heap} {a : Addr} {nm Dv K inh al ald v : Value} (I : InstF g a 311 (atF nm Dv K inh al ald)) (h1 : handedIn nm = true) (h2 : handedIn Dv = true) (h3 : handedIn K = true) (h4 : handedIn inh = true) (h5 : handedIn al = true) (h6 : handedIn ald = true) :
    Calm d 13 (.ref 308) [.ref a] [("default", v)] g (fun x g' => ∃ b, x = .ref b ∧ InstN g g' b 311 (atF nm v K inh al ald)) := by
  refine calmV (n := 12) (fun g1 binds => ∃ D, binds = ([("self", Value.ref a)] : List (Str × Value)) ++ [(("changes" : Str), Value.ref D)] ∧ DK d g1 D [("default", v)]) G.K G.base (by k_is) (by k_is)
    (bindsKw (g₁ := fun D => (forIn [(("default" : Str), v)] PUnit.unit (fun x _ => (nsSet D x.1 x.2 >>= fun _ => pure (ForInStep.yield PUnit.unit))) >>= fun _ => pure (([("self", Value.ref a)] : List (Str × Value)) ++ [(("changes" : Str), Value.ref D)]))) G.K G.base (by kernel_rfl) (fun D => rfl) (kwDistinct_nodup (ex := [("default", v)]) rfl)) (by decide) ?_ rfl rfl rfl ?_
  · rintro g1 binds ⟨D, rfl, _⟩ x hx
    rcases List.mem_cons.mp hx with rfl | hx
    · rfl
    · rw [List.mem_singleton.mp hx]; rfl
  rintro f g1 binds s s₁ env A hfd hR hh hfe hfg hfX hle0 ⟨P, rfl, hP⟩ En hE F
  subst hfd
  have hB := G.base
  have F : St f g1 (lk [("changes", .ref P), ("self", .ref a)]) [] s₁ := F
  walk_at "x1"
  walk_at "xan"
  walk_at "ec"
  walk_at "nG"
  walk_at "cw"
  walk_at "a1"
  walk_at "s1"
  walk_at "ea"
  walk_at "nL"
  walk_at "ga"
  walk_at "s1"
  walk_at "kn"
  walk_at "s1"
  walk_at "kn"
  walk_at "s1"
  walk_at "kn"
  walk_at "s1"
  walk_at "kb"
  walk_at "s1"
  walk_at "kb"
  walk_at "s0"
  walk_at "ko"
  walk_at "d"
  refine Calm.use (attrB_spec G) F (hR.le (by decide)) hh ?_
  rintro v2 g2 s2 hle1 ⟨x, rfl, hx⟩ F
  obtain ⟨g3, dx, od, l3, D, _, _, F⟩ := F.thawInst hx (by rw [hfg]; exact hle0) hle1
  walk_at "l"
  walk_at "x1"
  walk_at "xan"
  walk_at "d"
  walk_at "dp"
  walk_at "ep"
  walk_at "ks"
  walk_at "ea"
  walk_at "nL"
  walk_at "ga"
  walk_at "ep"
  walk_at "ks"
  walk_at "ea"
  walk_at "nL"
  walk_at "ga"
  walk_at "ep"
  walk_at "ks"
  walk_at "ea"
  walk_at "nL"
  walk_at "ga"
  walk_at "ep"
  walk_at "ks"
  walk_at "ea"
  walk_at "nL"
  walk_at "ga"
  walk_at "ep"
  walk_at "ks"
  walk_at "ea"
  walk_at "nL"
  walk_at "ga"
  walk_at "ep"
  walk_at "ks"
  walk_at "ea"
  walk_at "nL"
  walk_at "ga"
  walk_at "ep"
  walk_at "ks"
  walk_at "ea"
  walk_at "nL"
  walk_at "ga"
  walk_at "ep"
  walk_at "ks"
  walk_at "ea"
  walk_at "nL"
  walk_at "ga"
  walk_at "ep"
  walk_at "ks"
  walk_at "ea"
  walk_at "nL"
  walk_at "ga"
  walk_at "ep"
  walk_at "ks"
  walk_at "ea"
  walk_at "nL"
  walk_at "ga"
  walk_at "ep"
  walk_at "ks"
  walk_at "ea"
  walk_at "nL"
  walk_at "ga"
  walk_at "ep"
  walk_at "ks"
  walk_at "ea"
  walk_at "nL"
  walk_at "ga"
  walk_at "ep"
  walk_at "ks"
  walk_at "ea"
  walk_at "nL"
  walk_at "ga"
  walk_at "ep"
  walk_at "ks"
  walk_at "ea"
  walk_at "nL"
  walk_at "ga"
  walk_at "ep"
  refine ⟨_, _, _, partsL nm Dv K inh al ald, by repeat' (first | exact trivial | refine ⟨strKind_is _ _ _ _, rfl, ?_⟩), kwDistinct_nodup rfl, F, ?_⟩
  intro od' s3 hD F
  walk_at "l"
  walk_at "x1"
  refine forE (fun _ _ => False) (fun _ => rfl) (fun _ _ z => z.elim) ?_
  walk_at "nL"
  walk_at "d"
  refine rdyKeys (gB := g1) F hh hP l3 fun it s' R => ?_
  refine ⟨_, _, _, _, _, [(PD, od')], [(dx, od), (x, instObj 311 dx)], fun i g' l o => Le g3 g' ∧ o = [(PD, od')] ∧ lk l "new" = some (.ref x) ∧ lk l "changes" = some (.ref P) ∧ lk l "self" = some (.ref a) ∧ lk l "parts" = some (.ref PD), R _ plainTgt_name, ⟨Le.refl _, rfl, rfl, rfl, rfl, rfl⟩, ?_, ?_⟩
  · rintro i g4 g5 l o T s' v4 E' hi hle2 hle3 ⟨hle4, rfl, m1, m2, m3, m4⟩ ⟨t, kv, rfl, hkv⟩ F hE'
    obtain rfl : i = 0 := by simpa using hi
    obtain rfl : kv = (("default" : Str), v) := by simpa using hkv.symm
    walk_at "as1"
    walk_at "l"
    walk_at "x1"
    walk_at "xif"
    walk_at "tc"
    walk_at "nL"
    walk_at "nL"
    walk_at "d"
    refine notInD F (DO.at hD (F.own (PD, od') (List.mem_append_left _ List.mem_cons_self)).1) hPm fun s' F => ?_
    rw [show valueAt (partsL nm Dv K inh al ald) "default" = some Dv from rfl]
    walk_at "tb"
    walk_at "i0"
    walk_at "x0"
    walk_at "x0"
    walk_at "d"
    refine ⟨_, _, _, hle2.trans hle3, ?_, F⟩
    exact ⟨hle4.trans hle3, rfl, m1, m2, m3, m4⟩
  rintro g4 l4 o4 s4 hle4 ⟨hle5, rfl, m1, m2, m3, m4⟩ F
  have F : St f g4 (lk l4) ((PD, od') :: [(dx, od), (x, instObj 311 dx)]) s4 := F
  walk_at "x1"
  walk_at "xex"
  walk_at "em"
  walk_at "nL"
  walk_at "d"
  refine gmUpdate (DO.at hD (F.own (PD, od') List.mem_cons_self).1) ?_
  walk_at "cw"
  walk_at "a1"
  walk_at "s1"
  walk_at "nL"
  walk_at "s0"
  walk_at "ko"
  walk_at "d"
  refine callUpdate F hD (hP.le (l3.trans hle5)) (show 15 ≤ sizeLine by decide) fun od2 s5 hD F => ?_
  rw [show merged (partsL nm Dv K inh al ald) [("default", v)] = partsL nm v K inh al ald from rfl] at hD
  obtain ⟨g5, l5, hPD, F⟩ := F.freezeD hD hPm (by rw [hfX]; exact fun h => nomatch h)
  walk_at "x1"
  walk_at "xatE"
  walk_at "et"
  walk_at "s1"
  walk_at "es"
  walk_at "nL"
  walk_at "ks"
  walk_at "subD"
  walk_at "s1"
  walk_at "es"
  walk_at "nL"
  walk_at "ks"
  walk_at "subD"
  walk_at "s1"
  walk_at "es"
  walk_at "nL"
  walk_at "ks"
  walk_at "subD"
  walk_at "s0"
  walk_at "tup"
  walk_at "asT"
  walk_at "io"
  walk_at "as2"
  walk_at "nL"
  walk_at "saO"
  walk_at "io"
  walk_at "as2"
  walk_at "nL"
  walk_at "saO"
  walk_at "io"
  walk_at "as2"
  walk_at "nL"
  walk_at "saO"
  walk_at "io"
  walk_at "x1"
  walk_at "xat"
  walk_at "et"
  walk_at "s1"
  walk_at "es"
  walk_at "nL"
  walk_at "ks"
  walk_at "subD"
  walk_at "s1"
  walk_at "es"
  walk_at "nL"
  walk_at "ks"
  walk_at "subD"
  walk_at "s1"
  walk_at "es"
  walk_at "nL"
  walk_at "ks"
  walk_at "subD"
  walk_at "s1"
  walk_at "es"
  walk_at "nL"
  walk_at "ks"
  walk_at "subD"
  walk_at "s0"
  walk_at "tup"
  walk_at "asT"
  walk_at "io"
  walk_at "as2"
  walk_at "nL"
  walk_at "saO"
  walk_at "io"
  walk_at "as2"
  walk_at "nL"
  walk_at "saO"
  walk_at "io"
  walk_at "as2"
  walk_at "nL"
  walk_at "saO"
  walk_at "io"
  walk_at "as2"
  walk_at "nL"
  walk_at "saO"
  walk_at "io"
  walk_at "x1"
  walk_at "xatE"
  walk_at "et"
  walk_at "s1"
  walk_at "es"
  walk_at "nL"
  walk_at "ks"
  walk_at "subD"
  walk_at "s1"
  walk_at "es"
  walk_at "nL"
  walk_at "ks"
  walk_at "subD"
  walk_at "s1"
  walk_at "es"
  walk_at "nL"
  walk_at "ks"
  walk_at "subD"
  walk_at "s0"
  walk_at "tup"
  walk_at "asT"
  walk_at "io"
  walk_at "as2"
  walk_at "nL"
  walk_at "saO"
  walk_at "io"
  walk_at "as2"
  walk_at "nL"
  walk_at "saO"
  walk_at "io"
  walk_at "as2"
  walk_at "nL"
  walk_at "saO"
  walk_at "io"
  walk_at "x1"
  walk_at "xatE"
  walk_at "et"
  walk_at "s1"
  walk_at "es"
  walk_at "nL"
  walk_at "ks"
  walk_at "subD"
  walk_at "s1"
  walk_at "es"
  walk_at "nL"
  walk_at "ks"
  walk_at "subD"
  walk_at "s0"
  walk_at "tup"
  walk_at "asT"
  walk_at "io"
  walk_at "as2"
  walk_at "nL"
  walk_at "saO"
  walk_at "io"
  walk_at "as2"
  walk_at "nL"
  walk_at "saO"
  walk_at "io"
  walk_at "x1"
  walk_at "xatE"
  walk_at "et"
  walk_at "s1"
  walk_at "es"
  walk_at "nL"
  walk_at "ks"
  walk_at "subD"
  walk_at "s1"
  walk_at "es"
  walk_at "nL"
  walk_at "ks"
  walk_at "subD"
  walk_at "s0"
  walk_at "tup"
  walk_at "asT"
  walk_at "io"
  walk_at "as2"
  walk_at "nL"
  walk_at "saO"
  walk_at "io"
  walk_at "as2"
  walk_at "nL"
  walk_at "saO"
  walk_at "io"
  walk_at "x1"
  walk_at "xif"
  walk_at "ta"
  walk_at "tc"
  walk_at "ks"
  walk_at "nL"
  refine inD F (DK.here hP (by walk_at "le") F) hP.2 fun s' F => ?_
  rw [show valueAt [(("default" : Str), v)] "alias" = none from rfl]
  walk_at "tb"
  walk_at "i0"
  walk_at "i0"
  walk_at "x1"
  walk_at "xif"
  walk_at "ta"
  walk_at "tc"
  walk_at "ks"
  walk_at "nL"
  refine inD F (DK.here hP (by walk_at "le") F) hP.2 fun s' F => ?_
  rw [show valueAt [(("default" : Str), v)] "name" = none from rfl]
  walk_at "tb"
  walk_at "i0"
  walk_at "i0"
  walk_at "x0"
  walk_at "x0"
  walk_at "x1"
  walk_at "xret"
  walk_at "nL"
  walk_at "d"
  obtain ⟨g9, l9, hN, _, F⟩ := finInst F D (by decide) hfX
  refine back F hfe hfg hfX ⟨x, rfl, (hN.left (by walk_at "le")).congr (lk_same (by kernel_rfl) (by kernel_rfl))⟩
/-! EvolveN -/
theorem evolveN_spec {d : Wd} (G : Good d) {g : Heap} {a : Addr} {nm Dv K inh al : Value} {n : Str} {tk : Tok} (I : InstF g a 311 (atF nm Dv K inh al (.bool true))) (h1 : handedIn nm = true) (h2 : handedIn Dv = true) (h3 : handedIn K = true) (h4 : handedIn inh = true) (h5 : handedIn al = true) (hz : n.length ≤ sizeLine) :
    Calm d 13 (.ref 308) [.ref a] [("name", .str n tk)] g (fun x g' => ∃ b tk2, x = .ref b ∧ InstN g g' b 311 (atF (.str n tk) Dv K inh (.str (Txt.lstripChars n "_") tk2) (.bool true))) := by
  refine calmV (n := 12) (fun g1 binds => ∃ D, binds = ([("self", Value.ref a)] : List (Str × Value)) ++ [(("changes" : Str), Value.ref D)] ∧ DK d g1 D [("name", .str n tk)]) G.K G.base (by k_is) (by k_is)
    (bindsKw (g₁ := fun D => (forIn [(("name" : Str), Value.str n tk)] PUnit.unit (fun x _ => (nsSet D x.1 x.2 >>= fun _ => pure (ForInStep.yield PUnit.unit))) >>= fun _ => pure (([("self", Value.ref a)] : List (Str × Value)) ++ [(("changes" : Str), Value.ref D)]))) G.K G.base (by kernel_rfl) (fun D => rfl) (kwDistinct_nodup (ex := [("name", .str n tk)]) rfl)) (by decide) ?_ rfl rfl rfl ?_
  · rintro g1 binds ⟨D, rfl, _⟩ x hx
    rcases List.mem_cons.mp hx with rfl | hx
    · rfl
    · rw [List.mem_singleton.mp hx]; rfl
  rintro f g1 binds s s₁ env A hfd hR hh hfe hfg hfX hle0 ⟨P, rfl, hP⟩ En hE F
  subst hfd
  have hB := G.base
  have F : St f g1 (lk [("changes", .ref P), ("self", .ref a)]) [] s₁ := F
  walk_at "x1"
  walk_at "xan"
  walk_at "ec"
  walk_at "nG"
  walk_at "cw"
  walk_at "a1"
  walk_at "s1"
  walk_at "ea"
  walk_at "nL"
  walk_at "ga"
  walk_at "s1"
  walk_at "kn"
  walk_at "s1"
  walk_at "kn"
  walk_at "s1"
  walk_at "kn"
  walk_at "s1"
  walk_at "kb"
  walk_at "s1"
  walk_at "kb"
  walk_at "s0"
  walk_at "ko"
  walk_at "d"
  refine Calm.use (attrB_spec G) F (hR.le (by decide)) hh ?_
  rintro v2 g2 s2 hle1 ⟨x, rfl, hx⟩ F
  obtain ⟨g3, dx, od, l3, D, _, _, F⟩ := F.thawInst hx (by rw [hfg]; exact hle0) hle1
  walk_at "l"
  walk_at "x1"
  walk_at "xan"
  walk_at "d"
  walk_at "dp"
  walk_at "ep"
  walk_at "ks"
  walk_at "ea"
  walk_at "nL"
  walk_at "ga"
  walk_at "ep"
  walk_at "ks"
  walk_at "ea"
  walk_at "nL"
  walk_at "ga"
  walk_at "ep"
  walk_at "ks"
  walk_at "ea"
  walk_at "nL"
  walk_at "ga"
  walk_at "ep"
  walk_at "ks"
  walk_at "ea"
  walk_at "nL"
  walk_at "ga"
  walk_at "ep"
  walk_at "ks"
  walk_at "ea"
  walk_at "nL"
  walk_at "ga"
  walk_at "ep"
  walk_at "ks"
  walk_at "ea"
  walk_at "nL"
  walk_at "ga"
  walk_at "ep"
  walk_at "ks"
  walk_at "ea"
  walk_at "nL"
  walk_at "ga"
  walk_at "ep"
  walk_at "ks"
  walk_at "ea"
  walk_at "nL"
  walk_at "ga"
  walk_at "ep"
  walk_at "ks"
  walk_at "ea"
  walk_at "nL"
  walk_at "ga"
  walk_at "ep"
  walk_at "ks"
  walk_at "ea"
  walk_at "nL"
  walk_at "ga"
  walk_at "ep"
  walk_at "ks"
  walk_at "ea"
  walk_at "nL"
  walk_at "ga"
  walk_at "ep"
  walk_at "ks"
  walk_at "ea"
  walk_at "nL"
  walk_at "ga"
  walk_at "ep"
  walk_at "ks"
  walk_at "ea"
  walk_at "nL"
  walk_at "ga"
  walk_at "ep"
  walk_at "ks"
  walk_at "ea"
  walk_at "nL"
  walk_at "ga"
  walk_at "ep"
  refine ⟨_, _, _, partsL nm Dv K inh al (.bool true), by repeat' (first | exact trivial | refine ⟨strKind_is _ _ _ _, rfl, ?_⟩), kwDistinct_nodup rfl, F, ?_⟩
  intro od' s3 hD F
  walk_at "l"
  walk_at "x1"
  refine forE (fun _ _ => False) (fun _ => rfl) (fun _ _ z => z.elim) ?_
  walk_at "nL"
  walk_at "d"
  refine rdyKeys (gB := g1) F hh hP l3 fun it s' R => ?_
  refine ⟨_, _, _, _, _, [(PD, od')], [(dx, od), (x, instObj 311 dx)], fun i g' l o => Le g3 g' ∧ o = [(PD, od')] ∧ lk l "new" = some (.ref x) ∧ lk l "changes" = some (.ref P) ∧ lk l "self" = some (.ref a) ∧ lk l "parts" = some (.ref PD), R _ plainTgt_name, ⟨Le.refl _, rfl, rfl, rfl, rfl, rfl⟩, ?_, ?_⟩
  · rintro i g4 g5 l o T s' v4 E' hi hle2 hle3 ⟨hle4, rfl, m1, m2, m3, m4⟩ ⟨t, kv, rfl, hkv⟩ F hE'
    obtain rfl : i = 0 := by simpa using hi
    obtain rfl : kv = (("name" : Str), Value.str n tk) := by simpa using hkv.symm
    walk_at "as1"
    walk_at "l"
    walk_at "x1"
    walk_at "xif"
    walk_at "tc"
    walk_at "nL"
    walk_at "nL"
    walk_at "d"
    refine notInD F (DO.at hD (F.own (PD, od') (List.mem_append_left _ List.mem_cons_self)).1) hPm fun s' F => ?_
    rw [show valueAt (partsL nm Dv K inh al (.bool true)) "name" = some nm from rfl]
    walk_at "tb"
    walk_at "i0"
    walk_at "x0"
    walk_at "x0"
    walk_at "d"
    refine ⟨_, _, _, hle2.trans hle3, ?_, F⟩
    exact ⟨hle4.trans hle3, rfl, m1, m2, m3, m4⟩
  rintro g4 l4 o4 s4 hle4 ⟨hle5, rfl, m1, m2, m3, m4⟩ F
  have F : St f g4 (lk l4) ((PD, od') :: [(dx, od), (x, instObj 311 dx)]) s4 := F
  walk_at "x1"
  walk_at "xex"
  walk_at "em"
  walk_at "nL"
  walk_at "d"
  refine gmUpdate (DO.at hD (F.own (PD, od') List.mem_cons_self).1) ?_
  walk_at "cw"
  walk_at "a1"
  walk_at "s1"
  walk_at "nL"
  walk_at "s0"
  walk_at "ko"
  walk_at "d"
  refine callUpdate F hD (hP.le (l3.trans hle5)) (show 15 ≤ sizeLine by decide) fun od2 s5 hD F => ?_
  rw [show merged (partsL nm Dv K inh al (.bool true)) [("name", .str n tk)] = partsL (.str n tk) Dv K inh al (.bool true) from rfl] at hD
  obtain ⟨g5, l5, hPD, F⟩ := F.freezeD hD hPm (by rw [hfX]; exact fun h => nomatch h)
  walk_at "x1"
  walk_at "xatE"
  walk_at "et"
  walk_at "s1"
  walk_at "es"
  walk_at "nL"
  walk_at "ks"
  walk_at "subD"
  walk_at "s1"
  walk_at "es"
  walk_at "nL"
  walk_at "ks"
  walk_at "subD"
  walk_at "s1"
  walk_at "es"
  walk_at "nL"
  walk_at "ks"
  walk_at "subD"
  walk_at "s0"
  walk_at "tup"
  walk_at "asT"
  walk_at "io"
  walk_at "as2"
  walk_at "nL"
  walk_at "saO"
  walk_at "io"
  walk_at "as2"
  walk_at "nL"
  walk_at "saO"
  walk_at "io"
  walk_at "as2"
  walk_at "nL"
  walk_at "saO"
  walk_at "io"
  walk_at "x1"
  walk_at "xat"
  walk_at "et"
  walk_at "s1"
  walk_at "es"
  walk_at "nL"
  walk_at "ks"
  walk_at "subD"
  walk_at "s1"
  walk_at "es"
  walk_at "nL"
  walk_at "ks"
  walk_at "subD"
  walk_at "s1"
  walk_at "es"
  walk_at "nL"
  walk_at "ks"
  walk_at "subD"
  walk_at "s1"
  walk_at "es"
  walk_at "nL"
  walk_at "ks"
  walk_at "subD"
  walk_at "s0"
  walk_at "tup"
  walk_at "asT"
  walk_at "io"
  walk_at "as2"
  walk_at "nL"
  walk_at "saO"
  walk_at "io"
  walk_at "as2"
  walk_at "nL"
  walk_at "saO"
  walk_at "io"
  walk_at "as2"
  walk_at "nL"
  walk_at "saO"
  walk_at "io"
  walk_at "as2"
  walk_at "nL"
  walk_at "saO"
  walk_at "io"
  walk_at "x1"
  walk_at "xatE"
  walk_at "et"
  walk_at "s1"
  walk_at "es"
  walk_at "nL"
  walk_at "ks"
  walk_at "subD"
  walk_at "s1"
  walk_at "es"
  walk_at "nL"
  walk_at "ks"
  walk_at "subD"
  walk_at "s1"
  walk_at "es"
  walk_at "nL"
  walk_at "ks"
  walk_at "subD"
  walk_at "s0"
  walk_at "tup"
  walk_at "asT"
  walk_at "io"
  walk_at "as2"
  walk_at "nL"
  walk_at "saO"
  walk_at "io"
  walk_at "as2"
  walk_at "nL"
  walk_at "saO"
  walk_at "io"
  walk_at "as2"
  walk_at "nL"
  walk_at "saO"
  walk_at "io"
  walk_at "x1"
  walk_at "xatE"
  walk_at "et"
  walk_at "s1"
  walk_at "es"
  walk_at "nL"
  walk_at "ks"
  walk_at "subD"
  walk_at "s1"
  walk_at "es"
  walk_at "nL"
  walk_at "ks"
  walk_at "subD"
  walk_at "s0"
  walk_at "tup"
  walk_at "asT"
  walk_at "io"
  walk_at "as2"
  walk_at "nL"
  walk_at "saO"
  walk_at "io"
  walk_at "as2"
  walk_at "nL"
  walk_at "saO"
  walk_at "io"
  walk_at "x1"
  walk_at "xatE"
  walk_at "et"
  walk_at "s1"
  walk_at "es"
  walk_at "nL"
  walk_at "ks"
  walk_at "subD"
  walk_at "s1"
  walk_at "es"
  walk_at "nL"
  walk_at "ks"
  walk_at "subD"
  walk_at "s0"
  walk_at "tup"
  walk_at "asT"
  walk_at "io"
  walk_at "as2"
  walk_at "nL"
  walk_at "saO"
  walk_at "io"
  walk_at "as2"
  walk_at "nL"
  walk_at "saO"
  walk_at "io"
  walk_at "x1"
  walk_at "xif"
  walk_at "ta"
  walk_at "tc"
  walk_at "ks"
  walk_at "nL"
  refine inD F (DK.here hP (by walk_at "le") F) hP.2 fun s' F => ?_
  rw [show valueAt [(("name" : Str), Value.str n tk)] "alias" = none from rfl]
  walk_at "tb"
  walk_at "i0"
  walk_at "i0"
  walk_at "x1"
  walk_at "xif"
  walk_at "ta"
  walk_at "tc"
  walk_at "ks"
  walk_at "nL"
  refine inD F (DK.here hP (by walk_at "le") F) hP.2 fun s' F => ?_
  rw [show valueAt [(("name" : Str), Value.str n tk)] "name" = some (.str n tk) from rfl]
  walk_at "tb"
  walk_at "i1"
  walk_at "ta"
  walk_at "tc"
  walk_at "ks"
  walk_at "nL"
  refine notInD F (DK.here hP (by walk_at "le") F) hP.2 fun s' F => ?_
  rw [show valueAt [(("name" : Str), Value.str n tk)] "alias" = none from rfl]
  walk_at "tb"
  walk_at "i1"
  walk_at "ta"
  walk_at "tp"
  walk_at "ea"
  walk_at "nL"
  walk_at "ga"
  walk_at "tb"
  walk_at "i1"
  walk_at "ta0"
  walk_at "i1"
  walk_at "x1"
  walk_at "xaa"
  walk_at "ec"
  walk_at "nG"
  walk_at "cw"
  walk_at "a1"
  walk_at "s1"
  walk_at "ea"
  walk_at "nL"
  walk_at "d"
  walk_at "gaO"
  walk_at "s0"
  walk_at "ko"
  walk_at "d"
  refine Calm.use (alias_spec G hz) F (hR.le (by decide)) hh ?_
  rintro v6 g6 s6 hle6 ⟨t6, rfl⟩ F
  walk_at "nL"
  walk_at "saO"
  walk_at "x0"
  walk_at "x0"
  walk_at "x1"
  walk_at "xret"
  walk_at "nL"
  walk_at "d"
  obtain ⟨g9, l9, hN, _, F⟩ := finInst F D (by decide) hfX
  refine back F hfe hfg hfX ⟨x, t6, rfl, (hN.left (by walk_at "le")).congr (lk_same (by kernel_rfl) (by kernel_rfl))⟩
/-! LawOwn -/
def nm3 (k : Nat) : Option Bool := if k = 0 then none else if k = 1 then some true else some false
def ob : Option Bool → PyData
  | none => .none
  | some b => .bool b
structure Row3 where
  n : Str
  st : Bool
  nm : Option Bool
def Row3.d (r : Row3) : PyData := .tuple [.str r.n, .bool r.st, ob r.nm]
def own3 (N k : Nat) (n : Str) : Row3 := ⟨n, N / 6 ^ k % 2 == 1, nm3 (N / 6 ^ k / 2 % 3)⟩
theorem lawOwn_spec {d : Wd} (G : Good d) {g : Heap} {N : Nat} {tok : Tok} {lv : Value} {ns : List Str} (hl : rd g lv (.list (ns.map .str))) (hn : ns.length ≤ 3) : Calm d 6 (.ref 501) [.int (N : Int) tok, lv] [] g (fun v g' => rd g' v (.list ((ns.mapIdx fun k n => own3 N k n).map Row3.d))) := by
  refine calmC (n := 5) (binds := [("number", .int (N : Int) tok), ("names", lv)]) (lbs := [("names", lv)]) (cbs := [("number", .int (N : Int) tok)])
    G.K G.base (by k_is) (by k_is) (binds_eq (by kernel_rfl)) (fun L => by kernel_rfl) (by kernel_rfl) (by kernel_rfl) (by decide) rfl rfl rfl ?_
  intro f s s₁ env A co hfd hR hh hfe hfg hfX En hE hC F
  subst hfd
  have hB := G.base
  obtain ⟨o1, _, rfl, ho1, rfl⟩ := hC
  obtain ⟨g2, l2, k2, F⟩ := St.freeze1 F (by rw [hfX]; exact fun h => nomatch h)
  have hc : g2.IsCell (f.L + 1) (some (.int (N : Int) tok)) := ⟨_, k2, ho1⟩
  walk_at "x1"
  walk_at "xret"
  walk_at "d"
  refine lcE (cl := [("number", f.L + 1)]) En (by rw [clos_eq En]; kernel_rfl) (by decide) rfl (by decide) (fun _ => rfl) ?_
  walk_at "ec"
  walk_at "nB"
  walk_at "cw"
  walk_at "a1"
  walk_at "s1"
  walk_at "nL"
  walk_at "s0"
  walk_at "ko"
  walk_at "d"
  obtain ⟨a, vs, rfl, hls, hp⟩ := hl.listI
  refine callEnum F (hnd0 hh) (IsList_le hls l2) fun it s' R => ?_
  refine (R [] 0 default).self ⟨_, _, _, _, _, _, fun i g ys => Paired (rd g) ys (((ns.mapIdx fun k n => own3 N k n).map Row3.d).take i), R _ _ _, ?_, .nil, ?_, ?_⟩
  · rw [List.size_toArray, hp.length, List.length_map]; exact Nat.le_trans hn (by decide)
  · intro f' cenv i g1 g' l T s' v ys E' hw En' hi hle1 hle2 hI hP F
    obtain ⟨t, x, tok', rfl, ht, hx⟩ := hP
    have hB' := hB
    have hi3 : i < 3 := by
      have h1 := hp.length
      rw [List.length_map] at h1
      rw [List.size_toArray] at hi
      omega
    have hl6 : (6 ^ i).log2 < 1000 := by
      have : i = 0 ∨ i = 1 ∨ i = 2 := by omega
      rcases this with rfl | rfl | rfl <;> decide
    walk_at "asT"
    walk_at "io"
    walk_at "as1"
    walk_at "l"
    walk_at "io"
    walk_at "as1"
    walk_at "l"
    walk_at "io"
    walk_at "ts0"
    walk_at "i1"
    walk_at "et"
    walk_at "s1"
    walk_at "nL"
    walk_at "s1"
    walk_at "ec1"
    walk_at "eb"
    walk_at "eb"
    walk_at "nC"
    walk_at "eb"
    walk_at "ki"
    walk_at "nL"
    walk_at "d"
    refine op_powN F 6 i rfl rfl (by decide) ⟨by decide, by omega⟩ fun _ _ F => ?_
    refine op_fdN F N (6 ^ i) rfl rfl (Nat.pow_pos (by decide)) hl6 fun _ _ F => ?_
    walk_at "ki"
    refine op_modN F (N / 6 ^ i) 2 rfl rfl (by decide) fun _ _ F => ?_
    walk_at "ki"
    walk_at "eqI"
    walk_at "s1"
    walk_at "es"
    walk_at "el"
    walk_at "s1"
    walk_at "kn"
    walk_at "s1"
    walk_at "kb"
    walk_at "s1"
    walk_at "kb"
    walk_at "s0"
    walk_at "lst"
    walk_at "eb"
    walk_at "eb"
    walk_at "eb"
    walk_at "nC"
    walk_at "eb"
    walk_at "ki"
    walk_at "nL"
    refine op_powN F 6 i rfl rfl (by decide) ⟨by decide, by omega⟩ fun _ _ F => ?_
    refine op_fdN F N (6 ^ i) rfl rfl (Nat.pow_pos (by decide)) hl6 fun _ _ F => ?_
    walk_at "ki"
    refine op_fdN F (N / 6 ^ i) 2 rfl rfl (by decide) (by decide) fun _ _ F => ?_
    walk_at "ki"
    refine op_modN F (N / 6 ^ i / 2) 3 rfl rfl (by decide) fun _ _ F => ?_
    obtain ⟨nv, hnv, hor⟩ : ∃ nv, (#[Value.none, .bool true, .bool false] : Array Value)[N / 6 ^ i / 2 % 3]? = some nv ∧ ∀ g, rd g nv (ob (nm3 (N / 6 ^ i / 2 % 3))) := by
      have : N / 6 ^ i / 2 % 3 = 0 ∨ N / 6 ^ i / 2 % 3 = 1 ∨ N / 6 ^ i / 2 % 3 = 2 := by omega
      rcases this with e | e | e <;> rw [e]
      · exact ⟨_, rfl, fun g => rd_none⟩
      · exact ⟨_, rfl, fun g => rd_bool⟩
      · exact ⟨_, rfl, fun g => rd_bool⟩
    refine sub_list F ht (N / 6 ^ i / 2 % 3) rfl hnv (by decide) rfl ?_
    walk_at "s0"
    walk_at "tup"
    obtain ⟨y, hy, hxy⟩ := pat hp (by simpa using hx)
    rw [List.getElem?_map, Option.map_eq_some_iff] at hy
    obtain ⟨n, hn', rfl⟩ := hy
    obtain ⟨tk, rfl⟩ := hxy.str
    refine ⟨_, _, by walk_at "le", ?_, F⟩
    rw [← List.map_take, take_d hn', List.map_append, List.map_take]
    refine (prd_le hI (by walk_at "le")).snoc (rd_tup ht (.cons rd_str (.cons ?_ (.cons (hor _) .nil))))
    rw [show ((1 : Int)) = ((1 : Nat) : Int) from rfl, cast_beq]
    exact rd_bool
  · intro g1 g' D ys s' hle hle2 hI hD F
    refine back F hfe hfg hfX (rd_list hD ?_)
    have : (List.map Row3.d (List.mapIdx (fun k n => own3 N k n) ns)).length = vs.toArray.size := by simp [hp.length]
    rw [← this, List.take_length] at hI
    exact prd_le hI hle2
/-! LawSound -/
structure Row4 where
  n : Str
  al : Str
  st : Bool
  kw : Bool
  deriving DecidableEq
def Row4.d (r : Row4) : PyData := .tuple [.str r.n, .str r.al, .bool r.st, .bool r.kw]
/-- the places: what of the rows without a keyword stands -/
def places (rows : List Row4) : List Bool := (rows.filter fun r => !r.kw).map (·.st)
def soundF (ps : List Bool) : Bool := (ps.mapIdx fun k b => !b && (ps.take k).contains true).all (!·)
theorem sound_spec {d : Wd} (G : Good d) {g : Heap} {v : Value} {rows : List Row4} (hl : rd g v (.list (rows.map Row4.d))) (hz : rows.length ≤ 10) : CalmH d 20 (.ref 518) [v] [] g (fun v g' => v = .bool (soundF (places rows))) := by
  refine calmCH (n := 19) (binds := [("rows", v)]) (lbs := [("rows", v)]) (cbs := []) G.K G.base (by k_is) (by k_is) (binds_eq (by kernel_rfl)) (fun L => by kernel_rfl) (by kernel_rfl) (by kernel_rfl) (by decide) rfl rfl rfl ?_
  intro f s s₁ env A co hfd hR hh hfe hfg hfX En hE hC F
  subst hfd
  have hB := G.base
  obtain ⟨o1, _, rfl, ho1, rfl⟩ := hC
  walk_at "x1"
  walk_at "xanE"
  walk_at "d"
  refine lcE (cl := []) En (by rw [clos_eq En]; kernel_rfl) (by decide) rfl (by decide) (fun _ => rfl) ?_
  walk_at "nL"
  obtain ⟨a, vs, rfl, hls, hp⟩ := hl.listI
  refine rdyList (gB := g) F hh hls (Le.refl _) hls hh fun it s' R => ?_
  refine ⟨_, _, _, _, _, _, fun i _ ys => ys = (places (rows.take i)).map Value.bool, R _ plainTgt_tuple, ?_, rfl, ?_, ?_⟩
  · rw [List.size_toArray, hp.length, List.length_map]; exact Nat.le_trans hz (by decide)
  · intro f' cenv i g1 g' l T s' v ys E' hw En' hi hle1 hle2 hI hP F
    obtain ⟨y, hy, hvy⟩ := pat hp (by simpa using hP)
    rw [List.getElem?_map, Option.map_eq_some_iff] at hy
    obtain ⟨row, hrow, rfl⟩ := hy
    obtain ⟨t, v1, v2, v3, v4, rfl, ht, h1, h2, h3, h4⟩ := (hvy.le (hle1.trans hle2)).tup4
    obtain rfl := h3.bool
    obtain rfl := h4.bool
    have hh' : Hnd A g' := hh.le (hle1.trans hle2)
    walk_at "asT"
    walk_at "io"
    walk_at "as1"
    walk_at "l"
    walk_at "io"
    walk_at "as1"
    walk_at "l"
    walk_at "io"
    walk_at "as1"
    walk_at "l"
    walk_at "io"
    walk_at "as1"
    walk_at "l"
    walk_at "io"
    walk_at "ts1"
    walk_at "tn"
    walk_at "tp"
    walk_at "nL"
    walk_at "tb"
    walk_at "d"
    have hpl : (places (rows.take (i + 1))).map Value.bool = ys ++ (if row.kw then [] else [Value.bool row.st]) := by
      rw [hI, take_snoc hrow]
      unfold places
      rw [List.filter_append, List.map_append, List.map_append]
      cases hkw : row.kw <;> simp [List.filter_cons, hkw]
    cases hk : row.kw with
    | true =>
      rw [hk] at hpl
      walk_at "i0"
      exact ⟨_, _, hle1.trans hle2, by rw [hpl]; simp, F⟩
    | false =>
      rw [hk] at hpl
      walk_at "i1"
      walk_at "nL"
      exact ⟨_, _, hle1.trans hle2, by rw [hpl]; simp, F⟩
  · intro g1 g' D ys s' hle hle2 hI hD F
    have hlen : vs.toArray.size = rows.length := by simp [hp.length]
    rw [hlen, List.take_length] at hI
    subst hI
    refine stC En F ho1 rfl (by rw [hfX]; exact fun h => nomatch h) fun g2 s2 l2 hcell F => ?_
    have hD := IsList_le hD l2
    have hh := hh.le (hle.trans (hle2.trans l2))
    walk_at "x1"
    walk_at "xret"
    walk_at "ec1"
    walk_at "d"
    refine lcE (cl := [("places", f.L + 1)]) En (by rw [clos_eq En]; kernel_rfl) (by decide) rfl (by decide) (fun _ => rfl) ?_
    walk_at "ec"
    walk_at "nB"
    walk_at "cw"
    walk_at "a1"
    walk_at "s1"
    walk_at "nC"
    walk_at "s0"
    walk_at "ko"
    walk_at "d"
    refine callEnum F hh hD fun it s' R => ?_
    let cnd : Nat → Bool → Bool := fun k b => !b && ((places rows).take k).contains true
    refine (R [] 0 default).self ⟨_, _, _, _, _, _, fun i g ys => Paired (rd g) ys (((((places rows).mapIdx cnd).take i).filter id).map fun _ => PyData.int 1), R _ _ _, ?_, .nil, ?_, ?_⟩
    · have : (places rows).length ≤ rows.length := by unfold places; rw [List.length_map]; exact List.length_filter_le ..
      rw [List.size_toArray, List.length_map]; exact Nat.le_trans this (Nat.le_trans hz (by decide))
    · intro f' cenv i g1 g' l T s' v ys E' hw En' hi hle1 hle2 hI hP F
      obtain ⟨t, x, tok', rfl, ht, hx⟩ := hP
      have hh' : Hnd A g' := hh.le (hle1.trans hle2)
      obtain ⟨b, hb, rfl⟩ : ∃ b, (places rows)[i]? = some b ∧ x = .bool b := by
        have : ((places rows).map Value.bool)[i]? = some x := by simpa using hx
        rw [List.getElem?_map, Option.map_eq_some_iff] at this
        obtain ⟨b, h1, h2⟩ := this
        exact ⟨b, h1, h2.symm⟩
      have step : ((((places rows).mapIdx cnd).take (i + 1)).filter id).map (fun _ => PyData.int 1) = ((((places rows).mapIdx cnd).take i).filter id).map (fun _ => PyData.int 1) ++ (if cnd i b then [PyData.int 1] else []) := by
        rw [take_d hb, List.filter_append, List.map_append]
        cases hc : cnd i b <;> simp [hc]
      walk_at "asT"
      walk_at "io"
      walk_at "as1"
      walk_at "l"
      walk_at "io"
      walk_at "as1"
      walk_at "l"
      walk_at "io"
      walk_at "ts1"
      walk_at "ta"
      walk_at "tn"
      walk_at "tp"
      walk_at "nL"
      walk_at "tb"
      walk_at "d"
      cases b with
      | true =>
        walk_at "i0"
        walk_at "i0"
        refine ⟨_, _, hle1.trans hle2, ?_, F⟩
        rw [step, show cnd i true = false from rfl]
        simpa using prd_le hI hle2
      | false =>
        walk_at "i1"
        walk_at "ta"
        walk_at "tc"
        walk_at "kb"
        walk_at "slc"
        walk_at "nC"
        walk_at "ev"
        walk_at "ev"
        walk_at "nL"
        refine ⟨_, _, _, _, D, _, none, some (i : Int), rfl, F, IsList_le hD (hle1.trans hle2), ?_, .none, .int _ _, ?_⟩
        · have : (places rows).length ≤ rows.length := by unfold places; rw [List.length_map]; exact List.length_filter_le ..
          rw [List.size_toArray, List.length_map]; exact Nat.le_trans this (Nat.le_trans hz (by decide))
        intro g3 t3 s3 l3 hS F
        rw [slicePick_upto'] at hS
        have hS' : rd g3 (.ref t3) (.list (((places rows).take i).map PyData.bool)) := by
          refine rd_list hS ?_
          rw [← List.map_take]
          exact prd_bools _
        refine inRd F rd_bool hS' rfl (flats_lay (fun d hd => by obtain ⟨b, _, rfl⟩ := List.mem_map.mp hd; rfl)).1 (by decide) (hR.u64 (by decide)) ?_
        rw [any_bools]
        walk_at "tb"
        have hc : cnd i false = ((places rows).take i).contains true := rfl
        cases hq : ((places rows).take i).contains true with
        | true =>
          walk_at "i1"
          walk_at "ta0"
          walk_at "i1"
          walk_at "ki"
          refine ⟨_, _, (hle1.trans hle2).trans l3, ?_, F⟩
          rw [step, hc, hq]
          exact (prd_le hI (hle2.trans l3)).snoc rd_int
        | false =>
          walk_at "i0"
          walk_at "i0"
          refine ⟨_, _, (hle1.trans hle2).trans l3, ?_, F⟩
          rw [step, hc, hq]
          simpa using prd_le hI (hle2.trans l3)
    · intro g1 g' D2 ys s' hle3 hle4 hI hD2 F
      walk_at "el"
      walk_at "s0"
      walk_at "lst"
      have hlen2 : (List.map Value.bool (places rows)).toArray.size = ((places rows).mapIdx cnd).length := by simp
      rw [hlen2, List.take_length] at hI
      refine eqRd F (rd_list (IsList_le hD2 (by walk_at "le")) (prd_le hI (by walk_at "le"))) (rd_list ht .nil) (shaped_flats fun d hd => ?_) rfl (hR.u64 (by decide)) ?_
      · obtain ⟨_, _, rfl⟩ := List.mem_map.mp hd
        rfl
      rw [eqv_nil, ones_empty]
      exact back F hfe hfg hfX rfl
/-! ShapeR -/
/-- rows of flat data in tuples, in a list -/
theorem tup_flat {ds : List PyData} (h : ∀ d ∈ ds, flatD d = true) : (PyData.tuple ds).canLay0 = true ∧ (PyData.tuple ds).depth ≤ 2 := by
  have := flats_lay h
  refine ⟨by simp [PyData.canLay0, this.1], ?_⟩
  simp only [PyData.depth]
  have := this.2
  omega
theorem lay_all : ∀ {ds : List PyData} {n : Nat}, (∀ d ∈ ds, d.canLay0 = true ∧ d.depth ≤ n) → PyData.canLayAll0 ds = true ∧ PyData.depthAll ds ≤ n + 1
  | [], _, _ => ⟨rfl, by simp [PyData.depthAll]⟩
  | d :: ds, n, h => by
    have h1 := h d (.head _)
    have h2 := lay_all (ds := ds) (n := n) fun x hx => h x (.tail _ hx)
    refine ⟨by simp [PyData.canLayAll0, h1.1, h2.1], ?_⟩
    simp only [PyData.depthAll]
    have := h1.2
    have := h2.2
    omega
theorem shaped_tups {rs : List (List PyData)} (h : ∀ r ∈ rs, ∀ d ∈ r, flatD d = true) : SeqAt.shaped (.list (rs.map .tuple)) = true := by
  have := lay_all (ds := rs.map PyData.tuple) (n := 2) fun d hd => by
    obtain ⟨r, hr, rfl⟩ := List.mem_map.mp hd
    exact tup_flat (h r hr)
  unfold SeqAt.shaped
  simp only [PyData.canLay0, this.1, PyData.depth, Bool.true_and]
  exact decide_eq_true (by have := this.2; omega)
theorem shaped_ltups {rs : List (List PyData)} (h : ∀ r ∈ rs, ∀ d ∈ r, flatD d = true) : SeqAt.shaped (.list [.list (rs.map .tuple)]) = true := by
  have := lay_all (ds := rs.map PyData.tuple) (n := 2) fun d hd => by
    obtain ⟨r, hr, rfl⟩ := List.mem_map.mp hd
    exact tup_flat (h r hr)
  unfold SeqAt.shaped
  simp only [PyData.canLay0, PyData.canLayAll0, this.1, PyData.depth, PyData.depthAll, Bool.true_and, Bool.and_true]
  exact decide_eq_true (by have := this.2; omega)
def okS (r : Row4) : Prop := PyData.strOk r.n = true ∧ PyData.strOk r.al = true
theorem rows_shaped {rows : List Row4} (h : ∀ r ∈ rows, okS r) : SeqAt.shaped (.list (rows.map Row4.d)) = true := by
  have : rows.map Row4.d = (rows.map fun r => [PyData.str r.n, .str r.al, .bool r.st, .bool r.kw]).map .tuple := by rw [List.map_map]; rfl
  rw [this]
  refine shaped_tups fun x hx d hd => ?_
  obtain ⟨r, hr, rfl⟩ := List.mem_map.mp hx
  simp only [List.mem_cons, List.not_mem_nil, or_false] at hd
  have f : ∀ {x : Str}, PyData.strOk x = true → flatD (.str x) = true := fun {x} h => by
    show PyData.canLay0 (.str x) = true
    simpa [PyData.canLay0] using h
  rcases hd with rfl | rfl | rfl | rfl
  · exact f (h r hr).1
  · exact f (h r hr).2
  · rfl
  · rfl
theorem prev {α β : Type} {F : α → β → Prop} : ∀ {l : List α} {m : List β}, Paired F l m → Paired F l.reverse m.reverse
  | _, _, .nil => .nil
  | _, _, .cons h t => by
    rw [List.reverse_cons, List.reverse_cons]
    have := prev t
    exact go this (.cons h .nil)
where
  go {α β : Type} {F : α → β → Prop} : ∀ {l : List α} {m : List β} {l' : List α} {m' : List β}, Paired F l m → Paired F l' m' → Paired F (l ++ l') (m ++ m')
  | _, _, _, _, .nil, h => h
  | _, _, _, _, .cons x t, h => .cons x (go t h)
theorem pappend2 {α β : Type} {F : α → β → Prop} {l : List α} {m : List β} {l' : List α} {m' : List β} (a : Paired F l m) (b : Paired F l' m') : Paired F (l ++ l') (m ++ m') := prev.go a b
theorem psnoc2 {α β : Type} {F : α → β → Prop} {l : List α} {m : List β} {a : α} {b : β} (x : Paired F l m) (h : F a b) : Paired F (l ++ [a]) (m ++ [b]) := prev.go x (.cons h .nil)
theorem pdrop {α β : Type} {F : α → β → Prop} : ∀ {l : List α} {m : List β} (n : Nat), Paired F l m → Paired F (l.drop n) (m.drop n)
  | _, _, 0, h => h
  | _, _, n + 1, .nil => .nil
  | _, _, n + 1, .cons _ t => pdrop n t
theorem ptake {α β : Type} {F : α → β → Prop} : ∀ {l : List α} {m : List β} (n : Nat), Paired F l m → Paired F (l.take n) (m.take n)
  | _, _, 0, h => .nil
  | _, _, n + 1, .nil => .nil
  | _, _, n + 1, .cons h t => .cons h (ptake n t)
theorem plast {α β : Type} {F : α → β → Prop} {l : List α} {m : List β} {y : β} (h : Paired F l m) (hy : m.getLast? = some y) : ∃ x, l.getLast? = some x ∧ F x y := by
  rw [List.getLast?_eq_getElem?] at hy
  obtain ⟨x, hx, hf⟩ := pat' h hy
  refine ⟨x, ?_, hf⟩
  rw [List.getLast?_eq_getElem?, h.length]
  exact hx
section
variable {c : Fx} {g : Heap} {m : Str → Option Value} {r : List (Addr × Obj)} {s : Shared} {A : Around} {E : Value → Shared → Prop} {prog : Program} {w : World}
theorem sub_last {value slice : Expr} {l : Addr} {vs : List Value} {t : Tok} {x : Value} {Q : Value → Shared → Prop} (F : St c g m r s) (hl : g.IsList l vs.toArray) (hx : vs.getLast? = some x)
    (hs : subscripted slice false (.ref l) (.int (-1) t) = operate [.ref l, .int (-1) t] (getItem (.ref l) (.int (-1) t))) (h : Q x s) : wpAny (model prog w) A (subscriptTail value slice (.ref l) (.int (-1) t)) Q E s := by
  have hne : vs ≠ [] := fun e => by rw [e] at hx; cases hx
  have hlen : 0 < vs.length := List.length_pos_iff.mpr hne
  refine subT (IsList_le hl F.sub).typeIs list_getitem_lookup (wpAny_getItem_list_neg (IsList_le hl F.sub) (by decide) (by rw [List.size_toArray]; omega) (by decide) ?_ h) hs
  rw [List.size_toArray, show ((-1 : Int) + (vs.length : Nat)).toNat = vs.length - 1 by omega, List.getElem?_toArray, ← List.getLast?_eq_getElem?]
  exact hx
end
theorem op_neg {c : Fx} {g : Heap} {m : Str → Option Value} {r : List (Addr × Obj)} {s : Shared} {A : Around} {E : Value → Shared → Prop} {prog : Program} {w : World} {a : Int} {t : Tok} {Q : Value → Shared → Prop} (F : St c g m r s) (h : ∀ t s', St c g m r s' → Q (.int (-a) t) s') : wpAny (model prog w) A (unaryOp .USub (.int a t)) Q E s :=
  PyProof.Rows.neg_int (h _ _ F.toks)
/-! local lines for the walk -/
local macro_rules | `(tactic| walk_at "neg") => do
  let F := Lean.mkIdent `F
  `(tactic| ((with_reducible refine' op_neg ?F ?_); (case F => assumption); intro _ _ $F:ident))
/-! LawThese -/
def nv : Option Bool → Value
  | none => .none
  | some b => .bool b
/-- a _CountingAttr made from a row -/
def CAOf (g : Heap) (kv : Str × Value) (r : Row3) : Prop := kv.1 = r.n ∧ ∃ a Dv, kv.2 = .ref a ∧ InstF g a 346 (caF Dv (nv r.nm)) ∧ (if r.st then ∃ t, Dv = .int 70 t else Dv = .ref 70)
theorem these_spec {d : Wd} (G : Good d) {g : Heap} {v : Value} {rows : List Row3} (hl : rd g v (.list (rows.map Row3.d))) (hn : (rows.map (·.n)).Nodup) (hz : rows.length ≤ 10) :
    Calm d 9 (.ref 508) [v] [] g (fun v g' => ∃ D kvs, v = .ref D ∧ DK d g' D kvs ∧ Paired (CAOf g') kvs rows) := by
  refine calmK (n := 8) (binds := [("rows", v)]) (bs := [("rows", v)]) G.K G.base (by k_is) (by k_is) (binds_eq (by kernel_rfl)) rfl (by decide) rfl rfl rfl rfl ?_
  intro f s s₁ env A hfd hR hh hfe hfg hfX En hE F
  subst hfd
  have hB := G.base
  walk_at "x1"
  walk_at "xan"
  walk_at "d"
  refine newDictO hB F fun D od s' hDm hD F _ => ?_
  walk_at "l"
  walk_at "x1"
  obtain ⟨a, vs, rfl, hls, hp⟩ := hl.listI
  refine forE (fun _ _ => False) (fun _ => rfl) (fun _ _ z => z.elim) ?_
  walk_at "nL"
  walk_at "d"
  refine rdyList (gB := g) F (hnd0 hh) hls (Le.refl _) hls (hnd0 hh) fun it s' R => ?_
  refine ⟨_, _, _, _, _, [(D, od)], [], fun i g l o => ∃ od kvs l', l = l' ∧ lk l "these" = some (.ref D) ∧ o = [(D, od)] ∧ DO f.toWd od kvs ∧ Paired (CAOf g) kvs (rows.take i), R _ plainTgt_tuple, ?_, ?_, ?_⟩
  · exact ⟨od, [], _, rfl, rfl, rfl, hD, .nil⟩
  · intro i g1 g' l o T s' v E' hi hle1 hle2 hI hP F hE'
    obtain ⟨od, kvs, l', rfl, hthese, rfl, hD, hkv⟩ := hI
    obtain ⟨y, hy, hvy⟩ := pat hp (by simpa using hP)
    rw [List.getElem?_map, Option.map_eq_some_iff] at hy
    obtain ⟨row, hrow, rfl⟩ := hy
    obtain ⟨t, v1, v2, v3, rfl, ht, h1, h2, h3⟩ := (hvy.le (hle1.trans hle2)).tup3
    obtain ⟨tk, rfl⟩ := h1.str
    obtain rfl := h2.bool
    have h3' : v3 = nv row.nm := by
      cases e : row.nm <;> rw [e] at h3
      · exact h3.none
      · exact h3.bool
    subst h3'
    walk_at "asT"
    walk_at "io"
    walk_at "as1"
    walk_at "l"
    walk_at "io"
    walk_at "as1"
    walk_at "l"
    walk_at "io"
    walk_at "as1"
    walk_at "l"
    walk_at "io"
    walk_at "x1"
    walk_at "xas"
    walk_at "ei"
    walk_at "tp"
    walk_at "nL"
    walk_at "tb"
    walk_at "d"
    have fin : ∀ {g2 : Heap} {s2 : Shared} {a Dv}, Le g' g2 → InstF g2 a 346 (caF Dv (nv row.nm)) → (if row.st then ∃ t, Dv = .int 70 t else Dv = .ref 70) → St f g2 (lk (("named", nv row.nm) :: ("stands", Value.bool row.st) :: ("name", Value.str row.n tk) :: l)) ([(D, od)] ++ T) s2 →
        wpAny (model f.prog f.w) A (setItem (.ref D) (.str row.n tk) (.ref a)) (fun _ s₃ => ∃ g'' l'' o'', Le g g'' ∧ (∃ od kvs l', l'' = l' ∧ lk l'' "these" = some (.ref D) ∧ o'' = [(D, od)] ∧ DO f.toWd od kvs ∧ Paired (CAOf g'') kvs (rows.take (i + 1))) ∧ St f g'' (lk l'') (o'' ++ T) s₃) E' s2 := by
      intro g2 s2 a Dv hl2 hI hDv F
      have hkeys : kvs.map (·.1) = (rows.take i).map (·.n) := pkeys (fun _ _ h => h.1) hkv
      have hfr : row.n ∉ kvs.map (·.1) := by rw [hkeys]; exact notin_take hn hrow
      have hlen : kvs.length ≤ sizeLine := by
        have := congrArg List.length hkeys
        rw [List.length_map, List.length_map] at this
        rw [this]
        exact Nat.le_trans (by rw [List.length_take]; exact Nat.min_le_right ..) (Nat.le_trans hz (by decide))
      refine setD F hD hlen fun od' s' hD' F => ?_
      rw [stored_fresh hfr] at hD'
      refine ⟨_, _, _, (hle1.trans hle2).trans hl2, ⟨_, _, _, rfl, ?_, rfl, hD', ?_⟩, F⟩
      · exact hthese
      · rw [take_snoc hrow]
        exact (pmono (fun kv r ⟨h1, a, Dv, h2, h3, h4⟩ => ⟨h1, a, Dv, h2, h3.le (hle2.trans hl2), h4⟩) hkv).snoc ⟨rfl, a, Dv, rfl, hI, hDv⟩
    cases hst : row.st with
    | true =>
      walk_at "i1"
      walk_at "ec"
      walk_at "nG"
      walk_at "cw"
      walk_at "a2"
      walk_at "w1"
      walk_at "ki"
      walk_at "w1"
      walk_at "nL"
      walk_at "w0"
      walk_at "ko"
      walk_at "d"
      refine Calm.use (attrib_spec G) F (hR.le (by decide)) hh ?_
      rintro v2 g2 s2 hle3 ⟨a2, rfl, ha⟩ F
      walk_at "nL"
      walk_at "nL"
      refine wpAny_mono (fin hle3 ha (by rw [hst]; exact ⟨_, rfl⟩) F) (fun _ _ z => ?_) fun _ _ e => e
      walk_at "x0"
      walk_at "d"
      exact z
    | false =>
      walk_at "i0"
      walk_at "ec"
      walk_at "nG"
      walk_at "cw"
      walk_at "a2"
      walk_at "w1"
      walk_at "nL"
      walk_at "w0"
      walk_at "ko"
      walk_at "d"
      refine Calm.use (attrib_spec2 G) F (hR.le (by decide)) hh ?_
      rintro v2 g2 s2 hle3 ⟨a2, rfl, ha⟩ F
      walk_at "nL"
      walk_at "nL"
      refine wpAny_mono (fin hle3 ha (by rw [hst]; rfl) F) (fun _ _ z => ?_) fun _ _ e => e
      walk_at "x0"
      walk_at "d"
      exact z
  · intro g' l' o' s' hle hI F
    obtain ⟨od, kvs, l', rfl, hthese, rfl, hD, hkv⟩ := hI
    walk_at "x1"
    walk_at "xret"
    walk_at "nL"
    walk_at "d"
    obtain ⟨g2, l2, hDK, F⟩ := F.freezeD hD hDm (by rw [hfX]; exact fun h => nomatch h)
    refine back F hfe hfg hfX ⟨D, kvs, rfl, hDK, ?_⟩
    have hlen : vs.toArray.size = rows.length := by simp [hp.length]
    rw [hlen, List.take_length] at hkv
    exact pmono (fun kv r ⟨h1, a, Dv, h2, h3, h4⟩ => ⟨h1, a, Dv, h2, h3.le l2, h4⟩) hkv
/-! FromCA -/
theorem fca_spec {d : Wd} (G : Good d) {g : Heap} {nm Dv : Value} {ca : Addr} {b : Bool} {on : Option Bool} (hca : InstF g ca 346 (caF Dv (nv on))) (hD : handedIn Dv = true) : Calm d 12 (.ref 298) [.ref 311, nm, .ref ca, .bool b] [] g
    (fun v g' => ∃ a, v = .ref a ∧ InstN g g' a 311 (atF nm Dv (.bool (on.getD b)) (.bool false) .none (.bool true))) := by
  refine calmK (n := 11) (binds := [("cls", .ref 311), ("name", nm), ("ca", .ref ca), ("kw_only", .bool b)]) (bs := [("kw_only", .bool b), ("ca", .ref ca), ("name", nm), ("cls", .ref 311)]) G.K G.base (by k_is) (by k_is) (binds_eq (by kernel_rfl)) rfl (by decide) rfl rfl rfl rfl ?_
  intro f s s₁ env A hfd hR hh hfe hfg hfX En hE F
  subst hfd
  have hB := G.base
  cases on with
  | none =>
    have hca : InstF g ca 346 (caF Dv .none) := hca
    walk_at "x1"
    walk_at "xret"
    walk_at "ec"
    walk_at "nL"
    walk_at "cw"
    walk_at "a1"
    walk_at "s1"
    walk_at "nL"
    walk_at "s1"
    walk_at "ea"
    walk_at "nL"
    walk_at "ga"
    walk_at "s1"
    walk_at "ea"
    walk_at "nL"
    walk_at "ga"
    walk_at "s1"
    walk_at "kn"
    walk_at "s1"
    walk_at "ea"
    walk_at "nL"
    walk_at "ga"
    walk_at "s1"
    walk_at "kb"
    walk_at "s1"
    walk_at "ea"
    walk_at "nL"
    walk_at "ga"
    walk_at "s1"
    walk_at "ei"
    walk_at "tc"
    walk_at "ea"
    walk_at "nL"
    walk_at "ga"
    walk_at "kn"
    walk_at "is1"
    walk_at "tb"
    walk_at "i1"
    walk_at "nL"
    walk_at "s1"
    walk_at "ea"
    walk_at "nL"
    walk_at "ga"
    walk_at "s1"
    walk_at "ea"
    walk_at "nL"
    walk_at "ga"
    walk_at "s1"
    walk_at "ea"
    walk_at "nL"
    walk_at "ga"
    walk_at "s1"
    walk_at "ea"
    walk_at "nL"
    walk_at "ga"
    walk_at "s1"
    walk_at "ea"
    walk_at "nL"
    walk_at "ga"
    walk_at "s1"
    walk_at "ea"
    walk_at "nL"
    walk_at "ga"
    walk_at "s1"
    walk_at "ec1"
    walk_at "ea"
    walk_at "nL"
    walk_at "ga"
    walk_at "kn"
    walk_at "is1"
    walk_at "s0"
    walk_at "ko"
    walk_at "d"
    refine Calm.use (attrA_spec G) F (hR.le (by decide)) hh ?_
    rintro v g1 s2 hle ⟨a, rfl, ha⟩ F
    exact back F hfe hfg hfX ⟨a, rfl, ha⟩
  | some b2 =>
    have hca : InstF g ca 346 (caF Dv (.bool b2)) := hca
    walk_at "x1"
    walk_at "xret"
    walk_at "ec"
    walk_at "nL"
    walk_at "cw"
    walk_at "a1"
    walk_at "s1"
    walk_at "nL"
    walk_at "s1"
    walk_at "ea"
    walk_at "nL"
    walk_at "ga"
    walk_at "s1"
    walk_at "ea"
    walk_at "nL"
    walk_at "ga"
    walk_at "s1"
    walk_at "kn"
    walk_at "s1"
    walk_at "ea"
    walk_at "nL"
    walk_at "ga"
    walk_at "s1"
    walk_at "kb"
    walk_at "s1"
    walk_at "ea"
    walk_at "nL"
    walk_at "ga"
    walk_at "s1"
    walk_at "ei"
    walk_at "tc"
    walk_at "ea"
    walk_at "nL"
    walk_at "ga"
    walk_at "kn"
    walk_at "is2"
    walk_at "tb"
    walk_at "i0"
    walk_at "ea"
    walk_at "nL"
    walk_at "ga"
    walk_at "s1"
    walk_at "ea"
    walk_at "nL"
    walk_at "ga"
    walk_at "s1"
    walk_at "ea"
    walk_at "nL"
    walk_at "ga"
    walk_at "s1"
    walk_at "ea"
    walk_at "nL"
    walk_at "ga"
    walk_at "s1"
    walk_at "ea"
    walk_at "nL"
    walk_at "ga"
    walk_at "s1"
    walk_at "ea"
    walk_at "nL"
    walk_at "ga"
    walk_at "s1"
    walk_at "ea"
    walk_at "nL"
    walk_at "ga"
    walk_at "s1"
    walk_at "ec1"
    walk_at "ea"
    walk_at "nL"
    walk_at "ga"
    walk_at "kn"
    walk_at "is1"
    walk_at "s0"
    walk_at "ko"
    walk_at "d"
    refine Calm.use (attrA_spec G) F (hR.le (by decide)) hh ?_
    rintro v g1 s2 hle ⟨a, rfl, ha⟩ F
    exact back F hfe hfg hfX ⟨a, rfl, ha⟩
/-! AtL -/
/-! attributes as data -/
structure AtD where
  n : Str
  st : Bool
  kw : Bool
  inh : Bool
  al : Option Str
def DvOk (st : Bool) (Dv : Value) : Prop := if st then ∃ t, Dv = .int 70 t else Dv = .ref 70
def alOk (al : Option Str) (v : Value) : Prop := match al with | none => v = .none | some s => ∃ t, v = .str s t
/-- an attribute at an address, its dict at another -/
def AtX (g : Heap) (q : Addr × Addr) (a : AtD) : Prop := ∃ od nt Dv alv, g.get? q.1 = some (instObj 311 q.2) ∧ g.get? q.2 = some od ∧ DictF od (atF (.str a.n nt) Dv (.bool a.kw) (.bool a.inh) alv (.bool true)) 60 ∧ DvOk a.st Dv ∧ alOk a.al alv
def At (g : Heap) (x : Value) (a : AtD) : Prop := ∃ q, x = .ref q.1 ∧ AtX g q a
theorem AtX.le {g h : Heap} {q : Addr × Addr} {a : AtD} (x : AtX g q a) (k : Le g h) : AtX h q a := let ⟨od, nt, Dv, alv, h1, h2, r⟩ := x; ⟨od, nt, Dv, alv, k _ _ h1, k _ _ h2, r⟩
theorem At.le {g h : Heap} {x : Value} {a : AtD} (y : At g x a) (k : Le g h) : At h x a := let ⟨q, e, z⟩ := y; ⟨q, e, z.le k⟩
theorem At.inst {g : Heap} {x : Value} {a : AtD} (y : At g x a) : ∃ p nt Dv alv, x = .ref p ∧ InstF g p 311 (atF (.str a.n nt) Dv (.bool a.kw) (.bool a.inh) alv (.bool true)) ∧ DvOk a.st Dv ∧ alOk a.al alv := by
  obtain ⟨q, rfl, od, nt, Dv, alv, h1, h2, h3, h4, h5⟩ := y
  exact ⟨q.1, nt, Dv, alv, rfl, ⟨q.2, od, h1, h2, h3⟩, h4, h5⟩
theorem DvOk.handed {st : Bool} {Dv : Value} (h : DvOk st Dv) : handedIn Dv = true := by
  unfold DvOk at h
  split at h
  · obtain ⟨t, rfl⟩ := h; rfl
  · subst h; rfl
theorem alOk.handed {al : Option Str} {v : Value} (h : alOk al v) : handedIn v = true := by
  cases al with
  | none => obtain rfl : v = .none := h; rfl
  | some s => obtain ⟨t, rfl⟩ : ∃ t, v = .str s t := h; rfl
/-- an attribute that is new: it, its dict -/
theorem InstN.atX {g g' : Heap} {p : Addr} {nt : Tok} {Dv alv : Value} {a : AtD} (i : InstN g g' p 311 (atF (.str a.n nt) Dv (.bool a.kw) (.bool a.inh) alv (.bool true))) (h1 : DvOk a.st Dv) (h2 : alOk a.al alv) :
    ∃ q : Addr × Addr, q.1 = p ∧ AtX g' q a ∧ g.get? q.1 = none ∧ g.get? q.2 = none ∧ q.1 ≠ q.2 := by
  obtain ⟨dx, od, n1, n2, e1, e2, D⟩ := i
  refine ⟨(p, dx), rfl, ⟨od, nt, Dv, alv, e1, e2, D, h1, h2⟩, n1, n2, fun z => ?_⟩
  have z : p = dx := z
  rw [z, e2] at e1
  cases e1
  obtain ⟨es, n, e, _⟩ := D
  cases e
theorem pAt_le {g h : Heap} {vs : List Value} {as : List AtD} (p : Paired (At g) vs as) (k : Le g h) : Paired (At h) vs as := pmono (fun _ _ x => x.le k) p

def flat2 (qs : List (Addr × Addr)) : List Addr := qs.flatMap fun q => [q.1, q.2]
/-- attributes of the frame's own making: all apart, none known to gB -/
structure AtN (gB g : Heap) (qs : List (Addr × Addr)) (as : List AtD) : Prop where
  at_ : Paired (AtX g) qs as
  nd : (flat2 qs).Nodup
  new : ∀ b ∈ flat2 qs, gB.get? b = none ∧ ∃ o, g.get? b = some o
theorem AtN.nil {gB g : Heap} : AtN gB g [] [] := ⟨.nil, List.nodup_nil, fun _ h => nomatch h⟩
theorem AtN.le {gB g h : Heap} {qs : List (Addr × Addr)} {as : List AtD} (x : AtN gB g qs as) (k : Le g h) : AtN gB h qs as := ⟨pmono (fun _ _ y => y.le k) x.at_, x.nd, fun b hb => ⟨(x.new b hb).1, (x.new b hb).2.imp fun o e => k b o e⟩⟩
theorem psnoc {α β : Type} {F : α → β → Prop} {a : α} {b : β} : ∀ {l : List α} {m : List β}, Paired F l m → F a b → Paired F (l ++ [a]) (m ++ [b])
  | _, _, .nil, h => .cons h .nil
  | _, _, .cons x t, h => .cons x (psnoc t h)
theorem pappend {α β : Type} {F : α → β → Prop} : ∀ {l : List α} {m : List β} {l' : List α} {m' : List β}, Paired F l m → Paired F l' m' → Paired F (l ++ l') (m ++ m')
  | _, _, _, _, .nil, h => h
  | _, _, _, _, .cons x t, h => .cons x (pappend t h)
theorem AtN.snoc {gB g g' : Heap} {qs : List (Addr × Addr)} {as : List AtD} {q : Addr × Addr} {a : AtD} (x : AtN gB g qs as) (k : Le gB g) (l : Le g g') (h : AtX g' q a) (h1 : g.get? q.1 = none) (h2 : g.get? q.2 = none) (h3 : q.1 ≠ q.2) : AtN gB g' (qs ++ [q]) (as ++ [a]) where
  at_ := psnoc (x.le l).at_ h
  nd := by
    unfold flat2
    rw [List.flatMap_append, List.nodup_append]
    refine ⟨x.nd, by simp [h3], fun b hb c hc e => ?_⟩
    subst e
    obtain ⟨_, o, ho⟩ := x.new b hb
    simp at hc
    rcases hc with rfl | rfl
    · rw [h1] at ho; cases ho
    · rw [h2] at ho; cases ho
  new := fun b hb => by
    unfold flat2 at hb
    rw [List.flatMap_append, List.mem_append] at hb
    rcases hb with hb | hb
    · exact ⟨(x.new b hb).1, (x.new b hb).2.imp fun o e => l b o e⟩
    · simp at hb
      obtain ⟨od, _, _, _, e1, e2, _⟩ := h
      rcases hb with rfl | rfl
      · exact ⟨none_le k h1, _, e1⟩
      · exact ⟨none_le k h2, _, e2⟩
theorem Paired.mapL {α β γ : Type} {F : γ → β → Prop} {f : α → γ} : ∀ {l : List α} {m : List β}, Paired (fun a b => F (f a) b) l m → Paired F (l.map f) m
  | _, _, .nil => .nil
  | _, _, .cons x t => .cons x (Paired.mapL t)
theorem AtN.ats {gB g : Heap} {qs : List (Addr × Addr)} {as : List AtD} (x : AtN gB g qs as) : Paired (At g) (qs.map fun q => Value.ref q.1) as :=
  Paired.mapL (pmono (fun q _ h => ⟨q, rfl, h⟩) x.at_)
theorem AtN.append {gA g1 g2 : Heap} {qs qb : List (Addr × Addr)} {as bs : List AtD} (x : AtN gA g1 qs as) (y : AtN g1 g2 qb bs) (k : Le gA g1) (l : Le g1 g2) : AtN gA g2 (qb ++ qs) (bs ++ as) where
  at_ := pappend y.at_ (x.le l).at_
  nd := by
    unfold flat2
    rw [List.flatMap_append, List.nodup_append]
    refine ⟨y.nd, x.nd, fun b hb c hc e => ?_⟩
    subst e
    obtain ⟨_, o, ho⟩ := x.new b hc
    rw [(y.new b hb).1] at ho; cases ho
  new := fun b hb => by
    unfold flat2 at hb
    rw [List.flatMap_append, List.mem_append] at hb
    rcases hb with hb | hb
    · exact ⟨none_le k (y.new b hb).1, (y.new b hb).2⟩
    · exact (x.le l).new b hb
theorem AtN.weak {gA gB g : Heap} {qs : List (Addr × Addr)} {as : List AtD} (x : AtN gB g qs as) (k : Le gA gB) : AtN gA g qs as := ⟨x.at_, x.nd, fun b hb => ⟨none_le k (x.new b hb).1, (x.new b hb).2⟩⟩
theorem pset {α β : Type} {F G : α → β → Prop} : ∀ {l : List α} {m : List β} {i : Nat} {x : α} {y' : β}, Paired F l m → l[i]? = some x → G x y' → (∀ j x' y, j ≠ i → l[j]? = some x' → F x' y → G x' y) → Paired G l (m.set i y')
  | _, _, _, _, _, .nil, h, _, _ => by simp at h
  | a :: l, b :: m, 0, x, y', .cons h t, hx, hG, hk => by
    simp at hx
    subst hx
    refine .cons hG ?_
    exact pgo t fun j x' y hx' hf => hk (j + 1) x' y (Nat.succ_ne_zero j) (by simpa using hx') hf
  | a :: l, b :: m, i + 1, x, y', .cons h t, hx, hG, hk => by
    refine .cons (hk 0 a b (Ne.symm (Nat.succ_ne_zero i)) rfl h) ?_
    exact pset t (by simpa using hx) hG fun j x' y hj hx' hf => hk (j + 1) x' y (by omega) (by simpa using hx') hf
where
  pgo {α β : Type} {F G : α → β → Prop} : ∀ {l : List α} {m : List β}, Paired F l m → (∀ j x' y, l[j]? = some x' → F x' y → G x' y) → Paired G l m
  | _, _, .nil, _ => .nil
  | _, _, .cons h t, k => .cons (k 0 _ _ rfl h) (pgo t fun j x' y hx hf => k (j + 1) x' y (by simpa using hx) hf)
theorem mixSet {α : Type} (f : α → α) : ∀ {as : List α} {i : Nat} {a : α}, as[i]? = some a → ((as.take i).map f ++ as.drop i).set i (f a) = (as.take (i + 1)).map f ++ as.drop (i + 1)
  | [], _, _, h => by simp at h
  | b :: as, 0, a, h => by simp at h; subst h; simp
  | b :: as, i + 1, a, h => by
    have := mixSet f (as := as) (i := i) (by simpa using h)
    simpa using this
theorem mixAt {α : Type} (f : α → α) : ∀ {as : List α} {i : Nat}, ((as.take i).map f ++ as.drop i)[i]? = as[i]?
  | [], _ => by simp
  | b :: as, 0 => by simp
  | b :: as, i + 1 => by
    have := mixAt f (as := as) (i := i)
    simpa using this
theorem flat2_mem {qs : List (Addr × Addr)} {i : Nat} {q : Addr × Addr} (h : qs[i]? = some q) : q.1 ∈ flat2 qs ∧ q.2 ∈ flat2 qs := by
  have := List.mem_of_getElem? h
  unfold flat2
  constructor <;> exact List.mem_flatMap.mpr ⟨q, this, by simp⟩
theorem flat2_ne : ∀ {qs : List (Addr × Addr)} {i j : Nat} {q q' : Addr × Addr}, (flat2 qs).Nodup → qs[i]? = some q → qs[j]? = some q' → j ≠ i → (q'.1 ≠ q.1 ∧ q'.1 ≠ q.2) ∧ q'.2 ≠ q.1 ∧ q'.2 ≠ q.2
  | [], _, _, _, _, _, h, _, _ => by simp at h
  | p :: qs, i, j, q, q', nd, hi, hj, hne => by
    have e : flat2 (p :: qs) = p.1 :: p.2 :: flat2 qs := by unfold flat2; simp
    rw [e, List.nodup_cons, List.nodup_cons] at nd
    obtain ⟨n1, n2, n3⟩ := nd
    cases i with
    | zero =>
      cases j with
      | zero => exact absurd rfl hne
      | succ j =>
        simp at hi hj
        subst hi
        have m := flat2_mem hj
        refine ⟨⟨fun z => n1 (.tail _ (z ▸ m.1)), fun z => n2 (z ▸ m.1)⟩, fun z => n1 (.tail _ (z ▸ m.2)), fun z => n2 (z ▸ m.2)⟩
    | succ i =>
      simp at hi
      have mi := flat2_mem hi
      cases j with
      | zero =>
        simp at hj
        subst hj
        refine ⟨⟨fun z => n1 (.tail _ (by rw [z]; exact mi.1)), fun z => n1 (.tail _ (by rw [z]; exact mi.2))⟩, fun z => n2 (by rw [z]; exact mi.1), fun z => n2 (by rw [z]; exact mi.2)⟩
      | succ j =>
        simp at hj
        exact flat2_ne n3 hi hj (by omega)
/-- the heap without the attributes -/
theorem AtN.hide {gA g : Heap} {qs : List (Addr × Addr)} {as : List AtD} (x : AtN gA g qs as) (k : Le gA g) : ∃ gH, Le gA gH ∧ Le gH g ∧ (∀ b o, b ∉ flat2 qs → g.get? b = some o → gH.get? b = some o) ∧ ∀ b ∈ flat2 qs, gH.get? b = none := by
  refine ⟨pick g fun b => b ∉ flat2 qs, fun b o e => (pick_get ..).mpr ⟨fun hb => ?_, k b o e⟩, fun b o e => ((pick_get ..).mp e).2, fun b o hb e => (pick_get ..).mpr ⟨hb, e⟩, fun b hb => ?_⟩
  · rw [(x.new b hb).1] at e; cases e
  · cases q : (pick g fun b => b ∉ flat2 qs).get? b with
    | none => rfl
    | some o => exact absurd hb ((pick_get ..).mp q).1
section
variable {c : Fx} {g : Heap} {m : Str → Option Value} {r : List (Addr × Obj)} {s : Shared}
theorem St.thawAt {x C dx : Addr} {od : Obj} {l : List (Str × Value)} (F : St c g m r s) (h1 : g.get? x = some (instObj C dx)) (h2 : g.get? dx = some od) (D : DictF od l 60) (hx : c.g0.get? x = none) (hd : c.g0.get? dx = none) :
    ∃ g', (∀ b o, b ≠ x → b ≠ dx → g.get? b = some o → g'.get? b = some o) ∧ Le g' g ∧ g'.get? x = none ∧ g'.get? dx = none ∧ St c g' m ((dx, od) :: (x, instObj C dx) :: r) s := by
  have hne : x ≠ dx := fun e => by
    rw [e, h2] at h1
    obtain ⟨es, n, rfl, _⟩ := D
    cases h1
  obtain ⟨g1, a1, a2, a3, a4, F1⟩ := F.thaw h2 hd D.ord
  obtain ⟨g2, b1, b2, b3, b4, F2⟩ := F1.thaw (a2 _ _ hne h1) hx rfl
  exact ⟨g2, fun b o n1 n2 e => b2 b o n1 (a2 b o n2 e), b1.trans a1, b3, none_le b1 a3, F2.perm (List.Perm.swap ..)⟩
theorem St.freezeAt {x C dx : Addr} {od : Obj} (F : St c g m ((dx, od) :: (x, instObj C dx) :: r) s) (hX : ∀ x ∈ c.X, ∃ o, (x, o) ∈ r) : ∃ g', Le g g' ∧ g'.get? x = some (instObj C dx) ∧ g'.get? dx = some od ∧ St c g' m r s := by
  obtain ⟨g1, l1, k1, F1⟩ := F.freeze1 (head_notX F fun y hy => (hX y hy).imp fun o h => .tail _ h)
  obtain ⟨g2, l2, k2, F2⟩ := F1.freeze1 (head_notX F1 hX)
  exact ⟨g2, l1.trans l2, k2, l2 _ _ k1, F2⟩
end
theorem pmem {α β : Type} {F : α → β → Prop} : ∀ {l : List α} {m : List β} {x : α}, Paired F l m → x ∈ l → ∃ y ∈ m, F x y
  | _, _, _, .nil, h => nomatch h
  | _, _, _, .cons h t, hm => by
    rcases List.mem_cons.mp hm with rfl | hm
    · exact ⟨_, .head _, h⟩
    · obtain ⟨y, hy, hf⟩ := pmem t hm
      exact ⟨y, .tail _ hy, hf⟩
theorem AtN.notList {gA g : Heap} {qs : List (Addr × Addr)} {as : List AtD} (x : AtN gA g qs as) {a : Addr} {items : Array Value} (h : g.IsList a items) : a ∉ flat2 qs := fun hm => by
  unfold flat2 at hm
  obtain ⟨q, hq, hm⟩ := List.mem_flatMap.mp hm
  obtain ⟨y, _, od, nt, Dv, alv, h1, h2, ⟨es, n, rfl, _⟩, _⟩ := pmem x.at_ hq
  obtain ⟨o, e1, _, n, e2⟩ := h
  simp at hm
  rcases hm with rfl | rfl
  · rw [h1] at e1; cases e1; cases e2
  · rw [h2] at e1; cases e1; cases e2
/-! HV -/
theorem valueAt_cons (p : Str × Value) (r : List (Str × Value)) (k : Str) : valueAt (p :: r) k = if p.1 = k then some p.2 else valueAt r k := by
  unfold valueAt
  by_cases h : p.1 = k
  · simp [List.find?_cons, h]
  · simp [List.find?_cons, h]
theorem valueAt_append (l r : List (Str × Value)) (k : Str) : valueAt (l ++ r) k = (valueAt l k).or (valueAt r k) := by
  induction l with
  | nil => rfl
  | cons p l ih =>
    rw [List.cons_append, valueAt_cons, valueAt_cons, ih]
    split <;> rfl
theorem valueAt_none {l : List (Str × Value)} {k : Str} (h : k ∉ l.map (·.1)) : valueAt l k = none := by
  induction l with
  | nil => rfl
  | cons p l ih =>
    rw [List.map_cons, List.mem_cons, not_or] at h
    rw [valueAt_cons, if_neg (Ne.symm h.1)]
    exact ih h.2
theorem valueAt_stored (l : List (Str × Value)) (k : Str) (v : Value) (k' : Str) : valueAt (stored l k v) k' = if k' = k then some v else valueAt l k' := by
  unfold stored
  split
  · rename_i hany
    have main : ∀ l : List (Str × Value), valueAt (l.map fun kv => if kv.1 = k then (kv.1, v) else kv) k' = if k' = k then (if l.any (fun kv => kv.1 = k) then some v else none) else valueAt l k' := by
      intro l
      induction l with
      | nil => simp [valueAt]
      | cons p l ih =>
        rw [List.map_cons, valueAt_cons, ih, valueAt_cons]
        by_cases h1 : p.1 = k
        · rw [if_pos h1]
          by_cases h2 : k' = k
          · subst h2; simp [h1]
          · have : ¬ p.1 = k' := fun e => h2 (by rw [← e, h1])
            simp [h2, this]
        · rw [if_neg h1]
          by_cases h2 : k' = k
          · subst h2; simp only [List.any_cons, h1, decide_false, Bool.false_or, if_true, if_false]
          · simp [h2]
    rw [main]
    split
    · first | rfl | rw [if_pos hany]
    · rfl
  · rename_i hany
    rw [valueAt_append, valueAt_cons]
    by_cases h : k' = k
    · subst h
      rw [if_pos rfl, if_pos rfl, valueAt_none]
      · rfl
      · intro hm
        obtain ⟨p, hp, e⟩ := List.mem_map.mp hm
        exact hany (List.any_eq_true.mpr ⟨p, hp, decide_eq_true e⟩)
    · rw [if_neg h, if_neg (Ne.symm h)]
      show (valueAt l k').or none = _
      cases valueAt l k' <;> rfl

/-- what is handed: told by V for the names in S, seventy for those in D -/
structure HV (V : Str → Int) (S D : List Str) (kv : List (Str × Value)) (n : Nat) : Prop where
  s : ∀ k ∈ S, ∃ t, valueAt kv k = some (.int (V k) t)
  d : ∀ k ∈ D, k ∉ S → ∃ t, valueAt kv k = some (.int 70 t)
  nn : ∀ k, k ∉ S → k ∉ D → valueAt kv k = none
  len : kv.length ≤ n
theorem HV.nil {V : Str → Int} {n : Nat} : HV V [] [] [] n := ⟨(fun _ h => nomatch h), (fun _ h => nomatch h), (fun _ _ _ => rfl), Nat.zero_le _⟩
theorem stored_len (l : List (Str × Value)) (k : Str) (v : Value) : (stored l k v).length ≤ l.length + 1 := stored_length_le l k v
theorem HV.addS {V : Str → Int} {S : List Str} {kv : List (Str × Value)} {n : Nat} {k : Str} {t : Tok} (x : HV V S [] kv n) : HV V (S ++ [k]) [] (stored kv k (.int (V k) t)) (n + 1) where
  s := fun k' h => by
    rw [valueAt_stored]
    split
    · rename_i e; subst e; exact ⟨t, rfl⟩
    · rename_i e
      rcases List.mem_append.mp h with h | h
      · exact x.s k' h
      · exact absurd (List.mem_singleton.mp h) e
  d := fun k' h => nomatch h
  nn := fun k' h1 h2 => by
    rw [List.mem_append, not_or] at h1
    rw [valueAt_stored, if_neg (fun e => h1.2 (List.mem_singleton.mpr e))]
    exact x.nn k' h1.1 h2
  len := Nat.le_trans (stored_len ..) (Nat.succ_le_succ x.len)
theorem HV.addD {V : Str → Int} {S D : List Str} {kv : List (Str × Value)} {n : Nat} {k : Str} {t : Tok} (x : HV V S D kv n) (hk : k ∉ S) : HV V S (D ++ [k]) (stored kv k (.int 70 t)) (n + 1) where
  s := fun k' h => by
    rw [valueAt_stored, if_neg (fun e : k' = k => hk (e ▸ h))]
    exact x.s k' h
  d := fun k' h h2 => by
    rw [valueAt_stored]
    split
    · exact ⟨t, rfl⟩
    · rename_i e
      rcases List.mem_append.mp h with h | h
      · exact x.d k' h h2
      · exact absurd (List.mem_singleton.mp h) e
  nn := fun k' h1 h2 => by
    rw [List.mem_append, not_or] at h2
    rw [valueAt_stored, if_neg (fun e => h2.2 (List.mem_singleton.mpr e))]
    exact x.nn k' h1 h2.1
  len := Nat.le_trans (stored_len ..) (Nat.succ_le_succ x.len)
theorem HV.skip {V : Str → Int} {S D : List Str} {kv : List (Str × Value)} {n : Nat} {k : Str} (x : HV V S D kv n) (hk : k ∈ S) : HV V S (D ++ [k]) kv (n + 1) where
  s := x.s
  d := fun k' h h2 => by
    rcases List.mem_append.mp h with h | h
    · exact x.d k' h h2
    · rw [List.mem_singleton.mp h] at h2; exact absurd hk h2
  nn := fun k' h1 h2 => x.nn k' h1 fun h => h2 (List.mem_append_left _ h)
  len := Nat.le_succ_of_le x.len

theorem lenL {c : Fx} {g : Heap} {m : Str → Option Value} {r : List (Addr × Obj)} {s : Shared} {A : Around} {E : Value → Shared → Prop} {prog : Program} {w : World} {l : Addr} {vs : List Value} {Q : Value → Shared → Prop} (F : St c g m r s) (hl : g.IsList l vs.toArray) (hz : vs.length ≤ sizeLine) (h : ∀ t s', St c g m r s' → Q (.int (vs.length : Nat) t) s') : wpAny (model prog w) A (call (.builtin "len") [.ref l]) Q E s :=
  PyProof.Rows.len_list (IsList_le hl F.sub) (by rw [List.size_toArray]; have : sizeLine < 2 ^ 63 := by decide
                                                 omega) (by rw [List.size_toArray]; exact h _ _ F.toks)
theorem lenT {c : Fx} {g : Heap} {m : Str → Option Value} {r : List (Addr × Obj)} {s : Shared} {A : Around} {E : Value → Shared → Prop} {prog : Program} {w : World} {l : Addr} {vs : List Value} {Q : Value → Shared → Prop} (F : St c g m r s) (hl : IsTup g l vs.toArray) (hz : vs.length ≤ sizeLine) (h : ∀ t s', St c g m r s' → Q (.int (vs.length : Nat) t) s') : wpAny (model prog w) A (call (.builtin "len") [.ref l]) Q E s :=
  PyProof.Rows.len_tuple (hl.keeps F.sub) (by rw [List.size_toArray]; have : sizeLine < 2 ^ 63 := by decide
                                              omega) (by rw [List.size_toArray]; exact h _ _ F.toks)
theorem any_strs (xs : List Str) (k : Str) : ((xs.map PyData.str).any fun y => PyData.eqv y (.str k)) = xs.contains k := by
  induction xs with
  | nil => rfl
  | cons x xs ih =>
    rw [List.map_cons, List.any_cons, ih]
    by_cases h : x = k
    · subst h; simp [PyData.eqv]
    · have h2 : (x == k) = false := beq_eq_false_iff_ne.mpr h
      have h3 : (k == x) = false := beq_eq_false_iff_ne.mpr (Ne.symm h)
      simp [PyData.eqv, h2, h3, h, Ne.symm h]
theorem lay_strs {xs : List Str} (h : ∀ x ∈ xs, PyData.strOk x = true) : PyData.canLayAll0 (xs.map PyData.str) = true := (flats_lay fun d hd => by
  obtain ⟨x, hx, rfl⟩ := List.mem_map.mp hd
  show PyData.canLay0 (.str x) = true
  simpa [PyData.canLay0] using h x hx).1
theorem valueAt_mem {l : List (Str × Value)} {i : Nat} {kv : Str × Value} (hn : (l.map (·.1)).Nodup) (h : l[i]? = some kv) : valueAt l kv.1 = some kv.2 := by
  induction l generalizing i with
  | nil => simp at h
  | cons p l ih =>
    rw [List.map_cons, List.nodup_cons] at hn
    rw [valueAt_cons]
    cases i with
    | zero =>
      simp at h
      subst h
      simp
    | succ i =>
      have h : l[i]? = some kv := by simpa using h
      have : p.1 ≠ kv.1 := fun e => hn.1 (by rw [e]; exact List.mem_map_of_mem (List.mem_of_getElem? h))
      rw [if_neg this]
      exact ih hn.2 h
/-! RevR -/
theorem nolen_lri : typeLookup (.type "list_reverseiterator") "__len__" = pure none := by rw [typeLookup_type, builtinLookup_eq_fast]; kernel_rfl
theorem hint_lri : typeLookup (.type "list_reverseiterator") "__length_hint__" = pure (some (.builtin "list_reverseiterator.__length_hint__")) := by rw [typeLookup_type, builtinLookup_eq_fast]; kernel_rfl
section
variable {prog : Program} {w : World} {A : Around} {E : Value → Shared → Prop} {s : Shared} {R : Result → Shared → Prop}
theorem hint_rev {I l : Addr} {i : Int} {Q : Bool → Shared → Prop} (hit : s.heap.IsRevIter I l i) (h : Q false s) : wpAny (model prog w) A (Builtin.List.listLengthHint (.ref I)) Q E s := by
  unfold Builtin.List.listLengthHint
  refine wpAny_bind (wpAny_specialOf hit.typeIs nolen_lri ?_)
  show wpAny _ A (specialOf (Value.ref I) (Str.ofString "__length_hint__") >>= _) _ _ _
  refine wpAny_bind (wpAny_specialOf hit.typeIs hint_lri ?_)
  (generalize hid : ("list_reverseiterator.__length_hint__" : String) = id0)
  (fail_if_success (clear hid id0))
  wp_delta
  rw [show splitId id0 = some ("list_reverseiterator", "__length_hint__") from by subst hid; decide +kernel]
  subst hid
  refine wpAny_bind (wpAny_isInstance (b := true) hit.typeIs (by rw [isSubtype_type]; kernel_rfl) ?_)
  exact wpAny_pure h

theorem extend_rev {I l S : Addr} {items : Array Value} {res : Value} (hh : A.handled = none) (hne : l ≠ I) (hSI : S ≠ I) (hSl : S ≠ l) (hit : s.heap.IsRevIter I l ((items.size : Int) - 1)) (hl : s.heap.IsList l items) (hn : items.size ≤ sizeLine)
    (hS : s.heap.get? S = some { cls := .type "list", data := .seq #[] 0 })
    (hR : ∀ s' acc' c', (∀ b o, b ≠ S → b ≠ I → s.heap.get? b = some o → s'.heap.get? b = some o) → s'.gens = s.gens → s'.drawn = s.drawn → s'.os = s.os → s'.heap.get? S = some { cls := .type "list", dict := none, data := .seq acc' c', slots := #[] } →
      ItemsOf (fun i v => items[items.size - 1 - i]? = some v) acc' items.size → R (.ok (.ret res)) s') :
    wpAny (model prog w) A.in1 (Builtin.List.listExtendWith (.ref S) (.ref I) res)
      (fun fin s' => match fin with | .done f => R (.ok f) s' | .again c' => c'.quiet = true ∧ codeAny (model prog w) A c' R s') (fun e s' => R (.error e) s') s := by
  have W := (Walks.listRev (prog := prog) (w := w) (A := A.in1) hh I l hne items).toS
  unfold Builtin.List.listExtendWith
  refine wpAny_bind (wpAny_typeOf hit.typeIs ?_)
  have h1 : Builtin.List.listSameRef (.ref S) (.ref I) = false := by simp [Builtin.List.listSameRef, hSI]
  have h2 : (Value.type "list_reverseiterator" == Value.type "list") = false := by decide
  have h3 : (Value.type "list_reverseiterator" == Value.type "tuple") = false := by decide
  simp only [h1, h2, h3, Bool.or_false, Bool.false_eq_true, if_false]
  refine wpAny_bind (wpAny_pyIter_revIter hit ?_)
  refine wpAny_bind (wpAny_holding (hint_rev hit ?_))
  rw [if_neg (by decide)]
  refine wpAny_pure ⟨plainId_quiet PySem.F.plain_extend_loop _, codeAny_extend_loopS W hn S (by simp; exact ⟨hSI, hSl⟩) res _ 0 _ _ _ rfl (Nat.zero_le _) ⟨Nat.zero_le _, by simpa using hit, hl⟩ hS (ItemsOf.nil _) fun s' acc' c' hm hS' hacc => ?_⟩
  exact hR s' acc' c' (fun b o h1 h2 e => hm.heap b o (by simp [h1, h2]) e) hm.gens hm.drawn hm.os hS' hacc

theorem init_rev {I l S : Addr} {items : Array Value} (hh : A.handled = none) (hne : l ≠ I) (hSI : S ≠ I) (hSl : S ≠ l) (hit : s.heap.IsRevIter I l ((items.size : Int) - 1)) (hl : s.heap.IsList l items) (hn : items.size ≤ sizeLine)
    (hS : s.heap.get? S = some { cls := .type "list", data := .seq #[] })
    (hR : ∀ s' acc' c', (∀ b o, b ≠ S → b ≠ I → s.heap.get? b = some o → s'.heap.get? b = some o) → s'.gens = s.gens → s'.drawn = s.drawn → s'.os = s.os → s'.heap.get? S = some { cls := .type "list", dict := none, data := .seq acc' c', slots := #[] } →
      ItemsOf (fun i v => items[items.size - 1 - i]? = some v) acc' items.size → R (.ok (.ret .none)) s') :
    wpAny (model prog w) A.in1 (Builtin.«list.__init__» ⟨[.ref S, .ref I], []⟩)
      (fun fin s' => match fin with | .done f => R (.ok f) s' | .again c' => c'.quiet = true ∧ codeAny (model prog w) A c' R s') (fun e s' => R (.error e) s') s := by
  show wpAny _ A.in1 (do let old ← Builtin.List.listItems (.ref S); Builtin.List.listUpdate (.ref S) (fun _ => #[]); letGo old.toList.reverse; Builtin.List.listExtendWith (.ref S) (.ref I) .none) _ _ s
  refine wpAny_bind ?_
  unfold Builtin.List.listItems
  refine wpAny_bind (wpAny_seqItems hS rfl (wpAny_pure ?_))
  show wpAny _ A.in1 (updateSeq S (fun _ => #[]) >>= fun _ => letGo (#[] : Array Value).toList.reverse >>= fun _ => Builtin.List.listExtendWith (.ref S) (.ref I) .none) _ _ s
  refine wpAny_bind (wpAny_updateSeq hS rfl ?_)
  have hS₂ := Heap.get?_update_self (Obj.mapSeq (fun _ => (#[] : Array Value))) hS rfl
  have oth : ∀ b o, b ≠ S → s.heap.get? b = some o → (s.heap.update S (Obj.mapSeq (fun _ => (#[] : Array Value)))).get? b = some o := fun b o hb e => (Heap.get?_update_other _ _ (Ne.symm hb)).trans e
  refine wpAny_bind (wpAny_letGo ?_)
  refine extend_rev (s := { s with heap := s.heap.update S (Obj.mapSeq (fun _ => (#[] : Array Value))) }) hh hne hSI hSl (hit.at fun o e => oth _ o (Ne.symm hSI) e) ?_ hn hS₂ fun s' acc' c' hk a1 a2 a3 hS' hacc => ?_
  · obtain ⟨o, ho, r⟩ := hl
    exact ⟨o, oth _ o (Ne.symm hSl) ho, r⟩
  · exact hR s' acc' c' (fun b o h1 h2 e => hk b o h1 h2 (oth b o h1 e)) a1 a2 a3 hS' hacc
end

/-- a known list, turned: a new list -/
theorem revL {c : Fx} {g : Heap} {m : Str → Option Value} {r : List (Addr × Obj)} {s : Shared} {A : Around} {E : Value → Shared → Prop} {I l : Addr} {vs : List Value} {Q : Value → Shared → Prop} (hh : A.handled = none) (F : St c g m ((I, revObj l ((vs.length : Int) - 1)) :: r) s) (hX : ∀ x ∈ c.X, ∃ o, (x, o) ∈ r) (hl : g.IsList l vs.toArray) (hz : vs.length ≤ sizeLine)
    (h : ∀ g' t s', Le g g' → g'.IsList t vs.reverse.toArray → St c g' m r s' → Q (.ref t) s') : wpAny (model c.prog c.w) A (call (.type "list") [.ref I]) Q E s := by
  have hI := F.own _ (.head _)
  have hll := IsList_le hl F.sub
  have hne : l ≠ I := fun e => by
    obtain ⟨o, ho, _⟩ := hl
    rw [e] at ho
    rw [hI.2.1] at ho; cases ho
  refine callType_codes (Q₁ := fun obj s₁ => obj = .ref s.heap.objs.size ∧ s₁ = { s with heap := s.heap.push { cls := .type "list", data := .seq #[] } }) PySem.F.called_list (PySem.F.typeCall_list_1 _) PySem.F.entry_list_init
    (code_list_new _ ⟨rfl, rfl⟩) fun obj s₁ h₁ => ?_
  obtain ⟨rfl, rfl⟩ := h₁
  have hS : (s.heap.push { cls := .type "list", data := .seq #[] }).get? s.heap.objs.size = some { cls := .type "list", data := .seq #[] } := Heap.get?_push_size _ rfl
  have hit : (s.heap.push { cls := .type "list", data := .seq #[] }).IsRevIter I l (((vs.toArray.size : Nat) : Int) - 1) := ⟨_, Heap.get?_push_of_some _ hI.1, rfl, by show Data.fields #[.ref l, rawInt ((vs.length : Int) - 1)] = _; rw [List.size_toArray]⟩
  have hSI : s.heap.objs.size ≠ I := Nat.ne_of_gt (Heap.lt_size hI.1)
  have hSl : s.heap.objs.size ≠ l := by obtain ⟨o, ho, _⟩ := hll; exact Nat.ne_of_gt (Heap.lt_size ho)
  refine ⟨⟨_, hS, rfl⟩, PySem.F.args_list_init_2 _ _, init_rev (A := A.in1) hh hne hSI hSl hit (IsList_le hll fun b o e => Heap.get?_push_of_some _ e) (by rw [List.size_toArray]; exact hz) hS fun s' acc' c' hk a1 a2 a3 hS' hacc => ?_⟩
  refine ⟨rfl, ?_⟩
  obtain ⟨hp, gs, dr, tk, os⟩ := s'
  dsimp only at a1 a2 a3 hk hS'
  subst a1 a2 a3
  have F2 := F.goneExt (js := [(I, revObj l ((vs.length : Int) - 1))]) (h' := hp) (t := tk) (fun x hx hm => by
    obtain ⟨o, ho⟩ := hX x hx
    have nd := F.nd
    rw [List.map_cons, List.nodup_cons] at nd
    simp at hm
    exact nd.1 (by rw [← hm]; exact List.mem_map_of_mem (f := (·.1)) ho)) fun b o hb e => hk b o (Nat.ne_of_lt (Heap.lt_size e)) (fun z => hb (by simp [z])) (Heap.get?_push_of_some _ e)
  obtain ⟨g', l1, k1, F3⟩ := F2.learnNew (s₀ := s) ⟨g, m, r, F.drop' (List.sublist_cons_self _ _) (fun x hx o hm => by
    rcases List.mem_cons.mp hm with e | hm
    · cases e
      exact absurd hx (head_notX F hX)
    · exact hm), rfl⟩ hS' (Nat.le_refl _) rfl
  refine h g' _ _ l1 ⟨_, k1, rfl, c', ?_⟩ F3
  show Data.seq acc' c' = Data.seq vs.reverse.toArray c'
  congr 1
  apply Array.ext_getElem?
  intro i
  by_cases hi : i < acc'.size
  · have e1 := hacc.2 i acc'[i] (Array.getElem?_eq_getElem hi)
    rw [Array.getElem?_eq_getElem hi]
    have hsz : acc'.size = vs.length := by have := hacc.1; simpa using this
    rw [List.getElem?_toArray, List.getElem?_reverse (by omega)]
    rw [List.size_toArray, List.getElem?_toArray] at e1
    exact e1.symm
  · rw [Array.getElem?_eq_none (Nat.le_of_not_lt hi), List.getElem?_toArray, List.getElem?_eq_none]
    have hsz : acc'.size = vs.length := by have := hacc.1; simpa using this
    rw [List.length_reverse]
    omega
/-- the turner of a known list, the frame's own -/
theorem revO {c : Fx} {g : Heap} {m : Str → Option Value} {r : List (Addr × Obj)} {s : Shared} {A : Around} {E : Value → Shared → Prop} {l : Addr} {vs : List Value} {Q : Value → Shared → Prop} (F : St c g m r s) (hl : g.IsList l vs.toArray)
    (h : ∀ I s', St c g m ((I, revObj l ((vs.length : Int) - 1)) :: r) s' → Q (.ref I) s') : wpAny (model c.prog c.w) A (call (.type "reversed") [.ref l]) Q E s := by
  refine call_reversed_list (IsList_le hl F.sub) ?_
  rw [List.size_toArray]
  exact h _ _ (F.allocOwn (t := s.toks) rfl rfl)
/-! StarR -/
section
variable {prog : Program} {w : World} {A : Around} {E : Value → Shared → Prop} {s : Shared}
abbrev nk (prog : Program) (w : World) : PySem.KeyKind prog w Str := PySem.strKind prog w

theorem dictPut_new {d : Addr} {kvs : List (Str × Value)} {k : Str} {key v : Value} {Q : Unit → Shared → Prop} (hkey : (nk prog w).is k key = true) (hm : s.heap.DictOf (nk prog w) d kvs) (hnot : k ∉ kvs.map (·.1)) (hsz : kvs.length ≤ sizeLine)
    (hQ : ∀ h', h'.DictOf (nk prog w) d (kvs ++ [(k, v)]) → Heap.SameBut d s.heap h' → Q () { s with heap := h' }) : wpAny (model prog w) A (dictPut d ((nk prog w).hash k) key v) Q E s := by
  obtain ⟨o, es, ep, ho, hc, hd, hk, hp, hn⟩ := hm
  have hes : es.size ≤ sizeLine := by
    have e1 := hp.length
    have e2 : es.toList.length = es.size := by simp
    omega
  unfold dictPut
  refine wpAny_bind (wpAny_dictFind_of hkey ho hd hk ?_)
  have hidx : (es.findIdx? fun e => (nk prog w).is k e.key) = kvs.findIdx? fun kv => decide (kv.1 = k) := by
    rw [← hp.findIdx k]; obtain ⟨l⟩ := es; simp
  have hnone : (es.findIdx? fun e => (nk prog w).is k e.key) = none := by
    rw [hidx, List.findIdx?_eq_none_iff]
    intro kv hkv
    exact decide_eq_false fun e => hnot (by rw [← e]; exact List.mem_map_of_mem (f := (·.1)) hkv)
  rw [hnone]
  refine wpAny_updateDictKeys (hz := hes) ho hd (hQ _ ⟨_, _, ep + 1, Heap.get?_update_self _ ho (Obj.isFreed_of_dict (Obj.data_mapDictKeys hd _)), hc.mapDictKeys _, Obj.data_mapDictKeys hd _, hk.push hkey _, ?_, ?_⟩ (Heap.SameBut.update ..))
  · have := hp.append hkey ((nk prog w).hash k) v
    obtain ⟨l⟩ := es
    simpa using this
  · rw [List.map_append, List.nodup_append]
    refine ⟨hn, by simp, fun a ha b hb e => ?_⟩
    simp only [List.map_cons, List.map_nil, List.mem_singleton] at hb
    subst hb
    exact hnot (e ▸ ha)

theorem keywordsIn_names {f : Value} {d : Addr} {kvs : List (Str × Value)} {Q : List (Str × Value) → Shared → Prop} (hm : s.heap.DictOf (nk prog w) d kvs) (h : Q kvs s) : wpAny (model prog w) A (keywordsIn f d) Q E s := by
  obtain ⟨o, es, ep, ho, hc, hd, hk, hp, hn⟩ := hm
  unfold keywordsIn
  refine wpAny_bind (wpAny_dictEntries ho hd ?_)
  refine wpAny_bind ?_
  rw [← Array.forIn_toList]
  refine wpAny_forIn_list _ (fun rest b s' => ∃ i, s' = s ∧ rest = es.toList.drop i ∧ b = kvs.take i) _ ?_ ?_ _ _ ⟨0, rfl, rfl, rfl⟩
  · rintro x rest b s' ⟨i, rfl, hr, rfl⟩
    have hi : es.toList[i]? = some x := by
      have := congrArg (fun l => l[0]?) hr
      simpa using this.symm
    have hlt : i < kvs.length := by
      have := (List.getElem?_eq_some_iff.mp hi).1
      rw [← hp.length]; exact this
    have hkv : kvs[i]? = some kvs[i] := List.getElem?_eq_getElem hlt
    obtain ⟨h1, h2⟩ := hp.get? hi hkv
    obtain ⟨hs, key, val⟩ := x
    obtain ⟨tok, rfl⟩ := Value.isStrOf_shape h1
    dsimp only at h2
    subst h2
    refine wpAny_pure ⟨i + 1, rfl, ?_, ?_⟩
    · have := congrArg List.tail hr
      simpa using this
    · rw [take_snoc hkv]; rfl
  · rintro b s' ⟨i, rfl, hr, rfl⟩
    have hz : kvs.length ≤ i := by
      have : es.toList.length ≤ i := List.drop_eq_nil_iff.mp hr.symm
      rw [← hp.length]; exact this
    refine wpAny_pure ?_
    rw [List.take_of_length_le hz]
    exact h

theorem merge_names {d a : Addr} {kvs : List (Str × Value)} {Q : Unit → Shared → Prop} (hda : d ≠ a) (hmod : (a == sysModules) = false) (hd : s.heap.DictOf (nk prog w) d []) (ha : s.heap.DictOf (nk prog w) a kvs) (hsz : kvs.length ≤ sizeLine)
    (hQ : ∀ h', h'.DictOf (nk prog w) d kvs → Heap.SameBut d s.heap h' → Q () { s with heap := h' }) : wpAny (model prog w) A (mergeMapping d (.ref a) true) Q E s := by
  obtain ⟨od, esd, epd, hod, hcd, hdd, hkd, hpd, hnd⟩ := id hd
  obtain ⟨oo, eso, epo, hoo, hco, hdo, hko, hpo, hno⟩ := id ha
  have h0 : esd.isEmpty = true := by
    have := hpd.length
    rw [Array.isEmpty_iff_size_eq_zero]
    simpa using this
  unfold mergeMapping
  refine wpAny_bind (wpAny_isInstance ha.typeIs isSubtype_dict_dict ?_)
  simp only [if_true]
  refine wpAny_bind (wpAny_specialOf ha.typeIs PySem.F.slot_dict_iter.lookup ?_)
  refine wpAny_bind (wpAny_pure ?_)
  rw [show ((some (Value.builtin "dict.__iter__") : Option Value) == some (.builtin "dict.__iter__")) = true from rfl]
  dsimp only
  rw [if_neg (by rw [hmod]; exact Bool.false_ne_true)]
  refine wpAny_bind (wpAny_dictEntries hod hdd ?_)
  rw [if_pos h0]
  have keyAt : ∀ {i : Nat} {e : DictEntry}, eso.toList[i]? = some e → ∃ kv tok, kvs[i]? = some kv ∧ e.key = .str kv.1 tok ∧ e.val = kv.2 ∧ (nk prog w).is kv.1 e.key = true ∧ e.hash = (nk prog w).hash kv.1 := fun {i e} hi => by
    have hlt : i < kvs.length := by
      have := (List.getElem?_eq_some_iff.mp hi).1
      rw [← hpo.length]; exact this
    have hkv : kvs[i]? = some kvs[i] := List.getElem?_eq_getElem hlt
    obtain ⟨h1, h2⟩ := hpo.get? hi hkv
    obtain ⟨tok, h3⟩ := Value.isStrOf_shape h1
    obtain ⟨k', h4, h5⟩ := hko e (Array.mem_toList_iff.mp (List.mem_of_getElem? hi))
    obtain rfl : k' = kvs[i].1 := (nk prog w).inj _ _ _ h4 h1
    exact ⟨kvs[i], tok, hkv, h3, h2, h1, h5⟩
  refine wpAny_bind (wpAny_dictEntries hoo hdo ?_)
  refine wpAny_bind ?_
  rw [← Array.forIn_toList]
  refine wpAny_forIn_list _ (fun rest _ s' => ∃ i, s' = s ∧ rest = eso.toList.drop i) _ ?_ ?_ _ _ ⟨0, rfl, rfl⟩
  · rintro x rest b s' ⟨i, rfl, hr⟩
    have hi : eso.toList[i]? = some x := by
      have := congrArg (fun l => l[0]?) hr
      simpa using this.symm
    obtain ⟨kv, tok, _, h3, _⟩ := keyAt hi
    obtain ⟨hs, key, val⟩ := x
    dsimp only at h3
    subst h3
    refine wpAny_pure ⟨i + 1, rfl, ?_⟩
    have := congrArg List.tail hr
    simpa using this
  rintro _ s' ⟨_, rfl, _⟩
  refine wpAny_bind (wpAny_dictEntries hoo hdo ?_)
  refine wpAny_bind (wpAny_dictEpoch hoo hdo ?_)
  have hlen : kvs.length = eso.size := by rw [← hpo.length]; simp
  rw [List.range_eq_range']
  refine wpAny_bind ?_
  refine wpAny_forIn_list _ (fun rest _ s₁ => ∃ h' i, s₁ = { s' with heap := h' } ∧ rest = List.range' i (eso.size - i) ∧ i ≤ eso.size ∧ h'.DictOf (nk prog w) d (kvs.take i) ∧ h'.get? a = some oo ∧ Heap.SameBut d s'.heap h')
    _ ?_ ?_ _ _ ⟨s'.heap, 0, rfl, rfl, Nat.zero_le _, by simpa using hd, hoo, Heap.SameBut.refl _ _⟩
  · rintro x rest b s₁ ⟨h', i, rfl, hr, hi, hd', hoo', hs'⟩
    have hlt : i < eso.size := by
      rcases Nat.lt_or_ge i eso.size with h | h
      · exact h
      · rw [Nat.sub_eq_zero_of_le h] at hr; simp at hr
    obtain ⟨rfl, hrest⟩ : x = i ∧ rest = List.range' (i + 1) (eso.size - (i + 1)) := by
      have e : eso.size - i = (eso.size - (i + 1)) + 1 := by omega
      rw [e, List.range'_succ] at hr
      injection hr with h1 h2
      exact ⟨h1, h2⟩
    refine wpAny_bind (wpAny_dictEntries hoo' hdo ?_)
    rw [Array.getElem?_eq_getElem hlt]
    obtain ⟨kv, tok, hkv, h3, h4, h5, h6⟩ := keyAt (i := x) (e := eso[x]) (by simp [hlt])
    have hnew : kv.1 ∉ (kvs.take x).map (·.1) := notin_take hno hkv
    have hdT := hd'
    obtain ⟨o1, es1, ep1, ho1, hc1, hd1, hk1, hp1, hn1⟩ := id hd'
    have hz1 : (kvs.take x).length ≤ sizeLine := by rw [List.length_take]; omega
    dsimp only
    refine wpAny_bind (wpAny_holding ?_)
    rw [h6]
    refine wpAny_bind (wpAny_dictFind_of h5 ho1 hd1 hk1 ?_)
    have hidx : (es1.findIdx? fun e => (nk prog w).is kv.1 e.key) = (kvs.take x).findIdx? fun kv' => decide (kv'.1 = kv.1) := by
      rw [← hp1.findIdx kv.1]; obtain ⟨l⟩ := es1; simp
    have hnone : (es1.findIdx? fun e => (nk prog w).is kv.1 e.key) = none := by
      rw [hidx, List.findIdx?_eq_none_iff]
      intro kv' hkv'
      exact decide_eq_false fun e => hnew (by rw [← e]; exact List.mem_map_of_mem (f := (·.1)) hkv')
    rw [hnone]
    simp only [Option.isSome_none, Bool.false_eq_true, if_false]
    rw [h4]
    refine dictPut_new h5 hd' hnew hz1 fun h2 hd2 hs2 => ?_
    have hoo2 : h2.get? a = some oo := (hs2.2 a (Ne.symm hda)).trans hoo'
    refine wpAny_bind (wpAny_dictEpoch hoo2 hdo ?_)
    rw [if_neg (by simp)]
    exact wpAny_pure ⟨h2, x + 1, rfl, hrest, hlt, by rw [take_snoc hkv]; exact hd2, hoo2, hs'.trans hs2⟩
  · rintro b s₁ ⟨h', i, rfl, hr, hi, hd', hoo', hs'⟩
    have hin : i = eso.size := by
      rcases Nat.lt_or_ge i eso.size with h | h
      · have e : eso.size - i = (eso.size - (i + 1)) + 1 := by omega
        rw [e, List.range'_succ] at hr; exact nomatch hr
      · exact Nat.le_antisymm hi h
    rw [hin, ← hlen, List.take_length] at hd'
    exact wpAny_pure (hQ h' hd' hs')
end
section
variable {prog : Program} {w : World} {A : Around} {E : Value → Shared → Prop} {s : Shared}
/-- the names of a call, told by one dict -/
theorem merged_one {c : Fx} {g : Heap} {m : Str → Option Value} {r : List (Addr × Obj)} {f : Value} {ty : Sem Value} {K : Addr} {kvs : List (Str × Value)} {Q : Addr → Shared → Prop} (hB : Base c.toWd) (F : St c g m r s) (hK : DK c.toWd g K kvs) (hz : kvs.length ≤ sizeLine)
    (hty : ∀ r' s₂ (Q' : Value → Shared → Prop), St c g m r' s₂ → (∀ s₃, St c g m r' s₃ → Q' (.ref K) s₃) → wpAny (model c.prog c.w) A ty Q' E s₂)
    (h : ∀ d od s', DO c.toWd od kvs → St c g m ((d, od) :: r) s' → Q d s') : wpAny (model c.prog c.w) A (mergedKeywords f [(none, ty)]) Q E s := by
  have F1 := F.allocOwn (o := { cls := .type "dict", data := .dict #[] }) (t := s.toks) rfl rfl
  obtain ⟨o, ho, hd⟩ := Heap.dictOf_iff.mp (Heap.DictOf.new (knd := sk c.toWd) s.heap)
  have ho' := Heap.get?_push_size s.heap (o := { cls := .type "dict", data := .dict #[] }) rfl
  rw [ho'] at ho
  cases ho
  unfold mergedKeywords
  refine wpAny_bind (wpAny_alloc ?_)
  refine wpAny_bind (wpAny_holding ?_)
  show wpAny _ A (Bind.bind (forIn [(none, ty)] ([] : List (Str × Sem Value)) _) _) _ _ _
  refine wpAny_bind ?_
  rw [List.forIn_cons]
  refine wpAny_bind ?_
  show wpAny _ A (Bind.bind (if ([] : List (Str × Sem Value)).isEmpty = true then (pure () : Sem Unit) else _) _) _ _ _
  refine wpAny_bind ?_
  rw [if_pos (show ([] : List (Str × Sem Value)).isEmpty = true from rfl)]
  refine wpAny_pure ?_
  show wpAny _ A (Bind.bind ty _) _ _ _
  refine wpAny_bind (hty _ _ _ F1 fun s₃ F3 => ?_)
  have own := F3.own _ (.head _)
  have hdK : s.heap.objs.size ≠ K := fun e => by
    obtain ⟨o, ho⟩ : ∃ o, g.get? K = some o := by obtain ⟨o, h1, _⟩ := Heap.dictOf_iff.mp hK.1; exact ⟨o, h1⟩
    have := own.2.1
    rw [e, ho] at this; cases this
  refine wpAny_bind (wpAny_onRaise ?_)
  show wpAny _ A (holding [.ref K] _) _ _ _
  refine wpAny_holding (wpAny_tryCatch (wpAny_onRaise ?_))
  refine merge_names hdK hK.2 (Heap.dictOf_iff.mpr ⟨_, own.1, hd⟩) (hK.1.keep F3.sub) hz fun h' hd' hs' => ?_
  obtain ⟨o', h1, h2⟩ := Heap.dictOf_iff.mp hd'
  have F4 := F3.own1 (t := s₃.toks) h1 (DO.ord h2) hs'
  refine wpAny_pure ?_
  show wpAny _ A (forIn ([] : List (Option Str × Sem Value)) ([] : List (Str × Sem Value)) _) _ _ _
  rw [List.forIn_nil]
  refine wpAny_pure ?_
  show wpAny _ A (if ([] : List (Str × Sem Value)).isEmpty = true then (pure () : Sem Unit) else _) _ _ _
  rw [if_pos (show ([] : List (Str × Sem Value)).isEmpty = true from rfl)]
  exact wpAny_pure (wpAny_pure (h _ _ _ h2 F4))

/-- a call with what a list and a dict tell -/
theorem star_call {c : Fx} {g : Heap} {m : Str → Option Value} {r : List (Addr × Obj)} {s : Shared} {pos : Pos} {f : Value} {tx ty : Sem Value} {l K : Addr} {vs : List Value} {kvs : List (Str × Value)} {Q : Value → Shared → Prop} (hB : Base c.toWd) (F : St c g m r s) (hl : g.IsList l vs.toArray) (hvz : vs.length ≤ sizeLine) (hK : DK c.toWd g K kvs) (hz : kvs.length ≤ sizeLine)
    (htx : ∀ r' s₂ (Q' : Value → Shared → Prop), St c g m r' s₂ → (∀ s₃, St c g m r' s₃ → Q' (.ref l) s₃) → wpAny (model c.prog c.w) A tx Q' E s₂)
    (hty : ∀ r' s₂ (Q' : Value → Shared → Prop), St c g m r' s₂ → (∀ s₃, St c g m r' s₃ → Q' (.ref K) s₃) → wpAny (model c.prog c.w) A ty Q' E s₂)
    (hkp : ∀ s₂, St c g m r s₂ → Looks (model c.prog c.w) s₂.heap (keeperOf f) .caller)
    (h : ∀ s₂, St c g m r s₂ → wpAny (model c.prog c.w) A (call f vs kvs) Q E s₂) : wpAny (model c.prog c.w) A (callWith pos f [] [(true, tx)] [(none, ty)]) Q E s := by
  unfold callWith
  refine wpAny_bind (wpAny_holding ?_)
  unfold evalArgs
  show wpAny _ A (Bind.bind tx fun v => _) _ _ _
  refine wpAny_bind (htx _ _ _ F fun s₁ F1 => ?_)
  show wpAny _ A (Bind.bind (pure (([] : List Value), some (Value.ref l))) fun v => _) _ _ _
  refine wpAny_bind (wpAny_pure ?_)
  show wpAny _ A (holding _ _) _ _ _
  refine wpAny_holding ?_
  show wpAny _ A (if ([(none, ty)] : List (Option Str × Sem Value)).all (·.1.isSome) = true then _ else _) _ _ _
  rw [if_neg (by simp)]
  refine wpAny_bind (merged_one hB F1 hK hz hty fun d od s₂ hd F2 => ?_)
  refine wpAny_bind ?_
  show wpAny _ A (Bind.bind (notIterableAtAll (.ref l)) _) _ _ _
  refine wpAny_bind ?_
  unfold notIterableAtAll
  refine wpAny_bind (wpAny_specialOf (IsList_le hl F2.sub).typeIs PySem.F.slot_list_iter.lookup ?_)
  rw [if_pos (show (some (Value.builtin "list.__iter__")).isSome = true from rfl)]
  refine wpAny_pure ?_
  rw [if_neg Bool.false_ne_true]
  show wpAny _ A (holding [.ref d] (collect (.ref l))) _ _ _
  obtain ⟨ol, ho, hc, n, hdl⟩ := IsList_le hl F2.sub
  refine wpAny_holding (wpAny_collect_seq l (.inl rfl) ho hc hdl (fun h' k => ?_) (by rw [List.size_toArray]; exact hvz))
  have F3 := F2.more (t := s₂.toks) k
  refine wpAny_bind (wpAny_holding (keywordsIn_names (hd.at (F3.own _ (.head _)).1) ?_))
  refine wpAny_pure ?_
  have F4 : St c g m r { s₂ with heap := h' } := F3.drop' (List.sublist_cons_self _ _) fun x hx o hm => by
    rcases List.mem_cons.mp hm with e | hm
    · cases e
      have := head_notX F3 F.Xr
      exact absurd hx this
    · exact hm
  refine wpAny_bind (wpAny_standAt ?_)
  show wpAny _ A (Bind.bind (keeperOf f) _) _ _ _
  refine wpAny_bind ((hkp _ F4).here ?_)
  show wpAny _ A (Bind.bind (operate _ (call f vs kvs)) _) _ _ _
  refine wpAny_bind (wpAny_operateT (wpAny_mono (h _ F4) (fun r s' hr => ?_) fun _ _ e => e))
  exact wpAny_bind (wpAny_holding (wpAny_point (wpAny_pure hr)))
end
/-! BindR -/
/-- the binding of self, the things by their places and those by their names -/
theorem bindAV {d : Wd} (hB : Base d) {g : Heap} {fd : FuncData} {self : Value} {vs : List Value} {kvs : List (Str × Value)} {ns na nk : Str} {a1 a2 a3 : Option Expr} {p1 p2 p3 : Pos} {kd : List (Option Expr)} {df : List Expr}
    (hp : fd.params = ⟨[], [⟨ns, a1, p1⟩], some ⟨na, a2, p2⟩, [], kd, some ⟨nk, a3, p3⟩, df⟩) (hd : fd.defaults = .none) (hns : ns ∉ kvs.map (·.1)) (hn : (kvs.map (·.1)).Nodup) (hz : kvs.length ≤ sizeLine) (hvz : vs.length ≤ sizeLine) :
    ∀ (s : Shared) (A : Around) (E : Value → Shared → Prop) (Q : List (Str × Value) → Shared → Prop), Wo d g [] s → (∀ binds g1 s1, Bnd d g [] s g1 s1 → (∃ t K, binds = [(ns, self), (na, Value.ref t), (nk, Value.ref K)] ∧ IsTup g1 t vs.toArray ∧ DK d g1 K kvs) → Q binds s1) → wpAny (model d.prog d.w) A (bindArgs fd ⟨self :: vs, kvs⟩) Q E s := by
  intro s A E Q W hQ
  unfold bindArgs
  rw [hp, hd]
  dsimp only [List.map_cons, List.map_nil, List.nil_append, List.append_nil]
  refine wpAny_bind ?_
  refine wpAny_forIn_list _ (fun rest b s' => s' = s ∧ ∃ i, rest = kvs.drop i ∧ b = ([(ns, self)], kvs.take i)) _ ?_ ?_ _ _ ⟨rfl, 0, rfl, rfl⟩
  · rintro x rest b s' ⟨rfl, i, hr, rfl⟩
    have hi : kvs[i]? = some x := by
      have := congrArg (fun l => l[0]?) hr
      simpa using this.symm
    have hx : x.1 ≠ ns := fun e => hns (by rw [← e]; exact List.mem_map_of_mem (List.mem_of_getElem? hi))
    rw [if_neg (by simp [hx])]
    show wpAny _ A (if (some _ : Option Arg).isSome = true then _ else _) _ _ _
    rw [if_pos (show (some (_ : Arg)).isSome = true from rfl)]
    refine wpAny_pure ⟨rfl, i + 1, ?_, by rw [take_snoc hi]⟩
    have := congrArg List.tail hr
    simpa using this
  rintro b s' ⟨rfl, i, hr, rfl⟩
  have hkv : kvs.take i = kvs := List.take_of_length_le (List.drop_eq_nil_iff.mp hr.symm)
  rw [hkv]
  dsimp only
  refine wpAny_bind (wpAny_of_eq (a := none) rfl ?_)
  rw [if_neg (by simp)]
  simp only [List.map_nil, List.map_cons, List.nil_append, Option.getD_none, List.length_nil, List.length_cons, List.drop_nil, Nat.sub_zero, List.zip_nil_right, List.forIn_nil]
  have e1 : List.lookup ns [(ns, self)] = some self := by simp [List.lookup_cons]
  rw [if_neg (by simp [e1])]
  refine wpAny_bind (wpAny_pure (wpAny_bind (wpAny_pure ?_)))
  rw [if_neg (by simp)]
  have e2 : (List.filterMap (fun n => Option.map (fun x => (n, x)) (List.lookup n [(ns, self)])) [ns]) = [(ns, self)] := by simp [e1]
  refine wpAny_bind (wpAny_newTuple ?_ (by show vs.length ≤ _; exact hvz))
  obtain ⟨g2, l2, k2, B2⟩ := (Bnd.refl W).push (t := s'.toks) (h2 := s'.heap.push { cls := .type "tuple", data := .seq vs.toArray }) (fun b o e => Heap.get?_push_of_some _ e) (by rw [Heap.size_push]; exact Nat.le_succ _) (Heap.get?_push_size _ rfl) (Nat.le_refl _) rfl
  rw [if_neg (Nat.not_lt.mpr (Nat.le_succ_of_le hz))]
  refine wpAny_bind (wpAny_alloc ?_)
  refine wpAny_bind (B2.kwargs hB hn fun g3 s3 l3 hDK B3 => wpAny_pure ?_)
  refine hQ _ _ _ B3 ⟨_, _, ?_, ⟨_, l3 _ _ k2, rfl, 0, rfl⟩, hDK⟩
  rw [List.append_nil, e2]
  rfl
/-! EntVC -/
/-- a def of the text with cells, whose arguments are gathered -/
theorem enterVC {c : Wd} {K0 : Frag} (hK : c.K = K0) (hB : Base c) {g : Heap} {r : List (Addr × Obj)} {s : Shared} {A : Around} {R : Result → Shared → Prop} {a : Addr} {name qual : Str} {params : Arguments} {body : List Stmt} {scope : Scope} {dV kV doc pm cdv ct oc : Value} {an od : Option Addr} {osl : Array (Option Value)} {args : Args} {PB : Heap → Addr → Prop} {binds lbs cbs : Addr → List (Str × Value)}
    (W : Wo c g r s) (hrm : A.depth < recursionLimit) (ho : K0.lookup a = some ⟨oc, od, .func (fnX name qual params body scope [] dV kV doc pm an cdv ct), osl⟩) (hcd : codeIn K0 cdv qual = true)
    (hbind : ∀ (A : Around) (E : Value → Shared → Prop) (Q : List (Str × Value) → Shared → Prop), (∀ D g1 s1, Bnd c g r s g1 s1 → PB g1 D → Q (binds D) s1) → wpAny (model c.prog c.w) A (bindArgs (fnX name qual params body scope [] dV kV doc pm an cdv ct) args) Q E s)
    (hkind : ∀ D L, ((binds D).all fun x => decide (scope.names.lookup x.1 = some .local) || (decide (scope.names.lookup x.1 = some .cell) && ((cellsFrom L scope.names []).lookup x.1).isSome)) = true)
    (hl : ∀ D, ((binds D).filter fun x => decide (scope.names.lookup x.1 = some .local)).reverse = lbs D) (hc : ∀ D, ((binds D).filter fun x => !decide (scope.names.lookup x.1 = some .local)).reverse = cbs D)
    (hnd : ((cellsFrom 0 scope.names []).map (·.1)).Nodup)
    (hco : scope.isCoroutine = false) (hgen : scope.isGenerator = false) (hk : scope.kind = .function)
    (h : ∀ (f : Fx) D g1 s₁ env co, f.toWd = c → f.e = s.heap → f.g0 = g → f.X = r.map (·.1) → Le g g1 → PB g1 D → EnvOk env scope f.L (cellsFrom (f.L + 1) scope.names []) cdv → env = envX qual scope f.L a cdv (cellsFrom (f.L + 1) scope.names []) →
      CellsAt (cellsFrom (f.L + 1) scope.names []) (lk (cbs D)) co → St f g1 (lk (lbs D)) (co ++ r) s₁ →
      wpAny (model c.prog c.w) (A.deeper env) (execs body env) (fun fl s' => R (.ok (.ret (match fl with | .ret v => v | _ => .none))) s')
        (fun e s' => wpAny (model c.prog c.w) (A.deeper env) (leaving env e) (fun _ s'' => R (.error e) s'') (fun e' s'' => R (.error e') s'') s') s₁) : codeAny (model c.prog c.w) A (.call (.ref a) args) R s := by
  subst hK
  have X := hB.K.keeps (W.base.trans W.sub)
  refine codeAny_call_function (fd := fnX name qual params body scope [] dV kV doc pm an cdv ct) (body := body) hrm (X _ _ ho) rfl hco hgen rfl (codeRec_of X hcd) (hbind _ _ _ fun D g1 s1 B hPB => ?_)
  refine wpAny_newFunctionEnv_cells hk (fun x hx => ?_) fun env he s' x => ?_
  · have := List.all_eq_true.mp (hkind D (s1.heap.objs.size + 1)) x hx
    rcases Bool.or_eq_true _ _ |>.mp this with h1 | h1
    · exact .inl (of_decide_eq_true h1)
    · rw [Bool.and_eq_true] at h1
      exact .inr ⟨of_decide_eq_true h1.1, h1.2⟩
  · subst he
    refine ⟨(hB.nolimit.keeps (B.wo.base.trans B.wo.sub)).keeps x.toInCall.keep, codeAny_func ?_⟩
    have hns := x.toInCall.ns
    rw [show (fun _ => none : Str → Option Value) = lk [] from rfl] at x hns
    have hns' : s'.heap.Ns s1.heap.objs.size (lk (lbs D)) := by
      have := hns
      rw [bindL_lk, List.append_nil] at this
      rw [← hl D]
      exact this
    obtain ⟨co, hcA, hck, hco'⟩ := cellsAt_of (h := s'.heap) (cm := lk (cbs D)) (cs := cellsFrom (s1.heap.objs.size + 1) scope.names []) fun n a hm => by
      have := x.cell n a (mem_lookup_nodup (by have := hnd; rw [cellsFrom_names _ 0 (s1.heap.objs.size + 1) _ [] rfl] at this; exact this) hm)
      rw [bindC_lk, List.append_nil] at this
      rw [← hc D]
      exact this
    have habove : ∀ p ∈ co, s1.heap.objs.size < p.1 := fun p hp => by
      have : p.1 ∈ (cellsFrom (s1.heap.objs.size + 1) scope.names []).map (·.2) := by rw [← hck]; exact List.mem_map_of_mem hp
      obtain ⟨q, hq, e⟩ := List.mem_map.mp this
      rw [← e]
      exact x.above q.1 q.2 hq
    have hnew : ∀ p ∈ co, s1.heap.get? p.1 = none := fun p hp => fresh_none (Nat.le_of_lt (habove p hp))
    have gn : ∀ b, s1.heap.get? b = none → g1.get? b = none := fun b hb => by
      cases q : g1.get? b with
      | none => rfl
      | some o => rw [B.wo.sub _ _ q] at hb; cases hb
    obtain ⟨hh, tk, rfl⟩ := x.toInCall.same
    have k : Le s1.heap hh := x.toInCall.keep
    refine h ⟨c, s.heap, g, r.map (·.1), s1.heap.objs.size⟩ D g1 _ _ co rfl rfl rfl rfl B.le hPB ⟨rfl, rfl, rfl, rfl, rfl, rfl⟩ rfl hcA ?_
    exact {
      gens := B.wo.gens, os := B.wo.os, base := B.wo.base
      sub := B.wo.sub.trans k
      tabs := fun q hq => ⟨(B.wo.tabs q hq).1.le k, (B.wo.tabs q hq).2⟩
      own := fun p hp => by
        rcases List.mem_append.mp hp with hp | hp
        · exact ⟨(hco' p hp).1, gn _ (hnew p hp), cell_ord (hco' p hp).2.choose_spec⟩
        · exact ⟨k _ _ (B.wo.own p hp).1, (B.wo.own p hp).2⟩
      nd := by
        rw [List.map_append, List.nodup_append]
        refine ⟨?_, B.wo.nd, fun y hy z hz e => ?_⟩
        · rw [hck]
          have := x.apart
          exact List.pairwise_map.mpr (this : List.Pairwise (fun x y : Str × Addr => x.2 ≠ y.2) (cellsFrom (s1.heap.objs.size + 1) scope.names []))
        · obtain ⟨p, hp, rfl⟩ := List.mem_map.mp hy
          obtain ⟨q, hq, rfl⟩ := List.mem_map.mp hz
          have := (B.wo.own q hq).1
          rw [← e, hnew p hp] at this; cases this
      Bsz := Nat.le_trans B.wo.Bsz (Nat.le_of_lt hns'.lt)
      g0e := W.sub, Bg0 := W.base, Bse := W.Bsz
      g0g := B.le
      fresh := fun b o e => by
        rcases B.fresh b o e with h | h
        · exact .inl h
        · exact .inr (.inl h)
      keep := fun b o e _ _ => k _ _ (B.ks _ _ e)
      size := Nat.le_trans B.z (Nat.le_of_lt hns'.lt)
      ns := hns'
      gL := gn _ (fresh_none (Nat.le_refl _))
      rL := fun p hp e => by
        have e' : p.1 = s1.heap.objs.size := e
        rcases List.mem_append.mp hp with hp | hp
        · exact Nat.ne_of_gt (habove p hp) e'
        · have h2 := (B.wo.own p hp).1
          have h3 : s1.heap.get? p.1 = none := by rw [e']; exact fresh_none (Nat.le_refl _)
          rw [h3] at h2; cases h2
      eL := B.z
      ownX := fun p hp => by
        rcases List.mem_append.mp hp with hp | hp
        · left
          cases q : s.heap.get? p.1 with
          | none => rfl
          | some o => have := B.ks _ _ q; rw [hnew p hp] at this; cases this
        · exact .inr (List.mem_map_of_mem hp)
      Xr := fun y hy => by obtain ⟨p, hp, rfl⟩ := List.mem_map.mp hy; exact ⟨p.2, List.mem_append_right _ hp⟩ }

theorem calmVC {d : Wd} {K0 : Frag} {n : Nat} {g : Heap} {Q : Value → Heap → Prop} {a : Addr} {name qual : Str} {params : Arguments} {body : List Stmt} {scope : Scope} {dV kV doc pm cdv ct oc : Value} {an od : Option Addr} {osl : Array (Option Value)} {pos : List Value} {kw : List (Str × Value)} (PB : Heap → Addr → Prop) (binds lbs cbs : Addr → List (Str × Value))
    (hK : d.K = K0) (hB : Base d) (ho : K0.lookup a = some ⟨oc, od, .func (fnX name qual params body scope [] dV kV doc pm an cdv ct), osl⟩) (hcd : codeIn K0 cdv qual = true)
    (hbind : ∀ (s : Shared) (A : Around) (E : Value → Shared → Prop) (Q : List (Str × Value) → Shared → Prop), Wo d g [] s → (∀ D g1 s1, Bnd d g [] s g1 s1 → PB g1 D → Q (binds D) s1) → wpAny (model d.prog d.w) A (bindArgs (fnX name qual params body scope [] dV kV doc pm an cdv ct) ⟨pos, kw⟩) Q E s)
    (hkind : ∀ D L, ((binds D).all fun x => decide (scope.names.lookup x.1 = some .local) || (decide (scope.names.lookup x.1 = some .cell) && ((cellsFrom L scope.names []).lookup x.1).isSome)) = true)
    (hl : ∀ D, ((binds D).filter fun x => decide (scope.names.lookup x.1 = some .local)).reverse = lbs D) (hc : ∀ D, ((binds D).filter fun x => !decide (scope.names.lookup x.1 = some .local)).reverse = cbs D)
    (hnd : ((cellsFrom 0 scope.names []).map (·.1)).Nodup)
    (hco : scope.isCoroutine = false) (hgen : scope.isGenerator = false) (hk : scope.kind = .function)
    (h : ∀ (f : Fx) D g1 s s₁ env A co, f.toWd = d → Room A n → A.handled = none → f.e = s.heap → f.g0 = g → f.X = ([] : List (Addr × Obj)).map (·.1) → Le g g1 → PB g1 D → EnvOk env scope f.L (cellsFrom (f.L + 1) scope.names []) cdv → env = envX qual scope f.L a cdv (cellsFrom (f.L + 1) scope.names []) →
      CellsAt (cellsFrom (f.L + 1) scope.names []) (lk (cbs D)) co → St f g1 (lk (lbs D)) co s₁ →
      wpAny (model d.prog d.w) A (execs body env) (fun fl s' => ∃ v' g', (Except.ok (Flow.ret (match fl with | .ret v => v | _ => .none)) : Result) = .ok (.ret v') ∧ Post d g [] s g' [] s' ∧ Q v' g') (fun _ _ => False) s₁) : Calm d (n + 1) (.ref a) pos kw g Q := by
  intro A s hR hh W
  refine enterVC (PB := PB) (binds := binds) (lbs := lbs) (cbs := cbs) hK hB W hR.depth ho hcd (fun A E Q hQ => hbind s A E Q W hQ) hkind hl hc hnd hco hgen hk fun f D g1 s₁ env co e1 e2 e3 e4 hle hPB En hE hC F => ?_
  rw [List.append_nil] at F
  exact wpAny_mono (h f D g1 s s₁ env (A.deeper env) co e1 hR.deeper hh e2 e3 e4 hle hPB En hE hC F) (fun _ _ z => z) fun _ _ z => z.elim
/-! LawHook -/
def hookedR (k : Nat) (rows : List Row4) : List Row4 :=
  if k = 1 then rows.reverse else if k = 2 then rows.drop 1 else if k = 3 then rows.take 1 ++ (rows.drop 1).map (fun r => { r with st := true })
  else if k = 4 then (match rows.getLast? with | some l => rows.dropLast ++ [⟨"_new", "new", l.st, l.kw⟩] | none => rows) else rows
theorem hooked_spec {d : Wd} (G : Good d) {g : Heap} {v : Value} {k : Nat} {tk : Tok} {rows : List Row4} (hl : rd g v (.list (rows.map Row4.d))) (hz : rows.length ≤ 10) (hs : ∀ r ∈ rows, okS r) : Calm d 20 (.ref 513) [.int (k : Int) tk, v] [] g (fun v g' => rd g' v (.list ((hookedR k rows).map Row4.d))) := by
  refine calmK (n := 19) (binds := [("kind", .int (k : Int) tk), ("rows", v)]) (bs := [("rows", v), ("kind", .int (k : Int) tk)]) G.K G.base (by k_is) (by k_is) (binds_eq (by kernel_rfl)) rfl (by decide) rfl rfl rfl rfl ?_
  intro f s s₁ env A hfd hR hh hfe hfg hfX En hE F
  subst hfd
  have hB := G.base
  obtain ⟨a, vs, rfl, hls, hp⟩ := hl.listI
  walk_at "x1"
  walk_at "xif"
  walk_at "tc"
  walk_at "nL"
  walk_at "ki"
  walk_at "eqI"
  walk_at "tb"
  have hX : ∀ x ∈ f.X, ∃ o, (x, o) ∈ ([] : List (Addr × Obj)) := fun x hx => by rw [hfX] at hx; cases hx
  have hvz : vs.length ≤ 10 := by rw [hp.length, List.length_map]; exact hz
  have hvz' : vs.length ≤ sizeLine := Nat.le_trans hvz (by decide)
  have kne : ∀ {n : Nat}, k ≠ n → (((k : Nat) : Int) == ((n : Nat) : Int)) = false := fun {n} h => by rw [cast_beq]; exact beq_eq_false_iff_ne.mpr h
  unfold hookedR
  by_cases h1 : k = 1
  · subst h1
    rw [if_pos rfl]
    walk_at "i1"
    walk_at "x1"
    walk_at "xret"
    walk_at "ec"
    walk_at "nB"
    walk_at "cw"
    walk_at "a1"
    walk_at "s1"
    walk_at "ec"
    walk_at "nB"
    walk_at "cw"
    walk_at "a1"
    walk_at "s1"
    walk_at "nL"
    walk_at "s0"
    walk_at "ko"
    walk_at "d"
    refine revO F hls fun I s' F => ?_
    walk_at "s0"
    walk_at "ko"
    refine revL hh F hX hls hvz' fun g2 t2 s2 l2 ht2 F => ?_
    refine back F hfe hfg hfX (rd_list ht2 ?_)
    rw [List.map_reverse]
    exact prd_le (prev hp) l2
  rw [if_neg h1]
  rw [show (((k : Nat) : Int) == 1) = false from kne h1]
  walk_at "i0"
  walk_at "x0"
  walk_at "x1"
  walk_at "xif"
  walk_at "tc"
  walk_at "nL"
  walk_at "ki"
  walk_at "eqI"
  walk_at "tb"
  by_cases h2 : k = 2
  · subst h2
    rw [if_pos rfl]
    walk_at "i1"
    walk_at "x1"
    walk_at "xret"
    walk_at "slc"
    walk_at "nL"
    walk_at "ev"
    walk_at "ki"
    walk_at "ev"
    walk_at "d"
    refine ⟨_, _, _, _, a, _, some 1, none, rfl, F, hls, by rw [List.size_toArray]; exact hvz', .int _ _, .none, fun g2 t2 s2 l2 ht2 F => ?_⟩
    rw [show (some (1 : Int)) = some ((1 : Nat) : Int) from rfl, slicePick_from'] at ht2
    refine back F hfe hfg hfX (rd_list ht2 ?_)
    rw [List.map_drop]
    exact prd_le (pdrop 1 hp) l2
  rw [if_neg h2]
  rw [show (((k : Nat) : Int) == 2) = false from kne h2]
  walk_at "i0"
  walk_at "x0"
  walk_at "x1"
  walk_at "xif"
  walk_at "tc"
  walk_at "nL"
  walk_at "ki"
  walk_at "eqI"
  walk_at "tb"
  by_cases h3 : k = 3
  · subst h3
    rw [if_pos rfl]
    walk_at "i1"
    walk_at "x1"
    walk_at "xret"
    walk_at "eb"
    walk_at "slc"
    walk_at "nL"
    walk_at "ev"
    walk_at "ev"
    walk_at "ki"
    walk_at "d"
    refine ⟨_, _, _, _, a, _, none, some 1, rfl, F, hls, by rw [List.size_toArray]; exact hvz', .none, .int _ _, fun g2 t2 s2 l2 ht2 F => ?_⟩
    rw [show (some (1 : Int)) = some ((1 : Nat) : Int) from rfl, slicePick_upto'] at ht2
    walk_at "lcl"
    walk_at "slc"
    walk_at "nL"
    walk_at "ev"
    walk_at "ki"
    walk_at "ev"
    refine ⟨_, _, _, _, a, _, some 1, none, rfl, F, IsList_le hls l2, by rw [List.size_toArray]; exact hvz', .int _ _, .none, fun g3 t3 s3 l3 ht3 F => ?_⟩
    rw [show (some (1 : Int)) = some ((1 : Nat) : Int) from rfl, slicePick_from'] at ht3
    have hd3 : Paired (rd g3) (vs.drop 1) ((rows.drop 1).map Row4.d) := by rw [List.map_drop]; exact prd_le (pdrop 1 hp) (l2.trans l3)
    refine rdyList (gB := g3) F (hnd0 hh) ht3 (Le.refl _) ht3 (hnd0 hh) fun it s' R => ?_
    refine ⟨_, _, _, _, _, _, fun i g' ys => Paired (rd g') ys (((rows.drop 1).take i).map fun r => Row4.d { r with st := true }), R _ plainTgt_tuple, (Nat.le_trans (show _ ≤ 10 by simp; omega) (by decide)), .nil, ?_, ?_⟩
    · rintro f' cenv i g4 g5 l T s' v ys E' hw En' hi hle1 hle2 hI hP F
      obtain ⟨y, hy, hvy⟩ := pat hd3 (by simpa using hP)
      rw [List.getElem?_map, Option.map_eq_some_iff] at hy
      obtain ⟨row, hrow, rfl⟩ := hy
      obtain ⟨t, v1, v2, v3, v4, rfl, ht, h1, h2, h3, h4⟩ := (hvy.le (hle1.trans hle2)).tup4
      walk_at "asT"
      walk_at "io"
      walk_at "as1"
      walk_at "l"
      walk_at "io"
      walk_at "as1"
      walk_at "l"
      walk_at "io"
      walk_at "as1"
      walk_at "l"
      walk_at "io"
      walk_at "as1"
      walk_at "l"
      walk_at "io"
      walk_at "ts0"
      walk_at "i1"
      walk_at "et"
      walk_at "s1"
      walk_at "nL"
      walk_at "s1"
      walk_at "nL"
      walk_at "s1"
      walk_at "kb"
      walk_at "s1"
      walk_at "nL"
      walk_at "s0"
      walk_at "tup"
      walk_at "d"
      refine ⟨_, _, hle1.trans (hle2.trans hle), ?_, F⟩
      rw [take_snoc hrow, List.map_append]
      exact psnoc2 (prd_le hI (hle2.trans hle)) (rd_tup ht (.cons (h1.le hle) (.cons (h2.le hle) (.cons rd_bool (.cons (h4.le hle) .nil)))))
    rintro g4 g5 D ys s5 hle1 hle2 hI hD F
    have hys : Paired (rd g5) ys ((rows.drop 1).map fun r => Row4.d { r with st := true }) := by
      have hl := hd3.length
      rw [List.length_map] at hl
      rw [List.size_toArray, hl, List.take_length] at hI
      exact prd_le hI hle2
    refine addL (vs := vs.take 1) (ws := ys) F (IsList_le ht2 (l3.trans (hle1.trans hle2))) hD (by rw [List.length_take, hys.length, List.length_map, List.length_drop]; exact Nat.le_trans (show min 1 vs.length + (rows.length - 1) ≤ 20 by omega) (by decide)) fun g6 t6 s6 l6 ht6 _ F => ?_
    refine back F hfe hfg hfX (rd_list ht6 ?_)
    rw [List.map_append, List.map_take, List.map_map]
    exact prd_le (pappend2 (prd_le (ptake 1 hp) (l2.trans (l3.trans (hle1.trans hle2)))) hys) l6
  rw [if_neg h3]
  rw [show (((k : Nat) : Int) == 3) = false from kne h3]
  walk_at "i0"
  walk_at "x0"
  walk_at "x1"
  walk_at "xif"
  walk_at "ta"
  walk_at "tc"
  walk_at "nL"
  walk_at "ki"
  walk_at "eqI"
  walk_at "tb"
  by_cases h4 : k = 4
  · subst h4
    rw [if_pos rfl]
    walk_at "i1"
    walk_at "ta"
    walk_at "tc"
    walk_at "nL"
    walk_at "el"
    walk_at "s0"
    walk_at "lst"
    have hrd := hl.le hle
    refine neRd F hrd (rd_list ht .nil) (rows_shaped hs) rfl (hR.u64 (by decide)) ?_
    rw [eqv_nil]
    cases hg : rows.getLast? with
    | none =>
      have hr : rows = [] := List.getLast?_eq_none_iff.mp hg
      subst hr
      walk_at "tb"
      walk_at "i0"
      walk_at "i0"
      walk_at "x0"
      walk_at "x1"
      walk_at "xret"
      walk_at "nL"
      walk_at "d"
      exact back F hfe hfg hfX hrd
    | some lr =>
      have hr : rows ≠ [] := fun e => by rw [e] at hg; cases hg
      have he : (rows.map Row4.d).isEmpty = false := by cases rows with
        | nil => exact absurd rfl hr
        | cons _ _ => rfl
      rw [he]
      walk_at "tb"
      walk_at "i1"
      walk_at "ta0"
      walk_at "i1"
      walk_at "x1"
      walk_at "xret"
      walk_at "eb"
      walk_at "slc"
      walk_at "nL"
      walk_at "ev"
      walk_at "ev"
      walk_at "eu"
      walk_at "ki"
      walk_at "neg"
      walk_at "d"
      refine ⟨_, _, _, _, a, _, none, some (-1), rfl, F, IsList_le hls hle, by rw [List.size_toArray]; exact hvz', .none, .int _ _, fun g2 t2 s2 l2 ht2 F => ?_⟩
      rw [show (some (-1 : Int)) = some (-((1 : Nat) : Int)) from rfl, slicePick_butLast _ 1 (Nat.le_refl _)] at ht2
      have hls2 := IsList_le hls (hle.trans l2)
      obtain ⟨lv, hlv, hlr⟩ := plast hp (y := lr.d) (by rw [List.getLast?_map, hg]; rfl)
      obtain ⟨tl, w1, w2, w3, w4, rfl, htl, e1, e2, e3, e4⟩ := (hlr.le (hle.trans l2)).tup4
      obtain rfl := e3.bool
      obtain rfl := e4.bool
      walk_at "el"
      walk_at "s1"
      walk_at "et"
      walk_at "s1"
      walk_at "ks"
      walk_at "s1"
      walk_at "ks"
      walk_at "s1"
      walk_at "es"
      walk_at "es"
      walk_at "nL"
      walk_at "eu"
      walk_at "ki"
      walk_at "neg"
      refine sub_last F hls2 hlv rfl ?_
      walk_at "ki"
      walk_at "stt"
      walk_at "s1"
      walk_at "es"
      walk_at "es"
      walk_at "nL"
      walk_at "eu"
      walk_at "ki"
      walk_at "neg"
      refine sub_last F hls2 hlv rfl ?_
      walk_at "ki"
      walk_at "stt"
      walk_at "s0"
      walk_at "tup"
      walk_at "s0"
      have hrow := ht
      have hleA := hle
      walk_at "lst"
      refine addL (vs := (vs.take (vs.length - 1))) (ws := [_]) F (IsList_le (by simpa using ht2) (by walk_at "le")) ht (Nat.le_trans (show _ ≤ 11 by simp; omega) (by decide)) fun g6 t6 s6 l6 ht6 _ F => ?_
      refine back F hfe hfg hfX (rd_list ht6 ?_)
      have hvl : vs.length = rows.length := by rw [hp.length, List.length_map]
      rw [List.map_append, List.dropLast_eq_take, List.map_take, hvl]
      refine psnoc2 (ptake _ (prd_le hp (by walk_at "le"))) (rd_tup (hrow.keeps (by walk_at "le")) (.cons rd_str (.cons rd_str (.cons rd_bool (.cons rd_bool .nil)))))
  rw [if_neg h4]
  rw [show (((k : Nat) : Int) == 4) = false from kne h4]
  walk_at "i0"
  walk_at "i0"
  walk_at "x0"
  walk_at "x1"
  walk_at "xret"
  walk_at "nL"
  walk_at "d"
  exact back F hfe hfg hfX hl
/-! LawR -/
section
variable {c : Fx} {g : Heap} {m : Str → Option Value} {r r' : List (Addr × Obj)} {s : Shared} {A : Around} {E : Value → Shared → Prop} {prog : Program} {w : World}
theorem op_modI {x : Int} {t u : Tok} {Q : Value → Shared → Prop} (F : St c g m r s) (b : Nat) (hb : 0 < b) (h : ∀ (N : Nat) t s', N < b → St c g m r s' → Q (.int (N : Int) t) s') :
    wpAny (model prog w) A (binaryOp .Mod (.int x t) (.int (b : Int) u)) Q E s := by
  refine AutoIntOps.mod_1 (by simp; omega) ?_
  have h0 : Int.fmod x (b : Int) = Int.emod x (b : Int) := by rw [Int.fmod_eq_emod_of_nonneg _ (by omega)]; rfl
  have h1 : 0 ≤ Int.emod x (b : Int) := Int.emod_nonneg _ (by omega)
  have h2 : Int.emod x (b : Int) < b := Int.emod_lt_of_pos _ (by omega)
  have h3 : Int.emod x (b : Int) = ((Int.emod x (b : Int)).toNat : Int) := (Int.toNat_of_nonneg h1).symm
  show Q (.int _ _) _
  rw [h0, h3]
  exact h _ _ _ (by omega) F.toks
theorem op_fdI {x : Int} {t u : Tok} {Q : Value → Shared → Prop} (F : St c g m r s) (b : Nat) (hb : 0 < b) (hfit : b.log2 < 1000) (h : ∀ (y : Int) t s', St c g m r s' → Q (.int y t) s') :
    wpAny (model prog w) A (binaryOp .FloorDiv (.int x t) (.int (b : Int) u)) Q E s := by
  refine AutoIntOps.floordiv_1 (by simp; omega) ?_ ?_
  · unfold Builtin.divisionGoesByPylong
    have : ((b : Int) == 0) = false := by simp; omega
    simp only [this, Bool.false_eq_true, if_false, Int.natAbs_natCast, Bool.and_eq_true, decide_eq_true_eq]
    omega
  · exact h _ _ _ F.toks

theorem stCM {env : Env} {sc : Scope} {cl : List (Str × Addr)} {cd : Value} {x : Str} {v : Value} {M : Model} {r1 r2 : List (Addr × Obj)} {a : Addr} {o : Obj} {v0 : Option Value} {Q : Unit → Shared → Prop} (En : EnvOk env sc c.L cl cd) (F : St c g m (r1 ++ (a, o) :: r2) s) (ho : o.data = .cell v0) (hc : cl.lookup x = some a) (hX : a ∉ c.X)
    (h : ∀ g' s', Le g g' → g'.IsCell a (some v) → St c g' m (r1 ++ r2) s' → Q () s') (hk : sc.kind = .function := by rfl) (hx : sc.names.lookup x = some .cell := by rfl) : wpAny M A (storeName env x v) Q E s :=
  stC En (F.perm List.perm_middle) ho hc hX h hk hx
end
theorem CalmB.more {d : Wd} {n : Nat} {f : Value} {pos : List Value} {kw : List (Str × Value)} {g : Heap} {B T : List (Addr × Obj)} {Q : Value → Heap → List (Addr × Obj) → Prop} (C : CalmB d n f pos kw g B Q) : CalmB d n f pos kw g (B ++ T) fun v g' B' => ∃ B0, B' = B0 ++ T ∧ Q v g' B0 := fun A s hR hh W => by
  refine codeAny_mono (C A s hR hh W.part) fun r s' hr => ?_
  obtain ⟨v, g', B0, rfl, P, q⟩ := hr
  exact ⟨v, g', B0 ++ T, rfl, P.frame W, B0, rfl, q⟩
theorem CalmB.mono {d : Wd} {n : Nat} {f : Value} {pos : List Value} {kw : List (Str × Value)} {g : Heap} {B : List (Addr × Obj)} {Q Q' : Value → Heap → List (Addr × Obj) → Prop} (C : CalmB d n f pos kw g B Q) (h : ∀ v g' B', Q v g' B' → Q' v g' B') : CalmB d n f pos kw g B Q' := fun A s hR hh W => by
  refine codeAny_mono (C A s hR hh W) fun r s' hr => ?_
  obtain ⟨v, g', B0, rfl, P, q⟩ := hr
  exact ⟨v, g', B0, rfl, P, h _ _ _ q⟩
theorem neNil {c : Fx} {g : Heap} {m : Str → Option Value} {r : List (Addr × Obj)} {s : Shared} {A : Around} {E : Value → Shared → Prop} {prog : Program} {w : World} {l e : Addr} {vs : List Value} {Q : Value → Shared → Prop} (F : St c g m r s) (hl : g.IsList l vs.toArray) (he : g.IsList e #[]) (hu : A.units < cLine) (h : Q (.bool (!vs.isEmpty)) s) : wpAny (model prog w) A (compareOp .NotEq (.ref l) (.ref e)) Q E s := by
  show wpAny _ _ (richCompare .NotEq (.ref l) (.ref e)) Q E s
  cases vs with
  | nil => exact PySem.SeqAt.RcNeAt.lists (e := fun _ => true) (IsList_le hl F.sub) (IsList_le he F.sub) rfl hu (fun j h1 _ => absurd h1 (Nat.not_lt_zero _)) prog w E Q h
  | cons v vs => exact PySem.SeqAt.RcNeAt.lists_lengths (IsList_le hl F.sub) (IsList_le he F.sub) (by simp) hu prog w E Q h
def iv (p : Int × Tok) : Value := .int p.1 p.2
theorem five (xs : List (Int × Tok)) (a0 a1 a2 a3 a4 : Int) (t0 t1 t2 t3 t4 : Tok) : ∃ p0 p1 p2 p3 p4 : Int × Tok, (xs.map iv).take 5 ++ [Value.int a0 t0, .int a1 t1, .int a2 t2, .int a3 t3, .int a4 t4].drop xs.length = [iv p0, iv p1, iv p2, iv p3, iv p4] := by
  match xs with
  | [] => exact ⟨(a0, t0), (a1, t1), (a2, t2), (a3, t3), (a4, t4), rfl⟩
  | [q0] => exact ⟨q0, (a1, t1), (a2, t2), (a3, t3), (a4, t4), rfl⟩
  | [q0, q1] => exact ⟨q0, q1, (a2, t2), (a3, t3), (a4, t4), rfl⟩
  | [q0, q1, q2] => exact ⟨q0, q1, q2, (a3, t3), (a4, t4), rfl⟩
  | [q0, q1, q2, q3] => exact ⟨q0, q1, q2, q3, (a4, t4), rfl⟩
  | q0 :: q1 :: q2 :: q3 :: q4 :: r =>
    refine ⟨q0, q1, q2, q3, q4, ?_⟩
    rw [List.drop_eq_nil_of_le (by simp)]
    simp
/-! DictE -/
section
variable {c : Fx} {g : Heap} {m : Str → Option Value} {r : List (Addr × Obj)} {s : Shared} {A : Around} {E : Value → Shared → Prop}
/-- the list of a known dict's names -/
theorem listD {D : Addr} {kvs : List (Str × Value)} {Q : Value → Shared → Prop} (hh : A.handled = none) (F : St c g m r s) (hD : DK c.toWd g D kvs) (hz : kvs.length ≤ sizeLine)
    (h : ∀ g' t vs s', Le g g' → g'.IsList t vs.toArray → Paired (rd g') vs (kvs.map fun kv => PyData.str kv.1) → St c g' m r s' → Q (.ref t) s') : wpAny (model c.prog c.w) A (call (.type "list") [.ref D]) Q E s := by
  obtain ⟨ep, hat⟩ := hD.1.dictAt
  refine kdl_call (kdl_dict (knd := sk c.toWd) hD.2) hh (hat.keep F.sub) hz fun h' tk acc' c' hk hS hacc => ?_
  have F2 : St c g m r { s with heap := h', toks := tk } := F.more hk
  obtain ⟨g', l1, k1, F3⟩ := F2.learnNew (s₀ := s) ⟨g, m, r, F, rfl⟩ hS (Nat.le_refl _) rfl
  refine h g' _ acc'.toList _ l1 ⟨_, k1, rfl, c', by simp⟩ ?_ F3
  have hlen : acc'.toList.length = kvs.length := by rw [Array.length_toList]; exact hacc.1
  have key : ∀ (vs : List Value) (l : List (Str × Value)), vs.length = l.length → (∀ (i : Nat) (v : Value), vs[i]? = some v → ∃ k x, l[i]? = some (k, x) ∧ (sk c.toWd).is k v = true) → Paired (rd g') vs (l.map fun kv => PyData.str kv.1) := by
    intro vs
    induction vs with
    | nil => intro l h1 _; cases l with
      | nil => exact .nil
      | cons _ _ => cases h1
    | cons v vs ih => intro l h1 h2; cases l with
      | nil => cases h1
      | cons p l =>
        obtain ⟨k, x, e, hk⟩ := h2 0 v rfl
        cases e
        refine .cons ?_ (ih l (by simpa using h1) fun i u hu => by simpa using h2 (i + 1) u (by simpa using hu))
        obtain ⟨t, rfl⟩ := Value.isStrOf_shape hk
        exact rd_str
  exact key _ _ hlen fun i v e => by
    rw [Array.getElem?_toList] at e
    exact hacc.2 i v e

theorem hits_of {kb : List (Str × Value)} (hn : (kb.map (·.1)).Nodup) : ∀ {ka kc : List (Str × Value)}, Paired (fun (p q : Str × Value) => p.1 = q.1 ∧ ∃ i t u, p.2 = .int i t ∧ q.2 = .int i u) ka kc → (∀ q ∈ kc, q ∈ kb) → KeqHits A s kb ka true
  | [], [], .nil, _ => .nil
  | (k, v) :: ka, (k2, v2) :: kc, .cons ⟨h1, i, t, u, h2, h3⟩ hp, hm => by
    have h1 : k = k2 := h1
    have h2 : v = .int i t := h2
    have h3 : v2 = .int i u := h3
    subst h1 h2 h3
    obtain ⟨j, hj⟩ := List.getElem?_of_mem (hm _ (.head _))
    have := KeqHits.hit (A := A) (s := s) (v := .int i t) (valueAt_mem hn hj) (PySem.SeqAt.EqAt.int_int i t i u) (hits_of hn hp fun q hq => hm q (.tail _ hq))
    rw [beq_self_eq_true, Bool.true_and] at this
    exact this
theorem dictNe {a b : Addr} {ka kb : List (Str × Value)} {Q : Value → Shared → Prop} (F : St c g m r s) (ha : DK c.toWd g a ka) (hb : DK c.toWd g b kb) (hu : A.units < cLine) (hn : (kb.map (·.1)).Nodup)
    (hp : Paired (fun (p q : Str × Value) => p.1 = q.1 ∧ ∃ i t u, p.2 = .int i t ∧ q.2 = .int i u) ka kb) (h : Q (.bool false) s) : wpAny (model c.prog c.w) A (compareOp .NotEq (.ref a) (.ref b)) Q E s := by
  refine keq_ne (knd := sk c.toWd) ha.2 hb.2 ((ha.le F.sub).1) ((hb.le F.sub).1) hu (fun _ => hits_of hn hp fun _ h => h) ?_
  rw [hp.length, beq_self_eq_true]
  exact h
theorem dictEq {a b : Addr} {ka kb : List (Str × Value)} {Q : Value → Shared → Prop} (F : St c g m r s) (ha : DK c.toWd g a ka) (hb : DK c.toWd g b kb) (hu : A.units < cLine) (hn : (kb.map (·.1)).Nodup)
    (hp : Paired (fun (p q : Str × Value) => p.1 = q.1 ∧ ∃ i t u, p.2 = .int i t ∧ q.2 = .int i u) ka kb) (h : Q (.bool true) s) : wpAny (model c.prog c.w) A (compareOp .Eq (.ref a) (.ref b)) Q E s := by
  refine keq_eq (knd := sk c.toWd) ha.2 hb.2 ((ha.le F.sub).1) ((hb.le F.sub).1) hu (fun _ => hits_of hn hp fun _ h => h) ?_
  rw [hp.length, beq_self_eq_true]
  exact h
end
/-! Small -/
theorem deo_spec {d : Wd} (G : Good d) {g : Heap} : Calm d 3 (.ref 236) [.none, .none, .none, .bool true] [] g (fun v g' => ∃ t, v = .ref t ∧ IsTup g' t #[.bool true, .bool true]) := by
  refine calmK (n := 2) (binds := [("cmp", .none), ("eq", .none), ("order", .none), ("default_eq", .bool true)]) (bs := [("default_eq", .bool true), ("order", .none), ("eq", .none), ("cmp", .none)]) G.K G.base (by k_is) (by k_is) (binds_eq (by kernel_rfl)) rfl (by decide) rfl rfl rfl rfl ?_
  intro f s s₁ env A hfd hR hh hfe hfg hfX En hE F
  subst hfd
  have hB := G.base
  walk_at "x1"
  walk_at "xif"
  walk_at "ta"
  walk_at "tc"
  walk_at "nL"
  walk_at "kn"
  walk_at "is4"
  walk_at "tb"
  walk_at "i0"
  walk_at "i0"
  walk_at "x0"
  walk_at "x1"
  walk_at "xif"
  walk_at "tc"
  walk_at "nL"
  walk_at "kn"
  walk_at "is4"
  walk_at "tb"
  walk_at "i0"
  walk_at "x0"
  walk_at "x1"
  walk_at "xif"
  walk_at "tc"
  walk_at "nL"
  walk_at "kn"
  walk_at "is1"
  walk_at "tb"
  walk_at "i1"
  walk_at "x1"
  walk_at "xan"
  walk_at "nL"
  walk_at "l"
  walk_at "x0"
  walk_at "x1"
  walk_at "xif"
  walk_at "tc"
  walk_at "nL"
  walk_at "kn"
  walk_at "is1"
  walk_at "tb"
  walk_at "i1"
  walk_at "x1"
  walk_at "xan"
  walk_at "nL"
  walk_at "l"
  walk_at "x0"
  walk_at "x1"
  walk_at "xif"
  walk_at "ta"
  walk_at "tc"
  walk_at "nL"
  walk_at "kb"
  walk_at "is2"
  walk_at "tb"
  walk_at "i0"
  walk_at "i0"
  walk_at "x0"
  walk_at "x1"
  walk_at "xret"
  walk_at "et"
  walk_at "s1"
  walk_at "nL"
  walk_at "s1"
  walk_at "nL"
  walk_at "s0"
  walk_at "tup"
  walk_at "d"
  exact back F hfe hfg hfX ⟨_, rfl, ht⟩
/-- a Kind -/
def kindF (nm mro attrs eqa orda : Value) : List (Str × Value) := [("order_attrs", orda), ("eq_attrs", eqa), ("attrs", attrs), ("mro", mro), ("name", nm)]
theorem fields_spec {d : Wd} (G : Good d) {g : Heap} {x : Addr} {nm mro attrs eqa orda : Value} (I : InstF g x 135 (kindF nm mro attrs eqa orda)) (ha : handedIn attrs = true) : Calm d 3 (.ref 250) [.ref x] [] g (fun v _ => v = attrs) := by
  refine calmK (n := 2) (binds := [("cls", .ref x)]) (bs := [("cls", .ref x)]) G.K G.base (by k_is) (by k_is) (binds_eq (by kernel_rfl)) rfl (by decide) rfl rfl rfl rfl ?_
  intro f s s₁ env A hfd hR hh hfe hfg hfX En hE F
  subst hfd
  have hB := G.base
  obtain ⟨dx, od, hx, _⟩ := id I
  walk_at "x1"
  walk_at "xif"
  walk_at "tp"
  walk_at "ec"
  walk_at "nB"
  walk_at "cw"
  walk_at "a1"
  walk_at "s1"
  walk_at "nL"
  walk_at "s1"
  walk_at "nG"
  walk_at "s0"
  walk_at "ko"
  walk_at "d"
  refine isiF hB G.K F I (by kernel_rfl) (by kernel_rfl) fun s' F => ?_
  walk_at "tb"
  walk_at "i0"
  walk_at "x0"
  walk_at "x1"
  walk_at "xif"
  walk_at "tn"
  walk_at "tp"
  walk_at "ec"
  walk_at "nB"
  walk_at "cw"
  walk_at "a1"
  walk_at "s1"
  walk_at "nL"
  walk_at "s1"
  walk_at "nG"
  walk_at "s0"
  walk_at "ko"
  walk_at "d"
  refine isiT hB G.K F hx (by kernel_rfl) ?_
  walk_at "tb"
  walk_at "i0"
  walk_at "x0"
  walk_at "x1"
  walk_at "xret"
  walk_at "ea"
  walk_at "nL"
  walk_at "ga"
  walk_at "d"
  exact back F hfe hfg hfX rfl
theorem atomic_spec {d : Wd} (G : Good d) {g : Heap} {n : Int} {u : Tok} : Calm d 3 (.ref 464) [.int n u] [] g (fun v _ => v = .bool true) := by
  refine calmK (n := 2) (binds := [("value", .int n u)]) (bs := [("value", .int n u)]) G.K G.base (by k_is) (by k_is) (binds_eq (by kernel_rfl)) rfl (by decide) rfl rfl rfl rfl ?_
  intro f s s₁ env A hfd hR hh hfe hfg hfX En hE F
  subst hfd
  have hB := G.base
  walk_at "x1"
  walk_at "xret"
  walk_at "eor"
  walk_at "ec1"
  walk_at "nL"
  walk_at "kn"
  walk_at "is2"
  walk_at "tb"
  walk_at "i0"
  walk_at "eo1"
  walk_at "ec"
  walk_at "nB"
  walk_at "cw"
  walk_at "a1"
  walk_at "s1"
  walk_at "nL"
  walk_at "s1"
  walk_at "et"
  walk_at "s1"
  walk_at "nB"
  walk_at "s1"
  walk_at "nB"
  walk_at "s1"
  walk_at "nB"
  walk_at "s1"
  walk_at "nB"
  walk_at "s0"
  walk_at "tup"
  walk_at "s0"
  walk_at "ko"
  walk_at "d"
  refine isiTupI (its := [.type "bool", .type "int", .type "str", .type "bytes"]) (b := true) hB G.K F ht (by kernel_rfl) fun s' F => ?_
  exact back F hfe hfg hfX rfl
theorem wanted_spec {d : Wd} (G : Good d) {g : Heap} {D : Addr} (hD : DK d g D []) : Calm d 3 (.ref 478) [.none, .ref D] [] g (fun v _ => v = .none) := by
  refine calmK (n := 2) (binds := [("wanted", .none), ("named", .ref D)]) (bs := [("named", .ref D), ("wanted", .none)]) G.K G.base (by k_is) (by k_is) (binds_eq (by kernel_rfl)) rfl (by decide) rfl rfl rfl rfl ?_
  intro f s s₁ env A hfd hR hh hfe hfg hfX En hE F
  subst hfd
  have hB := G.base
  walk_at "x1"
  refine forE (fun _ _ => False) (fun _ => rfl) (fun _ _ z => z.elim) ?_
  walk_at "nL"
  walk_at "d"
  refine rdyKeys (gB := g) F hh hD (Le.refl _) fun it s' R => ?_
  refine ⟨_, _, _, _, _, [], [], fun i g' l o => o = [] ∧ lk l "wanted" = some .none ∧ lk l "named" = some (.ref D), R _ plainTgt_name, ⟨rfl, rfl, rfl⟩, ?_, ?_⟩
  · intro i g4 g5 l o T s' v4 E' hi
    exact absurd hi (Nat.not_lt_zero _)
  rintro g4 l4 o4 s4 hle4 ⟨rfl, m1, m2⟩ F
  walk_at "x1"
  walk_at "xret"
  walk_at "em"
  walk_at "nL"
  walk_at "d"
  refine gmGet (DK.here hD hle4 F) ?_
  walk_at "cw"
  walk_at "a1"
  walk_at "s1"
  walk_at "ks"
  walk_at "s1"
  walk_at "nL"
  walk_at "s0"
  walk_at "ko"
  walk_at "d"
  refine callGet2 F (DK.here hD hle4 F) hD.2 fun s' F => ?_
  exact back F hfe hfg hfX rfl
/-! Linear -/
theorem linear0_spec {d : Wd} (G : Good d) {g : Heap} {k : Value} {b : Addr} (hb : IsTup g b #[]) : Calm d 20 (.ref 144) [k, .ref b] [] g (fun v g' => ∃ a, v = .ref a ∧ g'.IsList a #[k]) := by
  refine calmC (n := 19) (binds := [("kind", k), ("bases", .ref b)]) (lbs := [("bases", .ref b), ("kind", k)]) (cbs := [])
    G.K G.base (by k_is) (by k_is) (binds_eq (by kernel_rfl)) (fun L => by kernel_rfl) (by kernel_rfl) (by kernel_rfl) (by decide) rfl rfl rfl ?_
  intro f s s₁ env A co hfd hR hh hfe hfg hfX En hE hC F
  subst hfd
  have hB := G.base
  obtain ⟨o1, _, rfl, ho1, o2, _, rfl, ho2, rfl⟩ := hC
  walk_at "x1"
  walk_at "xan"
  walk_at "eb"
  walk_at "d"
  refine lcE (cl := []) En (by rw [clos_eq En]; kernel_rfl) (by decide) rfl (by decide) (fun _ => rfl) ?_
  walk_at "nL"
  refine rdyTup (gB := g) F (hnd0 hh) hb (Le.refl _) hb (hnd0 hh) fun it s' R => ?_
  refine ⟨_, _, _, _, _, _, fun i _ ys => ys = [], R _ plainTgt_name, by decide, rfl, ?_, ?_⟩
  · intro f' cenv i g1 g' l T s' v ys E' hw En' hi
    exact absurd hi (Nat.not_lt_zero _)
  rintro g1 g2 D1 ys s2 hle1 hle2 rfl hD1 F
  have hb2 := hb.keeps (hle1.trans hle2)
  walk_at "el"
  walk_at "s1"
  refine lcE (cl := []) En (by rw [clos_eq En]; kernel_rfl) (by decide) rfl (by decide) (fun _ => rfl) ?_
  walk_at "nL"
  refine rdyTup (gB := g2) F (hnd0 hh) hb2 (Le.refl _) hb2 (hnd0 hh) fun it s' R => ?_
  refine ⟨_, _, _, _, _, _, fun i _ ys => ys = [], R _ plainTgt_name, by decide, rfl, ?_, ?_⟩
  · intro f' cenv i g1 g' l T s' v ys E' hw En' hi
    exact absurd hi (Nat.not_lt_zero _)
  rintro g3 g4 D2 ys s4 hle3 hle4 rfl hD2 F
  walk_at "s0"
  walk_at "lst"
  refine addL (vs := []) (ws := [.ref D2]) F (IsList_le hD1 (by walk_at "le")) ht (show 1 ≤ sizeLine by decide) fun g5 R1 s5 hle5 hR1 _ F => ?_
  have F := F.perm (List.Perm.swap (f.L + 1, o2) (f.L + 1 + 1, o1) [])
  refine stC En F ho2 rfl (by rw [hfX]; exact fun h => nomatch h) fun g6 s6 l6 hrows F => ?_
  walk_at "x1"
  walk_at "xan"
  walk_at "el"
  walk_at "s1"
  walk_at "nL"
  walk_at "s0"
  walk_at "d"
  walk_at "lst"
  walk_at "l"
  walk_at "x1"
  have hfound := ht
  refine whileE (fun n s => n = 0 ∧ ∃ g l, Le _ g ∧ lk l "found" = some _ ∧ St f g (lk l) _ s) 0 ⟨rfl, _, _, Le.refl _, rfl, F⟩ ?_
  rintro n s7 N ⟨rfl, g7, l7, hle7, m1, F⟩
  walk_at "tp"
  walk_at "d"
  walk_at "lcl"
  walk_at "nC"
  have hR1 : g7.IsList R1 #[.ref D2] := IsList_le hR1 (by walk_at "le")
  have hD2 : g7.IsList D2 #[] := IsList_le hD2 (by walk_at "le")
  refine rdyList (gB := g7) F (hnd0 hh) hR1 (Le.refl _) hR1 (hnd0 hh) fun it s' R => ?_
  refine ⟨_, _, _, _, _, _, fun i _ ys => ys = [], R _ plainTgt_name, (show 1 ≤ sizeLine by decide), rfl, ?_, ?_⟩
  · intro f' cenv i g1 g' l T s' v ys E' hw En' hi hle1 hle2 hI hP F
    subst hI
    obtain rfl : i = 0 := by simpa using hi
    obtain rfl : v = .ref D2 := by simpa using hP.symm
    walk_at "as1"
    walk_at "l"
    walk_at "ts1"
    walk_at "tp"
    walk_at "nL"
    walk_at "d"
    refine trL (vs := []) F (IsList_le hD2 (hle1.trans hle2)) (by decide) fun s' F => ?_
    walk_at "i0"
    exact ⟨_, _, hle1.trans hle2, rfl, F⟩
  rintro g8 g9 D3 ys s9 hle8 hle9 rfl hD3 F
  refine trL (vs := []) F hD3 (by decide) fun s' F => ?_
  walk_at "i0"
  walk_at "x1"
  walk_at "xret"
  walk_at "nL"
  walk_at "d"
  have hX : f.X = [] := hfX
  have F := F.drop (r' := []) (List.nil_sublist _) hX
  exact back F hfe hfg hfX ⟨_, rfl, IsList_le hfound (by walk_at "le")⟩
/-! Linear1 -/
theorem linear1_spec {d : Wd} (G : Good d) {g : Heap} {k nm ats eqa oda : Value} {b ba ml : Addr} (hb : IsTup g b #[.ref ba]) (I : InstF g ba 135 (kindF nm (.ref ml) ats eqa oda)) (hml : g.IsList ml #[.ref ba]) : Calm d 30 (.ref 144) [k, .ref b] [] g (fun v g' => ∃ a, v = .ref a ∧ g'.IsList a #[k, .ref ba]) := by
  refine calmC (n := 29) (binds := [("kind", k), ("bases", .ref b)]) (lbs := [("bases", .ref b), ("kind", k)]) (cbs := [])
    G.K G.base (by k_is) (by k_is) (binds_eq (by kernel_rfl)) (fun L => by kernel_rfl) (by kernel_rfl) (by kernel_rfl) (by decide) rfl rfl rfl ?_
  intro f s s₁ env A co hfd hR hh hfe hfg hfX En hE hC F
  subst hfd
  have hB := G.base
  have hX : f.X = [] := hfX
  obtain ⟨o1, _, rfl, ho1, o2, _, rfl, ho2, rfl⟩ := hC
  have hgc : f.g0.get? (f.L + 1) = none := by rw [hfg]; exact (F.own (f.L + 1, o2) (.tail _ (.head _))).2.1
  walk_at "x1"
  walk_at "xan"
  walk_at "eb"
  walk_at "d"
  walk_at "lcl"
  walk_at "nL"
  refine rdyTup (gB := g) F (hnd0 hh) hb (Le.refl _) hb (hnd0 hh) fun it s' R => ?_
  refine ⟨_, _, _, _, _, _, fun i g' ys => (i = 0 ∧ ys = []) ∨ (i = 1 ∧ ∃ a, ys = [.ref a] ∧ g'.IsList a #[.ref ba]), R _ plainTgt_name, (show 1 ≤ sizeLine by decide), .inl ⟨rfl, rfl⟩, ?_, ?_⟩
  · intro f' cenv i g1 g' l T s' v ys E' hw En' hi hle1 hle2 hI hP F
    obtain rfl : i = 0 := by simpa using hi
    obtain rfl : v = .ref ba := by simpa using hP.symm
    obtain rfl : ys = [] := by rcases hI with ⟨_, h⟩ | ⟨h, _⟩; exact h; cases h
    have I := I.le (hle1.trans hle2)
    have hB : Base f'.toWd := by rw [hw]; exact hB
    have G : Good f'.toWd := by rw [hw]; exact G
    have hml := IsList_le hml (hle1.trans hle2)
    walk_at "as1"
    walk_at "l"
    walk_at "ts0"
    walk_at "i1"
    walk_at "d"
    walk_at "lcl"
    walk_at "ea"
    walk_at "nL"
    walk_at "ga"
    refine rdyList (gB := g') F (hnd0 hh) hml (Le.refl _) hml (hnd0 hh) fun it s' R => ?_
    refine ⟨_, _, _, _, _, _, fun i _ ys => ys = [Value.ref ba].take i, R _ plainTgt_name, (show 1 ≤ sizeLine by decide), rfl, ?_, ?_⟩
    · intro f' cenv i g1 g' l T s' v ys E' hw En' hi hle1 hle2 hI hP F
      obtain rfl : i = 0 := by simpa using hi
      obtain rfl : v = .ref ba := by simpa using hP.symm
      subst hI
      walk_at "as1"
      walk_at "l"
      walk_at "ts0"
      walk_at "i1"
      walk_at "nL"
      walk_at "d"
      exact ⟨_, _, hle1.trans hle2, rfl, F⟩
    rintro g3 g4 D1 ys s4 hle3 hle4 rfl hD1 F
    exact ⟨_, _, hle1.trans (hle2.trans (hle3.trans hle4)), .inr ⟨rfl, D1, rfl, hD1⟩, F⟩
  rintro g1 g2 D1 ys s2 hle1 hle2 hI hD1 F
  obtain ⟨Da, rfl, hDa⟩ : ∃ a, ys = [.ref a] ∧ g2.IsList a #[.ref ba] := by
    rcases hI with ⟨h, _⟩ | ⟨_, a, h1, h2⟩
    · cases h
    · exact ⟨a, h1, IsList_le h2 hle2⟩
  have hb2 := hb.keeps (hle1.trans hle2)
  walk_at "el"
  walk_at "s1"
  walk_at "lcl"
  walk_at "nL"
  refine rdyTup (gB := g2) F (hnd0 hh) hb2 (Le.refl _) hb2 (hnd0 hh) fun it s' R => ?_
  refine ⟨_, _, _, _, _, _, fun i _ ys => ys = [Value.ref ba].take i, R _ plainTgt_name, (show 1 ≤ sizeLine by decide), rfl, ?_, ?_⟩
  · intro f' cenv i g1 g' l T s' v ys E' hw En' hi hle1 hle2 hI hP F
    obtain rfl : i = 0 := by simpa using hi
    obtain rfl : v = .ref ba := by simpa using hP.symm
    subst hI
    walk_at "as1"
    walk_at "l"
    walk_at "ts0"
    walk_at "i1"
    walk_at "nL"
    walk_at "d"
    exact ⟨_, _, hle1.trans hle2, rfl, F⟩
  rintro g3 g4 Db ys s4 hle3 hle4 rfl hDb F
  walk_at "s0"
  walk_at "lst"
  refine addL (vs := [.ref Da]) (ws := [.ref Db]) F (IsList_le hD1 (by walk_at "le")) ht (show 2 ≤ sizeLine by decide) fun g5 R1 s5 hle5 hR1 _ F => ?_
  have F := F.perm (List.Perm.swap (f.L + 1, o2) (f.L + 1 + 1, o1) [])
  refine stC En F ho2 rfl (by rw [hX]; exact fun h => nomatch h) fun g6 s6 l6 hrows F => ?_
  walk_at "x1"
  walk_at "xan"
  walk_at "el"
  walk_at "s1"
  walk_at "nL"
  walk_at "s0"
  walk_at "d"
  refine newListO F (fun fo s7 F => ?_) (by size_fits)
  walk_at "l"
  walk_at "x1"
  have hR1 : g6.IsList R1 #[.ref Da, .ref Db] := IsList_le hR1 l6
  have hDa : g6.IsList Da #[.ref ba] := IsList_le hDa (by walk_at "le")
  have hDb : g6.IsList Db #[.ref ba] := IsList_le hDb (by walk_at "le")
  have hg6 : Le g g6 := by walk_at "le"
  clear hD1 hb2 hI R
  refine whileE (fun n s => (n = 1 ∧ ∃ g' l R1 Da Db n0, Le g g' ∧ g'.IsCell (f.L + 1) (some (.ref R1)) ∧ g'.IsList R1 #[.ref Da, .ref Db] ∧ g'.IsList Da #[.ref ba] ∧ g'.IsList Db #[.ref ba] ∧ lk l "found" = some (.ref fo) ∧ St f g' (lk l) [(fo, listO [k] n0), (f.L + 1 + 1, o1)] s) ∨
    (n = 0 ∧ ∃ g' l R1 Da Db n0, Le g g' ∧ g'.IsCell (f.L + 1) (some (.ref R1)) ∧ g'.IsList R1 #[.ref Da, .ref Db] ∧ g'.IsList Da #[] ∧ g'.IsList Db #[] ∧ lk l "found" = some (.ref fo) ∧ St f g' (lk l) [(fo, listO [k, .ref ba] n0)] s)) 1
    (.inl ⟨rfl, g6, _, R1, Da, Db, 0, hg6, hrows, hR1, hDa, hDb, rfl, F⟩) ?_
  rintro n s8 N (⟨rfl, g', l, R1, Da, Db, n0, hle, hrows, hR1, hDa, hDb, m1, F⟩ | ⟨rfl, g', l, R1, Da, Db, n0, hle, hrows, hR1, hDa, hDb, m1, F⟩)
  · walk_at "tp"
    walk_at "d"
    walk_at "lcl"
    walk_at "nC"
    refine rdyList (gB := g') F (hnd0 hh) hR1 (Le.refl _) hR1 (hnd0 hh) fun it s' R => ?_
    refine ⟨_, _, _, _, _, _, fun i _ ys => ys = [Value.ref Da, .ref Db].take i, R _ plainTgt_name, (show 2 ≤ sizeLine by decide), rfl, ?_, ?_⟩
    · intro f' cenv i g1 g2 l T s' v ys E' hw En' hi hle1 hle2 hI hP F
      subst hI
      obtain ⟨a, rfl, ha, hs⟩ : ∃ a, v = .ref a ∧ g'.IsList a #[.ref ba] ∧ [Value.ref Da, .ref Db].take i ++ [v] = [Value.ref Da, .ref Db].take (i + 1) := by
        have : i = 0 ∨ i = 1 := by have : i < 2 := hi; omega
        rcases this with rfl | rfl
        · obtain rfl : v = .ref Da := by simpa using hP.symm
          exact ⟨Da, rfl, hDa, rfl⟩
        · obtain rfl : v = .ref Db := by simpa using hP.symm
          exact ⟨Db, rfl, hDb, rfl⟩
      walk_at "as1"
      walk_at "l"
      walk_at "ts1"
      walk_at "tp"
      walk_at "nL"
      walk_at "d"
      refine trL (vs := [.ref ba]) F (IsList_le ha (hle1.trans hle2)) (show 1 < 1000 by decide) fun s' F => ?_
      walk_at "i1"
      walk_at "nL"
      exact ⟨_, _, hle1.trans hle2, hs, F⟩
    rintro g8 g9 D3 ys s9 hle8 hle9 rfl hD3 F
    refine trL (vs := [.ref Da, .ref Db]) F hD3 (show 2 < 1000 by decide) fun s' F => ?_
    walk_at "i1"
    walk_at "x1"
    walk_at "xanE"
    walk_at "d"
    have hrows : g9.IsCell (f.L + 1) (some (.ref R1)) := hrows.keeps (hle8.trans hle9)
    have hR1 : g9.IsList R1 #[.ref Da, .ref Db] := IsList_le hR1 (hle8.trans hle9)
    have hDa : g9.IsList Da #[.ref ba] := IsList_le hDa (hle8.trans hle9)
    have hDb : g9.IsList Db #[.ref ba] := IsList_le hDb (hle8.trans hle9)
    refine lcEX1 (cl := [("rows", f.L + 1)]) F rfl rfl En (by rw [clos_eq En]; kernel_rfl) rfl (by decide) (by decide) (fun _ => rfl) ?_
    walk_at "nC"
    refine rdyList (gB := g9) F (hnd0 hh) hR1 (Le.refl _) hR1 (hnd0 hh) fun it s' R => ?_
    refine ⟨_, _, _, _, _, _, fun i _ ys => ys = [Value.ref ba, .ref ba].take i, R _ plainTgt_name, (show 2 ≤ sizeLine by decide), rfl, ?_, ?_⟩
    · intro f' cenv co i g1 g2 l T s' v ys E' hw En' hco hcX hi hle1 hle2 hI hP F
      subst hI
      obtain ⟨a, rfl, ha, hs⟩ : ∃ a, v = .ref a ∧ g9.IsList a #[.ref ba] ∧ [Value.ref ba, .ref ba].take i ++ [.ref ba] = [Value.ref ba, .ref ba].take (i + 1) := by
        have : i = 0 ∨ i = 1 := by have : i < 2 := hi; omega
        rcases this with rfl | rfl
        · obtain rfl : v = .ref Da := by simpa using hP.symm
          exact ⟨Da, rfl, hDa, rfl⟩
        · obtain rfl : v = .ref Db := by simpa using hP.symm
          exact ⟨Db, rfl, hDb, rfl⟩
      obtain ⟨oc, rfl, v0, hoc⟩ := CellsAny.one (n := "row") (a := f'.L + 1) hco
      have hcX := hcX (f'.L + 1) (.head _)
      walk_at "as1"
      walk_at "d"
      refine stC En' F hoc rfl hcX.1 fun g3 s3 l3 hrow F => ?_
      walk_at "ts1"
      walk_at "ta"
      walk_at "tp"
      walk_at "nC"
      refine trL (vs := [.ref ba]) F (IsList_le ha (hle1.trans (hle2.trans l3))) (show 1 < 1000 by decide) fun s' F => ?_
      walk_at "i1"
      walk_at "ta"
      walk_at "tn"
      walk_at "tp"
      refine lcE1 (cl := [("row", f'.L + 1)]) F rfl rfl En' (by rw [clos_eq En']; kernel_rfl) (by decide) rfl (by decide) (fun _ => rfl) ?_
      have hR1 : g3.IsList R1 #[.ref Da, .ref Db] := IsList_le hR1 (hle1.trans (hle2.trans l3))
      walk_at "nC"
      refine rdyList (gB := g3) F (hnd0 hh) hR1 (Le.refl _) hR1 (hnd0 hh) fun it s' R => ?_
      refine ⟨_, _, _, _, _, _, fun i _ ys => ys = [], R _ plainTgt_name, (show 2 ≤ sizeLine by decide), rfl, ?_, ?_⟩
      · intro f2 cenv2 i2 g4 g5 l2 T2 s2 v2 ys2 E2 hw2 En2 hi2 hle4 hle5 hI2 hP2 F
        subst hI2
        obtain ⟨b2, rfl, hb2⟩ : ∃ b2, v2 = .ref b2 ∧ g9.IsList b2 #[.ref ba] := by
          have : i2 = 0 ∨ i2 = 1 := by have : i2 < 2 := hi2; omega
          rcases this with rfl | rfl
          · exact ⟨Da, by simpa using hP2.symm, hDa⟩
          · exact ⟨Db, by simpa using hP2.symm, hDb⟩
        have hb2 := IsList_le hb2 (hle1.trans (hle2.trans (l3.trans (hle4.trans hle5))))
        have ha2 := IsList_le ha (hle1.trans (hle2.trans (l3.trans (hle4.trans hle5))))
        walk_at "as1"
        walk_at "l"
        walk_at "ts1"
        walk_at "tc"
        walk_at "es"
        walk_at "nC"
        walk_at "ki"
        walk_at "d"
        refine sub_list F ha2 0 rfl rfl (show 1 < 2 ^ 63 by decide) rfl ?_
        walk_at "slc"
        walk_at "nL"
        walk_at "ev"
        walk_at "ki"
        walk_at "ev"
        refine ⟨_, _, _, _, b2, _, some 1, none, rfl, F, hb2, (show 1 ≤ sizeLine by decide), .int _ _, .none, fun g6 t6 s6 hle6 ht6 F => ?_⟩
        have ht6 : g6.IsList t6 #[] := ht6
        refine SeqAt.in_listAt (fun _ => false) (IsList_le ht6 F.sub) (fun y hy => by simp at hy) ?_
        rw [show (#[] : Array Value).any (fun _ => false) = false by simp]
        walk_at "tb"
        walk_at "i0"
        exact ⟨_, _, hle4.trans (hle5.trans hle6), rfl, F⟩
      rintro g4 g5 D4 ys4 s4 hle4 hle5 rfl hD4 F
      refine trL (vs := []) F hD4 (by decide) fun s' F => ?_
      walk_at "i1"
      walk_at "ta0"
      walk_at "i1"
      walk_at "es"
      walk_at "nC"
      walk_at "ki"
      have ha5 := IsList_le ha (hle1.trans (hle2.trans (l3.trans (hle4.trans hle5))))
      refine sub_list F ha5 0 rfl rfl (show 1 < 2 ^ 63 by decide) rfl ?_
      obtain ⟨oc2, hoc2, hdc2⟩ := hrow.keeps (hle4.trans hle5)
      obtain ⟨g6, l6, k6, n6, _, F⟩ := F.thaw hoc2 hcX.2.1 (cell_ord hdc2)
      refine ⟨g6, _, _, fun b o e => k6 b o (fun z => ?_) ((hle1.trans (hle2.trans (l3.trans (hle4.trans hle5)))) b o e), hs, CellsAny.mk1 hdc2, F⟩
      have := hcX.2.2
      rw [← z, e] at this; cases this
    · intro g10 g11 D4 ys s10 hle10 hle11 hI hD4 F
      subst hI
      have F := F.perm (List.Perm.swap ..)
      refine stC En F ho1 rfl (by rw [hX]; exact fun h => nomatch h) fun g12 s12 l12 hheads F => ?_
      have hD4 : g12.IsList D4 #[.ref ba, .ref ba] := IsList_le hD4 l12
      have hz : f.X = [] := hX
      have hle912 : Le g9 g12 := hle10.trans (hle11.trans l12)
      walk_at "x1"
      walk_at "xif"
      walk_at "tn"
      walk_at "tp"
      walk_at "nC"
      refine trL (vs := [.ref ba, .ref ba]) F hD4 (show 2 < 1000 by decide) fun s' F => ?_
      walk_at "i0"
      walk_at "x0"
      walk_at "x1"
      walk_at "xex"
      walk_at "em"
      walk_at "nL"
      walk_at "d"
      refine gmApp (F.own _ (.head _)).1 ?_
      walk_at "cw"
      walk_at "a1"
      walk_at "s1"
      walk_at "es"
      walk_at "nC"
      walk_at "ki"
      walk_at "d"
      refine sub_list (x := .ref ba) F hD4 0 rfl rfl (show 2 < 2 ^ 63 by decide) rfl ?_
      walk_at "s0"
      walk_at "ko"
      refine appL F (show 1 ≤ sizeLine by decide) fun s' n1 F => ?_
      walk_at "x1"
      walk_at "xanE"
      walk_at "d"
      refine lcE1 (cl := [("heads", f.L + 1 + 1)]) F rfl rfl En (by rw [clos_eq En]; kernel_rfl) (by decide) rfl (by decide) (fun _ => rfl) ?_
      have hrows : g12.IsCell (f.L + 1) (some (.ref R1)) := hrows.keeps hle912
      have hR1 := IsList_le hR1 hle912
      have hDa := IsList_le hDa hle912
      have hDb := IsList_le hDb hle912
      walk_at "nC"
      refine rdyList (gB := g12) F (hnd0 hh) hR1 (Le.refl _) hR1 (hnd0 hh) fun it s' R => ?_
      refine ⟨_, _, _, _, _, _, fun i g ys => (i = 0 ∧ ys = []) ∨ (i = 1 ∧ ∃ a, ys = [.ref a] ∧ g.IsList a #[]) ∨ (i = 2 ∧ ∃ a b, ys = [.ref a, .ref b] ∧ g.IsList a #[] ∧ g.IsList b #[]), R _ plainTgt_name, (show 2 ≤ sizeLine by decide), .inl ⟨rfl, rfl⟩, ?_, ?_⟩
      · intro f2 cenv2 i2 g4 g5 l2 T2 s2 v2 ys2 E2 hw2 En2 hi2 hle4 hle5 hI2 hP2 F
        obtain ⟨b2, rfl, hb2⟩ : ∃ b2, v2 = .ref b2 ∧ g12.IsList b2 #[.ref ba] := by
          have : i2 = 0 ∨ i2 = 1 := by have : i2 < 2 := hi2; omega
          rcases this with rfl | rfl
          · exact ⟨Da, by simpa using hP2.symm, hDa⟩
          · exact ⟨Db, by simpa using hP2.symm, hDb⟩
        have hb2 := IsList_le hb2 (hle4.trans hle5)
        have hD5 := IsList_le hD4 (hle4.trans hle5)
        walk_at "as1"
        walk_at "l"
        walk_at "ts0"
        walk_at "i1"
        walk_at "d"
        refine lcE1 (cl := [("heads", f.L + 1 + 1)]) F rfl rfl En2 (by rw [clos_eq En2]; kernel_rfl) (by decide) rfl (by decide) (fun _ => rfl) ?_
        walk_at "nL"
        refine rdyList (gB := g5) F (hnd0 hh) hb2 (Le.refl _) hb2 (hnd0 hh) fun it s' R => ?_
        refine ⟨_, _, _, _, _, _, fun i _ ys => ys = [], R _ plainTgt_name, (show 1 ≤ sizeLine by decide), rfl, ?_, ?_⟩
        · intro f3 cenv3 i3 g6 g7 l3 T3 s3 v3 ys3 E3 hw3 En3 hi3 hle6 hle7 hI3 hP3 F
          subst hI3
          obtain rfl : i3 = 0 := by simpa using hi3
          obtain rfl : v3 = .ref ba := by simpa using hP3.symm
          walk_at "as1"
          walk_at "l"
          walk_at "ts1"
          walk_at "tc"
          walk_at "nL"
          walk_at "es"
          walk_at "nC"
          walk_at "ki"
          walk_at "d"
          refine sub_list (x := .ref ba) F (IsList_le hD5 (hle6.trans hle7)) 0 rfl rfl (show 2 < 2 ^ 63 by decide) rfl ?_
          refine isnot_ref_same ?_
          walk_at "tb"
          walk_at "i0"
          exact ⟨_, _, hle6.trans hle7, rfl, F⟩
        rintro g6 g7 D5 ys5 s5 hle6 hle7 rfl hD5 F
        refine ⟨g7, _, hle4.trans (hle5.trans (hle6.trans hle7)), ?_, F⟩
        rcases hI2 with ⟨rfl, rfl⟩ | ⟨rfl, a, rfl, ha⟩ | ⟨rfl, _⟩
        · exact .inr (.inl ⟨rfl, D5, rfl, hD5⟩)
        · exact .inr (.inr ⟨rfl, a, D5, rfl, IsList_le ha (hle5.trans (hle6.trans hle7)), hD5⟩)
        · exact absurd hi2 (Nat.lt_irrefl 2)
      · intro g6 g7 D5 ys5 s5 hle6 hle7 hI5 hD5 F
        obtain ⟨Dc, Dd, rfl, hDc, hDd⟩ : ∃ a b, ys5 = [.ref a, .ref b] ∧ g7.IsList a #[] ∧ g7.IsList b #[] := by
          rcases hI5 with ⟨h, _⟩ | ⟨h, _⟩ | ⟨_, a, b, h1, h2, h3⟩
          · cases h
          · cases h
          · exact ⟨a, b, h1, IsList_le h2 hle7, IsList_le h3 hle7⟩
        obtain ⟨oc2, hoc2, hdc2⟩ := hrows.keeps (hle6.trans hle7)
        obtain ⟨g8, l8, k8, n8, z8, F⟩ := F.thaw hoc2 hgc (cell_ord hdc2)
        have keepL : ∀ {a : Addr} {items : Array Value}, g7.IsList a items → g8.IsList a items := by
          rintro a items ⟨o, h1, h2, n, h3⟩
          refine ⟨o, k8 _ _ (fun z => ?_) h1, h2, n, h3⟩
          rw [z, hoc2] at h1
          cases h1
          rw [hdc2] at h3; cases h3
        have hg8 : Le g g8 := by rw [← hfg]; exact z8
        refine stC En F hdc2 rfl (by rw [hX]; exact fun h => nomatch h) fun g9' s9' l9' hrows' F => ?_
        walk_at "x0"
        walk_at "d"
        exact ⟨0, Nat.zero_lt_one, .inr ⟨rfl, g9', _, D5, Dc, Dd, _, hg8.trans l9', hrows', IsList_le (keepL hD5) l9', IsList_le (keepL hDc) l9', IsList_le (keepL hDd) l9', m1, F⟩⟩
  · walk_at "tp"
    walk_at "d"
    walk_at "lcl"
    walk_at "nC"
    refine rdyList (gB := g') F (hnd0 hh) hR1 (Le.refl _) hR1 (hnd0 hh) fun it s' R => ?_
    refine ⟨_, _, _, _, _, _, fun i _ ys => ys = [], R _ plainTgt_name, (show 2 ≤ sizeLine by decide), rfl, ?_, ?_⟩
    · intro f' cenv i g1 g2 l T s' v ys E' hw En' hi hle1 hle2 hI hP F
      subst hI
      have hv : ∃ a, v = .ref a ∧ g'.IsList a #[] := by
        have : i = 0 ∨ i = 1 := by have : i < 2 := hi; omega
        rcases this with rfl | rfl
        · exact ⟨Da, by simpa using hP.symm, hDa⟩
        · exact ⟨Db, by simpa using hP.symm, hDb⟩
      obtain ⟨a, rfl, ha⟩ := hv
      walk_at "as1"
      walk_at "l"
      walk_at "ts1"
      walk_at "tp"
      walk_at "nL"
      walk_at "d"
      refine trL (vs := []) F (IsList_le ha (hle1.trans hle2)) (by decide) fun s' F => ?_
      walk_at "i0"
      exact ⟨_, _, hle1.trans hle2, rfl, F⟩
    rintro g8 g9 D3 ys s9 hle8 hle9 rfl hD3 F
    refine trL (vs := []) F hD3 (by decide) fun s' F => ?_
    walk_at "i0"
    walk_at "x1"
    walk_at "xret"
    walk_at "nL"
    walk_at "d"
    obtain ⟨g10, l10, hfo, F⟩ := F.freezeL (by rw [hX]; exact fun h => nomatch h)
    exact back F hfe hfg hfX ⟨fo, rfl, hfo⟩
/-! KindI -/
theorem kind_spec {d : Wd} (G : Good d) {g : Heap} {nm : Value} {b : Addr} {tl : List Value} (L : ∀ k, Calm d 30 (.ref 144) [k, .ref b] [] g (fun v g' => ∃ a, v = .ref a ∧ g'.IsList a (k :: tl).toArray)) : Calm d 33 (.ref 135) [nm, .ref b] [] g
    (fun v g' => ∃ x ml at', v = .ref x ∧ InstN g g' x 135 (kindF nm (.ref ml) (.ref at') .none .none) ∧ g'.IsList ml (Value.ref x :: tl).toArray ∧ IsTup g' at' #[]) := by
  refine calmCls (n := 31) (binds := fun x => [("self", .ref x), ("name", nm), ("bases", .ref b)]) (bs := fun x => [("bases", .ref b), ("name", nm), ("self", .ref x)])
    G.K G.base (by k_is) (by k_is) (by k_is) (by k_is) (by k_is) (fun x => binds_eq (by kernel_rfl)) (fun x => rfl) (by decide) (fun x => rfl) rfl rfl rfl ?_
  intro f s s₁ env A x dx hfd hR hh hfe hfg hfX En hE F hnx hnd
  subst hfd
  have hB := G.base
  have D0 := DictF.empty
  walk_at "x1"
  walk_at "xaa"
  walk_at "nL"
  walk_at "nL"
  walk_at "sa"
  walk_at "x1"
  walk_at "xaa"
  walk_at "ec"
  walk_at "nG"
  walk_at "cw"
  walk_at "a1"
  walk_at "s1"
  walk_at "nL"
  walk_at "s1"
  walk_at "nL"
  walk_at "s0"
  walk_at "ko"
  walk_at "d"
  refine Calm.use (L _) F (hR.le (by decide)) hh ?_
  rintro v g2 s2 hle ⟨ml, rfl, hml⟩ F
  walk_at "nL"
  walk_at "sa"
  walk_at "x1"
  walk_at "xaa"
  walk_at "et"
  walk_at "s0"
  walk_at "tup"
  walk_at "nL"
  walk_at "sa"
  walk_at "x1"
  walk_at "xaa"
  walk_at "kn"
  walk_at "nL"
  walk_at "sa"
  walk_at "x1"
  walk_at "xaa"
  walk_at "kn"
  walk_at "nL"
  walk_at "sa"
  walk_at "x0"
  walk_at "d"
  obtain ⟨g3, l3, h3, _, F⟩ := finInst F D (by decide) hfX
  exact ⟨rfl, g3, F.exit hfe hfg hfX (List.nil_sublist _) rfl, x, ml, _, rfl, h3.left (by walk_at "le"), IsList_le hml (by walk_at "le"), ht.keeps (by walk_at "le")⟩
/-! Collect -/
/-- what the collecting of a base's attributes gives -/
def ColQ (g : Heap) (as : List AtD) (v : Value) (g' : Heap) (B' : List (Addr × Obj)) : Prop := ∃ t bl D qs, v = .ref t ∧ IsTup g' t #[.ref bl, .ref D] ∧ g'.IsList bl (qs.map fun q : Addr × Addr => Value.ref q.1).toArray ∧ AtN g g' qs as ∧ ∃ S' o', B' = [(S', o')]
theorem collect0_spec {d : Wd} (G : Good d) {g : Heap} {x ml S : Addr} {oS : Obj} {nm ats eqa oda : Value} (K : InstF g x 135 (kindF nm (.ref ml) ats eqa oda)) (hml : g.IsList ml #[.ref x]) : CalmB d 20 (.ref 92) [.ref x, .ref S] [] g [(S, oS)] (ColQ g []) := by
  refine calmKB (n := 19) (binds := [("cls", .ref x), ("taken_attr_names", .ref S)]) (bs := [("taken_attr_names", .ref S), ("cls", .ref x)]) G.K G.base (by k_is) (by k_is) (binds_eq (by kernel_rfl)) rfl (by decide) rfl rfl rfl rfl ?_
  intro f s s₁ env A hfd hR hh hfe hfg hfX En hE F
  subst hfd
  have hB := G.base
  walk_at "x1"
  walk_at "xan"
  walk_at "el"
  walk_at "s0"
  walk_at "d"
  refine newListO F (fun bl s2 F => ?_) (by size_fits)
  walk_at "l"
  walk_at "x1"
  walk_at "xan"
  walk_at "d"
  refine newDictO hB F fun D od s3 hDm hD F hDn => ?_
  walk_at "l"
  walk_at "x1"
  refine forE (fun _ _ => False) (fun _ => rfl) (fun _ _ z => z.elim) ?_
  walk_at "slv"
  walk_at "ea"
  walk_at "nL"
  walk_at "ga"
  walk_at "ev"
  walk_at "ki"
  walk_at "ev"
  walk_at "d"
  refine ⟨_, _, _, _, ml, _, some 1, none, rfl, F, hml, (show 1 ≤ sizeLine by decide), .int _ _, .none, fun g1 t1 s1 hle1 ht1 F => ?_⟩
  have ht1 : g1.IsList t1 #[] := ht1
  refine rdyList (gB := g1) F (hnd0 hh) ht1 (Le.refl _) ht1 (hnd0 hh) fun it s' R => ?_
  refine ⟨_, _, _, _, _, [], [(D, od), (bl, listO [] 0), (S, oS)], fun i g' l o => Le g1 g' ∧ o = [] ∧ lk l "base_attr_map" = some (.ref D) ∧ lk l "base_attrs" = some (.ref bl), R _ plainTgt_name, ⟨Le.refl _, rfl, rfl, rfl⟩, ?_, ?_⟩
  · intro i g4 g5 l o T s' v4 E' hi
    exact absurd hi (Nat.not_lt_zero _)
  rintro g4 l4 o4 s4 hle4 ⟨hle5, rfl, m1, m2⟩ F
  walk_at "x1"
  walk_at "xret"
  walk_at "et"
  walk_at "s1"
  walk_at "nL"
  walk_at "s1"
  walk_at "nL"
  walk_at "s0"
  walk_at "tup"
  walk_at "d"
  have nX : ∀ a o', (a, o') ∈ [(D, od), (bl, listO [] 0)] → a ∉ f.X := fun a o' h hx => by
    rw [hfX] at hx
    have nd := F.nd
    simp at h hx nd
    subst hx
    rcases h with ⟨rfl, _⟩ | ⟨rfl, _⟩ <;> simp at nd
  obtain ⟨g6, l6, hDK, F⟩ := F.freezeD hD hDm (nX D od (.head _))
  obtain ⟨g7, l7, hbl, F⟩ := F.freezeL (nX bl _ (.tail _ (.head _)))
  exact backB F hfe hfg hfX (List.Sublist.refl _) rfl ⟨_, bl, D, [], rfl, ht.keeps (l6.trans l7), hbl, .nil, S, oS, rfl⟩
theorem collect1_spec {d : Wd} (G : Good d) {g : Heap} {x ba ml S bt : Addr} {oS : Obj} {Sf : Str → Bool} {n : Nat} {nm ats eqa oda nm2 ml2 eqa2 oda2 : Value} {vs : List Value} {as : List AtD} (K : InstF g x 135 (kindF nm (.ref ml) ats eqa oda)) (hml : g.IsList ml #[.ref x, .ref ba])
    (K2 : InstF g ba 135 (kindF nm2 ml2 (.ref bt) eqa2 oda2)) (hbt : IsTup g bt vs.toArray) (hvs : Paired (At g) vs as) (hnd : (as.map (·.n)).Nodup) (hz : as.length ≤ 10) (hS : SO d oS Sf n) (hn : n ≤ 10) : CalmB d 25 (.ref 92) [.ref x, .ref S] [] g [(S, oS)] (ColQ g ((as.filter fun a => !Sf a.n).map fun a => { a with inh := true })) := by
  refine calmKB (n := 24) (binds := [("cls", .ref x), ("taken_attr_names", .ref S)]) (bs := [("taken_attr_names", .ref S), ("cls", .ref x)]) G.K G.base (by k_is) (by k_is) (binds_eq (by kernel_rfl)) rfl (by decide) rfl rfl rfl rfl ?_
  intro f s s₁ env A hfd hR hh hfe hfg hfX En hE F
  subst hfd
  have hB := G.base
  walk_at "x1"
  walk_at "xan"
  walk_at "el"
  walk_at "s0"
  walk_at "d"
  refine newListO F (fun bl s2 F => ?_) (by size_fits)
  walk_at "l"
  walk_at "x1"
  walk_at "xan"
  walk_at "d"
  refine newDictO hB F fun D od s3 hDm hD F hDn => ?_
  walk_at "l"
  walk_at "x1"
  refine forE (fun _ _ => False) (fun _ => rfl) (fun _ _ z => z.elim) ?_
  walk_at "slv"
  walk_at "ea"
  walk_at "nL"
  walk_at "ga"
  walk_at "ev"
  walk_at "ki"
  walk_at "ev"
  walk_at "d"
  refine ⟨_, _, _, _, ml, _, some 1, none, rfl, F, hml, (show 2 ≤ sizeLine by decide), .int _ _, .none, fun g1 t1 s1 hle1 ht1 F => ?_⟩
  rw [show (some (1 : Int)) = some ((1 : Nat) : Int) from rfl, slicePick_from'] at ht1
  have ht1 : g1.IsList t1 #[.ref ba] := ht1
  refine rdyList (gB := g1) F (hnd0 hh) ht1 (Le.refl _) ht1 (hnd0 hh) fun it s' R => ?_
  let res : Nat → List AtD := fun i => ((as.take i).filter fun a => !Sf a.n).map fun a => { a with inh := true }
  let Sn : Nat → Str → Bool := fun i k => Sf k || ((res i).map (·.n)).contains k
  let I : Nat → Heap → List (Str × Value) → List (Addr × Obj) → Prop := fun i g' l o => Le g1 g' ∧ lk l "base_attr_map" = some (.ref D) ∧ lk l "base_attrs" = some (.ref bl) ∧ lk l "taken_attr_names" = some (.ref S) ∧
    ∃ oD kvs, ∃ qs : List (Addr × Addr), ∃ nn oS n', o = [(D, oD), (bl, listO (qs.map fun q => Value.ref q.1) nn), (S, oS)] ∧ DO f.toWd oD kvs ∧ kvs.length ≤ i ∧ SO f.toWd oS (Sn i) n' ∧ n' ≤ 10 + i ∧ qs.length ≤ i ∧ AtN g g' qs (res i)
  have I0 : ∀ l, lk l "base_attr_map" = some (.ref D) → lk l "base_attrs" = some (.ref bl) → lk l "taken_attr_names" = some (.ref S) → I 0 g1 l [(D, od), (bl, listO [] 0), (S, oS)] := fun l a b c =>
    ⟨Le.refl _, a, b, c, od, [], [], 0, oS, n, rfl, hD, Nat.le_refl _, by
      have : Sn 0 = Sf := by funext k; simp [Sn, res]
      rw [this]; exact hS, hn, Nat.le_refl _, .nil⟩
  refine ⟨_, _, _, _, _, [(D, od), (bl, listO [] 0), (S, oS)], [], fun i g' l o => (i = 0 ∧ I 0 g' l o) ∨ (i = 1 ∧ I as.length g' l o), R _ plainTgt_name, .inl ⟨rfl, I0 _ rfl rfl rfl⟩, ?_, ?_⟩
  · rintro i g4 g5 l o T s' v4 E' hi hle4 hle5 hI hP F hE'
    obtain rfl : i = 0 := by simpa using hi
    obtain rfl : v4 = .ref ba := by simpa using hP.symm
    have hI : I 0 g4 l o := by rcases hI with ⟨_, h⟩ | ⟨h, _⟩; exact h; cases h
    have hle15 : Le g g5 := hle1.trans (hle4.trans hle5)
    have K2 := K2.le hle15
    have hbt := hbt.keeps hle15
    walk_at "as1"
    walk_at "l"
    walk_at "x1"
    walk_at "d"
    refine forE (fun _ _ => False) (fun _ => rfl) (fun _ _ z => z.elim) ?_
    walk_at "ea"
    walk_at "nL"
    walk_at "ga"
    walk_at "d"
    refine rdyTup (gB := g5) F (hnd0 hh) hbt (Le.refl _) hbt (hnd0 hh) fun it s' R => ?_
    refine ⟨_, _, _, _, _, o, T, fun i g' l o => I i g' l o ∧ lk l "base_cls" = some (.ref ba), R _ plainTgt_name, ⟨?_, rfl⟩, ?_, ?_⟩
    · obtain ⟨h1, h2, h3, h4, oD, kvs, qs, nn, oS, n', h5, h6, h7, h8, h9, h10, h11⟩ := hI
      exact ⟨h1.trans hle5, h2, h3, h4, oD, kvs, qs, nn, oS, n', h5, h6, h7, h8, h9, h10, h11.le hle5⟩
    · rintro i g6 g7 l2 o2 T2 s2 v2 E2 hi2 hle6 hle7 ⟨⟨h1, m1, m2, m3, oD, kvs, ys, nn, oS2, n', rfl, hD, hkz, hS2, hn', hyz, hys⟩, m4⟩ hP2 F hE2
      obtain ⟨a, ha, hat⟩ := pat hvs (by simpa using hP2)
      have hat := hat.le (hle15.trans (hle6.trans hle7))
      obtain ⟨p, nt, Dv, alv, rfl, Ia, hDv, hal⟩ := hat.inst
      have hiz : i < 10 := Nat.lt_of_lt_of_le (List.getElem?_eq_some_iff.mp ha).1 hz
      have hres : res (i + 1) = res i ++ (if Sf a.n then [] else [{ a with inh := true }]) := by
        simp only [res]
        rw [take_snoc ha, List.filter_append, List.map_append]
        cases hq : Sf a.n <;> simp [List.filter_cons, hq]
      have hSn : Sn i a.n = Sf a.n := by
        simp only [Sn]
        have : ((res i).map (·.n)).contains a.n = false := by
          rw [List.contains_eq_mem, decide_eq_false_iff_not]
          intro hm
          refine notin_take hnd ha ?_
          simp only [res, List.map_map] at hm
          obtain ⟨b, hb, e⟩ := List.mem_map.mp hm
          exact List.mem_map.mpr ⟨b, (List.mem_filter.mp hb).1, e⟩
        rw [this, Bool.or_false]
      walk_at "as1"
      walk_at "l"
      walk_at "x1"
      walk_at "xif"
      walk_at "tc"
      walk_at "ea"
      walk_at "nL"
      walk_at "ga"
      walk_at "nL"
      walk_at "d"
      refine inS F (F.own _ (.tail _ (.tail _ (.head _)))).1 hS2 fun s' F => ?_
      rw [hSn]
      cases hq : Sf a.n with
      | true =>
        rw [hq] at hres
        walk_at "tb"
        walk_at "i1"
        walk_at "x1"
        walk_at "xcon"
        walk_at "d"
        have : Sn (i + 1) = Sn i := by simp only [Sn]; rw [hres]; simp
        refine ⟨_, ("a", .ref p) :: l2, _, hle6.trans hle7, ⟨⟨h1.trans hle7, m1, m2, m3, oD, kvs, ys, nn, oS2, n', rfl, hD, Nat.le_succ_of_le hkz, by rw [this]; exact hS2, by omega, by omega, ?_⟩, m4⟩, F⟩
        rw [hres]
        simpa using hys.le hle7
      | false =>
        rw [hq] at hres
        walk_at "tb"
        walk_at "i0"
        walk_at "x0"
        walk_at "x1"
        walk_at "xan"
        walk_at "em"
        walk_at "nL"
        walk_at "d"
        refine gm (f := 308) hB G.K F Ia rfl (by kernel_rfl) (by k_is) (by k_is) ?_
        walk_at "cw"
        walk_at "a2"
        walk_at "w1"
        walk_at "kb"
        walk_at "w0"
        walk_at "ko"
        walk_at "d"
        refine Calm.use (evolveI_spec G Ia rfl hDv.handed rfl rfl hal.handed rfl) F (hR.le (by decide)) hh ?_
        rintro v8 g8 s8 hle8 ⟨b, rfl, hb⟩ F
        have hbI := hb.inst
        obtain ⟨q, hq1, hqA, hq2, hq3, hq4⟩ := hb.atX (a := { a with inh := true }) hDv hal
        have F := F.perm (pm3 _ _ _ T2)
        walk_at "l"
        walk_at "x1"
        walk_at "xex"
        walk_at "em"
        walk_at "nL"
        walk_at "d"
        refine gmAdd hS2 (F.own _ (.head _)).1 ?_
        walk_at "cw"
        walk_at "a1"
        walk_at "s1"
        walk_at "ea"
        walk_at "nL"
        walk_at "ga"
        walk_at "s0"
        walk_at "ko"
        walk_at "d"
        refine addS F hS2 (show n' + 1 < 4096 by omega) fun oS3 s' hS3 F => ?_
        have F := F.perm (pm3 _ _ _ T2)
        walk_at "x1"
        walk_at "xex"
        walk_at "em"
        walk_at "nL"
        walk_at "d"
        refine gmApp (F.own _ (.head _)).1 ?_
        walk_at "cw"
        walk_at "a1"
        walk_at "s1"
        walk_at "nL"
        walk_at "s0"
        walk_at "ko"
        walk_at "d"
        refine appL F (Nat.le_trans (show _ ≤ i by rw [List.length_map]; exact hyz) (Nat.le_trans (Nat.le_of_lt hiz) (show 10 ≤ sizeLine by decide))) fun s' n2 F => ?_
        have F := F.perm (pm3 _ _ _ T2)
        walk_at "x1"
        walk_at "xas"
        walk_at "nL"
        walk_at "nL"
        walk_at "ea"
        walk_at "nL"
        walk_at "ga"
        walk_at "d"
        refine setD F hD (Nat.le_trans hkz (Nat.le_trans (Nat.le_of_lt hiz) (show 10 ≤ sizeLine by decide))) fun oD' s' hD' F => ?_
        have hSn1 : Sn (i + 1) = fun k' => Sn i k' || decide (k' = a.n) := by
          funext k
          simp only [Sn]
          rw [hres, if_neg Bool.false_ne_true, List.map_append, List.map_singleton, contains_snoc, Bool.or_assoc]
        walk_at "x0"
        walk_at "d"
        rw [show List.map (fun q : Addr × Addr => Value.ref q.1) ys ++ [Value.ref b] = List.map (fun q : Addr × Addr => Value.ref q.1) (ys ++ [q]) by simp [hq1]] at F
        refine ⟨_, ("a", .ref b) :: ("a", .ref p) :: l2, _, hle6.trans (hle7.trans hle8), ⟨⟨h1.trans (hle7.trans hle8), m1, m2, m3, oD', _, ys ++ [q], n2, oS3, _, rfl, hD', ?_, by rw [hSn1]; exact hS3, ?_, ?_, ?_⟩, m4⟩, F⟩
        · unfold stored; split <;> simp <;> omega
        · split <;> omega
        · simp; omega
        · rw [hres]
          exact (hys.le hle7).snoc (h1.trans hle7 |> hle1.trans) hle8 hqA hq2 hq3 hq4
    · rintro g6 l2 o2 s2 hle6 ⟨hI2, m4⟩ F
      walk_at "x0"
      walk_at "d"
      exact ⟨_, _, _, hle4.trans (hle5.trans hle6), .inr ⟨rfl, by rw [show as.length = vs.toArray.size by simp [hvs.length]]; exact hI2⟩, F⟩
  rintro g4 l4 o4 s4 hle4 hI F
  obtain ⟨h1, m1, m2, m3, oD, kvs, ys, nn, oS2, n', rfl, hD, hkz, hS2, hn', hyz, hys⟩ : I as.length g4 l4 o4 := by rcases hI with ⟨h, _⟩ | ⟨_, h⟩; cases h; exact h
  walk_at "x1"
  walk_at "xret"
  walk_at "et"
  walk_at "s1"
  walk_at "nL"
  walk_at "s1"
  walk_at "nL"
  walk_at "s0"
  walk_at "tup"
  walk_at "d"
  have F := (F.perm (by rw [List.append_nil]) : St f _ _ [(D, oD), (bl, listO (ys.map fun q => Value.ref q.1) nn), (S, oS2)] _)
  have nX : ∀ a o', (a, o') ∈ [(D, oD), (bl, listO (ys.map fun q => Value.ref q.1) nn)] → a ∉ f.X := fun a o' h hx => by
    rw [hfX] at hx
    have nd := F.nd
    simp at h hx nd
    subst hx
    rcases h with ⟨rfl, _⟩ | ⟨rfl, _⟩ <;> simp at nd
  obtain ⟨g6, l6, hDK, F⟩ := F.freezeD hD hDm (nX D oD (.head _))
  obtain ⟨g7, l7, hbl, F⟩ := F.freezeL (nX bl _ (.tail _ (.head _)))
  refine backB F hfe hfg hfX (List.Sublist.refl _) rfl ⟨_, bl, D, ys, rfl, ht.keeps (l6.trans l7), hbl, ?_, S, oS2, rfl⟩
  have := hys.le (hle.trans (l6.trans l7))
  simp only [res, List.take_length] at this
  exact this
/-! MadeI -/
theorem made_spec {d : Wd} (G : Good d) {g : Heap} {k : Value} : Calm d 3 (.ref 206) [k] [] g
    (fun v g' => ∃ x H, v = .ref x ∧ InstN g g' x 206 [("held", .ref H), ("kind", k)] ∧ DK d g' H [] ∧ g.get? H = none) := by
  refine calmCls (n := 1) (binds := fun x => [("self", .ref x), ("kind", k)]) (bs := fun x => [("kind", k), ("self", .ref x)])
    G.K G.base (by k_is) (by k_is) (by k_is) (by k_is) (by k_is) (fun x => binds_eq (by kernel_rfl)) (fun x => rfl) (by decide) (fun x => rfl) rfl rfl rfl ?_
  intro f s s₁ env A x dx hfd hR hh hfe hfg hfX En hE F hnx hnd
  subst hfd
  have hB := G.base
  have D0 := DictF.empty
  walk_at "x1"
  walk_at "xaa"
  walk_at "nL"
  walk_at "nL"
  walk_at "sa"
  walk_at "x1"
  walk_at "xaa"
  walk_at "d"
  refine newDictO hB F fun H hd s' hDm hD F hHn => ?_
  have hHg := (F.own (H, hd) List.mem_cons_self).2.1
  walk_at "nL"
  have F := F.perm (List.Perm.swap (dx, _) (H, hd) _)
  have F := F.perm (List.Perm.cons _ (List.Perm.swap (x, instObj 206 dx) (H, hd) _))
  walk_at "sa"
  walk_at "x0"
  walk_at "d"
  obtain ⟨g1, l1, h1, _, F⟩ := finInst F D (by decide) hfX
  obtain ⟨g2, l2, hDK, F⟩ := F.freezeD hD hDm (by rw [hfX]; exact fun h => nomatch h)
  exact ⟨rfl, g2, F.exit hfe hfg hfX (List.nil_sublist _) rfl, x, H, rfl, h1.le l2, hDK, hHg⟩
/-! Trans -/
def ownA (b : Bool) (r : Row3) : AtD := ⟨r.n, r.st, r.nm.getD b, false, none⟩
def aliased (a : AtD) : AtD := { a with al := some (a.al.getD (Txt.lstripChars a.n "_")) }
def okF : Bool → List Bool → Bool
  | _, [] => true
  | had, st :: r => !(had && !st) && okF (had || st) r
/-- a name whose text is short, and whose second name is no empty text -/
def okN (n : Str) : Prop := (Txt.lstripChars n "_").length ≠ 0 ∧ n.length ≤ 10 ∧ (Txt.lstripChars n "_").length ≤ 10 ∧ (reprText n).length ≤ 100
/-- an alias that is no empty text -/
def okAl (a : AtD) : Prop := ∃ s, a.al = some s ∧ s.length ≠ 0 ∧ s.length ≤ 10 ∧ okN a.n
/-- what is made, ahead of the hook -/
def madeF (mode : Str) (base : (Str → Bool) → List AtD) (rows : List Row3) : List AtD :=
  ((base (fun k => (rows.map (·.n)).contains k) ++ rows.map (ownA (mode != "no"))).map fun a => if mode == "force" then { a with kw := true } else a).map aliased
/-- lists and tuples stand -/
def LeS (g1 g2 : Heap) : Prop := ∀ b o, g1.get? b = some o → (∃ vs n, o.data = .seq vs n) → g2.get? b = some o
theorem Le.leS {g1 g2 : Heap} (h : Le g1 g2) : LeS g1 g2 := fun b o e _ => h b o e
theorem trans_spec {d : Wd} (G : Good d) {g : Heap} {x T : Addr} {mt : Tok} {mode : Str} {ft : Value} {kvs : List (Str × Value)} {rows : List Row3} {B : List (Addr × Obj)} {base : (Str → Bool) → List AtD} {hf : List AtD → List AtD} {BQ : Heap → List (Addr × Obj) → List AtD → Prop} (hBQm : ∀ g1 g2 B as, LeS g1 g2 → BQ g1 B as → BQ g2 B as)
    (hT : DK d g T kvs) (hca : Paired (CAOf g) kvs rows) (hnd : (rows.map (·.n)).Nodup) (hz : rows.length ≤ 10)
    (hcol : ∀ g' S oS Sf n, Le g g' → SO d oS Sf n → n ≤ 10 → CalmB d 25 (.ref 92) [.ref x, .ref S] [] g' [(S, oS)] (ColQ g' (base Sf)))
    (hbz : ∀ Sf, (base Sf).length ≤ 10) (hal : ∀ Sf, ∀ a ∈ base Sf, okAl a) (hown : ∀ r ∈ rows, okN r.n)
    (hfz : ∀ as, (hf as).length ≤ as.length) (hfal : ∀ as, (∀ a ∈ as, okAl a) → ∀ a ∈ hf as, okAl a)
    (hft : (ft = .none ∧ (∀ as, hf as = as) ∧ ∀ g' as, BQ g' B as) ∨ ∃ hk, ft = .ref hk ∧ (∃ oc od fd osl, g.get? hk = some ⟨oc, od, .func fd, osl⟩) ∧ ∀ g' al ys as, Le g g' → g'.IsList al ys.toArray → Paired (At g') ys as → as.length ≤ 20 → (∀ a ∈ as, okAl a) →
      CalmB d 40 (.ref hk) [.ref x, .ref al] [] g' B fun v g'' B' => ∃ rl zs, v = .ref rl ∧ g''.IsList rl zs.toArray ∧ Paired (At g'') zs (hf as) ∧ BQ g'' B' as) :
    CalmE d 60 (.ref 97) [.ref x, .ref T, .str mode mt, .bool false, ft] [] g B fun v g' B' =>
      okF false (((hf (madeF mode base rows)).filter fun a => !a.kw).map (·.st)) = v.isSome ∧ BQ g' B' (madeF mode base rows) ∧ ∀ w, v = some w →
        ∃ t at' bl D zs, w = .ref t ∧ IsTup g' t #[.ref at', .ref bl, .ref D] ∧ IsTup g' at' zs.toArray ∧ Paired (At g') zs (hf (madeF mode base rows)) := by
  refine calmCE (n := 59) (binds := [("cls", .ref x), ("these", .ref T), ("kw_only", .str mode mt), ("collect_by_mro", .bool false), ("field_transformer", ft)]) (lbs := [("field_transformer", ft), ("collect_by_mro", .bool false), ("these", .ref T), ("cls", .ref x)]) (cbs := [("kw_only", .str mode mt)])
    G.K G.base (by k_is) (by k_is) (binds_eq (by kernel_rfl)) (fun L => by kernel_rfl) (by kernel_rfl) (by kernel_rfl) (by decide) rfl rfl rfl ?_
  intro f s s₁ env A co outer hfd hR hh hfr HF hfe hfg hfX En hE hC F
  subst hfd
  have hB := G.base
  obtain ⟨o1, _, rfl, ho1, rfl⟩ := hC
  have F : St f g _ ((f.L + 1, o1) :: B) s₁ := F
  obtain ⟨g1, l1, hc1, F⟩ := F.freeze1 (head_notX F fun a ha => by rw [hfX] at ha; obtain ⟨p, hp, e⟩ := List.mem_map.mp ha; exact ⟨p.2, by rw [← e]; exact hp⟩)
  have hkw : g1.IsCell (f.L + 1) (some (.str mode mt)) := ⟨_, hc1, ho1⟩
  walk_at "x1"
  refine lcAL (cl := [("kw_only", f.L + 1)]) (by rw [hE]; rfl) En (by rw [clos_eq En]; kernel_rfl) (by decide) rfl (by decide) (fun _ => rfl) rfl rfl ?_
  walk_at "em"
  walk_at "nL"
  walk_at "d"
  refine gmItems (hT.1.keep (l1.trans F.sub)) ?_
  walk_at "cw"
  walk_at "a0"
  walk_at "ko"
  walk_at "d"
  refine callItems F (hT.le l1) fun vw g2 s2 l2 hvw F => ?_
  have hT2 := hT.le (l1.trans l2)
  refine rdyItems F hh hvw hT2 (Le.refl _) (Nat.le_trans (Nat.le_of_eq hca.length) (Nat.le_trans hz (by decide))) fun it s' R => ?_
  let ob : Nat → List AtD := fun i => (rows.take i).map (ownA (mode != "no"))
  refine ⟨_, _, _, _, _, _, fun i g' ys => ∃ qs : List (Addr × Addr), ys = qs.map (fun q => Value.ref q.1) ∧ AtN g2 g' qs (ob i), R _ _ _, Nat.le_trans (Nat.le_of_eq hca.length) (Nat.le_trans hz (by decide)), ⟨[], rfl, .nil⟩, ?_, ?_⟩
  · rintro f' cenv i g3 g4 l T2 s' v ys E' hw En' hi hle3 hle4 ⟨qs, rfl, hqs⟩ ⟨t, tok, kv, rfl, ht, hkv⟩ F
    have hB : Base f'.toWd := by rw [hw]; exact hB
    have G : Good f'.toWd := by rw [hw]; exact G
    walk_at "asT"
    walk_at "io"
    walk_at "as1"
    walk_at "l"
    walk_at "io"
    walk_at "as1"
    walk_at "l"
    walk_at "io"
    walk_at "ts0"
    walk_at "i1"
    walk_at "em"
    walk_at "nG"
    walk_at "d"
    refine gmCM (f := 298) (p := 300) (mc := .type "type") hB G.K F (by k_is) (by k_is) (by k_is) (by k_is) fun g5 q s5 l5 hq F => ?_
    walk_at "cw"
    walk_at "a1"
    walk_at "s1"
    walk_at "nL"
    walk_at "s1"
    walk_at "nL"
    walk_at "s1"
    walk_at "ec1"
    walk_at "nC"
    walk_at "ks"
    walk_at "d"
    refine PyProof.Rows.ne_str ?_
    walk_at "s0"
    walk_at "ko"
    obtain ⟨row, hrow, hk1, ca, Dv, hk2, hca2, hDv⟩ := pat hca hkv
    have hDv : DvOk row.st Dv := hDv
    rw [hk1, hk2]
    refine Calm.use (Calm.meth (fca_spec G (hca2.le (l1.trans (l2.trans (hle3.trans (hle4.trans l5))))) hDv.handed) hq) F (hR.le (by decide)) hh ?_
    rintro v6 g6 s6 l6 ⟨pa, rfl, hpa⟩ F
    obtain ⟨q6, hq1, hqA, hq2, hq3, hq4⟩ := hpa.atX (a := ownA (mode != "no") row) hDv rfl
    refine ⟨g6, _, hle3.trans (hle4.trans (l5.trans l6)), ⟨qs ++ [q6], by simp [hq1], ?_⟩, F⟩
    have : ob (i + 1) = ob i ++ [ownA (mode != "no") row] := by
      show (rows.take (i + 1)).map _ = (rows.take i).map _ ++ _
      rw [take_snoc hrow, List.map_append]; rfl
    rw [this]
    exact (hqs.le (hle4.trans l5)).snoc (hle3.trans (hle4.trans l5)) l6 hqA hq2 hq3 hq4
  rintro g3 g4 D1 ys s4 hle3 hle4 ⟨qs, rfl, hqs⟩ hD1 F
  have hkl : kvs.length = rows.length := hca.length
  have hqs : AtN g2 g4 qs (rows.map (ownA (mode != "no"))) := by
    have := hqs.le hle4
    simp only [ob, hkl, List.take_length] at this
    exact this
  walk_at "x1"
  walk_at "xif"
  walk_at "tp"
  walk_at "nL"
  walk_at "tb"
  walk_at "i0"
  walk_at "x1"
  walk_at "xat"
  walk_at "ec"
  walk_at "nG"
  walk_at "cw"
  walk_at "a1"
  walk_at "s1"
  walk_at "nL"
  walk_at "s1"
  walk_at "d"
  walk_at "scl"
  walk_at "nL"
  refine rdyList (gB := g4) F (hnd0 hh) hD1 (Le.refl _) hD1 (hnd0 hh) fun it s' R => ?_
  refine ⟨_, _, _, _, _, _, fun i _ a => a.1 = (fun k => ((rows.take i).map (·.n)).contains k) ∧ a.2 ≤ i, R _ plainTgt_name, ⟨by funext k; simp, Nat.le_refl _⟩, ?_, ?_⟩
  · rintro f' cenv i g5 g6 l D oD T2 s' v a E' hw En' hi hle5 hle6 ⟨ha1, ha2⟩ hP hS F
    have hB : Base f'.toWd := by rw [hw]; exact hB
    have G : Good f'.toWd := by rw [hw]; exact G
    obtain ⟨at1, hat1, hat⟩ := pat hqs.ats (by simpa using hP)
    rw [List.getElem?_map, Option.map_eq_some_iff] at hat1
    obtain ⟨row, hrow, rfl⟩ := hat1
    obtain ⟨p, nt, Dv, alv, rfl, Ia, hDv, hal⟩ := (hat.le (hle5.trans hle6)).inst
    walk_at "as1"
    walk_at "l"
    walk_at "ts0"
    walk_at "i1"
    walk_at "emS"
    walk_at "ea"
    walk_at "nL"
    walk_at "ga"
    walk_at "d"
    have hi10 : i < 10 := Nat.lt_of_lt_of_le (List.getElem?_eq_some_iff.mp hrow).1 hz
    rw [← show f'.toWd = f.toWd from hw] at hS
    refine addS F hS (show a.2 + 1 < 4096 by omega) fun oD' s' hS' F => ?_
    refine ⟨g6, _, oD', (_, _), hle5.trans hle6, ⟨?_, ?_⟩, by rw [← show f'.toWd = f.toWd from hw]; exact hS', F⟩
    · funext k
      show (a.1 k || decide (k = row.n)) = _
      rw [ha1, take_snoc hrow, List.map_append, List.map_singleton, contains_snoc]
    · show (if a.1 row.n = true then a.2 else a.2 + 1) ≤ i + 1
      split <;> omega
  rintro g5 S oS a s5 hle5 ⟨ha1, ha2⟩ hS F
  walk_at "s0"
  walk_at "ko"
  refine CalmB.use (B := [(S, oS)]) (hcol g5 S oS a.1 a.2 (by walk_at "le") hS (Nat.le_trans ha2 (by rw [show (List.map (fun q : Addr × Addr => Value.ref q.1) qs).toArray.size = rows.length by simp [hqs.at_.length]]; exact hz))) F (hR.le (by decide)) hh ?_
  rintro v6 g6 B6 s6 hle6 hk6 ⟨t6, bl, Dm, qb, rfl, ht6, hbl, hqb, S', oS', rfl⟩ F
  have ha1 : a.1 = fun k => (rows.map (·.n)).contains k := by
    rw [ha1, show (List.map (fun q : Addr × Addr => Value.ref q.1) qs).toArray.size = rows.length by simp [hqs.at_.length], List.take_length]
  rw [ha1] at hqb
  have F := F.drop' (r' := B) (List.sublist_append_right [(S', oS')] B) fun x hx o h => by
    rcases List.mem_append.mp h with h | h
    · rw [hfX] at hx
      have nd := F.nd
      rw [List.map_append, List.nodup_append] at nd
      exact absurd rfl (nd.2.2 x (List.mem_map_of_mem (f := (·.1)) h) x hx)
    · exact h
  walk_at "asT"
  walk_at "io"
  walk_at "as1"
  walk_at "l"
  walk_at "io"
  walk_at "as1"
  walk_at "l"
  walk_at "io"
  walk_at "x0"
  let frc : AtD → AtD := fun a => if mode == "force" then { a with kw := true } else a
  let as0 : List AtD := base (fun k => (rows.map (·.n)).contains k) ++ rows.map (ownA (mode != "no"))
  have hqa : AtN g6 g6 [] [] := .nil
  refine jn (fun s' => ∃ g7 l7 b7 d7 qb7 qo7, Le g6 g7 ∧ lk l7 "base_attrs" = some (.ref b7) ∧ lk l7 "own_attrs" = some (.ref d7) ∧ lk l7 "base_attr_map" = some (.ref Dm) ∧ lk l7 "field_transformer" = some ft ∧ lk l7 "cls" = some (.ref x) ∧
    g7.IsList b7 (qb7.map fun q : Addr × Addr => Value.ref q.1).toArray ∧ g7.IsList d7 (qo7.map fun q : Addr × Addr => Value.ref q.1).toArray ∧ AtN g2 g7 (qb7 ++ qo7) (as0.map frc) ∧ St f g7 (lk l7) B s') ?_ ?_
  · walk_at "xif"
    walk_at "tc"
    walk_at "nC"
    walk_at "ks"
    refine PyProof.Rows.eq_str ?_
    have hqA : AtN g2 g6 (qb ++ qs) as0 := (hqs.le (hle5.trans (by walk_at "le"))).append (hqb.weak (Le.refl _)) (by walk_at "le") hle6
    cases hm : (mode == "force") with
    | false =>
      walk_at "tb"
      walk_at "i0"
      walk_at "x0"
      have e0 : as0.map frc = as0 := by
        have : frc = id := by funext a; simp only [frc, hm]; rfl
        rw [this, List.map_id]
      exact ⟨rfl, g6, _, bl, D1, qb, qs, Le.refl _, rfl, rfl, rfl, rfl, rfl, hbl, IsList_le hD1 (by walk_at "le"), by rw [e0]; exact hqA, F⟩
    | true =>
      walk_at "tb"
      walk_at "i1"
      walk_at "x1"
      have hD1 := IsList_le hD1 (show Le g4 g6 by walk_at "le")
      have hqs6 := hqs.le (show Le g4 g6 by walk_at "le")
      walk_at "lal"
      walk_at "nL"
      walk_at "d"
      refine rdyList (gB := g6) F (hnd0 hh) hD1 (Le.refl _) hD1 (hnd0 hh) fun it s' R => ?_
      refine ⟨_, _, _, _, _, _, fun i g' ys => ∃ q' : List (Addr × Addr), ys = q'.map (fun q => Value.ref q.1) ∧ AtN g6 g' q' (((rows.map (ownA (mode != "no"))).take i).map frc), R _ plainTgt_name, ?_, ⟨[], rfl, .nil⟩, ?_, ?_⟩
      · rw [List.size_toArray, List.length_map, hqs6.at_.length]; exact Nat.le_trans (by rw [List.length_map]; exact hz) (by decide)
      · rintro f' cenv i g8 g9 l8 T8 s8 v8 ys8 E8 hw En' hi hle8 hle9 ⟨q', rfl, hq'⟩ hP F
        have hB : Base f'.toWd := by rw [hw]; exact hB
        have G : Good f'.toWd := by rw [hw]; exact G
        obtain ⟨a, ha, hat⟩ := pat hqs6.ats (by simpa using hP)
        obtain ⟨p, nt, Dv, alv, rfl, Ia, hDv, hal⟩ := (hat.le (hle8.trans hle9)).inst
        walk_at "as1"
        walk_at "l"
        walk_at "ts0"
        walk_at "i1"
        walk_at "em"
        walk_at "nL"
        walk_at "d"
        walk_at "gm8"
        walk_at "cw"
        walk_at "a2"
        walk_at "w1"
        walk_at "kb"
        walk_at "w0"
        walk_at "ko"
        walk_at "d"
        refine Calm.use (evolveK_spec G Ia rfl hDv.handed rfl rfl hal.handed rfl) F (hR.le (by decide)) hh ?_
        rintro v10 g10 s10 hle10 ⟨b, rfl, hb⟩ F
        obtain ⟨qn, hq1, hqA, hq2, hq3, hq4⟩ := hb.atX (a := { a with kw := true }) hDv hal
        refine ⟨g10, _, hle8.trans (hle9.trans hle10), ⟨q' ++ [qn], by simp [hq1], ?_⟩, F⟩
        rw [take_snoc ha, List.map_append, List.map_singleton, show frc a = { a with kw := true } by simp only [frc, hm, if_true]]
        exact (hq'.le hle9).snoc (hle8.trans hle9) hle10 hqA hq2 hq3 hq4
      rintro g8 g9 d7 ys8 s8 hle8 hle9 ⟨qo, rfl, hqo⟩ hd7 F
      have hqo : AtN g6 g9 qo ((rows.map (ownA (mode != "no"))).map frc) := by
        have := hqo.le hle9
        rw [List.size_toArray, List.length_map, hqs6.at_.length, List.take_length] at this
        exact this
      have hbl := IsList_le hbl (hle8.trans hle9)
      have hqb9 := hqb.le (hle8.trans hle9)
      walk_at "x1"
      walk_at "lal"
      walk_at "nL"
      walk_at "d"
      refine rdyList (gB := g9) F (hnd0 hh) hbl (Le.refl _) hbl (hnd0 hh) fun it s' R => ?_
      refine ⟨_, _, _, _, _, _, fun i g' ys => ∃ q' : List (Addr × Addr), ys = q'.map (fun q => Value.ref q.1) ∧ AtN g9 g' q' (((base fun k => (rows.map (·.n)).contains k).take i).map frc), R _ plainTgt_name, ?_, ⟨[], rfl, .nil⟩, ?_, ?_⟩
      · rw [List.size_toArray, List.length_map, hqb9.at_.length]; exact Nat.le_trans (hbz _) (by decide)
      · rintro f' cenv i g8 g9 l8 T8 s8 v8 ys8 E8 hw En' hi hle8 hle9 ⟨q', rfl, hq'⟩ hP F
        have hB : Base f'.toWd := by rw [hw]; exact hB
        have G : Good f'.toWd := by rw [hw]; exact G
        obtain ⟨a, ha, hat⟩ := pat hqb9.ats (by simpa using hP)
        obtain ⟨p, nt, Dv, alv, rfl, Ia, hDv, hal⟩ := (hat.le (hle8.trans hle9)).inst
        walk_at "as1"
        walk_at "l"
        walk_at "ts0"
        walk_at "i1"
        walk_at "em"
        walk_at "nL"
        walk_at "d"
        walk_at "gm8"
        walk_at "cw"
        walk_at "a2"
        walk_at "w1"
        walk_at "kb"
        walk_at "w0"
        walk_at "ko"
        walk_at "d"
        refine Calm.use (evolveK_spec G Ia rfl hDv.handed rfl rfl hal.handed rfl) F (hR.le (by decide)) hh ?_
        rintro v10 g10 s10 hle10 ⟨b, rfl, hb⟩ F
        obtain ⟨qn, hq1, hqA, hq2, hq3, hq4⟩ := hb.atX (a := { a with kw := true }) hDv hal
        refine ⟨g10, _, hle8.trans (hle9.trans hle10), ⟨q' ++ [qn], by simp [hq1], ?_⟩, F⟩
        rw [take_snoc ha, List.map_append, List.map_singleton, show frc a = { a with kw := true } by simp only [frc, hm, if_true]]
        exact (hq'.le hle9).snoc (hle8.trans hle9) hle10 hqA hq2 hq3 hq4
      rintro g10 g11 b7 ys10 s10 hle10 hle11 ⟨qb7, rfl, hqb7⟩ hb7 F
      have hqb7 : AtN g9 g11 qb7 ((base fun k => (rows.map (·.n)).contains k).map frc) := by
        have := hqb7.le hle11
        rw [List.size_toArray, List.length_map, hqb9.at_.length, List.take_length] at this
        exact this
      walk_at "x0"
      refine ⟨rfl, g11, _, b7, d7, qb7, qo, hle8.trans (hle9.trans (hle10.trans hle11)), rfl, rfl, rfl, rfl, rfl, hb7, IsList_le hd7 (hle10.trans hle11), ?_, F⟩
      rw [List.map_append]
      exact (hqo.append hqb7 (hle8.trans hle9) (hle10.trans hle11)).weak (by walk_at "le")
  rintro s7 ⟨g7, l7, b7, d7, qb7, qo7, hle7, m1, m2, m3, m4, m5, hb7, hd7, hqa7, F⟩
  walk_at "x1"
  walk_at "xan"
  walk_at "eb"
  walk_at "nL"
  walk_at "nL"
  walk_at "d"
  have hlen : qb7.length + qo7.length ≤ 20 := by
    have h1 := hqa7.at_.length
    rw [List.length_append, List.length_map, List.length_append, List.length_map] at h1
    have h2 := hbz fun k => (rows.map (·.n)).contains k
    omega
  refine addL (vs := qb7.map fun q => Value.ref q.1) (ws := qo7.map fun q => Value.ref q.1) F hb7 hd7 (by rw [List.length_map, List.length_map]; exact Nat.le_trans hlen (by decide)) fun g8 al8 s8 hle8 hal8 _ F => ?_
  rw [← List.map_append] at hal8
  have hqa8 := hqa7.le hle8
  generalize hqd : qb7 ++ qo7 = qa at hal8 hqa8
  have hqal : qa.length ≤ 20 := by rw [← hqd, List.length_append]; exact hlen
  obtain ⟨gH, hH1, hH2, hH3, hH4⟩ := hqa8.hide (by walk_at "le")
  have halH : gH.IsList al8 (qa.map fun q => Value.ref q.1).toArray := by
    obtain ⟨o, e1, e2⟩ := id hal8
    exact ⟨o, hH3 _ _ (hqa8.notList hal8) e1, e2⟩
  have hHg : Le g gH := (l1.trans l2).trans hH1
  have hX : ∀ x ∈ f.X, ∃ o, (x, o) ∈ B := fun a ha => by
    rw [hfX] at ha
    obtain ⟨p, hp, rfl⟩ := List.mem_map.mp ha
    exact ⟨p.2, hp⟩
  walk_at "l"
  walk_at "x1"
  refine forE (fun _ _ => False) (fun _ => rfl) (fun _ _ z => z.elim) ?_
  walk_at "nL"
  walk_at "d"
  refine rdyList (gB := gH) F (hnd0 hh) hal8 hH2 halH (hnd0 hh) fun it s' R => ?_
  let as1 : List AtD := as0.map frc
  refine ⟨_, _, _, _, _, [], B, fun i g' l o => o = [] ∧ lk l "base_attrs" = some (.ref b7) ∧ lk l "base_attr_map" = some (.ref Dm) ∧ lk l "field_transformer" = some ft ∧ lk l "cls" = some (.ref x) ∧ lk l "attrs" = some (.ref al8) ∧ Le gH g' ∧ Paired (AtX g') qa ((as1.take i).map aliased ++ as1.drop i),
    R _ plainTgt_name, ⟨rfl, m1, m3, m4, m5, rfl, hH2, by simpa using hqa8.at_⟩, ?_, ?_⟩
  · rintro i g9 g10 l o T2 s' v E' hi hle9 hle10 ⟨rfl, n1, n2, n3, n4, n5, hH9, hpa⟩ hP F hE'
    have hP : (qa.map fun q => Value.ref q.1)[i]? = some v := by simpa using hP
    rw [List.getElem?_map, Option.map_eq_some_iff] at hP
    obtain ⟨q, hq, rfl⟩ := hP
    obtain ⟨a, ha, hat⟩ := pat hpa hq
    have ha1 : as1[i]? = some a := by rw [← mixAt aliased (as := as1) (i := i)]; exact ha
    have hat := hat.le hle10
    obtain ⟨od, nt, Dv, alv, e1, e2, D, hDv, halv⟩ := id hat
    have Ia : InstF g10 q.1 311 (atF (.str a.n nt) Dv (.bool a.kw) (.bool a.inh) alv (.bool true)) := ⟨q.2, od, e1, e2, D⟩
    have haH : handedIn alv = true := halv.handed
    walk_at "as1"
    walk_at "l"
    walk_at "x1"
    walk_at "xif"
    walk_at "tn"
    walk_at "tp"
    walk_at "ea"
    walk_at "nL"
    walk_at "ga"
    walk_at "d"
    have hmix : (as1.take (i + 1)).map aliased ++ as1.drop (i + 1) = ((as1.take i).map aliased ++ as1.drop i).set i (aliased a) := (mixSet aliased ha1).symm
    have ham : a ∈ as1 := List.mem_of_getElem? ha1
    have hsrc : okAl a ∨ (a.al = none ∧ a.n.length ≤ 10) := by
      obtain ⟨a0, h0, rfl⟩ := List.mem_map.mp ham
      have hf1 : (frc a0).al = a0.al := by simp only [frc]; split <;> rfl
      have hf2 : (frc a0).n = a0.n := by simp only [frc]; split <;> rfl
      rcases List.mem_append.mp h0 with h | h
      · exact .inl (by unfold okAl; rw [hf1, hf2]; exact hal _ a0 h)
      · obtain ⟨r, hr, rfl⟩ := List.mem_map.mp h
        exact .inr ⟨by rw [hf1]; rfl, by rw [hf2]; exact (hown r hr).2.1⟩
    cases hq2 : a.al with
    | none =>
      obtain rfl : alv = .none := by rw [hq2] at halv; exact halv
      have hnz : a.n.length ≤ 10 := by
        rcases hsrc with ⟨s, h, _⟩ | ⟨_, h⟩
        · rw [hq2] at h; cases h
        · exact h
      walk_at "t0"
      walk_at "i1"
      walk_at "x1"
      walk_at "xaa"
      walk_at "ec"
      walk_at "nG"
      walk_at "cw"
      walk_at "a1"
      walk_at "s1"
      walk_at "ea"
      walk_at "nL"
      walk_at "ga"
      walk_at "s0"
      walk_at "ko"
      walk_at "d"
      refine Calm.use (alias_spec G (Nat.le_trans hnz (by decide))) F (hR.le (by decide)) hh ?_
      rintro v11 g11 s11 l11 ⟨t11, rfl⟩ F
      walk_at "nL"
      have hXT := F.Xr
      have hn1 := (hqa8.new q.1 (flat2_mem hq).1).1
      have hn2 := (hqa8.new q.2 (flat2_mem hq).2).1
      have h0 : Le f.g0 g2 := by rw [hfg]; exact l1.trans l2
      obtain ⟨g12, k12, l12, _, _, F⟩ := F.thawAt (l11 _ _ e1) (l11 _ _ e2) D (none_le h0 hn1) (none_le h0 hn2)
      walk_at "saO"
      walk_at "x1"
      walk_at "xaa"
      walk_at "kb"
      walk_at "nL"
      walk_at "saO"
      walk_at "x0"
      walk_at "x0"
      walk_at "d"
      obtain ⟨g13, l13, k13, k13', F⟩ := F.freezeAt hXT
      have hup : AtX g13 q (aliased a) := ⟨_, nt, Dv, .str (Txt.lstripChars a.n "_") t11, k13, k13', D.congr (lk_same (by kernel_rfl) (by kernel_rfl)), hDv, by simp only [aliased, hq2]; exact ⟨t11, rfl⟩⟩
      have hH13 : Le gH g13 := fun b o e => l13 b o (k12 b o (fun z => by rw [z, hH4 _ (flat2_mem hq).1] at e; cases e) (fun z => by rw [z, hH4 _ (flat2_mem hq).2] at e; cases e) (l11 b o ((hle9.trans hle10) b o e)))
      refine ⟨g13, ("a", .ref q.1) :: l, [], hH13, ⟨rfl, n1, n2, n3, n4, n5, hH13, ?_⟩, F⟩
      rw [hmix]
      refine pset (pmono (fun _ _ y => AtX.le y (hle10.trans l11)) hpa) hq hup fun j q' y hj hq' hy => ?_
      obtain ⟨ne1, ne2⟩ := flat2_ne hqa8.nd hq hq' hj
      obtain ⟨od2, nt2, Dv2, alv2, z1, z2, z3⟩ := hy
      exact ⟨od2, nt2, Dv2, alv2, l13 _ _ (k12 _ _ ne1.1 ne1.2 z1), l13 _ _ (k12 _ _ ne2.1 ne2.2 z2), z3⟩
    | some sa =>
      obtain ⟨ta, rfl⟩ : ∃ t, alv = .str sa t := by rw [hq2] at halv; exact halv
      have hsz : sa.length ≠ 0 ∧ sa.length ≤ 10 := by
        rcases hsrc with ⟨s, h, h1, h2, _⟩ | ⟨h, _⟩
        · rw [hq2] at h; cases h; exact ⟨h1, h2⟩
        · rw [hq2] at h; cases h
      refine trS F (Nat.le_trans hsz.2 (by decide)) hsz.1 fun s' F => ?_
      walk_at "i0"
      walk_at "x0"
      walk_at "x0"
      walk_at "d"
      refine ⟨g10, ("a", .ref q.1) :: l, [], hle9.trans hle10, ⟨rfl, n1, n2, n3, n4, n5, hH9.trans hle10, ?_⟩, F⟩
      rw [hmix]
      have ea : aliased a = a := by unfold aliased; rw [hq2]; cases a; cases hq2; rfl
      rw [ea, setSelf ha]
      exact pmono (fun _ _ y => AtX.le y hle10) hpa
  rintro g9 l9 o9 s9 hle9 ⟨rfl, n1, n2, n3, n4, n5, hH9, hpa⟩ F
  have hpa : Paired (AtX g9) qa (madeF mode base rows) := by
    have hl := hqa8.at_.length
    rw [List.size_toArray, List.length_map, hl, List.take_length, List.drop_length, List.append_nil] at hpa
    exact hpa
  have hpA : Paired (At g9) (qa.map fun q => Value.ref q.1) (madeF mode base rows) := Paired.mapL (pmono (fun q _ h => ⟨q, rfl, h⟩) hpa)
  have hml : (madeF mode base rows).length ≤ 20 := by rw [← hpa.length]; exact hqal
  have hmal : ∀ a ∈ madeF mode base rows, okAl a := fun a ha => by
    obtain ⟨a1, h1, rfl⟩ := List.mem_map.mp ha
    obtain ⟨a0, h0, rfl⟩ := List.mem_map.mp h1
    have hf1 : (frc a0).al = a0.al := by simp only [frc]; split <;> rfl
    have hf2 : (frc a0).n = a0.n := by simp only [frc]; split <;> rfl
    show okAl (aliased (frc a0))
    unfold aliased okAl
    rw [hf1, hf2]
    rcases List.mem_append.mp h0 with h | h
    · obtain ⟨s, e, z⟩ := hal _ a0 h
      exact ⟨s, by rw [e]; rfl, z⟩
    · obtain ⟨r, hr, rfl⟩ := List.mem_map.mp h
      exact ⟨_, rfl, (hown r hr).1, (hown r hr).2.2.1, hown r hr⟩
  generalize madeF mode base rows = as2 at hpA hml hmal
  refine jn (fun s' => ∃ g10 l10 B10 zs av, lk l10 "base_attrs" = some (.ref b7) ∧ lk l10 "base_attr_map" = some (.ref Dm) ∧ lk l10 "attrs" = some (.ref av) ∧ (g10.IsList av zs.toArray ∨ IsTup g10 av zs.toArray) ∧ Paired (At g10) zs (hf as2) ∧ BQ g10 B10 as2 ∧ B10.map (·.1) = B.map (·.1) ∧ Le g g10 ∧ St f g10 (lk l10) B10 s') ?_ ?_
  · rcases hft with ⟨hft0, hf0, hBQ⟩ | ⟨hk, hft0, ⟨oc, odf, fd, osl, hhk⟩, hook⟩ <;> rw [hft0] at n3
    · walk_at "xif"
      walk_at "tc"
      walk_at "nL"
      walk_at "kn"
      walk_at "is4"
      walk_at "tb"
      walk_at "i0"
      walk_at "x0"
      refine ⟨rfl, g9, l9, B, _, al8, n1, n2, n5, .inl (IsList_le halH hH9), by rw [hf0]; exact hpA, hBQ _ _, rfl, hHg.trans hH9, F⟩
    · have hhk9 := (hHg.trans hH9) _ _ hhk
      walk_at "xif"
      walk_at "tc"
      walk_at "nL"
      walk_at "kn"
      walk_at "is3"
      walk_at "tb"
      walk_at "i1"
      walk_at "x1"
      walk_at "xan"
      walk_at "ec"
      walk_at "nB"
      walk_at "cw"
      walk_at "a1"
      walk_at "s1"
      walk_at "ec"
      walk_at "nL"
      walk_at "cw"
      walk_at "a1"
      walk_at "s1"
      walk_at "nL"
      walk_at "s1"
      walk_at "nL"
      walk_at "s0"
      walk_at "ko"
      walk_at "d"
      refine CalmB.use (T := []) (hook g9 al8 _ as2 (hHg.trans hH9) (IsList_le halH hH9) hpA hml hmal) (F.perm (by simp)) (hR.le (by decide)) hh ?_
      rintro v10 g10 B10 s10 l10 hk10 ⟨rl, zs, rfl, hrl, hzs, hbq⟩ F
      rw [List.append_nil] at F
      walk_at "s0"
      walk_at "ko"
      have hzl : zs.length ≤ 20 := by rw [hzs.length]; exact Nat.le_trans (hfz as2) hml
      refine tupL F hrl (Nat.le_trans hzl (by decide)) fun g11 t11 s11 l11 ht11 _ F => ?_
      walk_at "l"
      walk_at "x0"
      exact ⟨rfl, g11, ("attrs", .ref t11) :: l9, B10, zs, t11, n1, n2, rfl, .inr ht11, pAt_le hzs l11, hBQm _ _ _ _ l11.leS hbq, hk10, (hHg.trans hH9).trans (l10.trans l11), F⟩
  rintro s10 ⟨g10, l10, B10, zs, av, m1, m2, m3, hav, hzs, hbq, hk10, hg10, F⟩
  walk_at "x1"
  walk_at "xan"
  walk_at "kb"
  walk_at "l"
  walk_at "x1"
  have hzl : zs.length ≤ 20 := by rw [hzs.length]; exact Nat.le_trans (hfz as2) hml
  have hk : env.scope.kind ≠ .module := by rw [hE]; exact (show ScopeKind.function ≠ ScopeKind.module by decide)
  have hfe' : env.frame = some f.L := by rw [hE]
  let sts : List Bool := ((hf as2).filter fun a => !a.kw).map (·.st)
  let Qn : Heap → List (Addr × Obj) → Prop := fun g' B' => okF false sts = (none : Option Value).isSome ∧ BQ g' B' as2 ∧ ∀ w, (none : Option Value) = some w →
        ∃ t at' bl D zs, w = .ref t ∧ IsTup g' t #[.ref at', .ref bl, .ref D] ∧ IsTup g' at' zs.toArray ∧ Paired (At g') zs (hf as2)
  refine forE (Raised f B Qn) (fun _ => rfl) (fun e s' z => ?_) ?_
  · have := Raised.out (M := model f.prog f.w) z hfe hfX hfr hfe' hk HF
    rw [hfg] at this
    exact this
  walk_at "lcl"
  walk_at "nL"
  walk_at "d"
  refine rdySeq (gB := g10) F (hnd0 hh) hav (Le.refl _) hav (hnd0 hh) fun it s' R => ?_
  refine ⟨_, _, _, _, _, _, fun i g' ys => Paired (At g') ys (((hf as2).take i).filter fun a => !a.kw), R _ plainTgt_name, ?_, .nil, ?_, ?_⟩
  · rw [List.size_toArray]; exact Nat.le_trans hzl (by decide)
  · rintro f' cenv i g11 g12 l T2 s' v ys E' hw En' hi hle11 hle12 hI hP F
    have hB : Base f'.toWd := by rw [hw]; exact hB
    have G : Good f'.toWd := by rw [hw]; exact G
    obtain ⟨a, ha, hat⟩ := pat hzs (by simpa using hP)
    obtain ⟨p, nt, Dv, alv, rfl, Ia, hDv, halv⟩ := (hat.le (hle11.trans hle12)).inst
    walk_at "as1"
    walk_at "l"
    walk_at "ts1"
    walk_at "ta"
    walk_at "tc"
    walk_at "ea"
    walk_at "nL"
    walk_at "ga"
    walk_at "kb"
    walk_at "is3"
    walk_at "tb"
    walk_at "i1"
    walk_at "ta"
    walk_at "tc"
    walk_at "ea"
    walk_at "nL"
    walk_at "ga"
    walk_at "kb"
    walk_at "d"
    have hst : (((hf as2).take (i + 1)).filter fun a => !a.kw) = (((hf as2).take i).filter fun a => !a.kw) ++ (if a.kw then [] else [a]) := by
      rw [take_snoc ha, List.filter_append]
      cases hq : a.kw <;> simp [List.filter_cons, hq]
    cases hq : a.kw with
    | true =>
      rw [hq] at hst
      walk_at "is2"
      walk_at "tb"
      walk_at "i0"
      walk_at "i0"
      refine ⟨g12, _, hle11.trans hle12, ?_, F⟩
      rw [hst]
      simpa using pAt_le hI hle12
    | false =>
      rw [hq] at hst
      walk_at "is1"
      walk_at "tb"
      walk_at "i1"
      walk_at "ta0"
      walk_at "i1"
      walk_at "nL"
      refine ⟨g12, _, hle11.trans hle12, ?_, F⟩
      rw [hst]
      exact psnoc (pAt_le hI hle12) (hat.le (hle11.trans hle12))
  rintro g11 g12 D2 ys s11 hle11 hle12 hI hD2 F
  have hys : Paired (At g12) ys ((hf as2).filter fun a => !a.kw) := by
    rw [List.size_toArray, hzs.length, List.take_length] at hI
    exact pAt_le hI hle12
  have F := F.perm (show B10.Perm (B10 ++ []) by simp)
  refine rdyList (gB := g12) F (hnd0 hh) hD2 (Le.refl _) hD2 (hnd0 hh) fun it s' R => ?_
  have hg12 : Le g10 g12 := hle11.trans hle12
  refine ⟨_, _, _, _, _, B10, [], fun i g' l o => B10 = o ∧ lk l "base_attrs" = some (.ref b7) ∧ lk l "base_attr_map" = some (.ref Dm) ∧ lk l "attrs" = some (.ref av) ∧ Le g12 g' ∧ ∃ h, lk l "had_default" = some (.bool h) ∧ okF false sts = okF h (sts.drop i),
    R _ plainTgt_name, ⟨rfl, m1, m2, m3, Le.refl _, false, rfl, rfl⟩, ?_, ?_⟩
  · rintro i g13 g14 l o T2 s' v E' hi hle13 hle14 ⟨rfl, n1, n2, n3, hH, had, n4, hok⟩ hP F hE'
    obtain ⟨a, ha, hat⟩ := pat hys (by simpa using hP)
    obtain ⟨p, nt, Dv, alv, rfl, Ia, hDv, halv⟩ := (hat.le (hle13.trans hle14)).inst
    have hsti : sts[i]? = some a.st := by
      show (((hf as2).filter fun a => !a.kw).map (·.st))[i]? = _
      rw [List.getElem?_map, ha]; rfl
    have hdrop : sts.drop i = a.st :: sts.drop (i + 1) := by
      rw [List.drop_eq_getElem_cons (List.getElem?_eq_some_iff.mp hsti).1, (List.getElem?_eq_some_iff.mp hsti).2]
    rw [hdrop, okF] at hok
    have hDv2 := hDv
    cases had <;> cases hs : a.st <;> rw [hs] at hDv2 hok
    · obtain rfl : Dv = .ref 70 := hDv2
      walk_at "as1"
      walk_at "l"
      walk_at "x1"
      walk_at "xif"
      walk_at "ta"
      walk_at "tc"
      walk_at "nL"
      walk_at "kb"
      walk_at "is2"
      walk_at "tb"
      walk_at "i0"
      walk_at "i0"
      walk_at "x0"
      walk_at "x1"
      walk_at "xif"
      walk_at "ta"
      walk_at "tc"
      walk_at "nL"
      walk_at "kb"
      walk_at "is1"
      walk_at "tb"
      walk_at "i1"
      walk_at "ta"
      walk_at "tc"
      walk_at "ea"
      walk_at "nL"
      walk_at "ga"
      walk_at "nG"
      walk_at "d"
      refine isnot_ref_same ?_
      walk_at "tb"
      walk_at "i0"
      walk_at "i0"
      walk_at "x0"
      walk_at "x0"
      walk_at "d"
      refine ⟨g14, ("a", .ref p) ::l, B10, hle13.trans hle14, ⟨rfl, n1, n2, n3, hH.trans hle14, false, n4, by rw [hok]; rfl⟩, F⟩
    · obtain ⟨td, rfl⟩ : ∃ t, Dv = .int 70 t := hDv2
      walk_at "as1"
      walk_at "l"
      walk_at "x1"
      walk_at "xif"
      walk_at "ta"
      walk_at "tc"
      walk_at "nL"
      walk_at "kb"
      walk_at "is2"
      walk_at "tb"
      walk_at "i0"
      walk_at "i0"
      walk_at "x0"
      walk_at "x1"
      walk_at "xif"
      walk_at "ta"
      walk_at "tc"
      walk_at "nL"
      walk_at "kb"
      walk_at "is1"
      walk_at "tb"
      walk_at "i1"
      walk_at "ta"
      walk_at "tc"
      walk_at "ea"
      walk_at "nL"
      walk_at "ga"
      walk_at "nG"
      walk_at "is3"
      walk_at "tb"
      walk_at "i1"
      walk_at "ta0"
      walk_at "i1"
      walk_at "x1"
      walk_at "xan"
      walk_at "kb"
      walk_at "l"
      walk_at "x0"
      walk_at "x0"
      walk_at "d"
      refine ⟨g14, ("had_default", .bool true) :: ("a", .ref p) ::l, B10, hle13.trans hle14, ⟨rfl, n1, n2, n3, hH.trans hle14, true, rfl, by rw [hok]; rfl⟩, F⟩
    · obtain rfl : Dv = .ref 70 := hDv2
      walk_at "as1"
      walk_at "l"
      walk_at "x1"
      walk_at "xif"
      walk_at "ta"
      walk_at "tc"
      walk_at "nL"
      walk_at "kb"
      walk_at "is1"
      walk_at "tb"
      walk_at "i1"
      walk_at "ta"
      walk_at "tc"
      walk_at "ea"
      walk_at "nL"
      walk_at "ga"
      walk_at "nG"
      walk_at "d"
      refine isrs ?_
      walk_at "tb"
      walk_at "i1"
      walk_at "ta0"
      walk_at "i1"
      walk_at "x1"
      walk_at "xan"
      walk_at "d"
      have haN : okN a.n := by
        obtain ⟨_, _, _, _, h⟩ := hfal as2 hmal a (List.mem_filter.mp (List.mem_of_getElem? ha)).1
        exact h
      refine JoinedStr_many (joinParts_cons ?_)
      walk_at "ks"
      walk_at "d"
      refine ⟨Nat.le_of_ble_eq_true rfl, joinParts_cons (wpAny_FormattedValue_repr ?_)⟩
      walk_at "ea"
      walk_at "nL"
      walk_at "ga"
      refine wpAny_pyReprObj_str ?_ (Nat.le_trans haN.2.2.2 (by decide))
      refine formatField_str (fun t' tk => ?_) (Nat.le_trans haN.2.2.2 (by decide))
      have F := F.toks (t := tk)
      walk_at "d"
      have hln : (Str.empty ++ Str.ofString "No mandatory attributes allowed after an attribute with a default value or factory.  Attribute in question: " ++ reprText a.n).length ≤ sizeLine := by
        rw [strLen_append]
        have h1 := haN.2.2.2
        have h2 : (Str.empty ++ Str.ofString "No mandatory attributes allowed after an attribute with a default value or factory.  Attribute in question: ").length ≤ 200 := Nat.le_of_ble_eq_true rfl
        have h3 : 300 ≤ sizeLine := by decide
        omega
      refine ⟨hln, joinParts_nil ?_ hln⟩
      have F := F.toks (t := tk + 1)
      walk_at "l"
      walk_at "x1"
      refine Raise_madeB PySem.F.excCall_ValueError PySem.F.excRaise_ValueError hh ?_
      walk_at "nB"
      refine ⟨rfl, ?_⟩
      walk_at "s1"
      walk_at "nL"
      walk_at "s0"
      walk_at "d"
      refine ⟨Nat.le_of_ble_eq_true rfl, fun h' ex mx => hE' _ _ ⟨ex, _, h', _, _, _, B10, _, rfl, rfl, F, mx, ?_, hk10, ?_⟩⟩
      · exact List.sublist_append_left B10 T2
      · exact ⟨hok, hBQm _ _ _ _ (Le.leS (by first | exact hg12.trans (hH.trans hle14) | exact hg12.trans hH | (walk_at "le"))) hbq, fun _ h => nomatch h⟩
    · obtain ⟨td, rfl⟩ : ∃ t, Dv = .int 70 t := hDv2
      walk_at "as1"
      walk_at "l"
      walk_at "x1"
      walk_at "xif"
      walk_at "ta"
      walk_at "tc"
      walk_at "nL"
      walk_at "kb"
      walk_at "is1"
      walk_at "tb"
      walk_at "i1"
      walk_at "ta"
      walk_at "tc"
      walk_at "ea"
      walk_at "nL"
      walk_at "ga"
      walk_at "nG"
      walk_at "is2"
      walk_at "tb"
      walk_at "i0"
      walk_at "i0"
      walk_at "x0"
      walk_at "x1"
      walk_at "xif"
      walk_at "ta"
      walk_at "tc"
      walk_at "nL"
      walk_at "kb"
      walk_at "is2"
      walk_at "tb"
      walk_at "i0"
      walk_at "i0"
      walk_at "x0"
      walk_at "x0"
      walk_at "d"
      refine ⟨g14, ("a", .ref p) ::l, B10, hle13.trans hle14, ⟨rfl, n1, n2, n3, hH.trans hle14, true, n4, by rw [hok]; rfl⟩, F⟩
  rintro g13 l13 o13 s13 hle13 ⟨rfl, n1, n2, n3, hH, had, n4, hok⟩ F
  have hok : okF false sts = true := by
    have hl : (ys.toArray.size) = sts.length := by
      show _ = (((hf as2).filter fun a => !a.kw).map (·.st)).length
      rw [List.size_toArray, hys.length, List.length_map]
    rw [hl, List.drop_length] at hok
    exact hok
  have F := F.perm (show (B10 ++ []).Perm B10 by simp)
  walk_at "x1"
  refine forE (fun _ _ => False) (fun _ => rfl) (fun _ _ z => z.elim) ?_
  walk_at "nL"
  walk_at "d"
  have hg13 : Le g10 g13 := hg12.trans hH
  have hav13 : g13.IsList av zs.toArray ∨ IsTup g13 av zs.toArray := hav.imp (fun h => IsList_le h hg13) fun h => h.keeps hg13
  refine rdySeq (gB := g13) F (hnd0 hh) hav13 (Le.refl _) hav13 (hnd0 hh) fun it s' R => ?_
  refine ⟨_, _, _, _, _, [], B10, fun i g' l o => o = [] ∧ lk l "base_attrs" = some (.ref b7) ∧ lk l "base_attr_map" = some (.ref Dm) ∧ lk l "attrs" = some (.ref av) ∧ Le g13 g', R _ plainTgt_name, ⟨rfl, n1, n2, n3, Le.refl _⟩, ?_, ?_⟩
  · rintro i g14 g15 l o T2 s' v E' hi hle14 hle15 ⟨rfl, n1, n2, n3, hH⟩ hP F hE'
    obtain ⟨a, ha, hat⟩ := pat hzs (by simpa using hP)
    have hat := hat.le (hg13.trans (hle14.trans hle15))
    obtain ⟨p, nt, Dv, alv, rfl, Ia, hDv, halv⟩ := hat.inst
    obtain ⟨sa, hsa, hz1, hz2, _⟩ := hfal as2 hmal a (List.mem_of_getElem? ha)
    obtain ⟨ta, rfl⟩ : ∃ t, alv = .str sa t := by rw [hsa] at halv; exact halv
    walk_at "as1"
    walk_at "l"
    walk_at "x1"
    walk_at "xif"
    walk_at "tn"
    walk_at "tp"
    walk_at "ea"
    walk_at "nL"
    walk_at "ga"
    walk_at "d"
    refine trS F (Nat.le_trans hz2 (by decide)) hz1 fun s' F => ?_
    walk_at "i0"
    walk_at "x0"
    walk_at "x0"
    walk_at "d"
    exact ⟨g15, ("a", .ref p) :: l, [], hle14.trans hle15, ⟨rfl, n1, n2, n3, hH.trans hle15⟩, F⟩
  rintro g14 l14 o14 s14 hle14 ⟨rfl, n1, n2, n3, hH⟩ F
  have hzs14 := pAt_le hzs (hg13.trans hH)
  have hav14 : g14.IsList av zs.toArray ∨ IsTup g14 av zs.toArray := hav13.imp (fun h => IsList_le h hH) fun h => h.keeps hH
  walk_at "x1"
  walk_at "xret"
  walk_at "et"
  walk_at "s1"
  walk_at "ec"
  walk_at "nB"
  walk_at "cw"
  walk_at "a1"
  walk_at "s1"
  walk_at "nL"
  walk_at "s0"
  walk_at "ko"
  walk_at "d"
  rcases hav14 with hL | hL
  · refine tupL F hL (Nat.le_trans hzl (by decide)) fun g15 t15 s15 l15 ht15 _ F => ?_
    walk_at "s1"
    walk_at "nL"
    walk_at "s1"
    walk_at "nL"
    walk_at "s0"
    walk_at "tup"
    exact backB F hfe hfg hfX (List.Sublist.refl _) hk10 ⟨hok, hBQm _ _ _ _ (Le.leS (hg13.trans (hH.trans (by walk_at "le")))) hbq, fun w hw => by cases hw; exact ⟨_, t15, b7, Dm, zs, rfl, ht, ht15.keeps (by walk_at "le"), pAt_le hzs14 (by walk_at "le")⟩⟩
  · refine tupT F hL ?_
    walk_at "s1"
    walk_at "nL"
    walk_at "s1"
    walk_at "nL"
    walk_at "s0"
    walk_at "tup"
    exact backB F hfe hfg hfX (List.Sublist.refl _) hk10 ⟨hok, hBQm _ _ _ _ (Le.leS (hg13.trans (hH.trans (by walk_at "le")))) hbq, fun w hw => by cases hw; exact ⟨_, av, b7, Dm, zs, rfl, ht, hL.keeps (by walk_at "le"), pAt_le hzs14 (by walk_at "le")⟩⟩
/-! Make -/
/-- the class made object's dict is no attribute's -/
theorem AtX.apart {h : Heap} {q : Addr × Addr} {a : AtD} {x dx : Addr} {od : Obj} {nm mro ats eqa oda : Value} (A : AtX h q a) (hx : h.get? x = some (instObj 135 dx)) (hd : h.get? dx = some od) (D : DictF od (kindF nm mro ats eqa oda) 60) : (q.1 ≠ x ∧ q.1 ≠ dx) ∧ q.2 ≠ x ∧ q.2 ≠ dx := by
  obtain ⟨od2, nt, Dv, alv, h1, h2, D2, _⟩ := A
  obtain ⟨es, n, rfl, _, _, hf⟩ := D
  obtain ⟨es2, n2, rfl, _, _, hf2⟩ := D2
  refine ⟨⟨fun z => ?_, fun z => ?_⟩, fun z => ?_, fun z => ?_⟩
  · rw [z, hx] at h1; cases h1
  · rw [z, hd] at h1; cases h1
  · rw [z, hx] at h2; cases h2
  · rw [z, hd] at h2
    have e : es = es2 := by
      have := Option.some.inj h2
      simp only [dictOf, Obj.mk.injEq, Data.dict.injEq] at this
      exact Array.toList_inj.mpr this.2.2.1.1 |> fun h => by simpa using h
    have h3 := hf "mro"
    have h4 := hf2 "mro"
    rw [e, h4] at h3
    cases h3
theorem make_spec {d : Wd} (G : Good d) {g : Heap} {T b : Addr} {nm ft : Value} {kwo fko : Bool} {kvs : List (Str × Value)} {rows : List Row3} {tl : List Value} {B : List (Addr × Obj)} {pos : List Value} {kw : List (Str × Value)} {mode : Str} {base : (Str → Bool) → List AtD} {hf : List AtD → List AtD} {BQ : Heap → List (Addr × Obj) → List AtD → Prop} (hBQm : ∀ g1 g2 B as, LeS g1 g2 → BQ g1 B as → BQ g2 B as)
    (hpk : (pos = [nm, .ref T] ∧ kw = [] ∧ b = 402 ∧ kwo = false ∧ fko = true ∧ ft = .none) ∨ (pos = [nm, .ref T] ∧ kw = ([("bases", .ref b), ("kw_only", .bool kwo), ("force_kw_only", .bool fko), ("field_transformer", ft)] : List (Str × Value))))
    (hmode : mode = if kwo then (if fko then "force" else "yes") else "no")
    (hT : DK d g T kvs) (hca : Paired (CAOf g) kvs rows) (hnd : (rows.map (·.n)).Nodup) (hz : rows.length ≤ 10)
    (hL : ∀ g' k, Le g g' → Calm d 30 (.ref 144) [k, .ref b] [] g' (fun v g' => ∃ a, v = .ref a ∧ g'.IsList a (k :: tl).toArray))
    (hcol : ∀ g' x ml ats S oS Sf n, Le g g' → InstF g' x 135 (kindF nm (.ref ml) ats .none .none) → g'.IsList ml (.ref x :: tl).toArray → SO d oS Sf n → n ≤ 10 → CalmB d 25 (.ref 92) [.ref x, .ref S] [] g' [(S, oS)] (ColQ g' (base Sf)))
    (hbz : ∀ Sf, (base Sf).length ≤ 10) (hal : ∀ Sf, ∀ a ∈ base Sf, okAl a) (hown : ∀ r ∈ rows, okN r.n)
    (hfz : ∀ as, (hf as).length ≤ as.length) (hfal : ∀ as, (∀ a ∈ as, okAl a) → ∀ a ∈ hf as, okAl a)
    (hft : (ft = .none ∧ (∀ as, hf as = as) ∧ ∀ g' as, BQ g' B as) ∨ ∃ hk, ft = .ref hk ∧ (∃ oc od fd osl, g.get? hk = some ⟨oc, od, .func fd, osl⟩) ∧ ∀ x g' al ys as, Le g g' → g'.IsList al ys.toArray → Paired (At g') ys as → as.length ≤ 20 → (∀ a ∈ as, okAl a) →
      CalmB d 40 (.ref hk) [.ref x, .ref al] [] g' B fun v g'' B' => ∃ rl zs, v = .ref rl ∧ g''.IsList rl zs.toArray ∧ Paired (At g'') zs (hf as) ∧ BQ g'' B' as) :
    CalmE d 70 (.ref 408) pos kw g B fun v g' B' =>
      okF false (((hf (madeF mode base rows)).filter fun a => !a.kw).map (·.st)) = v.isSome ∧ BQ g' B' (madeF mode base rows) ∧ ∀ w, v = some w →
        ∃ x ml at' el ol zs, w = .ref x ∧ InstF g' x 135 (kindF nm (.ref ml) (.ref at') (.ref el) (.ref ol)) ∧ g'.IsList ml (.ref x :: tl).toArray ∧ IsTup g' at' zs.toArray ∧ Paired (At g') zs (hf (madeF mode base rows)) := by
  refine calmKE (n := 69) (binds := [("name", nm), ("attrs", .ref T), ("bases", .ref b), ("cmp", .none), ("eq", .none), ("order", .none), ("kw_only", .bool kwo), ("force_kw_only", .bool fko), ("collect_by_mro", .bool false), ("field_transformer", ft)])
    (bs := [("field_transformer", ft), ("collect_by_mro", .bool false), ("force_kw_only", .bool fko), ("kw_only", .bool kwo), ("order", .none), ("eq", .none), ("cmp", .none), ("bases", .ref b), ("attrs", .ref T), ("name", nm)])
    G.K G.base (by k_is) (by k_is) (by
      rcases hpk with ⟨rfl, rfl, rfl, rfl, rfl, rfl⟩ | ⟨rfl, rfl⟩
      · exact binds_peek G.K G.base (fun S => by kernel_rfl)
      · exact binds_peek G.K G.base (fun S => by kernel_rfl)) rfl (by decide) rfl rfl rfl rfl ?_
  clear hpk
  intro f s s₁ env A outer hfd hR hh hfr HF hfe hfg hfX En hE F
  subst hfd
  have hB := G.base
  walk_at "x1"
  walk_at "xif"
  walk_at "tp"
  walk_at "ec"
  walk_at "nB"
  walk_at "cw"
  walk_at "a1"
  walk_at "s1"
  walk_at "nL"
  walk_at "s1"
  walk_at "nB"
  walk_at "s0"
  walk_at "ko"
  walk_at "d"
  refine isiDict hB F (hT.1.keep F.sub) (by rw [G.K]; kernel_rfl) fun s' F => ?_
  walk_at "tb"
  walk_at "i1"
  walk_at "x1"
  walk_at "xan"
  walk_at "nL"
  walk_at "l"
  walk_at "x0"
  walk_at "x1"
  walk_at "xat"
  walk_at "ec"
  walk_at "nG"
  walk_at "cw"
  walk_at "a1"
  walk_at "s1"
  walk_at "nL"
  walk_at "s1"
  walk_at "nL"
  walk_at "s1"
  walk_at "nL"
  walk_at "s1"
  walk_at "kb"
  walk_at "s0"
  walk_at "ko"
  walk_at "d"
  refine Calm.use (deo_spec G) F (hR.le (by decide)) hh ?_
  rintro v1 g1 s1 l1 ⟨t1, rfl, ht1⟩ F
  walk_at "asT"
  walk_at "io"
  walk_at "as1"
  walk_at "l"
  walk_at "io"
  walk_at "as1"
  walk_at "l"
  walk_at "io"
  walk_at "x1"
  walk_at "xan"
  walk_at "ec"
  walk_at "nG"
  walk_at "cw"
  walk_at "a1"
  walk_at "s1"
  walk_at "nL"
  walk_at "s1"
  walk_at "nL"
  walk_at "s0"
  walk_at "ko"
  walk_at "d"
  refine Calm.use (kind_spec G fun k => hL g1 k l1) F (hR.le (by decide)) hh ?_
  rintro v2 g2 s2 l2 ⟨x, ml, at0, rfl, hx, hml, hat0⟩ F
  walk_at "l"
  refine jn (fun s' => ∃ l t, lk l "mode" = some (.str mode t) ∧ lk l "cls_dict" = some (.ref T) ∧ lk l "collect_by_mro" = some (.bool false) ∧ lk l "field_transformer" = some ft ∧ lk l "made" = some (.ref x) ∧ lk l "eq" = some (.bool true) ∧ lk l "order" = some (.bool true) ∧ St f g2 (lk l) B s') ?_ ?_
  · cases kwo with
    | false =>
      subst hmode
      walk_at "xan"
      walk_at "ei"
      walk_at "tn"
      walk_at "tp"
      walk_at "nL"
      walk_at "tb"
      walk_at "i1"
      walk_at "ks"
      walk_at "l"
      exact ⟨rfl, _, _, rfl, rfl, rfl, rfl, rfl, rfl, rfl, F⟩
    | true =>
      cases fko with
      | true =>
        subst hmode
        walk_at "xan"
        walk_at "ei"
        walk_at "tn"
        walk_at "tp"
        walk_at "nL"
        walk_at "tb"
        walk_at "i0"
        walk_at "ei"
        walk_at "tp"
        walk_at "nL"
        walk_at "tb"
        walk_at "i1"
        walk_at "ks"
        walk_at "l"
        exact ⟨rfl, _, _, rfl, rfl, rfl, rfl, rfl, rfl, rfl, F⟩
      | false =>
        subst hmode
        walk_at "xan"
        walk_at "ei"
        walk_at "tn"
        walk_at "tp"
        walk_at "nL"
        walk_at "tb"
        walk_at "i0"
        walk_at "ei"
        walk_at "tp"
        walk_at "nL"
        walk_at "tb"
        walk_at "i0"
        walk_at "ks"
        walk_at "l"
        exact ⟨rfl, _, _, rfl, rfl, rfl, rfl, rfl, rfl, rfl, F⟩
  rintro s3 ⟨l, mt, m1, m2, m3, m4, m5, m6, m7, F⟩
  have hg2 : Le g g2 := l1.trans l2
  have hk : env.scope.kind ≠ .module := by rw [hE]; exact (show ScopeKind.function ≠ ScopeKind.module by decide)
  have hfe' : env.frame = some f.L := by rw [hE]
  walk_at "x1"
  walk_at "xat"
  walk_at "ec"
  walk_at "nG"
  walk_at "cw"
  walk_at "a1"
  walk_at "s1"
  walk_at "nL"
  walk_at "s1"
  walk_at "nL"
  walk_at "s1"
  walk_at "nL"
  walk_at "s1"
  walk_at "nL"
  walk_at "s1"
  walk_at "nL"
  walk_at "s0"
  walk_at "ko"
  walk_at "d"
  have hca2 : Paired (CAOf g2) kvs rows := pmono (fun kv r h => by obtain ⟨e, a, Dv, e2, I, h⟩ := h; exact ⟨e, a, Dv, e2, I.le hg2, h⟩) hca
  refine CalmE.use (trans_spec (x := x) (mt := mt) (mode := mode) (ft := ft) (base := base) (hf := hf) (BQ := BQ) G hBQm (hT.le hg2) hca2 hnd hz
    (fun g' S oS Sf n l hS hn => hcol g' x ml (.ref at0) S oS Sf n (hg2.trans l) (hx.inst.le l) (IsList_le hml l) hS hn) hbz hal hown hfz hfal ?_) F (hR.le (by decide)) hh hfr (HF.now F hfX hfe' hk) ?_ ?_
  · rcases hft with h | ⟨hk, e, ⟨oc, od, fd, osl, ho⟩, h⟩
    · exact .inl h
    · exact .inr ⟨hk, e, ⟨oc, od, fd, osl, hg2 _ _ ho⟩, fun g' al ys as l => h x g' al ys as (hg2.trans l)⟩
  rotate_left
  · rintro ex bs g' B' s' P ⟨q1, q2, _⟩
    have := F.passE hfe hfX (List.Sublist.refl _) P.keys HF hfe' P
    rw [hfg] at this
    exact ⟨ex, bs, g', B', .none, rfl, .inl rfl, this, q1, q2, fun _ h => nomatch h⟩
  rintro v g4 B4 s4 l4 hk4 ⟨q1, q2, q3⟩ F
  obtain ⟨t4, at4, bl4, D4, zs, rfl, ht4, hat4, hzs⟩ := q3 v rfl
  walk_at "asT"
  walk_at "io"
  walk_at "as2"
  walk_at "nL"
  have hsub := F.sub
  obtain ⟨g5, dx, od, l5, D, le5, keep5, F⟩ := F.thawInst (hx.le l4) (by rw [hfg]; exact l1) (l2.trans l4)
  have hd5 := (F.own _ (.head _)).1
  have hx5 := (F.own _ (.tail _ (.head _))).1
  have hzs5 : Paired (At g5) zs (hf (madeF mode base rows)) := pmono (fun v a h => by
    obtain ⟨q, e, od2, nt, Dv, alv, h1, h2, h3⟩ := h
    obtain ⟨n1, n2⟩ := AtX.apart (⟨od2, nt, Dv, alv, hsub _ _ h1, hsub _ _ h2, h3⟩ : AtX _ q a) hx5 hd5 D
    refine ⟨q, e, od2, nt, Dv, alv, ?_, ?_, h3⟩
    · rcases keep5 _ _ h1 with z | z | z
      · exact z
      · exact absurd z n1.2
      · exact absurd z n1.1
    · rcases keep5 _ _ h2 with z | z | z
      · exact z
      · exact absurd z n2.2
      · exact absurd z n2.1) hzs
  have seq5 : ∀ {a : Addr} {o : Obj} {vs : Array Value} {n : Nat}, g4.get? a = some o → o.data = .seq vs n → g5.get? a = some o := by
    intro a o vs n h1 h2
    rcases keep5 _ _ h1 with z | z | z
    · exact z
    · have := hsub _ _ h1
      rw [z, hd5] at this
      obtain ⟨es, n, rfl, _⟩ := D
      cases this; cases h2
    · have := hsub _ _ h1
      rw [z, hx5] at this
      cases this; cases h2
  have hat5 : IsTup g5 at4 zs.toArray := by
    obtain ⟨o, h1, h2, n, h3⟩ := hat4
    exact ⟨o, seq5 h1 h3, h2, n, h3⟩
  have hml5 : g5.IsList ml (Value.ref x :: tl).toArray := by
    obtain ⟨o, h1, h2, n, h3⟩ := IsList_le hml l4
    exact ⟨o, seq5 h1 h3, h2, n, h3⟩
  have hzl : zs.length ≤ 20 := by
    rw [hzs.length]
    refine Nat.le_trans (hfz _) ?_
    unfold madeF
    rw [List.length_map, List.length_map, List.length_append, List.length_map]
    have := hbz fun k => (rows.map (·.n)).contains k
    omega
  walk_at "saO"
  walk_at "io"
  walk_at "as1"
  walk_at "l"
  walk_at "io"
  walk_at "as1"
  walk_at "l"
  walk_at "io"
  walk_at "x1"
  walk_at "xif"
  walk_at "tp"
  walk_at "nL"
  walk_at "tb"
  walk_at "i1"
  walk_at "x1"
  walk_at "xaa"
  walk_at "d"
  walk_at "lcl"
  walk_at "ea"
  walk_at "nL"
  walk_at "gaO"
  refine rdyTup (gB := g5) F (hnd0 hh) (hat5.keeps (Le.refl _)) (Le.refl _) (hat5.keeps (Le.refl _)) (hnd0 hh) fun it s' R => ?_
  refine ⟨_, _, _, _, _, _, fun i _ ys => True, R _ plainTgt_name, (by rw [List.size_toArray]; exact Nat.le_trans hzl (by decide)), trivial, ?_, ?_⟩
  · rintro f' cenv i g11 g12 l8 T2 s' v ys E' hw En' hi hle11 hle12 _ hP F
    have hB : Base f'.toWd := by rw [hw]; exact hB
    have G : Good f'.toWd := by rw [hw]; exact G
    obtain ⟨a, ha, hat⟩ := pat hzs5 (by simpa using hP)
    obtain ⟨p, nt, Dv, alv, rfl, Ia, hDv, halv⟩ := (hat.le (((Le.refl _) : Le g5 g5).trans (hle11.trans hle12))).inst
    walk_at "as1"
    walk_at "l"
    walk_at "ts1"
    walk_at "tp"
    walk_at "ea"
    walk_at "nL"
    walk_at "ga"
    walk_at "tb"
    walk_at "i1"
    walk_at "nL"
    walk_at "d"
    exact ⟨g12, _, hle11.trans hle12, trivial, F⟩
  rintro g61 g62 D6 ys6 s61 hle61 hle62 _ hD6 F
  walk_at "nL"
  walk_at "saO"
  walk_at "x0"
  walk_at "x1"
  walk_at "xif"
  walk_at "tp"
  walk_at "nL"
  walk_at "tb"
  walk_at "i1"
  walk_at "x1"
  walk_at "xaa"
  walk_at "d"
  walk_at "lcl"
  walk_at "ea"
  walk_at "nL"
  walk_at "gaO"
  refine rdyTup (gB := g62) F (hnd0 hh) (hat5.keeps (hle61.trans hle62)) (Le.refl _) (hat5.keeps (hle61.trans hle62)) (hnd0 hh) fun it s' R => ?_
  refine ⟨_, _, _, _, _, _, fun i _ ys => True, R _ plainTgt_name, (by rw [List.size_toArray]; exact Nat.le_trans hzl (by decide)), trivial, ?_, ?_⟩
  · rintro f' cenv i g11 g12 l8 T2 s' v ys E' hw En' hi hle11 hle12 _ hP F
    have hB : Base f'.toWd := by rw [hw]; exact hB
    have G : Good f'.toWd := by rw [hw]; exact G
    obtain ⟨a, ha, hat⟩ := pat hzs5 (by simpa using hP)
    obtain ⟨p, nt, Dv, alv, rfl, Ia, hDv, halv⟩ := (hat.le (((hle61.trans hle62) : Le g5 g62).trans (hle11.trans hle12))).inst
    walk_at "as1"
    walk_at "l"
    walk_at "ts1"
    walk_at "tp"
    walk_at "ea"
    walk_at "nL"
    walk_at "ga"
    walk_at "tb"
    walk_at "i1"
    walk_at "nL"
    walk_at "d"
    exact ⟨g12, _, hle11.trans hle12, trivial, F⟩
  rintro g71 g72 D7 ys7 s71 hle71 hle72 _ hD7 F
  walk_at "nL"
  walk_at "saO"
  walk_at "x0"
  walk_at "x1"
  walk_at "xret"
  walk_at "nL"
  walk_at "d"
  obtain ⟨g8, l8, k8, k8', F⟩ := F.freezeAt fun a ha => by
    rw [hfX, ← hk4] at ha
    obtain ⟨p, hp, rfl⟩ := List.mem_map.mp ha
    exact ⟨p.2, hp⟩
  have l58 : Le g5 g8 := (hle61.trans hle62).trans ((hle71.trans hle72).trans l8)
  refine backB F hfe hfg hfX (List.Sublist.refl _) hk4 ⟨q1, hBQm _ _ _ _ (fun b o e hs => l58 _ _ (by obtain ⟨vs, n, h⟩ := hs; exact seq5 e h)) q2, fun w hw => ?_⟩
  cases hw
  exact ⟨x, ml, at4, D6, D7, zs, rfl, ⟨dx, _, k8, k8', D.congr (lk_same (by kernel_rfl) (by kernel_rfl))⟩, IsList_le hml5 l58, hat5.keeps l58, pAt_le hzs5 l58⟩
/-! FieldsD -/
theorem fieldsD_spec {d : Wd} (G : Good d) {g : Heap} {x at' : Addr} {nm mro eqa oda : Value} {zs : List Value} {as : List AtD} (I : InstF g x 135 (kindF nm mro (.ref at') eqa oda)) (hat : IsTup g at' zs.toArray) (hzs : Paired (At g) zs as) (hnd : (as.map (·.n)).Nodup) (hz : as.length ≤ 20) :
    Calm d 10 (.ref 255) [.ref x] [] g (fun v g' => ∃ D kvs, v = .ref D ∧ DK d g' D kvs ∧ kvs.map (·.1) = as.map (·.n)) := by
  refine calmK (n := 9) (binds := [("cls", .ref x)]) (bs := [("cls", .ref x)]) G.K G.base (by k_is) (by k_is) (binds_eq (by kernel_rfl)) rfl (by decide) rfl rfl rfl rfl ?_
  intro f s s₁ env A hfd hR hh hfe hfg hfX En hE F
  subst hfd
  have hB := G.base
  walk_at "x1"
  walk_at "xif"
  walk_at "tn"
  walk_at "tp"
  walk_at "ec"
  walk_at "nB"
  walk_at "cw"
  walk_at "a1"
  walk_at "s1"
  walk_at "nL"
  walk_at "s1"
  walk_at "nG"
  walk_at "s0"
  walk_at "ko"
  walk_at "d"
  obtain ⟨dx, od, h1, _⟩ := id I
  refine isiT hB G.K F h1 (by k_is) ?_
  walk_at "tb"
  walk_at "i0"
  walk_at "x0"
  walk_at "x1"
  walk_at "xret"
  walk_at "d"
  walk_at "dcl"
  walk_at "ea"
  walk_at "nL"
  walk_at "ga"
  refine rdyTup (gB := g) F (hnd0 hh) hat (Le.refl _) hat (hnd0 hh) fun it s' R => ?_
  refine ⟨_, _, _, _, _, _, fun i _ kvs => kvs.map (·.1) = (as.take i).map (·.n), R _ plainTgt_name, by simp, ?_, ?_⟩
  · rintro f' cenv i g5 g6 l D oD T2 s' v kvs E' hw En' hi hle5 hle6 hI hP hD F
    have hB : Base f'.toWd := by rw [hw]; exact hB
    have G : Good f'.toWd := by rw [hw]; exact G
    obtain ⟨a, ha, hat⟩ := pat hzs (by simpa using hP)
    obtain ⟨p, nt, Dv, alv, rfl, Ia, hDv, hal⟩ := (hat.le (hle5.trans hle6)).inst
    walk_at "as1"
    walk_at "l"
    walk_at "ts0"
    walk_at "i1"
    walk_at "emD"
    walk_at "ea"
    walk_at "nL"
    walk_at "ga"
    walk_at "nL"
    walk_at "d"
    have hkl : kvs.length ≤ 20 := by
      have := congrArg List.length hI
      rw [List.length_map, List.length_map, List.length_take] at this
      omega
    rw [← show f'.toWd = f.toWd from hw] at hD
    refine dsD F hD (Nat.le_trans hkl (by decide)) fun oD' s' hD' F => ?_
    refine ⟨g6, _, oD', _, hle5.trans hle6, ?_, by rw [← show f'.toWd = f.toWd from hw]; exact hD', F⟩
    rw [stored_fresh (by rw [hI]; exact notin_take hnd ha), List.map_append, hI, take_snoc ha, List.map_append]
    rfl
  rintro g5 D oD kvs s5 hle5 hI hD hDm F
  obtain ⟨g6, l6, hDK, F⟩ := F.freezeD hD hDm (by rw [hfX]; exact fun h => nomatch h)
  refine back F hfe hfg hfX ⟨D, kvs, rfl, hDK, ?_⟩
  rw [hI, List.size_toArray, hzs.length, List.take_length]
/-! Handed -/
def alN (a : AtD) : Str := a.al.getD ""
def plA (as : List AtD) : List AtD := as.filter fun a => !a.kw
theorem handed_spec {d : Wd} (G : Good d) {g : Heap} {at' ar K : Addr} {zs vs : List Value} {as : List AtD} {kvs : List (Str × Value)} {V : Str → Int} (hat : IsTup g at' zs.toArray) (hzs : Paired (At g) zs as) (haln : (as.map alN).Nodup) (hal : ∀ a ∈ as, ∃ s, a.al = some s ∧ PyData.strOk s = true) (hz : as.length ≤ 20)
    (har : IsTup g ar vs.toArray) (hvl : vs.length ≤ (plA as).length) (hvs : ∀ (i : Nat) (v : Value), vs[i]? = some v → ∃ a t, (plA as)[i]? = some a ∧ v = .int (V (alN a)) t)
    (hK : DK d g K kvs) (hkn : (kvs.map (·.1)).Nodup) (hkz : kvs.length ≤ 20) (hkv : ∀ kv ∈ kvs, (∃ t, kv.2 = .int (V kv.1) t) ∧ kv.1 ∈ as.map alN ∧ kv.1 ∉ ((plA as).take vs.length).map alN)
    (hdef : ∀ a ∈ as, alN a ∉ ((plA as).take vs.length).map alN → alN a ∉ kvs.map (·.1) → a.st = true) :
    Calm d 30 (.ref 149) [.ref at', .ref ar, .ref K] [] g (fun v g' => ∃ H hk, v = .ref H ∧ DK d g' H hk ∧ HV V (((plA as).take vs.length).map alN ++ kvs.map (·.1)) (as.map alN) hk 60) := by
  refine calmK (n := 29) (binds := [("attrs", .ref at'), ("args", .ref ar), ("kwargs", .ref K)]) (bs := [("kwargs", .ref K), ("args", .ref ar), ("attrs", .ref at')]) G.K G.base (by k_is) (by k_is) (binds_eq (by kernel_rfl)) rfl (by decide) rfl rfl rfl rfl ?_
  intro f s s₁ env A hfd hR hh hfe hfg hfX En hE F
  subst hfd
  have hB := G.base
  have hzl : zs.length ≤ 20 := by rw [hzs.length]; exact hz
  walk_at "x1"
  walk_at "lal"
  walk_at "nL"
  walk_at "d"
  refine rdyTup (gB := g) F (hnd0 hh) hat (Le.refl _) hat (hnd0 hh) fun it s' R => ?_
  refine ⟨_, _, _, _, _, _, fun i g' ys => Paired (At g') ys ((as.take i).filter fun a => !a.kw), R _ plainTgt_name, (by rw [List.size_toArray]; exact Nat.le_trans hzl (by decide)), .nil, ?_, ?_⟩
  · rintro f' cenv i g11 g12 l T2 s' v ys E' hw En' hi hle11 hle12 hI hP F
    have hB : Base f'.toWd := by rw [hw]; exact hB
    have G : Good f'.toWd := by rw [hw]; exact G
    obtain ⟨a, ha, hat⟩ := pat hzs (by simpa using hP)
    obtain ⟨p, nt, Dv, alv, rfl, Ia, hDv, halv⟩ := (hat.le (hle11.trans hle12)).inst
    walk_at "as1"
    walk_at "l"
    walk_at "ts1"
    walk_at "ta"
    walk_at "tp"
    walk_at "ea"
    walk_at "nL"
    walk_at "ga"
    walk_at "tb"
    walk_at "i1"
    walk_at "ta"
    walk_at "tn"
    walk_at "tp"
    walk_at "ea"
    walk_at "nL"
    walk_at "ga"
    walk_at "tb"
    walk_at "d"
    have hst : ((as.take (i + 1)).filter fun a => !a.kw) = ((as.take i).filter fun a => !a.kw) ++ (if a.kw then [] else [a]) := by
      rw [take_snoc ha, List.filter_append]
      cases hq : a.kw <;> simp [hq]
    cases hq : a.kw with
    | true =>
      rw [hq] at hst
      walk_at "i0"
      walk_at "i0"
      refine ⟨g12, _, hle11.trans hle12, ?_, F⟩
      rw [hst]
      simpa using pAt_le hI hle12
    | false =>
      rw [hq] at hst
      walk_at "i1"
      walk_at "ta0"
      walk_at "i1"
      walk_at "nL"
      refine ⟨g12, _, hle11.trans hle12, ?_, F⟩
      rw [hst]
      exact psnoc (pAt_le hI hle12) (hat.le (hle11.trans hle12))
  rintro g1 g2 D1 ps s2 hle1 hle2 hI hD1 F
  have hps : Paired (At g2) ps (plA as) := by
    rw [List.size_toArray, hzs.length, List.take_length] at hI
    exact pAt_le hI hle2
  walk_at "x1"
  walk_at "xif"
  walk_at "tc"
  walk_at "ec"
  walk_at "nB"
  walk_at "cw"
  walk_at "a1"
  walk_at "s1"
  walk_at "nL"
  walk_at "s0"
  walk_at "ko"
  walk_at "d"
  have hle02 : Le g g2 := hle1.trans hle2
  have hpl : ps.length = (plA as).length := hps.length
  have hp20 : (plA as).length ≤ 20 := Nat.le_trans (List.length_filter_le ..) hz
  refine lenT F (har.keeps hle02) (Nat.le_trans (Nat.le_trans hvl hp20) (by decide)) fun t1 s' F => ?_
  walk_at "ec"
  walk_at "nB"
  walk_at "cw"
  walk_at "a1"
  walk_at "s1"
  walk_at "nL"
  walk_at "s0"
  walk_at "ko"
  walk_at "d"
  refine lenL F hD1 (by rw [hpl]; exact Nat.le_trans hp20 (by decide)) fun t2 s' F => ?_
  refine PyProof.Rows.gt_int ?_
  rw [show decide (((ps.length : Nat) : Int) < ((vs.length : Nat) : Int)) = false by rw [decide_eq_false_iff_not, hpl]; omega]
  walk_at "tb"
  walk_at "i0"
  walk_at "x0"
  walk_at "x1"
  walk_at "dal"
  walk_at "ec"
  walk_at "nB"
  walk_at "cw"
  walk_at "a1"
  walk_at "s1"
  walk_at "nL"
  walk_at "s1"
  walk_at "nL"
  walk_at "s0"
  walk_at "ko"
  walk_at "d"
  refine callZip F hh hD1 (har.keeps hle02) fun it s' R => ?_
  refine (R [] 0 default).self ⟨_, _, _, _, _, _, fun i g kv => HV V (((plA as).take i).map alN) [] kv i, R _ _ _, .nil, ?_, ?_⟩
  · rintro f' cenv i g5 g6 l D oD T2 s' v kv E' hw En' hi hle5 hle6 hI ⟨T, x, y, rfl, hT, hx, hy⟩ hD F
    have hB : Base f'.toWd := by rw [hw]; exact hB
    have G : Good f'.toWd := by rw [hw]; exact G
    obtain ⟨a, ha, hat⟩ := pat hps (by simpa using hx)
    obtain ⟨p, nt, Dv, alv, rfl, Ia, hDv, halv⟩ := (hat.le (hle5.trans hle6)).inst
    obtain ⟨sa, hsa, _⟩ := hal a (List.mem_filter.mp (List.mem_of_getElem? ha)).1
    obtain ⟨ta, rfl⟩ : ∃ t, alv = .str sa t := by rw [hsa] at halv; exact halv
    walk_at "asT"
    walk_at "io"
    walk_at "as1"
    walk_at "l"
    walk_at "io"
    walk_at "as1"
    walk_at "l"
    walk_at "io"
    walk_at "ts0"
    walk_at "i1"
    walk_at "emD"
    walk_at "ea"
    walk_at "nL"
    walk_at "ga"
    walk_at "nL"
    walk_at "d"
    obtain ⟨a', ty, ha', rfl⟩ := hvs i y (by simpa using hy)
    obtain rfl : a' = a := by rw [ha] at ha'; exact (Option.some.inj ha').symm
    have hsn : alN a' = sa := by unfold alN; rw [hsa]; rfl
    rw [← show f'.toWd = f.toWd from hw] at hD
    refine dsD F hD (Nat.le_trans hI.len (Nat.le_trans (Nat.le_of_lt hi) (Nat.le_trans (Nat.min_le_left _ _) (by rw [List.size_toArray, hpl]; exact Nat.le_trans hp20 (by decide))))) fun oD' s' hD' F => ?_
    refine ⟨g6, _, oD', _, hle5.trans hle6, ?_, by rw [← show f'.toWd = f.toWd from hw]; exact hD', F⟩
    rw [take_snoc ha, List.map_append, List.map_singleton, ← hsn]
    exact hI.addS
  rintro g5 H oH kv1 s5 hle5 hI hH hHm F
  have hmin : min ps.toArray.size vs.toArray.size = vs.length := by rw [List.size_toArray, List.size_toArray, hpl]; exact Nat.min_eq_right hvl
  rw [hmin] at hI
  generalize hS0 : ((plA as).take vs.length).map alN = S0 at hI hkv hdef
  walk_at "x1"
  walk_at "lal"
  walk_at "nL"
  walk_at "d"
  have hat5 := hat.keeps (hle02.trans hle5)
  refine rdyTup (gB := g5) F (hnd0 hh) hat5 (Le.refl _) hat5 (hnd0 hh) fun it s' R => ?_
  refine ⟨_, _, _, _, _, _, fun i g' ys => Paired (rd g') ys (((as.take i).map alN).map PyData.str), R _ plainTgt_name, (by rw [List.size_toArray]; exact Nat.le_trans hzl (by decide)), .nil, ?_, ?_⟩
  · rintro f' cenv i g11 g12 l T2 s' v ys E' hw En' hi hle11 hle12 hI hP F
    have hB : Base f'.toWd := by rw [hw]; exact hB
    have G : Good f'.toWd := by rw [hw]; exact G
    obtain ⟨a, ha, hat⟩ := pat hzs (by simpa using hP)
    obtain ⟨p, nt, Dv, alv, rfl, Ia, hDv, halv⟩ := (hat.le (hle02.trans (hle5.trans (hle11.trans hle12)))).inst
    obtain ⟨sa, hsa, _⟩ := hal a (List.mem_of_getElem? ha)
    obtain ⟨ta, rfl⟩ : ∃ t, alv = .str sa t := by rw [hsa] at halv; exact halv
    have hsn : alN a = sa := by unfold alN; rw [hsa]; rfl
    walk_at "as1"
    walk_at "l"
    walk_at "ts1"
    walk_at "tp"
    walk_at "ea"
    walk_at "nL"
    walk_at "ga"
    walk_at "tb"
    walk_at "i1"
    walk_at "ea"
    walk_at "nL"
    walk_at "ga"
    walk_at "d"
    refine ⟨g12, _, hle11.trans hle12, ?_, F⟩
    rw [take_snoc ha, List.map_append, List.map_append, List.map_singleton, List.map_singleton, hsn]
    exact psnoc (prd_le hI hle12) rd_str
  rintro g6 g7 N ns s7 hle6 hle7 hN hNl F
  have hN7 : rd g7 (.ref N) (.list ((as.map alN).map PyData.str)) := by
    rw [List.size_toArray, hzs.length, List.take_length] at hN
    exact rd_list hNl (prd_le hN hle7)
  have hg7 : Le g g7 := hle02.trans (hle5.trans (hle6.trans hle7))
  have hK7 := hK.le hg7
  walk_at "x1"
  refine forE (fun _ _ => False) (fun _ => rfl) (fun _ _ z => z.elim) ?_
  walk_at "em"
  walk_at "nL"
  walk_at "d"
  refine gmItems (hK7.1.keep F.sub) ?_
  walk_at "cw"
  walk_at "a0"
  walk_at "ko"
  walk_at "d"
  refine callItems F hK7 fun vw g8 s8 hle8 hvw F => ?_
  refine rdyItems F hh hvw (hK7.le hle8) (Le.refl _) (Nat.le_trans hkz (by decide)) fun it s' R => ?_
  refine ⟨_, _, _, _, _, [(H, oH)], [], fun i g' l o => lk l "attrs" = some (.ref at') ∧ lk l "handed" = some (.ref H) ∧ lk l "names" = some (.ref N) ∧ ∃ oH kv, o = [(H, oH)] ∧ DO f.toWd oH kv ∧ HV V (S0 ++ (kvs.take i).map (·.1)) [] kv (20 + i), R _ _ _, ⟨rfl, rfl, rfl, oH, kv1, rfl, hH, ?_⟩, ?_, ?_⟩
  · have : HV V S0 [] kv1 20 := { hI with len := Nat.le_trans hI.len (Nat.le_trans hvl hp20) }
    simpa using this
  · rintro i g9 g10 l o T2 s' v E' hi hle9 hle10 ⟨m1, m2, m3, oH, kv, rfl, hH, hI⟩ ⟨t, tok, kx, rfl, ht, hkx⟩ F hE'
    obtain ⟨⟨tv, hkv1⟩, hkv2, hkv3⟩ := hkv kx (List.mem_of_getElem? hkx)
    have hnew : valueAt kv kx.1 = none := by
      refine hI.nn _ (fun h => ?_) (fun h => nomatch h)
      rcases List.mem_append.mp h with h | h
      · exact hkv3 h
      · exact notin_take hkn hkx h
    walk_at "asT"
    walk_at "io"
    walk_at "as1"
    walk_at "l"
    walk_at "io"
    walk_at "as1"
    walk_at "l"
    walk_at "io"
    walk_at "x1"
    walk_at "xif"
    walk_at "to"
    walk_at "tc"
    walk_at "nL"
    walk_at "nL"
    walk_at "d"
    refine inD F (DO.at hH (F.own (H, oH) (.head _)).1) hHm fun s' F => ?_
    rw [hnew]
    walk_at "tb"
    walk_at "i0"
    walk_at "to"
    walk_at "tc"
    walk_at "nL"
    walk_at "nL"
    have hso : ∀ x ∈ as.map alN, PyData.strOk x = true := fun x hx => by
      obtain ⟨a, ha, rfl⟩ := List.mem_map.mp hx
      obtain ⟨sa, hsa, h⟩ := hal a ha
      unfold alN; rw [hsa]; exact h
    refine notInRd F rd_str (hN7.le (hle8.trans (hle9.trans hle10))) (by simpa [PyData.canLay0] using hso _ hkv2) (lay_strs hso) (by simp [PyData.depth]) (hR.u64 (by decide)) ?_
    rw [any_strs, show (as.map alN).contains kx.1 = true by rw [List.contains_eq_mem]; exact decide_eq_true hkv2]
    walk_at "tb"
    walk_at "i0"
    walk_at "to0"
    walk_at "i0"
    walk_at "x0"
    walk_at "x1"
    walk_at "xas"
    walk_at "nL"
    walk_at "nL"
    walk_at "nL"
    walk_at "d"
    have hi20 : i < 20 := Nat.lt_of_lt_of_le hi hkz
    refine setD F hH (Nat.le_trans hI.len (Nat.le_trans (show 20 + i ≤ 40 by omega) (by decide))) fun oH' s' hH' F => ?_
    walk_at "x0"
    walk_at "d"
    refine ⟨g10, ("value", kx.2) :: ("name", .str kx.1 tok) :: l, [(H, oH')], hle9.trans hle10, ⟨m1, m2, m3, oH', _, rfl, hH', ?_⟩, F⟩
    rw [take_snoc hkx, List.map_append, List.map_singleton, ← List.append_assoc, hkv1]
    exact hI.addS
  rintro g9 l9 o9 s9 hle9 ⟨m1, m2, m3, oH, kv, rfl, hH, hI⟩ F
  rw [List.take_length] at hI
  have hg9 : Le g g9 := hg7.trans (hle8.trans hle9)
  have hat9 := hat.keeps hg9
  walk_at "x1"
  refine forE (fun _ _ => False) (fun _ => rfl) (fun _ _ z => z.elim) ?_
  walk_at "nL"
  walk_at "d"
  refine rdyTup (gB := g9) F (hnd0 hh) hat9 (Le.refl _) hat9 (hnd0 hh) fun it s' R => ?_
  refine ⟨_, _, _, _, _, [(H, oH)], [], fun i g' l o => lk l "handed" = some (.ref H) ∧ ∃ oH kv, o = [(H, oH)] ∧ DO f.toWd oH kv ∧ HV V (S0 ++ kvs.map (·.1)) ((as.take i).map alN) kv (40 + i), R _ plainTgt_name, ⟨m2, oH, kv, rfl, hH, { hI with len := Nat.le_trans hI.len (by omega) }⟩, ?_, ?_⟩
  · rintro i g10 g11 l o T2 s' v E' hi hle10 hle11 ⟨m2, oH, kv, rfl, hH, hI⟩ hP F hE'
    obtain ⟨a, ha, hat⟩ := pat hzs (by simpa using hP)
    obtain ⟨p, nt, Dv, alv, rfl, Ia, hDv, halv⟩ := (hat.le (hg9.trans (hle10.trans hle11))).inst
    obtain ⟨sa, hsa, _⟩ := hal a (List.mem_of_getElem? ha)
    obtain ⟨ta, rfl⟩ : ∃ t, alv = .str sa t := by rw [hsa] at halv; exact halv
    have hsn : alN a = sa := by unfold alN; rw [hsa]; rfl
    have hi20 : i < 20 := Nat.lt_of_lt_of_le (List.getElem?_eq_some_iff.mp ha).1 hz
    walk_at "as1"
    walk_at "l"
    walk_at "x1"
    walk_at "xif"
    walk_at "ta"
    walk_at "tp"
    walk_at "ea"
    walk_at "nL"
    walk_at "ga"
    walk_at "tb"
    walk_at "i1"
    walk_at "ta"
    walk_at "tc"
    walk_at "ea"
    walk_at "nL"
    walk_at "ga"
    walk_at "nL"
    walk_at "d"
    refine notInD F (DO.at hH (F.own (H, oH) (.head _)).1) hHm fun s' F => ?_
    have htk : (as.take (i + 1)).map alN = (as.take i).map alN ++ [sa] := by rw [take_snoc ha, List.map_append, List.map_singleton, hsn]
    by_cases hS : sa ∈ S0 ++ kvs.map (·.1)
    · obtain ⟨tv, e⟩ := hI.s _ hS
      rw [e]
      walk_at "tb"
      walk_at "i0"
      walk_at "i0"
      walk_at "x0"
      walk_at "x0"
      walk_at "d"
      refine ⟨g11, ("a", .ref p) :: l, [(H, oH)], hle10.trans hle11, ⟨m2, oH, kv, rfl, hH, ?_⟩, F⟩
      rw [htk]
      exact hI.skip hS
    · have hnone : valueAt kv sa = none := hI.nn _ hS (by rw [← hsn]; exact notin_take haln ha)
      rw [hnone]
      have hst : a.st = true := by
        rw [List.mem_append, not_or] at hS
        exact hdef a (List.mem_of_getElem? ha) (by rw [hsn]; exact hS.1) (by rw [hsn]; exact hS.2)
      rw [hst] at hDv
      obtain ⟨td, rfl⟩ : ∃ t, Dv = .int 70 t := hDv
      walk_at "tb"
      walk_at "i1"
      walk_at "ta0"
      walk_at "i1"
      walk_at "x1"
      walk_at "xif"
      walk_at "tc"
      walk_at "ea"
      walk_at "nL"
      walk_at "ga"
      walk_at "nG"
      walk_at "is2"
      walk_at "tb"
      walk_at "i0"
      walk_at "x0"
      walk_at "x1"
      walk_at "xas"
      walk_at "ei"
      walk_at "tp"
      walk_at "ec"
      walk_at "nB"
      walk_at "cw"
      walk_at "a1"
      walk_at "s1"
      walk_at "ea"
      walk_at "nL"
      walk_at "ga"
      walk_at "s1"
      walk_at "nG"
      walk_at "s0"
      walk_at "ko"
      walk_at "d"
      refine isiI hB G.K F (by kernel_rfl) fun s' F => ?_
      walk_at "tb"
      walk_at "i0"
      walk_at "ea"
      walk_at "nL"
      walk_at "ga"
      walk_at "nL"
      walk_at "ea"
      walk_at "nL"
      walk_at "ga"
      refine setD F hH (Nat.le_trans hI.len (Nat.le_trans (show 40 + i ≤ 60 by omega) (by decide))) fun oH' s' hH' F => ?_
      walk_at "x0"
      walk_at "x0"
      walk_at "d"
      refine ⟨g11, ("a", .ref p) :: l, [(H, oH')], hle10.trans hle11, ⟨m2, oH', _, rfl, hH', ?_⟩, F⟩
      rw [htk]
      exact hI.addD hS
  rintro g10 l10 o10 s10 hle10 ⟨m2, oH, kv, rfl, hH, hI⟩ F
  walk_at "x1"
  walk_at "xret"
  walk_at "nL"
  walk_at "d"
  have F := (F.perm (by rw [List.append_nil]) : St f _ _ [(H, oH)] _)
  obtain ⟨g11, l11, hDK, F⟩ := F.freezeD hH hHm (by rw [hfX]; exact fun h => nomatch h)
  refine back F hfe hfg hfX ⟨H, kv, rfl, hDK, ?_⟩
  rw [List.size_toArray, hzs.length, List.take_length] at hI
  exact { hI with len := Nat.le_trans hI.len (by omega) }
/-! PureL -/
/-- what the hook makes of the attributes -/
def hookA (k : Nat) (as : List AtD) : List AtD :=
  if k = 1 then as.reverse else if k = 2 then as.drop 1 else if k = 3 then as.take 1 ++ (as.drop 1).map (fun a => { a with st := true })
  else if k = 4 then (match as.getLast? with | some l => as.dropLast ++ [{ l with n := "_new", al := some "new" }] | none => as) else as
def TellOf (g : Heap) (v : Value) (a : AtD) : Prop := ∃ t s1 s2 al, a.al = some al ∧ v = .ref t ∧ IsTup g t #[.str a.n s1, .str al s2, .bool a.inh]
def TellB (sl : Addr) (T : List (Addr × Obj)) (g : Heap) (B' : List (Addr × Obj)) (as : List AtD) : Prop := ∃ u n ts, B' = (sl, listO [.ref u] n) :: T ∧ g.IsList u ts.toArray ∧ Paired (TellOf g) ts as
theorem TellOf.leS {g h : Heap} {v : Value} {a : AtD} (x : TellOf g v a) (k : LeS g h) : TellOf h v a := by
  obtain ⟨t, s1, s2, al, e1, e2, o, h1, h2, n, h3⟩ := x
  exact ⟨t, s1, s2, al, e1, e2, o, k _ _ h1 ⟨_, _, h3⟩, h2, n, h3⟩
theorem TellB.leS {sl : Addr} {T : List (Addr × Obj)} {g h : Heap} {B' : List (Addr × Obj)} {as : List AtD} (x : TellB sl T g B' as) (k : LeS g h) : TellB sl T h B' as := by
  obtain ⟨u, n, ts, e, ⟨o, h1, h2, m, h3⟩, hp⟩ := x
  exact ⟨u, n, ts, e, ⟨o, k _ _ h1 ⟨_, _, h3⟩, h2, m, h3⟩, pmono (fun _ _ y => y.leS k) hp⟩
def row0 (r : Row3) : Row4 := ⟨r.n, Txt.lstripChars r.n "_", r.st, r.nm == some true⟩
theorem own3_n (N : Nat) (ns : List Str) : (ns.mapIdx fun k n => own3 N k n).map (·.n) = ns := by
  apply List.ext_getElem?
  intro i
  simp only [List.getElem?_map, List.getElem?_mapIdx, own3]
  cases ns[i]? <;> rfl
theorem okZ {n : Str} (h : n ∈ (["a", "_b", "c"] : List Str) ∨ n ∈ (["d", "a", "_e"] : List Str)) : n.length ≤ sizeLine := by
  have : n ∈ (["a", "_b", "c", "d", "a", "_e"] : List Str) := by
    simp only [List.mem_cons, List.not_mem_nil, or_false] at h ⊢
    rcases h with (h | h | h) | (h | h | h) <;> simp [h]
  have h2 : ∀ x ∈ (["a", "_b", "c", "d", "a", "_e"] : List Str), x.length ≤ sizeLine := by decide
  exact h2 n this

theorem okF_gen : ∀ (l : List Bool) (h : Bool), okF h l = (l.mapIdx fun k b => !b && (h || (l.take k).contains true)).all (!·)
  | [], h => rfl
  | b :: l, h => by
    rw [okF, okF_gen l (h || b), List.mapIdx_cons, List.all_cons]
    congr 1
    · cases h <;> cases b <;> rfl
    · congr 2
      funext k x
      cases h <;> cases b <;> simp
theorem okF_sound (l : List Bool) : okF false l = soundF l := by
  rw [okF_gen]
  unfold soundF
  simp
def toR (a : AtD) : Row4 := ⟨a.n, alN a, a.st, a.kw⟩
theorem places_toR (as : List AtD) : places (as.map toR) = ((as.filter fun a => !a.kw).map (·.st)) := by
  unfold places
  rw [List.filter_map, List.map_map]
  rfl
def A0 (E : List Row3) : List AtD := madeF "no" (fun _ => []) E
theorem A0_eq (E : List Row3) : A0 E = E.map fun r => aliased (ownA false r) := by
  unfold A0 madeF
  simp [show ("no" == ("force" : Str)) = false from by decide, show ("no" != ("no" : Str)) = false from by decide]
theorem A0_rows (E : List Row3) : (A0 E).map toR = E.map row0 := by
  rw [A0_eq, List.map_map]
  apply List.map_congr_left
  intro r _
  rcases r with ⟨n, st, _ | _ | _⟩ <;> rfl
def nmM (mode : Nat) : Option Bool → Bool
  | none => mode == 1
  | some b => b
def row1 (mode : Nat) (r : Row3) : Row4 := ⟨r.n, Txt.lstripChars r.n "_", r.st, mode == 2 || nmM mode r.nm⟩
def rows2 (E O : List Row3) (mode : Nat) : List Row4 := ((E.map row0).filter fun r => !(O.map (·.n)).contains r.n).map fun r => { r with kw := r.kw || mode == 2 }
def rows3 (E O : List Row3) (mode : Nat) : List Row4 := rows2 E O mode ++ O.map (row1 mode)
def base1 (E : List Row3) (Sf : Str → Bool) : List AtD := ((A0 E).filter fun a => !Sf a.n).map fun a => { a with inh := true }
def modeS (mode : Nat) : Str := Str.ofString (if decide (mode > 0) = true then if (mode == 2) = true then "force" else "yes" else "no")
def A1 (E O : List Row3) (mode : Nat) : List AtD := madeF (modeS mode) (base1 E) O
theorem modeS_cases {mode : Nat} (h : mode < 3) : (modeS mode == "force") = (mode == 2) ∧ (modeS mode != "no") = decide (mode > 0) := by
  have : mode = 0 ∨ mode = 1 ∨ mode = 2 := by omega
  rcases this with rfl | rfl | rfl <;> exact ⟨by decide, by decide⟩
theorem A1_eq (E O : List Row3) {mode : Nat} (h : mode < 3) : A1 E O mode =
    ((E.filter fun r => !(O.map (·.n)).contains r.n).map fun r => (⟨r.n, r.st, r.nm == some true || mode == 2, true, some (Txt.lstripChars r.n "_")⟩ : AtD)) ++
    O.map fun r => (⟨r.n, r.st, mode == 2 || r.nm.getD (decide (mode > 0)), false, some (Txt.lstripChars r.n "_")⟩ : AtD) := by
  obtain ⟨h1, h2⟩ := modeS_cases h
  unfold A1 madeF base1
  rw [A0_eq, List.filter_map, List.map_map, List.map_append, List.map_map, List.map_map, List.map_map, h1, h2]
  congr 1
  · apply List.map_congr_left
    intro r _
    rcases r with ⟨n, st, _ | _ | _⟩ <;> cases hm : (mode == 2) <;> simp [aliased, ownA, hm]
  · apply List.map_congr_left
    intro r _
    cases hm : (mode == 2) <;> simp [aliased, ownA]
theorem A1_rows (E O : List Row3) {mode : Nat} (h : mode < 3) : (A1 E O mode).map toR = rows3 E O mode := by
  rw [A1_eq E O h]
  unfold rows3 rows2
  rw [List.map_append, List.map_map, List.map_map, List.filter_map, List.map_map]
  congr 1
  apply List.map_congr_left
  intro r _
  have : mode = 0 ∨ mode = 1 ∨ mode = 2 := by omega
  rcases r with ⟨n, st, _ | _ | _⟩ <;> rcases this with rfl | rfl | rfl <;> rfl
theorem A1_inh (E O : List Row3) {mode : Nat} (h : mode < 3) : ∀ a ∈ A1 E O mode, a.inh = !(O.map (·.n)).contains a.n := by
  rw [A1_eq E O h]
  intro a ha
  rcases List.mem_append.mp ha with ha | ha
  · obtain ⟨r, hr, rfl⟩ := List.mem_map.mp ha
    exact (List.mem_filter.mp hr).2.symm
  · obtain ⟨r, hr, rfl⟩ := List.mem_map.mp ha
    have : (O.map (·.n)).contains r.n = true := by
      rw [List.contains_iff_mem]; exact List.mem_map_of_mem hr
    show false = !(O.map (·.n)).contains r.n
    rw [this]; rfl
theorem hook_rows (k : Nat) (as : List AtD) : (hookA k as).map toR = hookedR k (as.map toR) := by
  unfold hookA hookedR
  split
  · rw [List.map_reverse]
  split
  · rw [List.map_drop]
  split
  · rw [List.map_append, List.map_take, List.map_map, ← List.map_drop, List.map_map]; rfl
  split
  · rw [List.getLast?_map]
    cases as.getLast? with
    | none => rfl
    | some l => rw [Option.map_some, List.map_append, List.map_dropLast]; rfl
  · rfl
theorem hook_len (k : Nat) (as : List AtD) : (hookA k as).length ≤ as.length := by
  unfold hookA
  split
  · simp
  split
  · simp
  split
  · simp; omega
  split
  · cases h : as.getLast? with
    | none => exact Nat.le_refl _
    | some l =>
      cases as with
      | nil => cases h
      | cons a as => simp
  · exact Nat.le_refl _
theorem op_gtI {a b : Int} {t u : Tok} {prog : Program} {w : World} {A : Around} {E : Value → Shared → Prop} {s : Shared} {Q : Value → Shared → Prop} (h : Q (.bool (decide (b < a))) s) : wpAny (model prog w) A (compareOp .Gt (.int a t) (.int b u)) Q E s := PyProof.Rows.gt_int h
def six : List Str := ["a", "_b", "c", "d", "_e", "_new"]
theorem six_ok : ∀ x ∈ six, okN x ∧ PyData.strOk x = true ∧ PyData.strOk (Txt.lstripChars x "_") = true ∧ Txt.lstripChars x "_" ≠ "self" := by
  intro x hx
  simp only [six, List.mem_cons, List.not_mem_nil, or_false] at hx
  rcases hx with rfl | rfl | rfl | rfl | rfl | rfl <;> exact ⟨⟨by decide +kernel, by decide +kernel, by decide +kernel, by decide +kernel⟩, by decide +kernel, by decide +kernel, by decide +kernel⟩
theorem six_inj : ∀ x ∈ six, ∀ y ∈ six, Txt.lstripChars x "_" = Txt.lstripChars y "_" → x = y := by decide +kernel
/-- attributes whose second names go by their names -/
def Nm (a : AtD) : Prop := a.n ∈ six ∧ a.al = some (Txt.lstripChars a.n "_")
theorem Nm.okAl {a : AtD} (h : Nm a) : okAl a := ⟨_, h.2, (six_ok _ h.1).1.1, (six_ok _ h.1).1.2.2.1, (six_ok _ h.1).1⟩
theorem Nm.alN {a : AtD} (h : Nm a) : alN a = Txt.lstripChars a.n "_" := by unfold Mine.alN; rw [h.2]; rfl
theorem Nm.okS {a : AtD} (h : Nm a) : okS (toR a) := ⟨(six_ok _ h.1).2.1, by show PyData.strOk (Mine.alN a) = true; rw [h.alN]; exact (six_ok _ h.1).2.2.1⟩
theorem nodup_on {α β : Type} {f : α → β} : ∀ {l : List α}, (∀ x ∈ l, ∀ y ∈ l, f x = f y → x = y) → l.Nodup → (l.map f).Nodup
  | [], _, _ => List.nodup_nil
  | a :: l, h, hn => by
    rw [List.map_cons, List.nodup_cons]
    rw [List.nodup_cons] at hn
    refine ⟨fun hm => ?_, nodup_on (fun x hx y hy => h x (.tail _ hx) y (.tail _ hy)) hn.2⟩
    obtain ⟨b, hb, e⟩ := List.mem_map.mp hm
    have := h b (.tail _ hb) a (.head _) e
    rw [this] at hb
    exact hn.1 hb
theorem nodup_alN {as : List AtD} (h : ∀ a ∈ as, Nm a) (hn : (as.map (·.n)).Nodup) : (as.map alN).Nodup := by
  have e : as.map alN = (as.map (·.n)).map fun n => Txt.lstripChars n "_" := by
    rw [List.map_map]; exact List.map_congr_left fun a ha => (h a ha).alN
  rw [e]
  refine nodup_on (fun x hx y hy => ?_) hn
  obtain ⟨a, ha, rfl⟩ := List.mem_map.mp hx
  obtain ⟨b, hb, rfl⟩ := List.mem_map.mp hy
  exact six_inj _ (h a ha).1 _ (h b hb).1
def Nm5 (a : AtD) : Prop := Nm a ∧ a.n ≠ "_new"
theorem Nm.hook {k : Nat} {as : List AtD} (h : ∀ a ∈ as, Nm a) : ∀ a ∈ hookA k as, Nm a := by
  unfold hookA
  split
  · intro a ha; exact h a (List.mem_reverse.mp ha)
  split
  · intro a ha; exact h a (List.mem_of_mem_drop ha)
  split
  · intro a ha
    rcases List.mem_append.mp ha with ha | ha
    · exact h a (List.mem_of_mem_take ha)
    · obtain ⟨b, hb, rfl⟩ := List.mem_map.mp ha
      exact h b (List.mem_of_mem_drop hb)
  split
  · cases hg : as.getLast? with
    | none => exact h
    | some l =>
      intro a ha
      rcases List.mem_append.mp ha with ha | ha
      · exact h a ((List.dropLast_sublist _).subset ha)
      · rw [List.mem_singleton.mp ha]; exact ⟨show ("_new" : Str) ∈ six by decide, show some ("new" : Str) = some (Txt.lstripChars "_new" "_") by decide +kernel⟩
  · exact h
theorem okAl_hook {k : Nat} {as : List AtD} (h : ∀ a ∈ as, okAl a) : ∀ a ∈ hookA k as, okAl a := by
  unfold hookA
  split
  · intro a ha; exact h a (List.mem_reverse.mp ha)
  split
  · intro a ha; exact h a (List.mem_of_mem_drop ha)
  split
  · intro a ha
    rcases List.mem_append.mp ha with ha | ha
    · exact h a (List.mem_of_mem_take ha)
    · obtain ⟨b, hb, rfl⟩ := List.mem_map.mp ha
      exact h b (List.mem_of_mem_drop hb)
  split
  · cases hg : as.getLast? with
    | none => exact h
    | some l =>
      intro a ha
      rcases List.mem_append.mp ha with ha | ha
      · exact h a ((List.dropLast_sublist _).subset ha)
      · rw [List.mem_singleton.mp ha]; exact Nm.okAl (a := { l with n := "_new", al := some "new" }) ⟨show ("_new" : Str) ∈ six by decide, show some ("new" : Str) = some (Txt.lstripChars "_new" "_") by decide +kernel⟩
  · exact h
theorem base1_len (E : List Row3) (Sf : Str → Bool) : (base1 E Sf).length ≤ E.length := by
  unfold base1
  rw [List.length_map]
  exact Nat.le_trans (List.length_filter_le ..) (by rw [A0_eq, List.length_map]; exact Nat.le_refl _)
theorem nodup_hook {k : Nat} {as : List AtD} (h : ∀ a ∈ as, a.n ≠ "_new") (hn : (as.map (·.n)).Nodup) : ((hookA k as).map (·.n)).Nodup := by
  unfold hookA
  split
  · rw [List.map_reverse]; exact (List.reverse_perm _).nodup_iff.mpr hn
  split
  · rw [List.map_drop]; exact hn.sublist (List.drop_sublist _ _)
  split
  · rw [List.map_append, List.map_take, List.map_map, show ((fun a : AtD => a.n) ∘ fun a => { a with st := true }) = (fun a : AtD => a.n) from rfl, List.map_drop, List.take_append_drop]; exact hn
  split
  · cases hg : as.getLast? with
    | none => exact hn
    | some l =>
      show ((as.dropLast ++ [_]).map _).Nodup
      rw [List.map_append, List.nodup_append]
      refine ⟨hn.sublist ((List.dropLast_sublist _).map _), by simp, fun x hx y hy e => ?_⟩
      obtain ⟨a, ha, rfl⟩ := List.mem_map.mp hx
      rw [List.map_singleton, List.mem_singleton] at hy
      exact h a ((List.dropLast_sublist _).subset ha) (e.trans hy)
  · exact hn
theorem A1_nm {E O : List Row3} {mode : Nat} (h : mode < 3) (hE : ∀ r ∈ E, r.n ∈ (["a", "_b", "c"] : List Str)) (hO : ∀ r ∈ O, r.n ∈ (["d", "a", "_e"] : List Str)) : ∀ a ∈ A1 E O mode, Nm a ∧ a.n ≠ "_new" := by
  have h1 : ∀ x ∈ (["a", "_b", "c"] : List Str), x ∈ six ∧ x ≠ "_new" := by decide
  have h2 : ∀ x ∈ (["d", "a", "_e"] : List Str), x ∈ six ∧ x ≠ "_new" := by decide
  rw [A1_eq E O h]
  intro a ha
  rcases List.mem_append.mp ha with ha | ha
  · obtain ⟨r, hr, rfl⟩ := List.mem_map.mp ha
    have := h1 _ (hE r (List.mem_filter.mp hr).1)
    exact ⟨⟨this.1, rfl⟩, this.2⟩
  · obtain ⟨r, hr, rfl⟩ := List.mem_map.mp ha
    have := h2 _ (hO r hr)
    exact ⟨⟨this.1, rfl⟩, this.2⟩
theorem A0_nm {E : List Row3} (hE : ∀ r ∈ E, r.n ∈ (["a", "_b", "c"] : List Str)) : ∀ a ∈ A0 E, Nm a := by
  have h1 : ∀ x ∈ (["a", "_b", "c"] : List Str), x ∈ six := by decide
  rw [A0_eq]
  intro a ha
  obtain ⟨r, hr, rfl⟩ := List.mem_map.mp ha
  exact ⟨h1 _ (hE r hr), rfl⟩
theorem A0_names (E : List Row3) : (A0 E).map (·.n) = E.map (·.n) := by rw [A0_eq, List.map_map]; rfl
theorem A1_names (E O : List Row3) {mode : Nat} (h : mode < 3) : (A1 E O mode).map (·.n) = ((E.map (·.n)).filter fun n => !(O.map (·.n)).contains n) ++ O.map (·.n) := by
  rw [A1_eq E O h, List.map_append, List.map_map, List.map_map, List.filter_map]
  rfl
theorem A1_nodup {E O : List Row3} {mode : Nat} (h : mode < 3) (hE : (E.map (·.n)).Nodup) (hO : (O.map (·.n)).Nodup) : ((A1 E O mode).map (·.n)).Nodup := by
  rw [A1_names E O h, List.nodup_append]
  refine ⟨hE.sublist (List.filter_sublist), hO, fun x hx y hy e => ?_⟩
  have := (List.mem_filter.mp hx).2
  rw [e] at this
  have h2 : (O.map (·.n)).contains y = true := by rw [List.contains_iff_mem]; exact hy
  rw [h2] at this
  cases this
theorem A1_len {E O : List Row3} {mode : Nat} (h : mode < 3) : (A1 E O mode).length ≤ E.length + O.length := by
  rw [A1_eq E O h, List.length_append, List.length_map, List.length_map]
  exact Nat.add_le_add_right (List.length_filter_le ..) _
theorem base1_ok {E : List Row3} (hE : ∀ r ∈ E, r.n ∈ (["a", "_b", "c"] : List Str)) (Sf : Str → Bool) : ∀ a ∈ base1 E Sf, okAl a := by
  unfold base1
  intro a ha
  obtain ⟨b, hb, rfl⟩ := List.mem_map.mp ha
  exact (A0_nm hE b (List.mem_filter.mp hb).1).okAl
def tellD (N : List Str) (r : Row4) : PyData := .tuple [.str r.n, .str r.al, .bool (!N.contains r.n)]
theorem tell_rd {g : Heap} {N : List Str} : ∀ {ts : List Value} {as : List AtD}, Paired (TellOf g) ts as → (∀ a ∈ as, a.inh = !N.contains a.n) → Paired (rd g) ts ((as.map toR).map (tellD N))
  | _, _, .nil, _ => .nil
  | _, a :: _, .cons h t, hi => by
    refine .cons ?_ (tell_rd t fun b hb => hi b (.tail _ hb))
    obtain ⟨t, s1, s2, al, e1, rfl, ht⟩ := h
    have e2 : alN a = al := by unfold alN; rw [e1]; rfl
    have := rd_tup ht (.cons rd_str (.cons rd_str (.cons rd_bool .nil)))
    rw [hi a (.head _)] at this
    unfold tellD toR
    rw [e2]
    exact this
theorem tell_shaped {N : List Str} {rows : List Row4} (h : ∀ r ∈ rows, okS r) : SeqAt.shaped (.list [.list (rows.map (tellD N))]) = true := by
  have : rows.map (tellD N) = (rows.map fun r => [PyData.str r.n, .str r.al, .bool (!N.contains r.n)]).map .tuple := by rw [List.map_map]; rfl
  rw [this]
  refine shaped_ltups fun x hx d hd => ?_
  obtain ⟨r, hr, rfl⟩ := List.mem_map.mp hx
  simp only [List.mem_cons, List.not_mem_nil, or_false] at hd
  have f : ∀ {x : Str}, PyData.strOk x = true → flatD (.str x) = true := fun {x} h => by
    show PyData.canLay0 (.str x) = true
    simpa [PyData.canLay0] using h
  rcases hd with rfl | rfl | rfl
  · exact f (h r hr).1
  · exact f (h r hr).2
  · rfl
theorem neSame {c : Fx} {g : Heap} {m : Str → Option Value} {r : List (Addr × Obj)} {s : Shared} {A : Around} {E : Value → Shared → Prop} {prog : Program} {w : World} {a b : Value} {x : PyData} {Q : Value → Shared → Prop} (F : St c g m r s) (ha : rd g a x) (hb : rd g b x) (sa : SeqAt.shaped x = true) (hu : A.units + 64 < cLine) (h : Q (.bool false) s) : wpAny (model prog w) A (compareOp .NotEq a b) Q E s := by
  refine neRd F ha hb sa sa hu ?_
  rw [PySem.SeqAt.eqv_refl x (SeqAt.canLay_of_shaped sa)]
  exact h
theorem lenO {c : Fx} {g : Heap} {m : Str → Option Value} {r : List (Addr × Obj)} {s : Shared} {A : Around} {E : Value → Shared → Prop} {prog : Program} {w : World} {l : Addr} {vs : List Value} {n : Nat} {Q : Value → Shared → Prop} (F : St c g m ((l, listO vs n) :: r) s) (hz : vs.length ≤ sizeLine) (h : ∀ t s', St c g m ((l, listO vs n) :: r) s' → Q (.int (vs.length : Nat) t) s') : wpAny (model prog w) A (call (.builtin "len") [.ref l]) Q E s :=
  PyProof.Rows.len_list (items := vs.toArray) ⟨_, (F.own _ (.head _)).1, rfl, n, rfl⟩ (by
    rw [List.size_toArray]
    have : sizeLine < 2 ^ 63 := by decide
    omega) (by rw [List.size_toArray]; exact h _ _ F.toks)
/-- the place of a second name -/
def Vx (as : List AtD) (al : Str) : Int := ((as.map alN).idxOf al : Nat)
theorem idxOf_at {α : Type} [BEq α] [LawfulBEq α] : ∀ {l : List α} {i : Nat} {a : α}, l.Nodup → l[i]? = some a → l.idxOf a = i
  | [], _, _, _, h => by simp at h
  | b :: l, 0, a, _, h => by
    simp at h
    subst h
    rw [List.idxOf_cons]
    simp
  | b :: l, i + 1, a, hn, h => by
    rw [List.nodup_cons] at hn
    have h : l[i]? = some a := by simpa using h
    have hb : (b == a) = false := beq_eq_false_iff_ne.mpr fun e => hn.1 (by rw [e]; exact List.mem_of_getElem? h)
    rw [List.idxOf_cons, hb]
    simp [idxOf_at hn.2 h]
theorem Vx_at {as : List AtD} {i : Nat} {a : AtD} (hn : (as.map alN).Nodup) (h : as[i]? = some a) : Vx as (alN a) = i := by
  unfold Vx
  rw [idxOf_at hn (i := i) (by rw [List.getElem?_map, h]; rfl)]
theorem inj_of_nodup {α β : Type} {f : α → β} : ∀ {l : List α}, (l.map f).Nodup → ∀ a ∈ l, ∀ b ∈ l, f a = f b → a = b
  | [], _, _, h, _, _, _ => nomatch h
  | c :: l, hn, a, ha, b, hb, e => by
    rw [List.map_cons, List.nodup_cons] at hn
    rcases List.mem_cons.mp ha with h1 | h1 <;> rcases List.mem_cons.mp hb with h2 | h2
    · rw [h1, h2]
    · exact absurd (by rw [← h1, e]; exact List.mem_map_of_mem h2) hn.1
    · exact absurd (by rw [← h2, ← e]; exact List.mem_map_of_mem h1) hn.1
    · exact inj_of_nodup hn.2 a h1 b h2 e
theorem pjoin {α β γ : Type} {P : α → γ → Prop} {Q : β → γ → Prop} {R : α → β → Prop} : ∀ {xs : List α} {ys : List β} {zs : List γ}, Paired P xs zs → Paired Q ys zs → (∀ x y, ∀ z ∈ zs, P x z → Q y z → R x y) → Paired R xs ys
  | _, _, _, .nil, .nil, _ => .nil
  | _, _, _, .cons h t, .cons h2 t2, f => .cons (f _ _ _ (.head _) h h2) (pjoin t t2 fun x y z hz => f x y z (.tail _ hz))
theorem pkeys2 {α : Type} {P : Str × Value → α → Prop} {f : α → Str} (h : ∀ kv a, P kv a → kv.1 = f a) : ∀ {kvs : List (Str × Value)} {as : List α}, Paired P kvs as → kvs.map (·.1) = as.map f
  | _, _, .nil => rfl
  | _, _, .cons a t => by rw [List.map_cons, List.map_cons, h _ _ a, pkeys2 h t]
theorem pmemL {α β : Type} {P : α → β → Prop} : ∀ {xs : List α} {ys : List β} {x : α}, Paired P xs ys → x ∈ xs → ∃ y ∈ ys, P x y
  | _, _, _, .nil, h => nomatch h
  | _, _, _, .cons h t, hx => by
    rcases List.mem_cons.mp hx with rfl | hx
    · exact ⟨_, .head _, h⟩
    · obtain ⟨y, hy, hp⟩ := pmemL t hx
      exact ⟨y, .tail _ hy, hp⟩
theorem vAt {P : Value → AtD → Prop} {kvs : List (Str × Value)} {as : List AtD} {i : Nat} {a : AtD} (hp : Paired (fun (kv : Str × Value) a => kv.1 = a.n ∧ P kv.2 a) kvs as) (hn : (as.map (·.n)).Nodup) (ha : a ∈ as) : ∃ v, valueAt kvs a.n = some v ∧ P v a := by
  have hk := pkeys2 (f := fun a : AtD => a.n) (fun _ _ h => h.1) hp
  obtain ⟨j, hj⟩ := List.getElem?_of_mem ha
  have hl : j < kvs.length := by
    rw [← List.length_map (f := (·.1)), hk, List.length_map]
    exact (List.getElem?_eq_some_iff.mp hj).1
  obtain ⟨b, hb, h1, h2⟩ := pat hp (List.getElem?_eq_getElem hl)
  rw [hj] at hb
  cases hb
  refine ⟨_, ?_, h2⟩
  rw [← h1]
  exact valueAt_mem (by rw [hk]; exact hn) (List.getElem?_eq_getElem hl)
/-! local lines for the walk -/
local macro_rules | `(tactic| walk_at "gtI") => `(tactic| with_reducible refine op_gtI ?_)
/-! KindC -/
/-- an empty dict that is no made object's own -/
theorem InstF.notEmpty {c : Wd} {h : Heap} {x C H : Addr} {l : List (Str × Value)} {k : Str} {v : Value} (I : InstF h x C l) (hl : lk l k = some v) (hH : DK c h H []) : ∃ dx od, h.get? x = some (instObj C dx) ∧ h.get? dx = some od ∧ DictF od l 60 ∧ x ≠ H ∧ dx ≠ H := by
  obtain ⟨dx, od, h1, h2, D⟩ := I
  obtain ⟨o, ho, es, ep, hc, hd, hk, hp, hn⟩ := Heap.dictOf_iff.mp hH.1
  refine ⟨dx, od, h1, h2, D, fun e => ?_, fun e => ?_⟩
  · rw [e, ho] at h1
    cases h1
    cases hd
  · rw [e, ho] at h2
    cases h2
    obtain ⟨es2, n, rfl, _, _, hf⟩ := D
    have h3 := hf k
    rw [hl] at h3
    have h4 : es2.toArray = es := by
      have := hd
      simp only [dictOf, Data.dict.injEq] at this
      exact this.1
    have h5 : es2 = [] := by
      have := hp.length
      rw [← h4] at this
      exact List.length_eq_zero_iff.mp (by simpa using this)
    rw [h5] at h3
    cases h3
def wV (V : Str → Int) (S : List Str) (a : AtD) : Int := if alN a ∈ S then V (alN a) else 70
theorem call_spec {d : Wd} (G : Good d) {g : Heap} {x at' : Addr} {nm mro eqa oda : Value} {zs vs : List Value} {as : List AtD} {kvs : List (Str × Value)} {V : Str → Int} (I : InstF g x 135 (kindF nm mro (.ref at') eqa oda)) (hat : IsTup g at' zs.toArray) (hzs : Paired (At g) zs as) (hnn : (as.map (·.n)).Nodup) (haln : (as.map alN).Nodup) (hal : ∀ a ∈ as, ∃ s, a.al = some s ∧ PyData.strOk s = true) (hz : as.length ≤ 20)
    (hvl : vs.length ≤ (plA as).length) (hvs : ∀ (i : Nat) (v : Value), vs[i]? = some v → ∃ a t, (plA as)[i]? = some a ∧ v = .int (V (alN a)) t)
    (hkn : (kvs.map (·.1)).Nodup) (hkz : kvs.length ≤ 20) (hks : ("self" : Str) ∉ kvs.map (·.1)) (hkv : ∀ kv ∈ kvs, (∃ t, kv.2 = .int (V kv.1) t) ∧ kv.1 ∈ as.map alN ∧ kv.1 ∉ ((plA as).take vs.length).map alN)
    (hdef : ∀ a ∈ as, alN a ∉ ((plA as).take vs.length).map alN → alN a ∉ kvs.map (·.1) → a.st = true) :
    Calm d 40 (.ref 132) (.ref x :: vs) kvs g (fun v g' => ∃ xi Hd kv2, v = .ref xi ∧ InstF g' xi 206 [("held", .ref Hd), ("kind", .ref x)] ∧ DK d g' Hd kv2 ∧ Paired (fun (kv : Str × Value) a => kv.1 = a.n ∧ ∃ t, kv.2 = .int (wV V (((plA as).take vs.length).map alN ++ kvs.map (·.1)) a) t) kv2 as) := by
  have hvz : vs.length ≤ sizeLine := Nat.le_trans hvl (Nat.le_trans (List.length_filter_le ..) (Nat.le_trans hz (by decide)))
  refine calmV (n := 39) (fun g1 binds => ∃ t K, binds = ([("self", .ref x), ("args", .ref t), ("kwargs", .ref K)] : List (Str × Value)) ∧ IsTup g1 t vs.toArray ∧ DK d g1 K kvs) G.K G.base (by k_is) (by k_is)
    (bindAV G.base rfl rfl hks hkn (Nat.le_trans hkz (by decide)) hvz) (by decide) ?_ rfl rfl rfl ?_
  · rintro g1 binds ⟨t, K, rfl, _⟩ y hy
    simp only [List.mem_cons, List.not_mem_nil, or_false] at hy
    rcases hy with rfl | rfl | rfl <;> rfl
  rintro f g1 binds s s₁ env A hfd hR hh hfe hfg hfX hle0 ⟨ar, K, rfl, har, hK⟩ En hE F
  subst hfd
  have hB := G.base
  have F : St f g1 (lk [("kwargs", .ref K), ("args", .ref ar), ("self", .ref x)]) [] s₁ := F
  have I1 := I.le hle0
  walk_at "x1"
  walk_at "xan"
  walk_at "ec"
  walk_at "nG"
  walk_at "cw"
  walk_at "a1"
  walk_at "s1"
  walk_at "ea"
  walk_at "nL"
  walk_at "ga"
  walk_at "s1"
  walk_at "nL"
  walk_at "s1"
  walk_at "nL"
  walk_at "s0"
  walk_at "ko"
  walk_at "d"
  refine Calm.use (handed_spec G (hat.keeps hle0) (pAt_le hzs hle0) haln hal hz har hvl hvs hK hkn hkz hkv hdef) F (hR.le (by decide)) hh ?_
  rintro v2 g2 s2 hle2 ⟨H, hk, rfl, hH, hHV⟩ F
  walk_at "l"
  walk_at "x1"
  walk_at "xan"
  walk_at "ec"
  walk_at "nG"
  walk_at "cw"
  walk_at "a1"
  walk_at "s1"
  walk_at "nL"
  walk_at "s0"
  walk_at "ko"
  walk_at "d"
  refine Calm.use (made_spec G) F (hR.le (by decide)) hh ?_
  rintro v3 g3 s3 hle3 ⟨xi, Hd, rfl, hxi, hHd, hHn⟩ F
  obtain ⟨dx, odx, hx1, hx2, Dx, nx1, nx2⟩ := InstF.notEmpty (k := "held") hxi.inst rfl hHd
  obtain ⟨oH0, hoH, hdH⟩ := Heap.dictOf_iff.mp hHd.1
  have h02 : Le f.g0 g2 := by rw [hfg]; exact hle0.trans hle2
  obtain ⟨g4, l4, k4, n4, z4, F⟩ := F.thaw hoH (none_le h02 hHn) (DO.ord hdH)
  have hg24 : Le g2 g4 := fun b o e => k4 b o (fun z => by rw [z, hHn] at e; cases e) (hle3 b o e)
  have Ixi : InstF g4 xi 206 [("held", .ref Hd), ("kind", .ref x)] := ⟨dx, odx, k4 _ _ nx1 hx1, k4 _ _ nx2 hx2, Dx⟩
  have hg4 : Le g g4 := (hle0.trans hle2).trans hg24
  have hH4 := hH.le hg24
  have I4 := I.le hg4
  have hat4 := hat.keeps hg4
  have hzl : zs.length ≤ 20 := by rw [hzs.length]; exact hz
  generalize hS : ((plA as).take vs.length).map alN ++ kvs.map (·.1) = S at hHV
  walk_at "l"
  walk_at "x1"
  refine forE (fun _ _ => False) (fun _ => rfl) (fun _ _ z => z.elim) ?_
  walk_at "ea"
  walk_at "nL"
  walk_at "ga"
  walk_at "d"
  refine rdyTup (gB := g4) F (hnd0 hh) hat4 (Le.refl _) hat4 (hnd0 hh) fun it s' R => ?_
  refine ⟨_, _, _, _, _, [(Hd, oH0)], [], fun i g' l o => lk l "handed" = some (.ref H) ∧ lk l "inst" = some (.ref xi) ∧ lk l "self" = some (.ref x) ∧ ∃ oH kv, o = [(Hd, oH)] ∧ DO f.toWd oH kv ∧ Paired (fun (kv : Str × Value) (a : AtD) => kv.1 = a.n ∧ ∃ t, kv.2 = .int (wV V S a) t) kv (as.take i), R _ plainTgt_name, ⟨rfl, rfl, rfl, oH0, [], rfl, hdH, .nil⟩, ?_, ?_⟩
  · rintro i g5 g6 l o T2 s' v E' hi hle5 hle6 ⟨m1, m2, m3, oH, kv, rfl, hD, hI⟩ hP F hE'
    obtain ⟨a, ha, hat⟩ := pat hzs (by simpa using hP)
    obtain ⟨p, nt, Dv, alv, rfl, Ia, hDv, halv⟩ := (hat.le (hg4.trans (hle5.trans hle6))).inst
    obtain ⟨sa, hsa, _⟩ := hal a (List.mem_of_getElem? ha)
    obtain ⟨ta, rfl⟩ : ∃ t, alv = .str sa t := by rw [hsa] at halv; exact halv
    have hsn : alN a = sa := by unfold alN; rw [hsa]; rfl
    have hval : ∃ t, valueAt hk sa = some (.int (wV V S a) t) := by
      unfold wV
      rw [hsn]
      by_cases h : sa ∈ S
      · rw [if_pos h]; exact hHV.s sa h
      · rw [if_neg h]; exact hHV.d sa (by rw [← hsn]; exact List.mem_map_of_mem (List.mem_of_getElem? ha)) h
    obtain ⟨tv, hval⟩ := hval
    have hi20 : i < 20 := Nat.lt_of_lt_of_le (List.getElem?_eq_some_iff.mp ha).1 hz
    walk_at "as1"
    walk_at "l"
    walk_at "x1"
    walk_at "xif"
    walk_at "ta"
    walk_at "tn"
    walk_at "tp"
    walk_at "ea"
    walk_at "nL"
    walk_at "ga"
    walk_at "tb"
    walk_at "i0"
    walk_at "i0"
    walk_at "x0"
    walk_at "x1"
    walk_at "xan"
    walk_at "ei"
    walk_at "tp"
    walk_at "ea"
    walk_at "nL"
    walk_at "ga"
    walk_at "tb"
    walk_at "i1"
    walk_at "es"
    walk_at "nL"
    walk_at "ea"
    walk_at "nL"
    walk_at "ga"
    walk_at "d"
    refine subD F (DK.here hH4 (hle5.trans hle6) F) hval rfl fun s' F => ?_
    have Ixi6 := Ixi.le (hle5.trans hle6)
    have hkl : kv.length = i := by rw [hI.length, List.length_take]; have := (List.getElem?_eq_some_iff.mp ha).1; omega
    walk_at "l"
    walk_at "x1"
    walk_at "xif"
    walk_at "ta"
    walk_at "tc"
    walk_at "nL"
    walk_at "nG"
    walk_at "is2"
    walk_at "tb"
    walk_at "i0"
    walk_at "i0"
    walk_at "x1"
    walk_at "xif"
    walk_at "tc"
    walk_at "nL"
    walk_at "nG"
    walk_at "is2"
    walk_at "tb"
    walk_at "i0"
    walk_at "x0"
    walk_at "x0"
    walk_at "x1"
    walk_at "xif"
    walk_at "ta"
    walk_at "tc"
    walk_at "ea"
    walk_at "nL"
    walk_at "ga"
    walk_at "kn"
    walk_at "is4"
    walk_at "tb"
    walk_at "i0"
    walk_at "i0"
    walk_at "x1"
    walk_at "xif"
    walk_at "tc"
    walk_at "ea"
    walk_at "nL"
    walk_at "ga"
    walk_at "kn"
    walk_at "is4"
    walk_at "tb"
    walk_at "i0"
    walk_at "x0"
    walk_at "x0"
    walk_at "x1"
    walk_at "xas"
    walk_at "nL"
    walk_at "ea"
    walk_at "nL"
    walk_at "ga"
    walk_at "ea"
    walk_at "nL"
    walk_at "ga"
    walk_at "d"
    refine setD F hD (by rw [hkl]; exact Nat.le_trans (Nat.le_of_lt hi20) (by decide)) fun oH' s' hD' F => ?_
    walk_at "x0"
    walk_at "d"
    refine ⟨g6, ("value", .int (wV V S a) tv) :: ("a", .ref p) :: l, [(Hd, oH')], hle5.trans hle6, ⟨m1, m2, m3, oH', _, rfl, hD', ?_⟩, F⟩
    have hkeys : kv.map (·.1) = (as.take i).map (·.n) := pkeys (fun kv (a : AtD) h => h.1) hI
    rw [stored_fresh (by rw [hkeys]; exact notin_take hnn ha), take_snoc ha]
    exact psnoc hI ⟨rfl, tv, rfl⟩
  rintro g5 l5 o5 s5 hle5 ⟨m1, m2, m3, oH, kv, rfl, hD, hI⟩ F
  walk_at "x1"
  walk_at "xif"
  walk_at "tc"
  walk_at "nG"
  walk_at "kb"
  walk_at "is1"
  walk_at "tb"
  walk_at "i1"
  walk_at "x1"
  refine forE (fun _ _ => False) (fun _ => rfl) (fun _ _ z => z.elim) ?_
  have I5 := I4.le hle5
  have hat5 := hat4.keeps hle5
  walk_at "ea"
  walk_at "nL"
  walk_at "ga"
  walk_at "d"
  refine rdyTup (gB := g5) F (hnd0 hh) hat5 (Le.refl _) hat5 (hnd0 hh) fun it s' R => ?_
  refine ⟨_, _, _, _, _, [(Hd, oH)], [], fun i g' l o => o = [(Hd, oH)] ∧ lk l "inst" = some (.ref xi), R _ plainTgt_name, ⟨rfl, m2⟩, ?_, ?_⟩
  · rintro i g6 g7 l o T2 s' v E' hi hle6 hle7 ⟨rfl, m2⟩ hP F hE'
    obtain ⟨a, ha, hat⟩ := pat hzs (by simpa using hP)
    obtain ⟨p, nt, Dv, alv, rfl, Ia, hDv, halv⟩ := (hat.le (hg4.trans (hle5.trans (hle6.trans hle7)))).inst
    walk_at "as1"
    walk_at "l"
    walk_at "x1"
    walk_at "xif"
    walk_at "ta"
    walk_at "tp"
    walk_at "ea"
    walk_at "nL"
    walk_at "ga"
    walk_at "t0"
    walk_at "i0"
    walk_at "i0"
    walk_at "x0"
    walk_at "x0"
    walk_at "d"
    exact ⟨g7, ("a", .ref p) :: l, [(Hd, oH)], hle6.trans hle7, ⟨rfl, m2⟩, F⟩
  rintro g6 l6 o6 s6 hle6 ⟨rfl, m2⟩ F
  walk_at "x0"
  walk_at "x1"
  walk_at "xret"
  walk_at "nL"
  walk_at "d"
  have F := (F.perm (by rw [List.append_nil]) : St f _ _ [(Hd, oH)] _)
  obtain ⟨g7, l7, hDK, F⟩ := F.freezeD hD hHd.2 (by rw [hfX]; exact fun h => nomatch h)
  refine back F hfe hfg hfX ⟨xi, Hd, kv, rfl, Ixi.le (hle5.trans (hle6.trans l7)), hDK, ?_⟩
  rw [List.size_toArray, hzs.length, List.take_length] at hI
  exact hI
/-! Called -/
theorem instAt {K0 : Frag} {g : Heap} {x C : Addr} {l : List (Str × Value)} (I : InstF g x C l) {h : Heap} (k : Le g h) : ∃ dx od, InstAt h x (instObj C dx) C (some od) := by
  obtain ⟨dx, od, h1, h2, _⟩ := I
  exact ⟨dx, od, PySem.W.InstAt.mk (k _ _ h1) rfl rfl (k _ _ h2)⟩
theorem Calm.inst {d : Wd} {K0 : Frag} {n : Nat} {x C fn : Addr} {l : List (Str × Value)} {pos : List Value} {kw : List (Str × Value)} {g : Heap} {Q : Value → Heap → Prop} (hK : d.K = K0) (hB : Base d) (Cm : Calm d n (.ref fn) (.ref x :: pos) kw g Q) (I : InstF g x C l)
    (hs : findIn K0 (.ref C) "__call__" = some (some (.ref fn))) (hf : isFn K0 (.ref fn) = true) (hfn : fnIn K0 fn = true) : Calm d n (.ref x) pos kw g Q := fun A s hR hh W => by
  subst hK
  obtain ⟨dx, od, ia⟩ := instAt (K0 := d.K) I W.sub
  exact kco_code (hB.K.keeps (W.base.trans W.sub)) ia rfl hs hf hfn (Cm A s hR hh W)
theorem called_spec {d : Wd} (G : Good d) {g : Heap} {x lst K : Addr} {l : List (Str × Value)} {vs : List Value} {kvs : List (Str × Value)} {Q : Value → Heap → Prop} (I : InstF g x 135 l) (hl : g.IsList lst vs.toArray) (hvz : vs.length ≤ sizeLine) (hK : DK d g K kvs) (hz : kvs.length ≤ sizeLine)
    (C : ∀ g', Le g g' → Calm d 40 (.ref 132) (.ref x :: vs) kvs g' Q) : Calm d 42 (.ref 457) [.ref x, .ref lst, .ref K] [] g Q := by
  refine calmK (n := 41) (binds := [("thing", .ref x), ("values", .ref lst), ("names", .ref K)]) (bs := [("names", .ref K), ("values", .ref lst), ("thing", .ref x)]) G.K G.base (by k_is) (by k_is) (binds_eq (by kernel_rfl)) rfl (by decide) rfl rfl rfl rfl ?_
  intro f s s₁ env A hfd hR hh hfe hfg hfX En hE F
  subst hfd
  have hB := G.base
  walk_at "x1"
  walk_at "xret"
  walk_at "ec"
  walk_at "nL"
  walk_at "d"
  refine star_call hB F hl hvz hK hz (fun r' s₂ Q' F2 h => ?_) (fun r' s₂ Q' F2 h => ?_) (fun s₂ F2 => ?_) fun s₂ F2 => ?_
  · refine wpAny_bind ?_
    walk_at "nL"
    exact wpAny_bind (wpAny_standAt (wpAny_pure (h _ F2)))
  · refine wpAny_bind ?_
    walk_at "nL"
    exact wpAny_bind (wpAny_standAt (wpAny_pure (h _ F2)))
  · obtain ⟨dx, od, ia⟩ := instAt (K0 := f.K) I F2.sub
    exact kco_keeper ia rfl
  · refine Calm.use (Calm.inst G.K G.base (C g (Le.refl _)) I (by k_is) (by k_is) (by k_is)) F2 (hR.le (by decide)) hh ?_
    intro v g3 s3 l3 hQ F
    exact back F hfe hfg hfX hQ
/-! AsDict -/
theorem fields2_spec {d : Wd} (G : Good d) {g : Heap} {xi x Hd at' : Addr} {nm mro eqa orda : Value} (I : InstF g xi 206 [("held", .ref Hd), ("kind", .ref x)]) (I2 : InstF g x 135 (kindF nm mro (.ref at') eqa orda)) : Calm d 6 (.ref 250) [.ref xi] [] g (fun v _ => v = .ref at') := by
  refine calmK (n := 5) (binds := [("cls", .ref xi)]) (bs := [("cls", .ref xi)]) G.K G.base (by k_is) (by k_is) (binds_eq (by kernel_rfl)) rfl (by decide) rfl rfl rfl rfl ?_
  intro f s s₁ env A hfd hR hh hfe hfg hfX En hE F
  subst hfd
  have hB := G.base
  obtain ⟨dx, od, hx, _⟩ := id I
  walk_at "x1"
  walk_at "xif"
  walk_at "tp"
  walk_at "ec"
  walk_at "nB"
  walk_at "cw"
  walk_at "a1"
  walk_at "s1"
  walk_at "nL"
  walk_at "s1"
  walk_at "nG"
  walk_at "s0"
  walk_at "ko"
  walk_at "d"
  refine isiT hB G.K F hx (by kernel_rfl) ?_
  walk_at "tb"
  walk_at "i1"
  walk_at "x1"
  walk_at "xret"
  walk_at "ec"
  walk_at "nG"
  walk_at "cw"
  walk_at "a1"
  walk_at "s1"
  walk_at "ea"
  walk_at "nL"
  walk_at "ga"
  walk_at "s0"
  walk_at "ko"
  walk_at "d"
  refine Calm.use (fields_spec G I2 rfl) F (hR.le (by decide)) hh ?_
  rintro v g2 s2 l2 rfl F
  exact back F hfe hfg hfX rfl
theorem asdict_spec {d : Wd} (G : Good d) {g : Heap} {xi x Hd at' : Addr} {nm mro eqa oda : Value} {zs : List Value} {as : List AtD} {kv2 : List (Str × Value)} {W : AtD → Int} (I : InstF g xi 206 [("held", .ref Hd), ("kind", .ref x)]) (I2 : InstF g x 135 (kindF nm mro (.ref at') eqa oda)) (hat : IsTup g at' zs.toArray) (hzs : Paired (At g) zs as) (hnn : (as.map (·.n)).Nodup) (hz : as.length ≤ 20)
    (hH : DK d g Hd kv2) (hkv : Paired (fun (kv : Str × Value) a => kv.1 = a.n ∧ ∃ t, kv.2 = .int (W a) t) kv2 as) :
    Calm d 40 (.ref 484) [.ref xi] [] g (fun v g' => ∃ R kv3, v = .ref R ∧ DK d g' R kv3 ∧ Paired (fun (kv : Str × Value) a => kv.1 = a.n ∧ ∃ t, kv.2 = .int (W a) t) kv3 as) := by
  refine calmVC (n := 39) (fun g1 D => DK d g1 D []) (fun D => [("inst", .ref xi), ("recurse", .bool true), ("wanted", .none), ("dict_factory", .type "dict"), ("retain_collection_types", .bool false), ("value_serializer", .none), ("named", .ref D)])
    (fun D => [("named", .ref D), ("recurse", .bool true), ("inst", .ref xi)]) (fun D => [("value_serializer", .none), ("retain_collection_types", .bool false), ("dict_factory", .type "dict"), ("wanted", .none)]) G.K G.base (by k_is) (by k_is)
    (fun s A E Q W hQ => bindsKw (ex := []) (front := [("inst", .ref xi), ("recurse", .bool true), ("wanted", .none), ("dict_factory", .type "dict"), ("retain_collection_types", .bool false), ("value_serializer", .none)]) (nm := "named")
      (g₁ := fun D => (forIn ([] : List (Str × Value)) PUnit.unit (fun x _ => (nsSet D x.1 x.2 >>= fun _ => pure (ForInStep.yield PUnit.unit))) >>= fun _ => pure (([("inst", .ref xi), ("recurse", .bool true), ("wanted", .none), ("dict_factory", .type "dict"), ("retain_collection_types", .bool false), ("value_serializer", .none)] : List (Str × Value)) ++ [(("named" : Str), Value.ref D)])))
      G.K G.base (by kernel_rfl) (fun D => rfl) List.nodup_nil s A E Q W (fun binds g1 s1 B h => by obtain ⟨D, e, hD⟩ := h; subst e; exact hQ D g1 s1 B hD))
    (fun D L => by kernel_rfl) (fun D => by kernel_rfl) (fun D => by kernel_rfl) (by decide) rfl rfl rfl ?_
  intro f D g1 s s₁ env A co hfd hR hh hfe hfg hfX hle0 hD En hE hC F
  subst hfd
  have hB := G.base
  have hX : f.X = [] := hfX
  obtain ⟨o5, _, rfl, h5, o4, _, rfl, h4, o3, _, rfl, h3, o2, _, rfl, h2, o1, _, rfl, h1, rfl⟩ := hC
  have nX : ∀ a, a ∉ f.X := fun a h => by rw [hX] at h; cases h
  have hgc : f.g0.get? (f.L + 1) = none := by
    rw [hfg]
    exact none_le hle0 (F.own (f.L + 1, o1) (.tail _ (.tail _ (.tail _ (.tail _ (.head _)))))).2.1
  obtain ⟨g2, l2, k5, F⟩ := F.freeze1 (nX _)
  obtain ⟨g3, l3, k4, F⟩ := F.freeze1 (nX _)
  obtain ⟨g4, l4, k3, F⟩ := F.freeze1 (nX _)
  obtain ⟨g5, l5, k2, F⟩ := F.freeze1 (nX _)
  obtain ⟨g6, l6, k1, F⟩ := F.freeze1 (nX _)
  have hc4 : g6.IsCell (f.L + 4) (some .none) := ⟨_, (l4.trans (l5.trans l6)) _ _ k4, h4⟩
  have hc2 : g6.IsCell (f.L + 2) (some (.type "dict")) := ⟨_, l6 _ _ k2, h2⟩
  have hc1 : g6.IsCell (f.L + 1) (some .none) := ⟨_, k1, h1⟩
  have hg16 : Le g1 g6 := l2.trans (l3.trans (l4.trans (l5.trans l6)))
  have hg6 : Le g g6 := hle0.trans hg16
  have hD6 := hD.le hg16
  walk_at "x1"
  walk_at "xan"
  walk_at "ec"
  walk_at "nG"
  walk_at "cw"
  walk_at "a1"
  walk_at "s1"
  walk_at "nL"
  walk_at "s0"
  walk_at "ko"
  walk_at "d"
  refine Calm.use (fields2_spec G (I.le hg6) (I2.le hg6)) F (hR.le (by decide)) hh ?_
  rintro v g7 s7 l7 rfl F
  walk_at "l"
  walk_at "x1"
  walk_at "xan"
  walk_at "ec"
  walk_at "nC"
  walk_at "cw"
  walk_at "a0"
  walk_at "ko"
  walk_at "d"
  refine callDict0 hB F fun R oR s8 hRm hR0 F hRn => ?_
  have hg67 : Le g6 g7 := by assumption
  walk_at "l"
  walk_at "x1"
  walk_at "xan"
  walk_at "ec"
  walk_at "nG"
  walk_at "cw"
  walk_at "a1"
  walk_at "s1"
  walk_at "nC"
  walk_at "s1"
  walk_at "nL"
  walk_at "s0"
  walk_at "ko"
  walk_at "d"
  refine Calm.use (wanted_spec G (hD6.le hg67)) F (hR.le (by decide)) hh ?_
  rintro v8 g8 s9 l8 rfl F
  obtain ⟨oc, hoc, hdc⟩ := hc1.keeps (hg67.trans l8)
  obtain ⟨g9, l9, k9, n9, z9, F⟩ := F.thaw hoc hgc (cell_ord hdc)
  have hc4 : g9.IsCell (f.L + 4) (some .none) := by
    obtain ⟨o, e1, e2⟩ := hc4.keeps (hg67.trans l8)
    exact ⟨o, k9 _ _ (fun z => absurd (Nat.add_left_cancel (z : f.L + 4 = f.L + 1)) (by decide)) e1, e2⟩
  refine stC En F hdc rfl (nX _) fun g10 s10 l10 hc1 F => ?_
  have hg10 : Le g g10 := by rw [← hfg]; exact z9.trans l10
  have hc4 := hc4.keeps l10
  have I := I.le hg10
  have hH := hH.le hg10
  have hat10 := hat.keeps hg10
  have hzl : zs.length ≤ 20 := by rw [hzs.length]; exact hz
  walk_at "x1"
  refine forE (fun _ _ => False) (fun _ => rfl) (fun _ _ z => z.elim) ?_
  walk_at "nL"
  walk_at "d"
  refine rdyTup (gB := g10) F (hnd0 hh) hat10 (Le.refl _) hat10 (hnd0 hh) fun it s' Rd => ?_
  refine ⟨_, _, _, _, _, [(R, oR)], [], fun i g' l o => lk l "rv" = some (.ref R) ∧ lk l "inst" = some (.ref xi) ∧ lk l "recurse" = some (.bool true) ∧ ∃ oR kv, o = [(R, oR)] ∧ DO f.toWd oR kv ∧ Paired (fun (kv : Str × Value) (a : AtD) => kv.1 = a.n ∧ ∃ t, kv.2 = .int (W a) t) kv (as.take i), Rd _ plainTgt_name, ⟨rfl, rfl, rfl, oR, [], rfl, hR0, .nil⟩, ?_, ?_⟩
  · rintro i g11 g12 l o T2 s' v E' hi hle11 hle12 ⟨m1, m2, m3, oR, kv, rfl, hD, hI⟩ hP F hE'
    obtain ⟨a, ha, hat⟩ := pat hzs (by simpa using hP)
    obtain ⟨p, nt, Dv, alv, rfl, Ia, hDv, halv⟩ := (hat.le (hg10.trans (hle11.trans hle12))).inst
    obtain ⟨kx, hkx, hk1, tv, hk2⟩ := pat' hkv ha
    have hkeys2 : kv2.map (·.1) = as.map (·.n) := pkeys (fun kv (a : AtD) h => h.1) hkv
    have hval : valueAt kv2 a.n = some (.int (W a) tv) := by
      rw [← hk1, ← hk2]
      exact valueAt_mem (by rw [hkeys2]; exact hnn) hkx
    have hi20 : i < 20 := Nat.lt_of_lt_of_le (List.getElem?_eq_some_iff.mp ha).1 hz
    have hc1 := hc1.keeps (hle11.trans hle12)
    have hc4 := hc4.keeps (hle11.trans hle12)
    have I := I.le (hle11.trans hle12)
    walk_at "as1"
    walk_at "l"
    walk_at "x1"
    walk_at "xan"
    walk_at "es"
    walk_at "ea"
    walk_at "nL"
    walk_at "ga"
    walk_at "ea"
    walk_at "nL"
    walk_at "ga"
    walk_at "d"
    refine subD F (DK.here hH (hle11.trans hle12) F) hval rfl fun s' F => ?_
    walk_at "l"
    walk_at "x1"
    walk_at "xif"
    walk_at "ta"
    walk_at "tc"
    walk_at "nC"
    walk_at "kn"
    walk_at "is4"
    walk_at "tb"
    walk_at "i0"
    walk_at "i0"
    walk_at "x0"
    walk_at "x1"
    walk_at "xif"
    walk_at "tc"
    walk_at "nC"
    walk_at "kn"
    walk_at "is4"
    walk_at "tb"
    walk_at "i0"
    walk_at "x0"
    walk_at "x1"
    walk_at "xif"
    walk_at "tc"
    walk_at "nL"
    walk_at "kb"
    walk_at "is1"
    walk_at "tb"
    walk_at "i1"
    walk_at "x1"
    walk_at "xif"
    walk_at "tp"
    walk_at "ec"
    walk_at "nG"
    walk_at "cw"
    walk_at "a1"
    walk_at "s1"
    walk_at "nL"
    walk_at "s0"
    walk_at "ko"
    walk_at "d"
    refine Calm.use (atomic_spec G) F (hR.le (by decide)) hh ?_
    rintro v13 g13 s13 l13 rfl F
    walk_at "tb"
    walk_at "i1"
    walk_at "x1"
    walk_at "xas"
    walk_at "nL"
    walk_at "nL"
    walk_at "ea"
    walk_at "nL"
    walk_at "ga"
    walk_at "d"
    have hkl : kv.length = i := by rw [hI.length, List.length_take]; have := (List.getElem?_eq_some_iff.mp ha).1; omega
    refine setD F hD (by rw [hkl]; exact Nat.le_trans (Nat.le_of_lt hi20) (by decide)) fun oR' s' hD' F => ?_
    walk_at "x0"
    walk_at "x0"
    walk_at "x0"
    walk_at "d"
    refine ⟨g13, ("v", .int (W a) tv) :: ("a", .ref p) :: l, [(R, oR')], hle11.trans (hle12.trans l13), ⟨m1, m2, m3, oR', _, rfl, hD', ?_⟩, F⟩
    have hkeys : kv.map (·.1) = (as.take i).map (·.n) := pkeys (fun kv (a : AtD) h => h.1) hI
    rw [stored_fresh (by rw [hkeys]; exact notin_take hnn ha), take_snoc ha]
    exact psnoc hI ⟨rfl, tv, rfl⟩
  rintro g11 l11 o11 s11 hle11 ⟨m1, m2, m3, oR, kv, rfl, hD, hI⟩ F
  walk_at "x1"
  walk_at "xret"
  walk_at "nL"
  walk_at "d"
  have F := (F.perm (by rw [List.append_nil]) : St f _ _ [(R, oR)] _)
  obtain ⟨g12, l12, hDK, F⟩ := F.freezeD hD hRm (nX _)
  refine back F hfe hfg hfX ⟨R, kv, rfl, hDK, ?_⟩
  rw [List.size_toArray, hzs.length, List.take_length] at hI
  exact hI
/-! Law -/
def CalmT (d : Wd) (n : Nat) (f : Value) (pos : List Value) (kw : List (Str × Value)) (g : Heap) (Q : Value → Heap → Prop) : Prop :=
  ∀ A s, Room A n → A.handled = none → A.frames = some [] → Wo d g [] s → codeAny (model d.prog d.w) A (.call f ⟨pos, kw⟩) (fun r s' => ∃ v g', r = .ok (.ret v) ∧ Post d g [] s g' [] s' ∧ Q v g') s
theorem calmT {d : Wd} {K0 : Frag} {n : Nat} {g : Heap} {Q : Value → Heap → Prop} {a : Addr} {name qual : Str} {params : Arguments} {body : List Stmt} {scope : Scope} {dV kV doc pm cdv ct oc : Value} {an od : Option Addr} {osl : Array (Option Value)} {pos : List Value} {kw : List (Str × Value)} {binds lbs cbs : List (Str × Value)}
    (hK : d.K = K0) (hB : Base d) (ho : K0.lookup a = some ⟨oc, od, .func (fnX name qual params body scope [] dV kV doc pm an cdv ct), osl⟩) (hcd : codeIn K0 cdv qual = true)
    (hbind : ∀ s : Shared, Le d.B s.heap → BindsTo s (fnX name qual params body scope [] dV kV doc pm an cdv ct) ⟨pos, kw⟩ binds)
    (hkind : ∀ L, (binds.all fun x => decide (scope.names.lookup x.1 = some .local) || (decide (scope.names.lookup x.1 = some .cell) && ((cellsFrom L scope.names []).lookup x.1).isSome)) = true)
    (hl : (binds.filter fun x => decide (scope.names.lookup x.1 = some .local)).reverse = lbs) (hc : (binds.filter fun x => !decide (scope.names.lookup x.1 = some .local)).reverse = cbs)
    (hnd : ((cellsFrom 0 scope.names []).map (·.1)).Nodup)
    (hco : scope.isCoroutine = false) (hgen : scope.isGenerator = false) (hk : scope.kind = .function)
    (h : ∀ (f : Fx) s s₁ env A co, f.toWd = d → Room A n → A.handled = none → A.frames = some [env] → f.e = s.heap → f.g0 = g → f.X = ([] : List (Addr × Obj)).map (·.1) → EnvOk env scope f.L (cellsFrom (f.L + 1) scope.names []) cdv → env = envX qual scope f.L a cdv (cellsFrom (f.L + 1) scope.names []) →
      CellsAt (cellsFrom (f.L + 1) scope.names []) (lk cbs) co → St f g (lk lbs) co s₁ →
      wpAny (model d.prog d.w) A (execs body env) (fun fl s' => ∃ v' g', (Except.ok (Flow.ret (match fl with | .ret v => v | _ => .none)) : Result) = .ok (.ret v') ∧ Post d g [] s g' [] s' ∧ Q v' g') (fun _ _ => False) s₁) : CalmT d (n + 1) (.ref a) pos kw g Q := by
  intro A s hR hh hfr W
  refine enterCell hK hB W hR.depth ho hcd (hbind s (W.base.trans W.sub)) hkind hl hc hnd hco hgen hk fun f s₁ env co e1 e2 e3 e4 En hE hC F => ?_
  rw [List.append_nil] at F
  subst hE
  exact wpAny_mono (h f s s₁ _ (A.deeper _) co e1 hR.deeper hh (Around.frames_deeper hfr) e2 e3 e4 En rfl hC F) (fun _ _ z => z) fun _ _ z => z.elim

theorem Calm.up {d : Wd} {n k : Nat} {f : Value} {pos : List Value} {kw : List (Str × Value)} {g : Heap} {Q : Value → Heap → Prop} (C : Calm d n f pos kw g Q) (h : n ≤ k) : Calm d k f pos kw g Q := fun A s hR => C A s (hR.le h)
theorem CalmB.up {d : Wd} {n k : Nat} {f : Value} {pos : List Value} {kw : List (Str × Value)} {g : Heap} {B : List (Addr × Obj)} {Q : Value → Heap → List (Addr × Obj) → Prop} (C : CalmB d n f pos kw g B Q) (h : n ≤ k) : CalmB d k f pos kw g B Q := fun A s hR => C A s (hR.le h)
theorem isnrs {M : Model} {A : Around} {E : Value → Shared → Prop} {s : Shared} {a : Addr} {Q : Value → Shared → Prop} (h : Q (.bool false) s) : wpAny M A (compareOp .IsNot (.ref a) (.ref a)) Q E s := by
  show wpAny M A (do return Value.bool (!(← isSame (.ref a) (.ref a)))) Q E s
  unfold isSame
  simp only [beq_self_eq_true, if_true]
  exact wpAny_bind (wpAny_pure (wpAny_pure h))
theorem law_spec {d : Wd} (G : Good d) {g : Heap} {l : Addr} {xs : List (Int × Tok)} (hl : g.IsList l (xs.map iv).toArray) (hz : xs.length ≤ 63) : CalmT d 95 (.ref 523) [.ref l] [] g (fun v _ => v = .bool true) := by
  refine calmT (n := 94) (binds := [("script", .ref l)]) (lbs := [("script", .ref l)]) (cbs := [])
    G.K G.base (by k_is) (by k_is) (binds_eq (by kernel_rfl)) (fun L => by kernel_rfl) (by kernel_rfl) (by kernel_rfl) (by decide) rfl rfl rfl ?_
  intro f s s₁ env A co hfd hR hh hfr hfe hfg hfX En hE hC F
  subst hfd
  have hB := G.base
  obtain ⟨o1, _, rfl, ho1, o2, _, rfl, ho2, o3, _, rfl, ho3, o4, _, rfl, ho4, o5, _, rfl, ho5, o6, _, rfl, ho6, rfl⟩ := hC
  have F : St f g _ [(f.L + 6, o1), (f.L + 5, o2), (f.L + 4, o3), (f.L + 3, o4), (f.L + 2, o5), (f.L + 1, o6)] s₁ := F
  walk_at "x1"
  walk_at "xan"
  walk_at "eb"
  walk_at "slc"
  walk_at "nL"
  walk_at "ev"
  walk_at "ev"
  walk_at "ki"
  walk_at "d"
  refine ⟨_, _, _, _, l, _, none, some 5, rfl, F, hl, by rw [List.size_toArray, List.length_map]; exact Nat.le_trans hz (by decide), .none, .int _ _, fun g2 t2 s2 l2 ht2 F => ?_⟩
  rw [show (some (5 : Int)) = some ((5 : Nat) : Int) from rfl, slicePick_upto'] at ht2
  walk_at "slv"
  walk_at "el"
  walk_at "s1"
  walk_at "ki"
  walk_at "s1"
  walk_at "ki"
  walk_at "s1"
  walk_at "ki"
  walk_at "s1"
  walk_at "ki"
  walk_at "s1"
  walk_at "ki"
  walk_at "s0"
  walk_at "lst"
  have hlq := ht
  walk_at "ev"
  walk_at "ec"
  walk_at "nB"
  walk_at "cw"
  walk_at "a1"
  walk_at "s1"
  walk_at "nL"
  walk_at "s0"
  walk_at "ko"
  walk_at "d"
  refine lenL F (IsList_le hl (by walk_at "le")) (by rw [List.length_map]; exact Nat.le_trans hz (by decide)) fun t3 s3 F => ?_
  walk_at "ev"
  refine ⟨_, _, _, _, _, _, some (((xs.map iv).length : Nat) : Int), none, rfl, F, hlq, by show (5 : Nat) ≤ sizeLine; decide, .int _ _, .none, fun g4 t4 s4 l4 ht4 F => ?_⟩
  rw [slicePick_from'] at ht4
  refine addL (vs := (xs.map iv).take 5) F (IsList_le (by simpa using ht2) (by walk_at "le")) (by simpa using ht4) (by simp only [List.length_take, List.length_map, List.length_drop, List.length_cons, List.length_nil]; exact Nat.le_trans (show _ ≤ 10 by omega) (by decide)) fun g5 t5 s5 l5 ht5 _ F => ?_
  obtain ⟨p0, p1, p2, p3, p4, e5⟩ := five xs _ _ _ _ _ _ _ _ _ _
  rw [e5] at ht5
  walk_at "l"
  walk_at "x1"
  walk_at "xatE"
  walk_at "et"
  walk_at "s1"
  walk_at "ec"
  walk_at "nG"
  walk_at "cw"
  walk_at "a1"
  walk_at "s1"
  walk_at "eb"
  walk_at "es"
  walk_at "nL"
  walk_at "ki"
  walk_at "d"
  refine sub_list F ht5 0 rfl rfl (by show (5 : Nat) < 2 ^ 63; decide) rfl ?_
  walk_at "ki"
  refine op_modI F 216 (by decide) fun N0 _ _ hN0 F => ?_
  walk_at "s1"
  walk_at "slv"
  walk_at "el"
  walk_at "s1"
  walk_at "ks"
  walk_at "s1"
  walk_at "ks"
  walk_at "s1"
  walk_at "ks"
  walk_at "s0"
  walk_at "lst"
  have hlA := ht
  walk_at "ev"
  walk_at "ev"
  walk_at "eb"
  walk_at "es"
  walk_at "nL"
  walk_at "ki"
  refine sub_list F (IsList_le ht5 (by walk_at "le")) 1 rfl rfl (by show (5 : Nat) < 2 ^ 63; decide) rfl ?_
  walk_at "ki"
  refine op_modI F 4 (by decide) fun N1 _ _ hN1 F => ?_
  refine ⟨_, _, _, _, _, _, none, some (N1 : Int), rfl, F, hlA, by show (3 : Nat) ≤ sizeLine; decide, .none, .int _ _, fun g7 t7 s7 l7 ht7 F => ?_⟩
  rw [slicePick_upto'] at ht7
  walk_at "s0"
  walk_at "ko"
  have hr7 := rd_list ht7 (ptake N1 (.cons rd_str (.cons rd_str (.cons rd_str .nil))))
  rw [show ([PyData.str "a", .str "_b", .str "c"] : List PyData) = (["a", "_b", "c"] : List Str).map PyData.str from rfl, ← List.map_take] at hr7
  refine Calm.use (lawOwn_spec G (N := N0) hr7 (by rw [List.length_take]; exact Nat.min_le_right _ _)) F (hR.le (by decide)) hh ?_
  generalize hel : (((["a", "_b", "c"] : List Str).take N1).mapIdx fun k n => own3 N0 k n) = elder
  intro ve g8 s8 l8 hve F
  walk_at "s1"
  walk_at "ec"
  walk_at "nG"
  walk_at "cw"
  walk_at "a1"
  walk_at "s1"
  walk_at "eb"
  walk_at "es"
  walk_at "nL"
  walk_at "ki"
  walk_at "d"
  refine sub_list F (IsList_le ht5 (by walk_at "le")) 2 rfl rfl (by show (5 : Nat) < 2 ^ 63; decide) rfl ?_
  walk_at "ki"
  refine op_modI F 216 (by decide) fun N2 _ _ hN2 F => ?_
  walk_at "s1"
  walk_at "slv"
  walk_at "el"
  walk_at "s1"
  walk_at "ks"
  walk_at "s1"
  walk_at "ks"
  walk_at "s1"
  walk_at "ks"
  walk_at "s0"
  walk_at "lst"
  have hlB := ht
  walk_at "ev"
  walk_at "ev"
  walk_at "eb"
  walk_at "eb"
  walk_at "es"
  walk_at "nL"
  walk_at "ki"
  refine sub_list F (IsList_le ht5 (by walk_at "le")) 1 rfl rfl (by show (5 : Nat) < 2 ^ 63; decide) rfl ?_
  walk_at "ki"
  refine op_fdI F 4 (by decide) (by decide) fun y _ _ F => ?_
  walk_at "ki"
  refine op_modI F 4 (by decide) fun M1 _ _ hM1 F => ?_
  refine ⟨_, _, _, _, _, _, none, some (M1 : Int), rfl, F, hlB, by show (3 : Nat) ≤ sizeLine; decide, .none, .int _ _, fun g9 t9 s9 l9 ht9 F => ?_⟩
  rw [slicePick_upto'] at ht9
  walk_at "s0"
  walk_at "ko"
  have hr9 := rd_list ht9 (ptake M1 (.cons rd_str (.cons rd_str (.cons rd_str .nil))))
  rw [show ([PyData.str "d", .str "a", .str "_e"] : List PyData) = (["d", "a", "_e"] : List Str).map PyData.str from rfl, ← List.map_take] at hr9
  refine Calm.use (lawOwn_spec G (N := N2) hr9 (by rw [List.length_take]; exact Nat.min_le_right _ _)) F (hR.le (by decide)) hh ?_
  generalize how : (((["d", "a", "_e"] : List Str).take M1).mapIdx fun k n => own3 N2 k n) = own
  intro vo g10 s10 l10 hvo F
  walk_at "s0"
  walk_at "tup"
  walk_at "asT"
  walk_at "io"
  walk_at "as1"
  walk_at "l"
  walk_at "io"
  walk_at "as1"
  refine stCM (r1 := [_, _, _, _, _]) En F ho6 rfl (by rw [hfX]; exact fun h => nomatch h) fun g11 s11 l11 hcO F => ?_
  walk_at "io"
  walk_at "x1"
  walk_at "xatE"
  walk_at "et"
  walk_at "s1"
  walk_at "eb"
  walk_at "es"
  walk_at "nL"
  walk_at "ki"
  walk_at "d"
  refine sub_list F (IsList_le ht5 (by walk_at "le")) 3 rfl rfl (by show (5 : Nat) < 2 ^ 63; decide) rfl ?_
  walk_at "ki"
  refine op_modI F 3 (by decide) fun mode _ _ hmode F => ?_
  walk_at "s1"
  walk_at "eb"
  walk_at "es"
  walk_at "nL"
  walk_at "ki"
  refine sub_list F (IsList_le ht5 (by walk_at "le")) 4 rfl rfl (by show (5 : Nat) < 2 ^ 63; decide) rfl ?_
  walk_at "ki"
  refine op_modI F 5 (by decide) fun kind _ _ hkind F => ?_
  walk_at "s1"
  walk_at "el"
  walk_at "s0"
  refine newListO F (fun sl s12 F => ?_) (by size_fits)
  walk_at "s0"
  walk_at "tup"
  walk_at "asT"
  walk_at "io"
  walk_at "as1"
  refine stCM (r1 := [_, _, _, _, _]) En F ho5 rfl (by rw [hfX]; exact fun h => nomatch h) fun g13 s13 l13 hcM F => ?_
  walk_at "io"
  walk_at "as1"
  refine stCM (r1 := [_, _]) En F ho2 rfl (by rw [hfX]; exact fun h => nomatch h) fun g14 s14 l14 hcK F => ?_
  walk_at "io"
  walk_at "as1"
  refine stCM (r1 := [_]) En F ho1 rfl (by rw [hfX]; exact fun h => nomatch h) fun g15 s15 l15 hcS F => ?_
  walk_at "io"
  walk_at "x1"
  refine x_def rfl rfl rfl ?_
  refine' mkFn (q := qH) (clos := [("seen", f.L + 6), ("kind", f.L + 5)]) hB ?En F (by rw [G.tabs]; exact .tail _ (.head _)) ?hp ?hq (G.one _ (by rw [G.tabs]; exact .tail _ (.head _))) ?hc ?_
  case En => exact En
  case hp => rfl
  case hq => (rw [hE]; kernel_rfl)
  case hc => (rw [hE]; kernel_rfl)
  intro hk hcv hctv hdoc hpm g16 s16 l16 hhk hhcv hnew F
  have hookC : ∀ x g' al ys as, Le g16 g' → g'.IsList al ys.toArray → Paired (At g') ys as → as.length ≤ 20 → (∀ a ∈ as, okAl a) → CalmB f.toWd 40 (.ref hk) [.ref x, .ref al] [] g' [(sl, listO [] 0)] fun v g'' B' => ∃ rl zs, v = .ref rl ∧ g''.IsList rl zs.toArray ∧ Paired (At g'') zs (hookA kind as) ∧ TellB sl [] g'' B' as := by
    intro x g' al ys as hle hal hys hz hokA
    clear hve hvo F hl hr7 hr9 ht5 ht2 ht4 hlq hlA hlB ht7 ht9 e5
    obtain ⟨d, hd⟩ : ∃ d, d = f.toWd := ⟨_, rfl⟩
    rw [← hd]
    have G : Good d := by rw [hd]; exact G
    clear hB
    refine calmGB (n := 39) (binds := [("cls", .ref x), ("attributes", .ref al)]) (bs := [("attributes", .ref al), ("cls", .ref x)]) G.base (hle _ _ hhk) (hhcv.keeps hle) (binds_eq (by kernel_rfl)) rfl (by decide) rfl rfl rfl rfl ?_
    clear hE En hR hh hfe hfg hfX hfr
    intro f2 s s₁ env A hfd hR hh hfe hfg hfX En hE F
    subst hfd
    have hB := G.base
    have hcS := hcS.keeps (l16.trans hle)
    have hcK := hcK.keeps (l15.trans (l16.trans hle))
    have hyl := hys.length
    have hyz : ys.length ≤ 20 := by rw [hyl]; exact hz
    have hyS : ys.length ≤ sizeLine := Nat.le_trans hyz (by decide)
    have kne : ∀ {n : Nat}, kind ≠ n → (((kind : Nat) : Int) == ((n : Nat) : Int)) = false := fun {n} h => by rw [cast_beq]; exact beq_eq_false_iff_ne.mpr h
    walk_at "x1"
    walk_at "xex"
    walk_at "em"
    walk_at "nF"
    walk_at "d"
    refine gmApp (F.own _ (.head _)).1 ?_
    walk_at "cw"
    walk_at "a1"
    walk_at "s1"
    walk_at "d"
    walk_at "lcl"
    walk_at "nL"
    refine rdyList (gB := g') F (hnd0 hh) hal (Le.refl _) hal (hnd0 hh) fun it s' R => ?_
    refine ⟨_, _, _, _, _, _, fun i g2 zs => Paired (TellOf g2) zs (as.take i), R _ plainTgt_name, (by rw [List.size_toArray]; exact Nat.le_trans hyz (by decide)), .nil, ?_, ?_⟩
    · rintro f' cenv i g4 g5 l T s' v zs E' hw En' hi hle1 hle2 hI hP F
      have hB : Base f'.toWd := by rw [hw]; exact hB
      have G : Good f'.toWd := by rw [hw]; exact G
      obtain ⟨a, ha, hat⟩ := pat hys (by simpa using hP)
      obtain ⟨p, nt, Dv, alv, rfl, Ia, hDv, halv⟩ := (hat.le (hle1.trans hle2)).inst
      obtain ⟨sa, hsa, _⟩ := hokA a (List.mem_of_getElem? ha)
      obtain ⟨ta, rfl⟩ : ∃ t, alv = .str sa t := by rw [hsa] at halv; exact halv
      walk_at "as1"
      walk_at "l"
      walk_at "ts0"
      walk_at "i1"
      walk_at "et"
      walk_at "s1"
      walk_at "ea"
      walk_at "nL"
      walk_at "ga"
      walk_at "s1"
      walk_at "ea"
      walk_at "nL"
      walk_at "ga"
      walk_at "s1"
      walk_at "ea"
      walk_at "nL"
      walk_at "ga"
      walk_at "s0"
      walk_at "tup"
      walk_at "d"
      refine ⟨_, _, hle1.trans (hle2.trans (by walk_at "le")), ?_, F⟩
      rw [take_snoc ha]
      exact psnoc2 (pmono (fun _ _ y => TellOf.leS y (Le.leS (by walk_at "le"))) hI) ⟨_, _, _, sa, hsa, rfl, ht⟩
    rintro g3 g4 u ts s4 hle3 hle4 hts hu F
    have hts : Paired (TellOf g4) ts as := by
      rw [List.size_toArray, hyl, List.take_length] at hts
      exact pmono (fun _ _ y => TellOf.leS y hle4.leS) hts
    have hl4 : Le g' g4 := hle3.trans hle4
    have hal4 := IsList_le hal hl4
    walk_at "s0"
    walk_at "ko"
    refine appL F (by decide) fun s5 n5 F => ?_
    have fin : ∀ {g9 : Heap} {l9 : List (Str × Value)} {s9 : Shared} {rl : Addr} {zs : List Value}, Le g4 g9 → g9.IsList rl zs.toArray → Paired (At g9) zs (hookA kind as) → St f2 g9 (lk l9) [(sl, listO [.ref u] n5)] s9 →
        ∃ v' g'' B', (Except.ok (Flow.ret (.ref rl)) : Result) = .ok (.ret v') ∧ Post f2.toWd g' [(sl, listO [] 0)] s g'' B' s9 ∧ (∃ rl zs, v' = .ref rl ∧ g''.IsList rl zs.toArray ∧ Paired (At g'') zs (hookA kind as) ∧ TellB sl [] g'' B' as) := fun hl9 h1 h2 F => backB F hfe hfg hfX (List.Sublist.refl _) rfl ⟨_, _, rfl, h1, h2, u, n5, ts, rfl, IsList_le hu hl9, pmono (fun _ _ y => TellOf.leS y hl9.leS) hts⟩
    walk_at "x1"
    walk_at "xif"
    walk_at "tc"
    walk_at "nF"
    walk_at "ki"
    walk_at "eqI"
    walk_at "tb"
    by_cases h1 : kind = 1
    · subst h1
      walk_at "i1"
      walk_at "x1"
      walk_at "xret"
      walk_at "ec"
      walk_at "nB"
      walk_at "cw"
      walk_at "a1"
      walk_at "s1"
      walk_at "ec"
      walk_at "nB"
      walk_at "cw"
      walk_at "a1"
      walk_at "s1"
      walk_at "nL"
      walk_at "s0"
      walk_at "ko"
      walk_at "d"
      refine revO F hal4 fun I s' F => ?_
      walk_at "s0"
      walk_at "ko"
      have hX : ∀ x ∈ f2.X, ∃ o, (x, o) ∈ [(sl, listO ([] ++ [Value.ref u]) n5)] := fun x hx => by rw [hfX] at hx; rw [List.mem_singleton.mp hx]; exact ⟨_, .head _⟩
      refine revL hh F hX hal4 hyS fun g6 t6 s6 l6 ht6 F => ?_
      exact fin l6 ht6 (pAt_le (prev (pAt_le hys hl4)) l6) F
    rw [show (((kind : Nat) : Int) == 1) = false from kne h1]
    walk_at "i0"
    walk_at "x0"
    walk_at "x1"
    walk_at "xif"
    walk_at "tc"
    walk_at "nF"
    walk_at "ki"
    walk_at "eqI"
    walk_at "tb"
    by_cases h2 : kind = 2
    · subst h2
      walk_at "i1"
      walk_at "x1"
      walk_at "xret"
      walk_at "slc"
      walk_at "nL"
      walk_at "ev"
      walk_at "ki"
      walk_at "ev"
      walk_at "d"
      refine ⟨_, _, _, _, al, _, some 1, none, rfl, F, hal4, by rw [List.size_toArray]; exact hyS, .int _ _, .none, fun g6 t6 s6 l6 ht6 F => ?_⟩
      rw [show (some (1 : Int)) = some ((1 : Nat) : Int) from rfl, slicePick_from'] at ht6
      exact fin l6 ht6 (pdrop 1 (pAt_le hys (hl4.trans l6))) F
    rw [show (((kind : Nat) : Int) == 2) = false from kne h2]
    walk_at "i0"
    walk_at "x0"
    walk_at "x1"
    walk_at "xif"
    walk_at "tc"
    walk_at "nF"
    walk_at "ki"
    walk_at "eqI"
    walk_at "tb"
    by_cases h3 : kind = 3
    · subst h3
      walk_at "i1"
      walk_at "x1"
      walk_at "xret"
      walk_at "eb"
      walk_at "slc"
      walk_at "nL"
      walk_at "ev"
      walk_at "ev"
      walk_at "ki"
      walk_at "d"
      refine ⟨_, _, _, _, al, _, none, some 1, rfl, F, hal4, by rw [List.size_toArray]; exact hyS, .none, .int _ _, fun g6 t6 s6 l6 ht6 F => ?_⟩
      rw [show (some (1 : Int)) = some ((1 : Nat) : Int) from rfl, slicePick_upto'] at ht6
      walk_at "lcl"
      walk_at "slc"
      walk_at "nL"
      walk_at "ev"
      walk_at "ki"
      walk_at "ev"
      refine ⟨_, _, _, _, al, _, some 1, none, rfl, F, IsList_le hal4 l6, by rw [List.size_toArray]; exact hyS, .int _ _, .none, fun g7 t7 s7 l7 ht7 F => ?_⟩
      rw [show (some (1 : Int)) = some ((1 : Nat) : Int) from rfl, slicePick_from'] at ht7
      have hl7 : Le g' g7 := hl4.trans (l6.trans l7)
      have hd7 : Paired (At g7) (ys.drop 1) (as.drop 1) := pdrop 1 (pAt_le hys hl7)
      refine rdyList (gB := g7) F (hnd0 hh) ht7 (Le.refl _) ht7 (hnd0 hh) fun it s' R => ?_
      refine ⟨_, _, _, _, _, _, fun i g2 zs => Paired (At g2) zs (((as.drop 1).take i).map fun a => { a with st := true }), R _ plainTgt_name, (by simp only [List.size_toArray, List.length_drop]; exact Nat.le_trans (Nat.sub_le _ _) hyS), .nil, ?_, ?_⟩
      · rintro f' cenv i g8 g9 l T s' v zs E' hw En' hi hle1 hle2 hI hP F
        have hB : Base f'.toWd := by rw [hw]; exact hB
        have G : Good f'.toWd := by rw [hw]; exact G
        obtain ⟨a, ha, hat⟩ := pat hd7 (by simpa using hP)
        obtain ⟨p, nt, Dv, alv, rfl, Ia, hDv, halv⟩ := (hat.le (hle1.trans hle2)).inst
        walk_at "as1"
        walk_at "l"
        walk_at "ts0"
        walk_at "i1"
        walk_at "em"
        walk_at "nL"
        walk_at "d"
        walk_at "gm8"
        walk_at "cw"
        walk_at "a2"
        walk_at "w1"
        walk_at "ki"
        walk_at "w0"
        walk_at "ko"
        walk_at "d"
        refine Calm.use (evolveD_spec G Ia rfl hDv.handed rfl rfl halv.handed rfl) F (hR.le (by decide)) hh ?_
        rintro v10 g10 s10 hle10 ⟨b, rfl, hb⟩ F
        obtain ⟨qn, hq1, hqA, _⟩ := hb.atX (a := { a with st := true }) ⟨_, rfl⟩ halv
        refine ⟨g10, _, hle1.trans (hle2.trans hle10), ?_, F⟩
        rw [take_snoc ha, List.map_append]
        exact psnoc2 (pAt_le hI (hle2.trans hle10)) ⟨qn, by rw [hq1], hqA⟩
      rintro g8 g9 D zs s9 hle8 hle9 hI hD F
      have hzs : Paired (At g9) zs ((as.drop 1).map fun a => { a with st := true }) := by
        rw [List.size_toArray, hd7.length, List.take_length] at hI
        exact pAt_le hI hle9
      refine addL (vs := ys.take 1) (ws := zs) F (IsList_le ht6 (l7.trans (hle8.trans hle9))) hD (by rw [List.length_take, hzs.length, List.length_map, List.length_drop]; exact Nat.le_trans (show _ ≤ 21 by omega) (by decide)) fun g10 t10 s10 l10 ht10 _ F => ?_
      exact fin (l6.trans (l7.trans (hle8.trans (hle9.trans l10)))) ht10 (pappend2 (ptake 1 (pAt_le hys (hl7.trans (hle8.trans (hle9.trans l10))))) (pAt_le hzs l10)) F
    rw [show (((kind : Nat) : Int) == 3) = false from kne h3]
    walk_at "i0"
    walk_at "x0"
    walk_at "x1"
    walk_at "xif"
    walk_at "ta"
    walk_at "tc"
    walk_at "nF"
    walk_at "ki"
    walk_at "eqI"
    walk_at "tb"
    by_cases h4 : kind = 4
    · subst h4
      walk_at "i1"
      walk_at "ta"
      walk_at "tc"
      walk_at "nL"
      walk_at "el"
      walk_at "s0"
      walk_at "lst"
      refine neNil F (IsList_le hal4 hle) ht (hR.u64 (by decide) |> fun h => by omega) ?_
      cases hg : as.getLast? with
      | none =>
        have hr : as = [] := List.getLast?_eq_none_iff.mp hg
        subst hr
        obtain rfl : ys = [] := List.length_eq_zero_iff.mp hyl
        walk_at "tb"
        walk_at "i0"
        walk_at "i0"
        walk_at "x0"
        walk_at "x1"
        walk_at "xret"
        walk_at "nL"
        walk_at "d"
        exact fin (by walk_at "le") (IsList_le hal4 (by walk_at "le")) (by simp [hookA]; exact .nil) F
      | some la =>
        obtain ⟨lv, hlv, hla⟩ := plast hys hg
        have he : ys.isEmpty = false := by cases ys with
          | nil => cases hlv
          | cons _ _ => rfl
        rw [he]
        walk_at "tb"
        walk_at "i1"
        walk_at "ta0"
        walk_at "i1"
        walk_at "x1"
        walk_at "xret"
        walk_at "eb"
        walk_at "slc"
        walk_at "nL"
        walk_at "ev"
        walk_at "ev"
        walk_at "eu"
        walk_at "ki"
        walk_at "neg"
        walk_at "d"
        refine ⟨_, _, _, _, al, _, none, some (-1), rfl, F, IsList_le hal4 hle, by rw [List.size_toArray]; exact hyS, .none, .int _ _, fun g6 t6 s6 l6 ht6 F => ?_⟩
        rw [show (some (-1 : Int)) = some (-((1 : Nat) : Int)) from rfl, slicePick_butLast _ 1 (Nat.le_refl _)] at ht6
        walk_at "el"
        walk_at "s1"
        walk_at "em"
        walk_at "es"
        walk_at "nL"
        walk_at "eu"
        walk_at "ki"
        walk_at "neg"
        refine sub_last F (IsList_le hal4 (hle.trans l6)) hlv rfl ?_
        obtain ⟨p, nt, Dv, alv, rfl, Ia, hDv, halv⟩ := (hla.le (hl4.trans (hle.trans l6))).inst
        walk_at "gm8"
        walk_at "cw"
        walk_at "a2"
        walk_at "w1"
        walk_at "ks"
        walk_at "w0"
        walk_at "ko"
        walk_at "d"
        refine Calm.use (evolveN_spec G Ia rfl hDv.handed rfl rfl halv.handed (by decide)) F (hR.le (by decide)) hh ?_
        rintro v7 g7 s7 l7 ⟨b, tk2, rfl, hb⟩ F
        rw [show Txt.lstripChars "_new" "_" = ("new" : Str) from by kernel_rfl] at hb
        obtain ⟨qn, hq1, hqA, _⟩ := hb.atX (a := { la with n := "_new", al := some "new" }) hDv ⟨tk2, rfl⟩
        walk_at "s0"
        walk_at "lst"
        have htn := ht
        have hlen := hle
        refine addL (vs := ys.take (ys.length - 1)) (ws := [_]) F (IsList_le (by simpa using ht6) (by walk_at "le")) htn (Nat.le_trans (show _ ≤ 21 by simp; omega) (by decide)) fun g8 t8 s8 l8 ht8 _ F => ?_
        refine fin (by walk_at "le") ht8 ?_ F
        have hkA : hookA 4 as = as.dropLast ++ [{ la with n := "_new", al := some "new" }] := by simp [hookA, hg]
        rw [hkA, List.dropLast_eq_take, ← hyl]
        exact psnoc2 (ptake _ (pAt_le hys (hl4.trans (by walk_at "le")))) (At.le ⟨qn, hq1 ▸ rfl, hqA⟩ (by walk_at "le"))
    rw [show (((kind : Nat) : Int) == 4) = false from kne h4]
    walk_at "i0"
    walk_at "i0"
    walk_at "x0"
    walk_at "x1"
    walk_at "xret"
    walk_at "nL"
    walk_at "d"
    exact fin (Le.refl _) hal4 (by unfold hookA; rw [if_neg h1, if_neg h2, if_neg h3, if_neg h4]; exact pAt_le hys hl4) F
  have F : St f g16 _ [(sl, listO [] 0), (f.L + 4, o3), (f.L + 3, o4)] _ := F
  have hEn : elder.map (·.n) = (["a", "_b", "c"] : List Str).take N1 := by rw [← hel, own3_n]
  have hOn : own.map (·.n) = (["d", "a", "_e"] : List Str).take M1 := by rw [← how, own3_n]
  have hEl : elder.length ≤ 3 := by rw [← List.length_map (f := (·.n)), hEn, List.length_take]; exact Nat.min_le_right _ _
  have hOl : own.length ≤ 3 := by rw [← List.length_map (f := (·.n)), hOn, List.length_take]; exact Nat.min_le_right _ _
  have hEnd : (elder.map (·.n)).Nodup := by rw [hEn]; exact List.Nodup.sublist (List.take_sublist _ _) (by decide)
  have hOnd : (own.map (·.n)).Nodup := by rw [hOn]; exact List.Nodup.sublist (List.take_sublist _ _) (by decide)
  have hEm : ∀ r ∈ elder, r.n ∈ (["a", "_b", "c"] : List Str) := fun r hr => List.mem_of_mem_take (by rw [← hEn]; exact List.mem_map_of_mem hr)
  have hOm : ∀ r ∈ own, r.n ∈ (["d", "a", "_e"] : List Str) := fun r hr => List.mem_of_mem_take (by rw [← hOn]; exact List.mem_map_of_mem hr)
  clear hel how
  obtain ⟨ea, evs, rfl, heL, heP⟩ := hve.listI
  obtain ⟨oa, ovs, rfl, hoL, hoP⟩ := hvo.listI
  have hezl : evs.length ≤ 3 := by rw [heP.length, List.length_map]; exact hEl
  have hozl : ovs.length ≤ 3 := by rw [hoP.length, List.length_map]; exact hOl
  walk_at "l"
  walk_at "x1"
  walk_at "lal"
  walk_at "nL"
  walk_at "d"
  have heL16 : g16.IsList ea evs.toArray := IsList_le heL (by walk_at "le")
  have heP16 := prd_le heP (show Le g8 g16 by walk_at "le")
  refine rdyList (gB := g16) F (hnd0 hh) heL16 (Le.refl _) heL16 (hnd0 hh) fun it s' R => ?_
  refine ⟨_, _, _, _, _, _, fun i g2 zs => Paired (rd g2) zs (((elder.take i).map row0).map Row4.d), R _ plainTgt_tuple, (by rw [List.size_toArray]; exact Nat.le_trans hezl (by decide)), .nil, ?_, ?_⟩
  · rintro f' cenv i g4 g5 l T s' v zs E' hw En' hi hle1 hle2 hI hP F
    have hB : Base f'.toWd := by rw [hw]; exact hB
    have G : Good f'.toWd := by rw [hw]; exact G
    obtain ⟨y, hy, hvy⟩ := pat heP16 (by simpa using hP)
    rw [List.getElem?_map, Option.map_eq_some_iff] at hy
    obtain ⟨row, hrow, rfl⟩ := hy
    obtain ⟨t, v1, v2, v3, rfl, ht, h1, h2, h3⟩ := (hvy.le (hle1.trans hle2)).tup3
    obtain ⟨tk, rfl⟩ := h1.str
    obtain rfl := h2.bool
    have hz1 : row.n.length ≤ sizeLine := okZ (.inl (hEm row (List.mem_of_getElem? hrow)))
    walk_at "asT"
    walk_at "io"
    walk_at "as1"
    walk_at "l"
    walk_at "io"
    walk_at "as1"
    walk_at "l"
    walk_at "io"
    walk_at "as1"
    walk_at "l"
    walk_at "io"
    walk_at "ts0"
    walk_at "i1"
    walk_at "et"
    walk_at "s1"
    walk_at "nL"
    walk_at "s1"
    walk_at "em"
    walk_at "nL"
    walk_at "d"
    refine gmLstrip ?_
    walk_at "cw"
    walk_at "a1"
    walk_at "s1"
    walk_at "ks"
    walk_at "s0"
    walk_at "ko"
    walk_at "d"
    refine callLstrip F hz1 fun t' s' F => ?_
    walk_at "s1"
    walk_at "nL"
    walk_at "s1"
    walk_at "ec1"
    walk_at "nL"
    walk_at "kb"
    refine eqRd F h3 rd_bool (by cases row.nm <;> rfl) rfl (hR.u64 (by decide)) ?_
    rw [show PyData.eqv (ob row.nm) (.bool true) = (row.nm == some true) from by rcases row.nm with _ | _ | _ <;> rfl]
    walk_at "s0"
    walk_at "tup"
    refine ⟨_, _, hle1.trans (hle2.trans (by walk_at "le")), ?_, F⟩
    rw [take_snoc hrow, List.map_append, List.map_append]
    exact psnoc2 (prd_le hI (hle2.trans (by walk_at "le"))) (rd_tup (by assumption) (.cons rd_str (.cons rd_str (.cons rd_bool (.cons rd_bool .nil)))))
  rintro g17 g18 rl rvs s18 hle17 hle18 hrv hrl F
  have hrv : rd g18 (.ref rl) (.list ((elder.map row0).map Row4.d)) := by
    rw [List.size_toArray, heP.length, List.length_map, List.take_length] at hrv
    exact rd_list hrl (prd_le hrv hle18)
  have hve18 := hve.le (show Le g8 g18 from Le.trans (by walk_at "le") (hle17.trans hle18))
  have hkd : env.scope.kind ≠ .module := by rw [hE]; exact (show ScopeKind.function ≠ ScopeKind.module by decide)
  have hfe' : env.frame = some f.L := by rw [hE]
  have HF0 : FrOk f.toWd f.g0 [] f.e [] := fun _ h => nomatch h
  walk_at "x1"
  refine wpAny_Try_except ?_
  walk_at "x1"
  walk_at "xan"
  walk_at "ec"
  walk_at "nG"
  walk_at "cw"
  walk_at "a1"
  walk_at "s1"
  walk_at "ks"
  walk_at "s1"
  walk_at "ec"
  walk_at "nG"
  walk_at "cw"
  walk_at "a1"
  walk_at "s1"
  walk_at "nL"
  walk_at "s0"
  walk_at "ko"
  walk_at "d"
  refine Calm.use (these_spec G (rows := elder) hve18 hEnd (Nat.le_trans hEl (by decide))) F (hR.le (by decide)) hh ?_
  rintro v19 g19 s19 l19 ⟨T, kvs, rfl, hT, hca⟩ F
  walk_at "s0"
  walk_at "ko"
  have h402 : ∀ g', Le g19 g' → IsTup g' 402 #[] := fun g' l => by
    have e : ∃ osl, f.K.lookup 402 = some ⟨.type "tuple", none, .seq #[] 0, osl⟩ := ⟨_, by rw [G.K]; k_is⟩
    obtain ⟨osl, e⟩ := e
    exact ⟨_, (F.base.trans l) _ _ (G.base.K _ _ e), rfl, _, rfl⟩
  refine CalmE.use (make_spec (tl := []) (B := [(sl, listO [] 0), (f.L + 4, o3), (f.L + 3, o4)]) (mode := "no") (base := fun _ => []) (hf := fun as => as) (BQ := fun _ B' _ => B' = [(sl, listO [] 0), (f.L + 4, o3), (f.L + 3, o4)]) G (fun _ _ _ _ _ h => h)
    (.inl ⟨rfl, rfl, rfl, rfl, rfl, rfl⟩) rfl hT hca hEnd (Nat.le_trans hEl (by decide))
    (fun g' k l => (linear0_spec G (h402 g' l)).up (by decide)) (fun g' x ml ats S oS Sf n l I hml hS hn => (collect0_spec G I hml).up (by decide))
    (fun _ => Nat.zero_le _) (fun _ _ h => nomatch h) (fun r hr => (six_ok _ (by have := hEm r hr; revert this; generalize r.n = x; revert x; decide)).1)
    (fun _ => Nat.le_refl _) (fun _ h => h) (.inl ⟨rfl, fun _ => rfl, fun _ _ => rfl⟩)) F (hR.le (by decide)) hh hfr (HF0.now F hfX hfe' hkd) ?_ ?_
  rotate_left
  · rintro ex bs g20 B20 s20 P ⟨q1, q2, _⟩
    refine tryVE F hfe' hfr P (fun g2 s2 A2 F => ?_) fun g2 s2 A2 hA l2 hH F => ?_
    · walk_at "nB"
      exact ⟨rfl, rfl⟩
    have hR2 : Room A2 94 := by rw [hA]; exact hR
    have q1 : soundF (places (elder.map row0)) = false := by rw [← A0_rows, places_toR, ← okF_sound]; exact q1
    walk_at "x1"
    walk_at "xret"
    walk_at "eu"
    walk_at "ec"
    walk_at "nG"
    walk_at "cw"
    walk_at "a1"
    walk_at "s1"
    walk_at "nL"
    walk_at "s0"
    walk_at "ko"
    walk_at "d"
    refine CalmH.use (sound_spec G (hrv.le (l19.trans (P.le.trans l2))) (by rw [List.length_map]; exact Nat.le_trans hEl (by decide))) F (hR2.le (by decide)) hH ?_
    rintro v g21 s21 l21 rfl F
    rw [q1]
    walk_at "not"
    walk_at "tb"
    exact back F hfe hfg hfX rfl
  rintro v g20 B20 s20 l20 hk20 ⟨q1, rfl, q3⟩ F
  obtain ⟨xE, mlE, atE, elE, olE, zsE, rfl, hxE, hmlE, hatE, hzsE⟩ := q3 v rfl
  have q1 : soundF (places (elder.map row0)) = true := by rw [← A0_rows, places_toR, ← okF_sound]; exact q1
  walk_at "l"
  walk_at "x1"
  walk_at "xif"
  walk_at "tn"
  walk_at "tp"
  walk_at "ec"
  walk_at "nG"
  walk_at "cw"
  walk_at "a1"
  walk_at "s1"
  walk_at "nL"
  walk_at "s0"
  walk_at "ko"
  walk_at "d"
  refine CalmH.use (sound_spec G (hrv.le (l19.trans l20)) (by rw [List.length_map]; exact Nat.le_trans hEl (by decide))) F (hR.le (by decide)) (hnd0 hh) ?_
  rintro v g21 s21 l21 rfl F
  rw [q1]
  walk_at "tb"
  walk_at "i0"
  walk_at "x0"
  walk_at "x0"
  walk_at "x0"
  walk_at "x1"
  have hrv21 := hrv.le (l19.trans (l20.trans l21))
  obtain ⟨_, rvs4, e, hrL21, hrP21⟩ := hrv21.listI
  cases e
  have hcO21 := hcO.keeps (show Le g11 g21 from Le.trans (by walk_at "le") (hle17.trans (hle18.trans (l19.trans (l20.trans l21)))))
  have hcM21 := hcM.keeps (show Le g13 g21 from Le.trans (by walk_at "le") (hle17.trans (hle18.trans (l19.trans (l20.trans l21)))))
  have hoL21 := IsList_le hoL (show Le g10 g21 from Le.trans (by walk_at "le") (hle17.trans (hle18.trans (l19.trans (l20.trans l21)))))
  have hoP21 := prd_le hoP (show Le g10 g21 from Le.trans (by walk_at "le") (hle17.trans (hle18.trans (l19.trans (l20.trans l21)))))
  have hrz : rvs4.length ≤ 3 := by rw [hrP21.length, List.length_map, List.length_map]; exact hEl
  refine' lcAL (cl := [("own", f.L + 1), ("mode", f.L + 2)]) ?hsw ?En ?hc ?h1 ?h2 ?h3 ?h4 ?hk ?hx ?_
  case hsw => (rw [hE]; rfl)
  case En => assumption
  case hc => (rw [clos_eq (by assumption)]; kernel_rfl)
  case h1 => decide
  case h2 => rfl
  case h3 => decide
  case h4 => exact fun _ => rfl
  case hk => rfl
  case hx => rfl
  walk_at "nL"
  walk_at "d"
  refine rdyList (gB := g21) F (hnd0 hh) hrL21 (Le.refl _) hrL21 (hnd0 hh) fun it s' R => ?_
  refine ⟨_, _, _, _, _, _, fun i g2 zs => Paired (rd g2) zs ((((((elder.map row0).take i).filter fun r => !(own.map (·.n)).contains r.n).map fun r => { r with kw := r.kw || mode == 2 })).map Row4.d), R _ plainTgt_tuple, (by rw [List.size_toArray]; exact Nat.le_trans hrz (by decide)), .nil, ?_, ?_⟩
  · rintro f' cenv i g4 g5 l T s' v zs E' hw En' hi hle1 hle2 hI hP F
    have hB : Base f'.toWd := by rw [hw]; exact hB
    have G : Good f'.toWd := by rw [hw]; exact G
    obtain ⟨y, hy, hvy⟩ := pat hrP21 (by simpa using hP)
    rw [List.getElem?_map, Option.map_eq_some_iff] at hy
    obtain ⟨row, hrow, rfl⟩ := hy
    obtain ⟨t, v1, v2, v3, v4, rfl, ht, h1, h2, h3, h4⟩ := (hvy.le (hle1.trans hle2)).tup4
    obtain ⟨tk, rfl⟩ := h1.str
    obtain ⟨tk2, rfl⟩ := h2.str
    obtain rfl := h3.bool
    obtain rfl := h4.bool
    have hcO5 := hcO21.keeps (hle1.trans hle2)
    have hcM5 := hcM21.keeps (hle1.trans hle2)
    walk_at "asT"
    walk_at "io"
    walk_at "as1"
    walk_at "l"
    walk_at "io"
    walk_at "as1"
    walk_at "l"
    walk_at "io"
    walk_at "as1"
    walk_at "l"
    walk_at "io"
    walk_at "as1"
    walk_at "l"
    walk_at "io"
    walk_at "ts1"
    walk_at "tc"
    walk_at "nL"
    walk_at "d"
    walk_at "lcl"
    walk_at "nC"
    have hoL5 := IsList_le hoL21 (hle1.trans hle2)
    have hoP5 := prd_le hoP21 (hle1.trans hle2)
    refine rdyList (gB := g5) F (hnd0 hh) hoL5 (Le.refl _) hoL5 (hnd0 hh) fun it s' R => ?_
    refine ⟨_, _, _, _, _, _, fun j g2 ws => Paired (rd g2) ws ((((own.map (·.n)).take j)).map PyData.str), R _ plainTgt_name, (by rw [List.size_toArray]; exact Nat.le_trans hozl (by decide)), .nil, ?_, ?_⟩
    · rintro f'' cenv2 j g6 g7 l' T' s'' v' ws E'' hw' En'' hj hle3 hle4 hJ hP' F
      have hB : Base f''.toWd := by rw [hw', hw]; exact ‹Base f.toWd›
      have G : Good f''.toWd := by rw [hw', hw]; exact ‹Good f.toWd›
      obtain ⟨y, hy, hvy⟩ := pat hoP5 (by simpa using hP')
      rw [List.getElem?_map, Option.map_eq_some_iff] at hy
      obtain ⟨orow, horow, rfl⟩ := hy
      obtain ⟨ot, w1, w2, w3, rfl, hot, o1, o2, o3⟩ := (hvy.le (hle3.trans hle4)).tup3
      obtain ⟨tk5, rfl⟩ := o1.str
      walk_at "as1"
      walk_at "l"
      walk_at "ts0"
      walk_at "i1"
      walk_at "es"
      walk_at "nL"
      walk_at "ki"
      walk_at "stt"
      walk_at "d"
      refine ⟨_, _, hle3.trans hle4, ?_, F⟩
      rw [take_snoc (l := own.map (·.n)) (x := orow.n) (by rw [List.getElem?_map, horow]; rfl), List.map_append]
      exact psnoc2 (prd_le hJ hle4) rd_str
    rintro g6 g7 nl ws s7 hle6 hle7 hws hnl F
    rw [List.size_toArray, hoP5.length, List.length_map, ← List.length_map (f := (·.n)) (as := own), List.take_length] at hws
    have hrowm : row.n ∈ six := by
      obtain ⟨r, hr, rfl⟩ := List.mem_map.mp (List.mem_of_getElem? hrow)
      have h1 : ∀ x ∈ (["a", "_b", "c"] : List Str), x ∈ six := by decide
      exact h1 _ (hEm r hr)
    refine notInRd F rd_str (rd_list hnl (prd_le hws hle7)) (six_ok _ hrowm).2.1 (lay_strs fun x hx => (six_ok _ (by
      obtain ⟨r, hr, rfl⟩ := List.mem_map.mp hx
      have h1 : ∀ x ∈ (["d", "a", "_e"] : List Str), x ∈ six := by decide
      exact h1 _ (hOm r hr))).2.1) (by simp [PyData.depth]) (hR.u64 (by decide)) ?_
    rw [any_strs]
    have hst : ((((elder.map row0).take (i + 1)).filter fun r => !(own.map (·.n)).contains r.n).map fun r : Row4 => { r with kw := r.kw || mode == 2 }) = ((((elder.map row0).take i).filter fun r => !(own.map (·.n)).contains r.n).map fun r : Row4 => { r with kw := r.kw || mode == 2 }) ++ (if (own.map (·.n)).contains row.n then [] else [{ row with kw := row.kw || mode == 2 }]) := by
      rw [take_snoc hrow, List.filter_append, List.map_append]
      cases hq : (own.map (·.n)).contains row.n <;> simp only [List.filter_cons, List.filter_nil, hq, Bool.not_true, Bool.not_false, if_true, if_false, Bool.false_eq_true, List.map_nil, List.map_cons]
    rw [hst]
    cases hq : (own.map (·.n)).contains row.n with
    | true =>
      walk_at "tb"
      walk_at "i0"
      refine ⟨_, _, hle1.trans (hle2.trans (hle6.trans hle7)), ?_, F⟩
      simpa using prd_le hI (hle2.trans (hle6.trans hle7))
    | false =>
      have hcM7 := hcM5.keeps (hle6.trans hle7)
      walk_at "tb"
      walk_at "i1"
      walk_at "et"
      walk_at "s1"
      walk_at "nL"
      walk_at "s1"
      walk_at "nL"
      walk_at "s1"
      walk_at "nL"
      walk_at "s1"
      walk_at "eor"
      walk_at "nL"
      walk_at "tb"
      have fin : ∀ {g9 : Heap} {s9 : Shared} {l9 : List (Str × Value)} {x : Addr} {b b0 : Bool}, Le g7 g9 → IsTup g9 x #[.str row.n tk, .str row.al tk2, .bool row.st, .bool b] → b = (b0 || mode == 2) → St f' g9 (lk l9) T s9 →
          ∃ g'' l'', Le g21 g'' ∧ Paired (rd g'') (zs ++ [.ref x]) (List.map Row4.d (List.map (fun r : Row4 => { r with kw := r.kw || mode == 2 }) (((elder.map row0).take i).filter fun r => !(own.map (·.n)).contains r.n) ++ (if false = true then [] else [{ row with kw := b0 || mode == 2 }]))) ∧ St f' g'' (lk l'') T s9 := fun k1 k2 k3 F => by
        refine ⟨_, _, hle1.trans (hle2.trans (hle6.trans (hle7.trans k1))), ?_, F⟩
        rw [List.map_append]
        subst k3
        exact psnoc2 (prd_le hI (hle2.trans (hle6.trans (hle7.trans k1)))) (rd_tup k2 (.cons rd_str (.cons rd_str (.cons rd_bool (.cons rd_bool .nil)))))
      cases hkw : row.kw with
      | true =>
        walk_at "i1"
        walk_at "s0"
        walk_at "tup"
        exact fin (b0 := true) (by walk_at "le") ht rfl F
      | false =>
        walk_at "i0"
        walk_at "eo1"
        walk_at "ec1"
        walk_at "nC"
        walk_at "ki"
        walk_at "eqI"
        walk_at "s0"
        walk_at "tup"
        exact fin (b0 := false) (by walk_at "le") ht (by rw [Bool.false_or]; exact cast_beq mode 2) F
  rintro g22 g23 r2 r2vs s23 hle22 hle23 hr2 hr2L F
  have hr2 : Paired (rd g23) r2vs ((rows2 elder own mode).map Row4.d) := by
    rw [List.size_toArray, hrP21.length, List.length_map, List.take_length] at hr2
    exact prd_le hr2 hle23
  have hcM23 := hcM21.keeps (hle22.trans hle23)
  have hcO23 := hcO21.keeps (hle22.trans hle23)
  walk_at "x1"
  walk_at "xan"
  walk_at "eb"
  walk_at "nL"
  walk_at "d"
  refine lcE (cl := [("mode", f.L + 2)]) En (by rw [clos_eq En]; kernel_rfl) (by decide) rfl (by decide) (fun _ => rfl) ?_
  walk_at "nC"
  have hoL23 := IsList_le hoL21 (hle22.trans hle23)
  have hoP23 := prd_le hoP21 (hle22.trans hle23)
  refine rdyList (gB := g23) F (hnd0 hh) hoL23 (Le.refl _) hoL23 (hnd0 hh) fun it s' R => ?_
  refine ⟨_, _, _, _, _, _, fun i g2 zs => Paired (rd g2) zs (((own.take i).map (row1 mode)).map Row4.d), R _ plainTgt_tuple, (by rw [List.size_toArray]; exact Nat.le_trans hozl (by decide)), .nil, ?_, ?_⟩
  · rintro f' cenv i g4 g5 l T s' v zs E' hw En' hi hle1 hle2 hI hP F
    have hB : Base f'.toWd := by rw [hw]; exact hB
    have G : Good f'.toWd := by rw [hw]; exact G
    obtain ⟨y, hy, hvy⟩ := pat hoP23 (by simpa using hP)
    rw [List.getElem?_map, Option.map_eq_some_iff] at hy
    obtain ⟨row, hrow, rfl⟩ := hy
    obtain ⟨t, v1, v2, v3, rfl, ht, h1, h2, h3⟩ := (hvy.le (hle1.trans hle2)).tup3
    obtain ⟨tk, rfl⟩ := h1.str
    obtain rfl := h2.bool
    have hz1 : row.n.length ≤ sizeLine := okZ (.inr (hOm row (List.mem_of_getElem? hrow)))
    have hcM5 := hcM23.keeps (hle1.trans hle2)
    walk_at "asT"
    walk_at "io"
    walk_at "as1"
    walk_at "l"
    walk_at "io"
    walk_at "as1"
    walk_at "l"
    walk_at "io"
    walk_at "as1"
    walk_at "l"
    walk_at "io"
    walk_at "ts0"
    walk_at "i1"
    walk_at "et"
    walk_at "s1"
    walk_at "nL"
    walk_at "s1"
    walk_at "em"
    walk_at "nL"
    walk_at "d"
    refine gmLstrip ?_
    walk_at "cw"
    walk_at "a1"
    walk_at "s1"
    walk_at "ks"
    walk_at "s0"
    walk_at "ko"
    walk_at "d"
    refine callLstrip F hz1 fun t' s' F => ?_
    walk_at "s1"
    walk_at "nL"
    walk_at "s1"
    walk_at "eor"
    walk_at "ec1"
    walk_at "nC"
    walk_at "ki"
    walk_at "eqI"
    walk_at "tb"
    have hst : ∀ b : Bool, nmM mode row.nm = b → (mode == 2) = false → row1 mode row = ⟨row.n, Txt.lstripChars row.n "_", row.st, b⟩ := fun b h1 h2 => by unfold row1; rw [h1, h2]; rfl
    have fin : ∀ {g9 : Heap} {s9 : Shared} {l9 : List (Str × Value)} {x : Addr} {a1 a2 : Tok} {b : Bool}, Le g5 g9 → IsTup g9 x #[.str row.n a1, .str (Txt.lstripChars row.n "_") a2, .bool row.st, .bool b] → row1 mode row = ⟨row.n, Txt.lstripChars row.n "_", row.st, b⟩ → St f' g9 (lk l9) T s9 →
        ∃ g'' l'', Le g23 g'' ∧ Paired (rd g'') (zs ++ [.ref x]) (List.map Row4.d (List.map (row1 mode) (List.take (i + 1) own))) ∧ St f' g'' (lk l'') T s9 := fun k1 k2 k3 F => by
      refine ⟨_, _, hle1.trans (hle2.trans k1), ?_, F⟩
      rw [take_snoc hrow, List.map_append, List.map_append, List.map_singleton, k3]
      exact psnoc2 (prd_le hI (hle2.trans k1)) (rd_tup k2 (.cons rd_str (.cons rd_str (.cons rd_bool (.cons rd_bool .nil)))))
    rw [show (((mode : Nat) : Int) == 2) = (mode == 2) from cast_beq mode 2]
    cases hm2 : (mode == 2) with
    | true =>
      walk_at "i1"
      walk_at "s0"
      walk_at "tup"
      exact fin (by walk_at "le") ht (by unfold row1; rw [hm2]; rfl) F
    | false =>
      walk_at "i0"
      walk_at "eo1"
      walk_at "ei"
      walk_at "tc"
      walk_at "nL"
      walk_at "kn"
      cases hnm : row.nm with
      | none =>
        rw [hnm] at h3
        obtain rfl := h3.none
        walk_at "is1"
        walk_at "tb"
        walk_at "i1"
        walk_at "ec1"
        walk_at "nC"
        walk_at "ki"
        walk_at "eqI"
        walk_at "s0"
        walk_at "tup"
        exact fin (by walk_at "le") ht (hst _ (by rw [hnm]; exact (cast_beq mode 1).symm) hm2) F
      | some b =>
        rw [hnm] at h3
        obtain rfl := h3.bool
        walk_at "is2"
        walk_at "tb"
        walk_at "i0"
        walk_at "nL"
        walk_at "s0"
        walk_at "tup"
        exact fin (by walk_at "le") ht (hst _ (by rw [hnm]; rfl) hm2) F
  rintro g24 g25 r3 r3vs s25 hle24 hle25 hr3 hr3L F
  have hr3 : Paired (rd g25) r3vs ((own.map (row1 mode)).map Row4.d) := by
    rw [List.size_toArray, hoP23.length, List.length_map, List.take_length] at hr3
    exact prd_le hr3 hle25
  have hr2l : r2vs.length ≤ 3 := by
    rw [hr2.length, List.length_map]
    unfold rows2
    rw [List.length_map]
    exact Nat.le_trans (List.length_filter_le ..) (by rw [List.length_map]; exact hEl)
  have hr3l : r3vs.length ≤ 3 := by rw [hr3.length, List.length_map, List.length_map]; exact hOl
  refine addL (vs := r2vs) (ws := r3vs) F (IsList_le hr2L (hle24.trans hle25)) hr3L (Nat.le_trans (show _ ≤ 6 by omega) (by decide)) fun g26 r4 s26 l26 hr4L _ F => ?_
  have hrows : rd g26 (.ref r4) (.list ((rows3 elder own mode).map Row4.d)) := by
    refine rd_list hr4L ?_
    unfold rows3
    rw [List.map_append]
    exact pappend2 (prd_le hr2 (hle24.trans (hle25.trans l26))) (prd_le hr3 l26)
  have g21_26 : Le g21 g26 := hle22.trans (hle23.trans (hle24.trans (hle25.trans l26)))
  clear hr2 hr3 hr2L hr3L
  walk_at "l"
  walk_at "x1"
  walk_at "xanE"
  walk_at "d"
  walk_at "lcl"
  have hcO26 := hcO21.keeps g21_26
  have hoL26 := IsList_le hoL21 g21_26
  have hoP26 := prd_le hoP21 g21_26
  walk_at "nC"
  refine rdyList (gB := g26) F (hnd0 hh) hoL26 (Le.refl _) hoL26 (hnd0 hh) fun it s' R => ?_
  refine ⟨_, _, _, _, _, _, fun j g2 ws => Paired (rd g2) ws ((((own.map (·.n)).take j)).map PyData.str), R _ plainTgt_name, (by rw [List.size_toArray]; exact Nat.le_trans hozl (by decide)), .nil, ?_, ?_⟩
  · rintro f' cenv j g6 g7 l' T' s'' v' ws E'' hw' En'' hj hle3 hle4 hJ hP' F
    have hB : Base f'.toWd := by rw [hw']; exact hB
    have G : Good f'.toWd := by rw [hw']; exact G
    obtain ⟨y, hy, hvy⟩ := pat hoP26 (by simpa using hP')
    rw [List.getElem?_map, Option.map_eq_some_iff] at hy
    obtain ⟨orow, horow, rfl⟩ := hy
    obtain ⟨ot, w1, w2, w3, rfl, hot, o1, o2, o3⟩ := (hvy.le (hle3.trans hle4)).tup3
    obtain ⟨tk5, rfl⟩ := o1.str
    walk_at "as1"
    walk_at "l"
    walk_at "ts0"
    walk_at "i1"
    walk_at "es"
    walk_at "nL"
    walk_at "ki"
    walk_at "stt"
    walk_at "d"
    refine ⟨_, _, hle3.trans hle4, ?_, F⟩
    rw [take_snoc (l := own.map (·.n)) (x := orow.n) (by rw [List.getElem?_map, horow]; rfl), List.map_append]
    exact psnoc2 (prd_le hJ hle4) rd_str
  rintro g27 g28 ml mws s28 hle27 hle28 hmws hmL F
  have hmP : Paired (rd g28) mws ((own.map (·.n)).map PyData.str) := by
    rw [List.size_toArray, hoP26.length, List.length_map, ← List.length_map (f := (·.n)) (as := own), List.take_length] at hmws
    exact prd_le hmws hle28
  refine stCM (r1 := [_, _]) En F ho4 rfl (by rw [hfX]; exact fun h => nomatch h) fun g29 s29 l29 hcN F => ?_
  have F : St f g29 _ [(sl, listO [] 0), (f.L + 4, o3)] _ := F
  have hrd : rd g29 (.ref r4) (.list ((rows3 elder own mode).map Row4.d)) := hrows.le (hle27.trans (hle28.trans l29))
  have hA1r : (A1 elder own mode).map toR = rows3 elder own mode := A1_rows elder own hmode
  have hA1n := A1_nm hmode hEm hOm
  have hA1i := A1_inh elder own hmode
  have hA1d := A1_nodup hmode hEnd hOnd
  have hA1z : (A1 elder own mode).length ≤ 6 := Nat.le_trans (A1_len hmode) (by omega)
  have hA1e : madeF (modeS mode) (base1 elder) own = A1 elder own mode := rfl
  generalize A1 elder own mode = as1 at hA1r hA1n hA1i hA1d hA1z hA1e
  have hA2r : (hookA kind as1).map toR = hookedR kind (rows3 elder own mode) := by rw [hook_rows, hA1r]
  have hA2n : ∀ a ∈ hookA kind as1, Nm a := Nm.hook fun a h => (hA1n a h).1
  have hA2d : ((hookA kind as1).map (·.n)).Nodup := nodup_hook (fun a h => (hA1n a h).2) hA1d
  have hA2l := nodup_alN hA2n hA2d
  have hA2z : (hookA kind as1).length ≤ 6 := Nat.le_trans (hook_len _ _) hA1z
  have g26_29 : Le g26 g29 := hle27.trans (hle28.trans l29)
  have hcK29 := hcK.keeps (show Le g14 g29 from Le.trans (by walk_at "le") (hle17.trans (hle18.trans (l19.trans (l20.trans (l21.trans (g21_26.trans g26_29)))))))
  have hcM29 := hcM21.keeps (g21_26.trans g26_29)
  have hcO29 := hcO21.keeps (g21_26.trans g26_29)
  walk_at "x1"
  walk_at "xan"
  walk_at "ec"
  walk_at "nG"
  walk_at "cw"
  walk_at "a1"
  walk_at "s1"
  walk_at "nC"
  walk_at "s1"
  walk_at "nL"
  walk_at "s0"
  walk_at "ko"
  walk_at "d"
  refine Calm.use (hooked_spec G hrd (by rw [← hA1r, List.length_map]; exact Nat.le_trans hA1z (by decide)) (fun r hr => by
    rw [← hA1r] at hr
    obtain ⟨a, ha, rfl⟩ := List.mem_map.mp hr
    exact (hA1n a ha).1.okS)) F (hR.le (by decide)) hh ?_
  intro vd g30 s30 l30 hvd F
  rw [← hA2r] at hvd
  walk_at "l"
  walk_at "x1"
  refine wpAny_Try_except ?_
  have hvo30 := hvo.le (show Le g10 g30 from Le.trans (by walk_at "le") (hle17.trans (hle18.trans (l19.trans (l20.trans (l21.trans (g21_26.trans (g26_29.trans l30))))))))
  have hcO30 := hcO29.keeps l30
  have hcS30 := hcS.keeps (show Le g15 g30 from Le.trans (by walk_at "le") (hle17.trans (hle18.trans (l19.trans (l20.trans (l21.trans (g21_26.trans (g26_29.trans l30))))))))
  have hcM30 := hcM29.keeps l30
  walk_at "x1"
  walk_at "xan"
  walk_at "ec"
  walk_at "nG"
  walk_at "cw"
  walk_at "a3"
  walk_at "s1"
  walk_at "ks"
  walk_at "s1"
  walk_at "ec"
  walk_at "nG"
  walk_at "cw"
  walk_at "a1"
  walk_at "s1"
  walk_at "nC"
  walk_at "s0"
  walk_at "ko"
  walk_at "d"
  refine Calm.use (these_spec G (rows := own) hvo30 hOnd (Nat.le_trans hOl (by decide))) F (hR.le (by decide)) hh ?_
  rintro v31 g31 s31 l31 ⟨T2, kvs2, rfl, hT2, hca2⟩ F
  walk_at "s0"
  walk_at "w1"
  walk_at "et"
  walk_at "s1"
  walk_at "nL"
  walk_at "s0"
  walk_at "tup"
  walk_at "w1"
  walk_at "ec1"
  walk_at "nC"
  walk_at "ki"
  walk_at "gtI"
  walk_at "w1"
  walk_at "ec1"
  walk_at "nC"
  walk_at "ki"
  walk_at "eqI"
  walk_at "w1"
  walk_at "nL"
  walk_at "w0"
  walk_at "ko"
  rw [show decide ((0 : Int) < ((mode : Nat) : Int)) = decide (mode > 0) from decide_eq_decide.mpr (by omega), show (((mode : Nat) : Int) == 2) = (mode == 2) from cast_beq mode 2]
  have g20_31 : Le g20 g31 := l21.trans (g21_26.trans (g26_29.trans (l30.trans l31)))
  have hxE31 := hxE.le g20_31
  have hmlE31 := IsList_le hmlE g20_31
  have hatE31 := hatE.keeps g20_31
  have hzsE31 := pAt_le hzsE g20_31
  have h16_31 : Le g16 g31 := hle17.trans (hle18.trans (l19.trans (l20.trans g20_31)))
  have hbt := ht
  have hleT := hle
  refine CalmE.use (make_spec (tl := [.ref xE]) (B := [(sl, listO [] 0), (f.L + 4, o3)]) (mode := modeS mode) (base := base1 elder) (hf := hookA kind) (BQ := TellB sl [(f.L + 4, o3)]) G (fun _ _ _ _ k h => h.leS k)
    (.inr ⟨rfl, rfl⟩) rfl (hT2.le hleT) (pmono (fun kv r h => by obtain ⟨e, a, Dv, e2, I, h⟩ := h; exact ⟨e, a, Dv, e2, I.le hleT, h⟩) hca2) hOnd (Nat.le_trans hOl (by decide))
    (fun g' k l => linear1_spec G (hbt.keeps l) (hxE31.le (hleT.trans l)) (IsList_le hmlE31 (hleT.trans l)))
    (fun g' x ml ats S oS Sf n l I hml hS hn => collect1_spec G I hml (hxE31.le (hleT.trans l)) (hatE31.keeps (hleT.trans l)) (pAt_le hzsE31 (hleT.trans l)) (by show ((A0 elder).map (·.n)).Nodup; rw [A0_names]; exact hEnd) (by show (A0 elder).length ≤ 10; rw [A0_eq, List.length_map]; exact Nat.le_trans hEl (by decide)) hS hn)
    (fun Sf => Nat.le_trans (base1_len elder Sf) (Nat.le_trans hEl (by decide))) (base1_ok hEm) (fun r hr => (six_ok _ (by have := hOm r hr; revert this; generalize r.n = x; revert x; decide)).1)
    (hook_len kind) (fun as h => okAl_hook h) (.inr ⟨hk, rfl, ⟨_, _, _, _, (h16_31.trans hleT) _ _ hhk⟩, fun x g' al ys as l h1 h2 h3 h4 =>
      ((hookC x g' al ys as (h16_31.trans (hleT.trans l)) h1 h2 h3 h4).more (T := [(f.L + 4, o3)])).mono fun v g'' B' ⟨B0, e, rl, zs, h1, h2, h3, u, n, ts, e2, h5, h6⟩ => ⟨rl, zs, h1, h2, h3, u, n, ts, by subst e e2; rfl, h5, h6⟩⟩)) F (hR.le (by decide)) hh hfr (HF0.now F hfX hfe' hkd) ?_ ?_
  rotate_left
  · rintro ex bs g32 B32 s32 P ⟨q1, q2, _⟩
    rw [hA1e] at q1 q2
    obtain ⟨u, un, ts, rfl, huL, huP⟩ := q2
    refine tryVE F hfe' hfr P (fun g2 s2 A2 F => ?_) fun g2 s2 A2 hA l2 hH F => ?_
    · walk_at "nB"
      exact ⟨rfl, rfl⟩
    have hR2 : Room A2 94 := by rw [hA]; exact hR
    have q1 : soundF (places ((hookA kind as1).map toR)) = false := by rw [places_toR, ← okF_sound]; exact q1
    have hcS2 := hcS30.keeps (l31.trans (hleT.trans (P.le.trans l2)))
    walk_at "x1"
    walk_at "xret"
    walk_at "eand"
    walk_at "eu"
    walk_at "ec"
    walk_at "nG"
    walk_at "cw"
    walk_at "a1"
    walk_at "s1"
    walk_at "nL"
    walk_at "s0"
    walk_at "ko"
    walk_at "d"
    refine CalmH.use (sound_spec G (hvd.le (l31.trans (hleT.trans (P.le.trans l2)))) (by rw [List.length_map]; exact Nat.le_trans hA2z (by decide))) F (hR2.le (by decide)) hH ?_
    rintro v g33 s33 l33 rfl F
    rw [q1]
    walk_at "not"
    walk_at "tb"
    walk_at "tb"
    walk_at "i1"
    walk_at "eo1"
    walk_at "ec1"
    walk_at "ec"
    walk_at "nB"
    walk_at "cw"
    walk_at "a1"
    walk_at "s1"
    walk_at "nC"
    walk_at "s0"
    walk_at "ko"
    walk_at "d"
    refine lenO F (show 1 ≤ sizeLine by decide) fun t s34 F => ?_
    walk_at "ki"
    walk_at "eqI"
    exact back F hfe hfg hfX rfl
  rintro v g32 B32 s32 l32 hk32 ⟨q1, q2, q3⟩ F
  rw [hA1e] at q1 q2 q3
  obtain ⟨u, un, ts, rfl, huL, huP⟩ := q2
  obtain ⟨xM, mlM, atM, elM, olM, zsM, rfl, hxM, hmlM, hatM, hzsM⟩ := q3 v rfl
  have q1 : soundF (places ((hookA kind as1).map toR)) = true := by rw [places_toR, ← okF_sound]; exact q1
  walk_at "l"
  walk_at "x1"
  walk_at "xif"
  walk_at "tn"
  walk_at "tp"
  walk_at "ec"
  walk_at "nG"
  walk_at "cw"
  walk_at "a1"
  walk_at "s1"
  walk_at "nL"
  walk_at "s0"
  walk_at "ko"
  walk_at "d"
  refine CalmH.use (sound_spec G (hvd.le (l31.trans (hleT.trans l32))) (by rw [List.length_map]; exact Nat.le_trans hA2z (by decide))) F (hR.le (by decide)) (hnd0 hh) ?_
  rintro v g33 s33 l33 rfl F
  rw [q1]
  walk_at "tb"
  walk_at "i0"
  walk_at "x0"
  walk_at "x0"
  walk_at "x0"
  walk_at "x1"
  walk_at "xif"
  walk_at "tc"
  walk_at "nC"
  walk_at "el"
  walk_at "s1"
  obtain ⟨g34, l34, hsL, F⟩ := F.freezeL (D := sl) (ys := [.ref u]) (by rw [hfX]; exact fun h => nomatch h)
  have k30_34 : Le g30 g34 := l31.trans (hleT.trans (l32.trans (l33.trans l34)))
  have hcS34 := hcS30.keeps k30_34
  have hcN34 := hcN.keeps (l30.trans k30_34)
  have hrd34 := hrd.le (l30.trans k30_34)
  obtain ⟨_, rws, e, hrwL, hrwP⟩ := hrd34.listI
  cases e
  have hmL34 := IsList_le hmL (l29.trans (l30.trans k30_34))
  have hmP34 := prd_le hmP (l29.trans (l30.trans k30_34))
  have hr3n : ∀ r ∈ rows3 elder own mode, okS r := fun r hr => by
    rw [← hA1r] at hr
    obtain ⟨a, ha, rfl⟩ := List.mem_map.mp hr
    exact (hA1n a ha).1.okS
  have hrwz : rws.length ≤ 6 := by rw [hrwP.length, List.length_map, ← hA1r, List.length_map]; exact hA1z
  refine lcE (cl := [("mine", f.L + 3)]) En (by rw [clos_eq En]; kernel_rfl) (by decide) rfl (by decide) (fun _ => rfl) ?_
  walk_at "nL"
  refine rdyList (gB := g34) F (hnd0 hh) hrwL (Le.refl _) hrwL (hnd0 hh) fun it s' R => ?_
  refine ⟨_, _, _, _, _, _, fun i g2 zs => Paired (rd g2) zs (((rows3 elder own mode).take i).map (tellD (own.map (·.n)))), R _ plainTgt_tuple, (by rw [List.size_toArray]; exact Nat.le_trans hrwz (by decide)), .nil, ?_, ?_⟩
  · rintro f' cenv i g4 g5 l T s' v zs E' hw En' hi hle1 hle2 hI hP F
    have hB : Base f'.toWd := by rw [hw]; exact hB
    have G : Good f'.toWd := by rw [hw]; exact G
    obtain ⟨y, hy, hvy⟩ := pat hrwP (by simpa using hP)
    rw [List.getElem?_map, Option.map_eq_some_iff] at hy
    obtain ⟨row, hrow, rfl⟩ := hy
    obtain ⟨t, v1, v2, v3, v4, rfl, ht, h1, h2, h3, h4⟩ := (hvy.le (hle1.trans hle2)).tup4
    obtain ⟨tk, rfl⟩ := h1.str
    obtain ⟨tk2, rfl⟩ := h2.str
    obtain rfl := h3.bool
    obtain rfl := h4.bool
    have hcN5 := hcN34.keeps (hle1.trans hle2)
    walk_at "asT"
    walk_at "io"
    walk_at "as1"
    walk_at "l"
    walk_at "io"
    walk_at "as1"
    walk_at "l"
    walk_at "io"
    walk_at "as1"
    walk_at "l"
    walk_at "io"
    walk_at "as1"
    walk_at "l"
    walk_at "io"
    walk_at "ts0"
    walk_at "i1"
    walk_at "et"
    walk_at "s1"
    walk_at "nL"
    walk_at "s1"
    walk_at "nL"
    walk_at "s1"
    walk_at "ec1"
    walk_at "nL"
    walk_at "nC"
    walk_at "d"
    refine notInRd F rd_str (rd_list (IsList_le hmL34 (hle1.trans hle2)) (prd_le hmP34 (hle1.trans hle2))) (by simpa [PyData.canLay0] using (hr3n row (List.mem_of_getElem? hrow)).1) (lay_strs fun x hx => (six_ok _ (by
      obtain ⟨r, hr, rfl⟩ := List.mem_map.mp hx
      have h1 : ∀ x ∈ (["d", "a", "_e"] : List Str), x ∈ six := by decide
      exact h1 _ (hOm r hr))).2.1) (by simp [PyData.depth]) (hR.u64 (by decide)) ?_
    rw [any_strs]
    walk_at "s0"
    walk_at "tup"
    refine ⟨_, _, hle1.trans (hle2.trans (by walk_at "le")), ?_, F⟩
    rw [take_snoc hrow, List.map_append]
    exact psnoc2 (prd_le hI (hle2.trans (by walk_at "le"))) (rd_tup (by assumption) (.cons rd_str (.cons rd_str (.cons rd_bool .nil))))
  rintro g35 g36 sD svs s36 hle35 hle36 hsvs hsD F
  have hsvs : Paired (rd g36) svs ((rows3 elder own mode).map (tellD (own.map (·.n)))) := by
    rw [List.size_toArray, hrwP.length, List.length_map, List.take_length] at hsvs
    exact prd_le hsvs hle36
  walk_at "s0"
  walk_at "lst"
  have hsX := ht
  have k34_37 := hle35.trans (hle36.trans hle)
  have huD := rd_list (IsList_le hsL k34_37) (.cons (rd_list (IsList_le huL (l33.trans (l34.trans k34_37))) (tell_rd (N := own.map (·.n)) (pmono (fun _ _ y => TellOf.leS y (Le.leS (l33.trans (l34.trans k34_37)))) huP) hA1i)) .nil)
  rw [hA1r] at huD
  refine neSame F huD (rd_list hsX (.cons (rd_list (IsList_le hsD hle) (prd_le hsvs hle)) .nil)) (tell_shaped hr3n) (hR.u64 (by decide)) ?_
  have k32_37 := l33.trans (l34.trans k34_37)
  have k30_37 := k30_34.trans k34_37
  walk_at "tb"
  walk_at "i0"
  walk_at "x0"
  walk_at "x1"
  walk_at "lal"
  walk_at "ec"
  walk_at "nG"
  walk_at "cw"
  walk_at "a1"
  walk_at "s1"
  walk_at "nL"
  walk_at "s0"
  walk_at "ko"
  walk_at "d"
  refine Calm.use (fields_spec G (hxM.le k32_37) rfl) F (hR.le (by decide)) hh ?_
  rintro v38 g38 s38 l38 rfl F
  have k32_38 := k32_37.trans l38
  have k30_38 := k30_37.trans l38
  have hat38 := hatM.keeps k32_38
  have hzs38 := pAt_le hzsM k32_38
  have hzz : zsM.length ≤ 6 := by rw [hzs38.length]; exact hA2z
  refine rdyTup (gB := g38) F (hnd0 hh) hat38 (Le.refl _) hat38 (hnd0 hh) fun it s' R => ?_
  refine ⟨_, _, _, _, _, _, fun i g2 ws => Paired (rd g2) ws ((((hookA kind as1).take i).map toR).map Row4.d), R _ plainTgt_name, (by rw [List.size_toArray]; exact Nat.le_trans hzz (by decide)), .nil, ?_, ?_⟩
  · rintro f' cenv i g4 g5 l T s' v zs E' hw En' hi hle1 hle2 hI hP F
    have hB : Base f'.toWd := by rw [hw]; exact hB
    have G : Good f'.toWd := by rw [hw]; exact G
    obtain ⟨a, ha, hat⟩ := pat hzs38 (by simpa using hP)
    obtain ⟨p, nt, Dv, alv, rfl, Ia, hDv, halv⟩ := (hat.le (hle1.trans hle2)).inst
    have hna := hA2n a (List.mem_of_getElem? ha)
    obtain ⟨ta, rfl⟩ : ∃ t, alv = .str (alN a) t := by
      rw [hna.2] at halv
      rw [hna.alN]
      exact halv
    have fin : ∀ {g9 : Heap} {s9 : Shared} {l9 : List (Str × Value)} {x : Addr} {a1 a2 : Tok} {b : Bool}, Le g5 g9 → IsTup g9 x #[.str a.n a1, .str (alN a) a2, .bool b, .bool a.kw] → b = a.st → St f' g9 (lk l9) T s9 →
        ∃ g'' l'', Le g38 g'' ∧ Paired (rd g'') (zs ++ [.ref x]) (List.map Row4.d (List.map toR (List.take (i + 1) (hookA kind as1)))) ∧ St f' g'' (lk l'') T s9 := fun k1 k2 k3 F => by
      refine ⟨_, _, hle1.trans (hle2.trans k1), ?_, F⟩
      subst k3
      rw [take_snoc ha, List.map_append, List.map_append]
      exact psnoc2 (prd_le hI (hle2.trans k1)) (rd_tup k2 (.cons rd_str (.cons rd_str (.cons rd_bool (.cons rd_bool .nil)))))
    cases hq : a.st with
    | true =>
      rw [hq] at hDv
      obtain ⟨td, rfl⟩ : ∃ t, Dv = .int 70 t := hDv
      walk_at "as1"
      walk_at "l"
      walk_at "ts0"
      walk_at "i1"
      walk_at "et"
      walk_at "s1"
      walk_at "ea"
      walk_at "nL"
      walk_at "ga"
      walk_at "s1"
      walk_at "ea"
      walk_at "nL"
      walk_at "ga"
      walk_at "s1"
      walk_at "ec1"
      walk_at "ea"
      walk_at "nL"
      walk_at "ga"
      walk_at "nG"
      walk_at "is3"
      walk_at "s1"
      walk_at "ea"
      walk_at "nL"
      walk_at "ga"
      walk_at "s0"
      walk_at "tup"
      walk_at "d"
      exact fin (by walk_at "le") ht hq.symm F
    | false =>
      rw [hq] at hDv
      obtain rfl : Dv = .ref 70 := hDv
      walk_at "as1"
      walk_at "l"
      walk_at "ts0"
      walk_at "i1"
      walk_at "et"
      walk_at "s1"
      walk_at "ea"
      walk_at "nL"
      walk_at "ga"
      walk_at "s1"
      walk_at "ea"
      walk_at "nL"
      walk_at "ga"
      walk_at "s1"
      walk_at "ec1"
      walk_at "ea"
      walk_at "nL"
      walk_at "ga"
      walk_at "nG"
      walk_at "d"
      refine isnrs ?_
      walk_at "s1"
      walk_at "ea"
      walk_at "nL"
      walk_at "ga"
      walk_at "s0"
      walk_at "tup"
      exact fin (by walk_at "le") ht hq.symm F
  rintro g39 g40 tl tvs s40 hle39 hle40 htv htL F
  have htold : rd g40 (.ref tl) (.list (((hookA kind as1).map toR).map Row4.d)) := by
    rw [List.size_toArray, hzs38.length, List.take_length] at htv
    exact rd_list htL (prd_le htv hle40)
  have k38_40 := hle39.trans hle40
  have k30_40 := k30_38.trans k38_40
  have k32_40 := k32_38.trans k38_40
  have hdsh : SeqAt.shaped (.list (((hookA kind as1).map toR).map Row4.d)) = true := rows_shaped fun r hr => by
    obtain ⟨a, ha, rfl⟩ := List.mem_map.mp hr
    exact (hA2n a ha).okS
  have hvd40 := hvd.le k30_40
  walk_at "x1"
  walk_at "xif"
  walk_at "to"
  walk_at "tc"
  walk_at "nL"
  walk_at "nL"
  refine neSame F htold hvd40 hdsh (hR.u64 (by decide)) ?_
  walk_at "tb"
  walk_at "i0"
  walk_at "to"
  walk_at "tc"
  walk_at "ec"
  walk_at "nB"
  walk_at "cw"
  walk_at "a1"
  walk_at "s1"
  walk_at "ec"
  walk_at "nG"
  walk_at "cw"
  walk_at "a1"
  walk_at "s1"
  walk_at "nL"
  walk_at "s0"
  walk_at "ko"
  walk_at "d"
  refine Calm.use (fieldsD_spec G (hxM.le k32_40) (hatM.keeps k32_40) (pAt_le hzsM k32_40) hA2d (Nat.le_trans hA2z (by decide))) F (hR.le (by decide)) hh ?_
  rintro v41 g41 s41 l41 ⟨FD, fkv, rfl, hFD, hfk⟩ F
  walk_at "s0"
  walk_at "ko"
  refine listD hh F hFD (by rw [← List.length_map (f := (·.1)), hfk, List.length_map]; exact Nat.le_trans hA2z (by decide)) fun g42 t42 vs42 s42 l42 ht42 hp42 F => ?_
  obtain ⟨da, dvs, e, hdL, hdP⟩ := hvd40.listI
  subst e
  have hdz : dvs.length ≤ 6 := by rw [hdP.length, List.length_map, List.length_map]; exact hA2z
  have k40_42 := l41.trans l42
  walk_at "lcl"
  walk_at "nL"
  have hdL42 := IsList_le hdL k40_42
  have hdP42 := prd_le hdP k40_42
  refine rdyList (gB := g42) F (hnd0 hh) hdL42 (Le.refl _) hdL42 (hnd0 hh) fun it s' R => ?_
  refine ⟨_, _, _, _, _, _, fun i g2 ws => Paired (rd g2) ws ((((hookA kind as1).take i).map (·.n)).map PyData.str), R _ plainTgt_tuple, (by rw [List.size_toArray]; exact Nat.le_trans hdz (by decide)), .nil, ?_, ?_⟩
  · rintro f' cenv i g4 g5 l T s' v zs E' hw En' hi hle1 hle2 hI hP F
    have hB : Base f'.toWd := by rw [hw]; exact hB
    have G : Good f'.toWd := by rw [hw]; exact G
    obtain ⟨y, hy, hvy⟩ := pat hdP42 (by simpa using hP)
    rw [List.map_map, List.getElem?_map, Option.map_eq_some_iff] at hy
    obtain ⟨a, ha, rfl⟩ := hy
    obtain ⟨t, v1, v2, v3, v4, rfl, ht, h1, h2, h3, h4⟩ := (hvy.le (hle1.trans hle2)).tup4
    obtain ⟨tk, rfl⟩ := h1.str
    walk_at "asT"
    walk_at "io"
    walk_at "as1"
    walk_at "l"
    walk_at "io"
    walk_at "as1"
    walk_at "l"
    walk_at "io"
    walk_at "as1"
    walk_at "l"
    walk_at "io"
    walk_at "as1"
    walk_at "l"
    walk_at "io"
    walk_at "ts0"
    walk_at "i1"
    walk_at "nL"
    walk_at "d"
    refine ⟨_, _, hle1.trans hle2, ?_, F⟩
    rw [take_snoc ha, List.map_append, List.map_append]
    exact psnoc2 (prd_le hI hle2) rd_str
  rintro g43 g44 nl nvs s44 hle43 hle44 hnv hnL F
  have hnv : Paired (rd g44) nvs (((hookA kind as1).map (·.n)).map PyData.str) := by
    rw [List.size_toArray, hdP42.length, List.length_map, List.length_map, List.take_length] at hnv
    exact prd_le hnv hle44
  have hfd : rd g44 (.ref t42) (.list (((hookA kind as1).map (·.n)).map PyData.str)) := by
    refine rd_list (IsList_le ht42 (hle43.trans hle44)) ?_
    rw [← hfk, List.map_map]
    exact prd_le hp42 (hle43.trans hle44)
  refine neSame F hfd (rd_list hnL hnv) (shaped_flats fun d hd => by
    obtain ⟨x, hx, rfl⟩ := List.mem_map.mp hd
    obtain ⟨a, ha, rfl⟩ := List.mem_map.mp hx
    show PyData.canLay0 (.str a.n) = true
    simpa [PyData.canLay0] using (six_ok _ (hA2n a ha).1).2.1) (hR.u64 (by decide)) ?_
  have k40_44 := k40_42.trans (hle43.trans hle44)
  have hdL44 := IsList_le hdL k40_44
  have hdP44 := prd_le hdP k40_44
  walk_at "tb"
  walk_at "i0"
  walk_at "to0"
  walk_at "i0"
  walk_at "x0"
  walk_at "x1"
  walk_at "lal"
  walk_at "nL"
  walk_at "d"
  refine rdyList (gB := g44) F (hnd0 hh) hdL44 (Le.refl _) hdL44 (hnd0 hh) fun it s' R => ?_
  refine ⟨_, _, _, _, _, _, fun i g2 ws => Paired (rd g2) ws ((plA ((hookA kind as1).take i)).map fun a => Row4.d (toR a)), R _ plainTgt_name, (by rw [List.size_toArray]; exact Nat.le_trans hdz (by decide)), .nil, ?_, ?_⟩
  · rintro f' cenv i g4 g5 l T s' v zs E' hw En' hi hle1 hle2 hI hP F
    have hB : Base f'.toWd := by rw [hw]; exact hB
    have G : Good f'.toWd := by rw [hw]; exact G
    obtain ⟨y, hy, hvy⟩ := pat hdP44 (by simpa using hP)
    rw [List.map_map, List.getElem?_map, Option.map_eq_some_iff] at hy
    obtain ⟨a, ha, rfl⟩ := hy
    have hvy5 := hvy.le (hle1.trans hle2)
    obtain ⟨t, v1, v2, v3, v4, rfl, ht, h1, h2, h3, h4⟩ := hvy5.tup4
    obtain rfl := h4.bool
    have hst : plA ((hookA kind as1).take (i + 1)) = plA ((hookA kind as1).take i) ++ (if a.kw then [] else [a]) := by
      unfold plA
      rw [take_snoc ha, List.filter_append]
      cases hq : a.kw <;> simp only [List.filter_cons, List.filter_nil, hq, Bool.not_true, Bool.not_false, if_true, if_false, Bool.false_eq_true]
    walk_at "as1"
    walk_at "l"
    walk_at "ts1"
    walk_at "tn"
    walk_at "tp"
    walk_at "es"
    walk_at "nL"
    walk_at "ki"
    walk_at "stt"
    walk_at "d"
    show wpAny _ _ (truthy (.bool a.kw)) _ _ _
    rw [hst]
    cases hq : a.kw with
    | true =>
      walk_at "tb"
      walk_at "i0"
      refine ⟨_, _, hle1.trans hle2, ?_, F⟩
      simpa using prd_le hI hle2
    | false =>
      walk_at "tb"
      walk_at "i1"
      walk_at "nL"
      refine ⟨_, _, hle1.trans hle2, ?_, F⟩
      rw [List.map_append]
      exact psnoc2 (prd_le hI hle2) hvy5
  rintro g45 g46 pl pvs s46 hle45 hle46 hpv hpL F
  have hpv : Paired (rd g46) pvs ((plA (hookA kind as1)).map fun a => Row4.d (toR a)) := by
    rw [List.size_toArray, hdP44.length, List.length_map, List.length_map, List.take_length] at hpv
    exact prd_le hpv hle46
  have k40_46 := k40_44.trans (hle45.trans hle46)
  have hdL46 := IsList_le hdL k40_46
  have hdP46 := prd_le hdP k40_46
  walk_at "x1"
  walk_at "xanE"
  walk_at "d"
  walk_at "dcl"
  walk_at "ec"
  walk_at "nB"
  walk_at "cw"
  walk_at "a1"
  walk_at "s1"
  walk_at "nL"
  walk_at "s0"
  walk_at "ko"
  walk_at "d"
  refine callEnum F (hnd0 hh) hdL46 fun it s' R => ?_
  refine (R [] 0 default).self ⟨_, _, _, _, _, _, fun i _ kvs => Paired (fun (kv : Str × Value) a => kv.1 = a.n ∧ ∃ t, kv.2 = .int (Vx (hookA kind as1) (alN a)) t) kvs ((hookA kind as1).take i), R _ _ _, .nil, ?_, ?_⟩
  · rintro f' cenv i g4 g5 l D oD T s' v kvs E' hw En' hi hle1 hle2 hI ⟨tt, x, tok, rfl, htt, hP⟩ hD F
    have hB : Base f'.toWd := by rw [hw]; exact hB
    have G : Good f'.toWd := by rw [hw]; exact G
    obtain ⟨y, hy, hvy⟩ := pat hdP46 (by simpa using hP)
    rw [List.map_map, List.getElem?_map, Option.map_eq_some_iff] at hy
    obtain ⟨a, ha, rfl⟩ := hy
    obtain ⟨t, v1, v2, v3, v4, rfl, ht, h1, h2, h3, h4⟩ := (hvy.le (hle1.trans hle2)).tup4
    obtain ⟨tk, rfl⟩ := h1.str
    have hkk := pkeys2 (f := fun a : AtD => a.n) (fun _ _ h => h.1) hI
    have hkl : kvs.length ≤ 6 := by
      rw [← List.length_map (f := (·.1)), hkk, List.length_map, List.length_take]
      omega
    have hfr : a.n ∉ kvs.map (·.1) := by rw [hkk]; exact notin_take (e := fun a : AtD => a.n) hA2d ha
    rw [← show f'.toWd = f.toWd from hw] at hD
    walk_at "asT"
    walk_at "io"
    walk_at "as1"
    walk_at "l"
    walk_at "io"
    walk_at "as1"
    walk_at "l"
    walk_at "io"
    walk_at "ts0"
    walk_at "i1"
    walk_at "emD"
    walk_at "es"
    walk_at "nL"
    walk_at "ki"
    walk_at "stt"
    walk_at "nL"
    walk_at "d"
    refine dsD F hD (Nat.le_trans hkl (by decide)) fun oD' s' hD' F => ?_
    refine ⟨_, _, oD', _, hle1.trans (hle2.trans (by walk_at "le")), ?_, by rw [← show f'.toWd = f.toWd from hw]; exact hD', F⟩
    rw [stored_fresh (show (toR a).n ∉ _ from hfr), take_snoc ha]
    exact psnoc hI ⟨rfl, tok, congrArg (fun z => Value.int z tok) (Vx_at hA2l ha).symm⟩
  rintro g47 VD oV kvV s47 hle47 hkV hV hVm F
  obtain ⟨g48, l48, hVK, F⟩ := F.freezeD hV hVm (by rw [hfX]; exact fun h => nomatch h)
  have hkV : Paired (fun (kv : Str × Value) a => kv.1 = a.n ∧ ∃ t, kv.2 = .int (Vx (hookA kind as1) (alN a)) t) kvV (hookA kind as1) := by
    rw [List.size_toArray, hdP46.length, List.length_map, List.length_map, List.take_length] at hkV
    exact hkV
  have hkVk := pkeys2 (f := fun a : AtD => a.n) (fun _ _ h => h.1) hkV
  refine stC En F ho3 rfl (by rw [hfX]; exact fun h => nomatch h) fun g49 s49 l49 hcV F => ?_
  have k46_49 := hle47.trans (l48.trans l49)
  have k40_49 := k40_46.trans k46_49
  have k32_49 := k32_40.trans k40_49
  have hVK49 := hVK.le l49
  have hpL49 := IsList_le hpL k46_49
  have hpv49 := prd_le hpv k46_49
  have hpz : pvs.length = (plA (hookA kind as1)).length := by rw [hpv.length, List.length_map]
  have hplz : (plA (hookA kind as1)).length ≤ 6 := Nat.le_trans (List.length_filter_le ..) hA2z
  walk_at "x1"
  walk_at "xan"
  walk_at "ec"
  walk_at "nG"
  walk_at "cw"
  walk_at "a1"
  walk_at "s1"
  walk_at "nL"
  walk_at "s1"
  walk_at "d"
  refine lcE (cl := [("values", f.L + 4)]) En (by rw [clos_eq En]; kernel_rfl) (by decide) rfl (by decide) (fun _ => rfl) ?_
  walk_at "nL"
  refine rdyList (gB := g49) F (hnd0 hh) hpL49 (Le.refl _) hpL49 (hnd0 hh) fun it s' R => ?_
  refine ⟨_, _, _, _, _, _, fun i g2 ws => Paired (fun (v : Value) a => ∃ t, v = .int (Vx (hookA kind as1) (alN a)) t) ws ((plA (hookA kind as1)).take i), R _ plainTgt_name, (by rw [List.size_toArray, hpz]; exact Nat.le_trans hplz (by decide)), .nil, ?_, ?_⟩
  · rintro f' cenv i g4 g5 l T s' v zs E' hw En' hi hle1 hle2 hI hP F
    have hB : Base f'.toWd := by rw [hw]; exact hB
    have G : Good f'.toWd := by rw [hw]; exact G
    obtain ⟨y, hy, hvy⟩ := pat hpv49 (by simpa using hP)
    rw [List.getElem?_map, Option.map_eq_some_iff] at hy
    obtain ⟨a, ha, rfl⟩ := hy
    obtain ⟨t, v1, v2, v3, v4, rfl, ht, h1, h2, h3, h4⟩ := (hvy.le (hle1.trans hle2)).tup4
    obtain ⟨tk, rfl⟩ := h1.str
    have hV5 : DK f'.toWd g5 VD kvV := by rw [hw]; exact hVK49.le (hle1.trans hle2)
    have hcV5 := hcV.keeps (hle1.trans hle2)
    obtain ⟨vv, hvv, tv, rfl⟩ := vAt (i := 0) (P := fun v a => ∃ t, v = .int (Vx (hookA kind as1) (alN a)) t) hkV hA2d (List.mem_filter.mp (List.mem_of_getElem? ha)).1
    walk_at "as1"
    walk_at "l"
    walk_at "ts0"
    walk_at "i1"
    walk_at "es"
    walk_at "nC"
    walk_at "es"
    walk_at "nL"
    walk_at "ki"
    walk_at "stt"
    walk_at "d"
    refine subD F (DK.here hV5 (Le.refl _) F) hvv rfl fun s' F => ?_
    refine ⟨_, _, hle1.trans hle2, ?_, F⟩
    rw [take_snoc ha]
    exact psnoc2 hI ⟨tv, rfl⟩
  rintro g50 g51 cl1 cvs s51 hle50 hle51 hcvs hclL F
  rw [List.size_toArray, hpz, List.take_length] at hcvs
  have k49_51 := hle50.trans hle51
  have k40_51 := k40_49.trans k49_51
  have k32_51 := k32_49.trans k49_51
  have hVK51 := hVK49.le k49_51
  have hcV51 := hcV.keeps k49_51
  have hdL51 := IsList_le hdL k40_51
  have hdP51 := prd_le hdP k40_51
  walk_at "s1"
  refine dcE (cl := [("values", f.L + 4)]) hB F rfl rfl En (by rw [clos_eq En]; kernel_rfl) (by decide) rfl (by decide) (fun _ => rfl) ?_
  walk_at "nL"
  refine rdyList (gB := g51) F (hnd0 hh) hdL51 (Le.refl _) hdL51 (hnd0 hh) fun it s' R => ?_
  refine ⟨_, _, _, _, _, _, fun i _ kvs => Paired (fun (kv : Str × Value) a => kv.1 = alN a ∧ ∃ t, kv.2 = .int (Vx (hookA kind as1) (alN a)) t) kvs (((hookA kind as1).take i).filter fun a => a.kw), R _ plainTgt_name, .nil, ?_, ?_⟩
  · rintro f' cenv i g4 g5 l D oD T s' v kvs E' hw En' hi hle1 hle2 hI hP hD F
    have hB : Base f'.toWd := by rw [hw]; exact hB
    have G : Good f'.toWd := by rw [hw]; exact G
    obtain ⟨y, hy, hvy⟩ := pat hdP51 (by simpa using hP)
    rw [List.map_map, List.getElem?_map, Option.map_eq_some_iff] at hy
    obtain ⟨a, ha, rfl⟩ := hy
    obtain ⟨t, v1, v2, v3, v4, rfl, ht, h1, h2, h3, h4⟩ := (hvy.le (hle1.trans hle2)).tup4
    obtain ⟨tk, rfl⟩ := h1.str
    obtain ⟨tk2, rfl⟩ := h2.str
    obtain rfl := h4.bool
    have hV5 : DK f'.toWd g5 VD kvV := by rw [hw]; exact hVK51.le (hle1.trans hle2)
    have hcV5 := hcV51.keeps (hle1.trans hle2)
    obtain ⟨vv, hvv, tv, rfl⟩ := vAt (i := 0) (P := fun v a => ∃ t, v = .int (Vx (hookA kind as1) (alN a)) t) hkV hA2d (List.mem_of_getElem? ha)
    have hst : ((hookA kind as1).take (i + 1)).filter (fun a => a.kw) = ((hookA kind as1).take i).filter (fun a => a.kw) ++ (if a.kw then [a] else []) := by
      rw [take_snoc ha, List.filter_append]
      cases hq : a.kw <;> simp only [List.filter_cons, List.filter_nil, hq, if_true, if_false, Bool.false_eq_true]
    have hkk := pkeys2 (f := alN) (fun _ _ h => h.1) hI
    have hkl : kvs.length ≤ 6 := by
      rw [← List.length_map (f := (·.1)), hkk, List.length_map]
      exact Nat.le_trans (List.length_filter_le ..) (by rw [List.length_take]; omega)
    have hfr : alN a ∉ kvs.map (·.1) := fun hm => by
      rw [hkk] at hm
      obtain ⟨b, hb, e⟩ := List.mem_map.mp hm
      exact notin_take (e := alN) hA2l ha (List.mem_map.mpr ⟨b, (List.mem_filter.mp hb).1, e⟩)
    rw [← show f'.toWd = f.toWd from hw] at hD
    walk_at "as1"
    walk_at "l"
    walk_at "ts1"
    walk_at "tp"
    walk_at "es"
    walk_at "nL"
    walk_at "ki"
    walk_at "stt"
    walk_at "d"
    show wpAny _ _ (truthy (.bool a.kw)) _ _ _
    rw [hst]
    cases hq : a.kw with
    | false =>
      walk_at "tb"
      walk_at "i0"
      refine ⟨_, _, hle1.trans hle2, ?_, F⟩
      simpa using hI
    | true =>
      walk_at "tb"
      walk_at "i1"
      walk_at "emD"
      walk_at "es"
      walk_at "nL"
      walk_at "ki"
      walk_at "stt"
      walk_at "es"
      walk_at "nC"
      walk_at "es"
      walk_at "nL"
      walk_at "ki"
      walk_at "stt"
      refine subD F (DK.here hV5 (Le.refl _) F) hvv rfl fun s' F => ?_
      refine dsD F hD (Nat.le_trans hkl (by decide)) fun oD' s' hD' F => ?_
      refine ⟨_, _, oD', _, hle1.trans (hle2.trans (by walk_at "le")), ?_, by rw [← show f'.toWd = f.toWd from hw]; exact hD', F⟩
      rw [stored_fresh (show (toR a).al ∉ _ from hfr)]
      exact psnoc hI ⟨rfl, tv, rfl⟩
  rintro g52 ND oN kvN s52 hle52 hkN hN hNm F
  obtain ⟨g53, l53, hNK, F⟩ := F.freezeD hN hNm (by rw [hfX]; exact fun h => nomatch h)
  have hkN : Paired (fun (kv : Str × Value) a => kv.1 = alN a ∧ ∃ t, kv.2 = .int (Vx (hookA kind as1) (alN a)) t) kvN ((hookA kind as1).filter fun a => a.kw) := by
    rw [List.size_toArray, hdP51.length, List.length_map, List.length_map, List.take_length] at hkN
    exact hkN
  have hkNk := pkeys2 (f := alN) (fun _ _ h => h.1) hkN
  have hkNz : kvN.length ≤ 6 := by
    rw [← List.length_map (f := (·.1)), hkNk, List.length_map]
    exact Nat.le_trans (List.length_filter_le ..) hA2z
  have hA2a : ∀ a ∈ hookA kind as1, ∃ s, a.al = some s ∧ PyData.strOk s = true := fun a ha => ⟨_, (hA2n a ha).2, (six_ok _ (hA2n a ha).1).2.2.1⟩
  have hA2s : ∀ a ∈ hookA kind as1, alN a ≠ "self" := fun a ha => by rw [(hA2n a ha).alN]; exact (six_ok _ (hA2n a ha).1).2.2.2
  have hcl : cvs.length = (plA (hookA kind as1)).length := hcvs.length
  have k51_53 := hle52.trans l53
  have k32_53 := k32_51.trans k51_53
  have hin : ∀ a ∈ hookA kind as1, alN a ∈ ((plA (hookA kind as1)).take cvs.length).map alN ++ kvN.map (·.1) := fun a ha => by
    rw [hcl, List.take_length, hkNk, List.mem_append]
    cases hq : a.kw with
    | false => exact .inl (List.mem_map_of_mem (List.mem_filter.mpr ⟨ha, by rw [hq]; rfl⟩))
    | true => exact .inr (List.mem_map_of_mem (List.mem_filter.mpr ⟨ha, hq⟩))
  walk_at "s0"
  walk_at "ko"
  refine Calm.use (called_spec G (hxM.le k32_53) (IsList_le hclL k51_53) (by rw [hcl]; exact Nat.le_trans hplz (by decide)) hNK (Nat.le_trans hkNz (by decide)) (fun g' l => call_spec (V := Vx (hookA kind as1)) G (hxM.le (k32_53.trans l)) (hatM.keeps (k32_53.trans l)) (pAt_le hzsM (k32_53.trans l)) hA2d hA2l hA2a (Nat.le_trans hA2z (by decide)) (Nat.le_of_eq hcl)
    (fun i v e => by obtain ⟨a, ha, t, rfl⟩ := pat hcvs e; exact ⟨a, t, ha, rfl⟩) (by rw [hkNk]; exact hA2l.sublist (List.filter_sublist.map _)) (Nat.le_trans hkNz (by decide))
    (fun hm => by rw [hkNk] at hm; obtain ⟨b, hb, e⟩ := List.mem_map.mp hm; exact hA2s b (List.mem_filter.mp hb).1 e)
    (fun kv hkv => by
      obtain ⟨a, ha, h1, t, h2⟩ := pmemL hkN hkv
      have ha' := List.mem_filter.mp ha
      refine ⟨⟨t, by rw [h1]; exact h2⟩, by rw [h1]; exact List.mem_map_of_mem ha'.1, fun hm => ?_⟩
      rw [h1, hcl, List.take_length] at hm
      obtain ⟨b, hb, e⟩ := List.mem_map.mp hm
      have hb' := List.mem_filter.mp hb
      have := inj_of_nodup hA2l b hb'.1 a ha'.1 e
      rw [this, ha'.2] at hb'
      exact absurd hb'.2 (by decide))
    (fun a ha h1 h2 => by
      rcases List.mem_append.mp (hin a ha) with h | h
      · exact absurd h h1
      · exact absurd h h2))) F (hR.le (by decide)) hh ?_
  rintro v54 g54 s54 l54 ⟨xi, Hd, kv2, rfl, hxi, hHd, hkv2⟩ F
  have k32_54 := k32_53.trans l54
  walk_at "l"
  walk_at "x1"
  walk_at "xif"
  walk_at "tc"
  walk_at "ec"
  walk_at "nG"
  walk_at "cw"
  walk_at "a1"
  walk_at "s1"
  walk_at "nL"
  walk_at "s0"
  walk_at "ko"
  walk_at "d"
  refine Calm.use (asdict_spec G hxi (hxM.le k32_54) (hatM.keeps k32_54) (pAt_le hzsM k32_54) hA2d (Nat.le_trans hA2z (by decide)) hHd hkv2) F (hR.le (by decide)) hh ?_
  rintro v55 g55 s55 l55 ⟨R1, kv3, rfl, hR1, hkv3⟩ F
  have k51_55 := k51_53.trans (l54.trans l55)
  have hcV55 := hcV51.keeps k51_55
  walk_at "nC"
  refine dictNe F hR1 (hVK51.le k51_55) (hR.units) (by rw [hkVk]; exact hA2d) (pjoin hkv3 hkV fun x y a ha h1 h2 => by
    obtain ⟨e1, t, e2⟩ := h1
    obtain ⟨e3, u, e4⟩ := h2
    refine ⟨e1.trans e3.symm, _, t, u, ?_, e4⟩
    rw [e2]
    unfold wV
    rw [if_pos (hin a ha)]) ?_
  walk_at "tb"
  walk_at "i0"
  walk_at "x0"
  walk_at "x1"
  walk_at "xan"
  walk_at "ec"
  walk_at "nG"
  walk_at "cw"
  walk_at "a1"
  walk_at "s1"
  walk_at "nL"
  walk_at "s1"
  walk_at "el"
  walk_at "s0"
  walk_at "d"
  walk_at "lst"
  have hnl := ht
  have k40_56 := k40_51.trans (k51_55.trans hle)
  have k32_56 := k32_54.trans (l55.trans hle)
  have hdL56 := IsList_le hdL k40_56
  have hdP56 := prd_le hdP k40_56
  walk_at "s1"
  walk_at "dcl"
  walk_at "nL"
  refine rdyList F (hnd0 hh) hdL56 (Le.refl _) hdL56 (hnd0 hh) fun it s' R => ?_
  refine ⟨_, _, _, _, _, _, fun i _ kvs => Paired (fun (kv : Str × Value) a => kv.1 = alN a ∧ ∃ t, kv.2 = .int 5 t) kvs (((hookA kind as1).take i).filter fun a => !a.st), R _ plainTgt_name, .nil, ?_, ?_⟩
  · rintro f' cenv i g4 g5 l D oD T s' v kvs E' hw En' hi hle1 hle2 hI hP hD F
    have hB : Base f'.toWd := by rw [hw]; exact hB
    have G : Good f'.toWd := by rw [hw]; exact G
    obtain ⟨y, hy, hvy⟩ := pat hdP56 (by simpa using hP)
    rw [List.map_map, List.getElem?_map, Option.map_eq_some_iff] at hy
    obtain ⟨a, ha, rfl⟩ := hy
    obtain ⟨t, v1, v2, v3, v4, rfl, ht, h1, h2, h3, h4⟩ := (hvy.le (hle1.trans hle2)).tup4
    obtain ⟨tk2, rfl⟩ := h2.str
    obtain rfl := h3.bool
    have hst : ((hookA kind as1).take (i + 1)).filter (fun a => !a.st) = ((hookA kind as1).take i).filter (fun a => !a.st) ++ (if a.st then [] else [a]) := by
      rw [take_snoc ha, List.filter_append]
      cases hq : a.st <;> simp only [List.filter_cons, List.filter_nil, hq, Bool.not_true, Bool.not_false, if_true, if_false, Bool.false_eq_true]
    have hkk := pkeys2 (f := alN) (fun _ _ h => h.1) hI
    have hkl : kvs.length ≤ 6 := by
      rw [← List.length_map (f := (·.1)), hkk, List.length_map]
      exact Nat.le_trans (List.length_filter_le ..) (by rw [List.length_take]; omega)
    have hfr : alN a ∉ kvs.map (·.1) := fun hm => by
      rw [hkk] at hm
      obtain ⟨b, hb, e⟩ := List.mem_map.mp hm
      exact notin_take (e := alN) hA2l ha (List.mem_map.mpr ⟨b, (List.mem_filter.mp hb).1, e⟩)
    rw [← show f'.toWd = f.toWd from hw] at hD
    walk_at "as1"
    walk_at "l"
    walk_at "ts1"
    walk_at "tn"
    walk_at "tp"
    walk_at "es"
    walk_at "nL"
    walk_at "ki"
    walk_at "stt"
    walk_at "d"
    show wpAny _ _ (truthy (.bool a.st)) _ _ _
    rw [hst]
    cases hq : a.st with
    | true =>
      walk_at "tb"
      walk_at "i0"
      refine ⟨_, _, hle1.trans hle2, ?_, F⟩
      simpa using hI
    | false =>
      walk_at "tb"
      walk_at "i1"
      walk_at "emD"
      walk_at "es"
      walk_at "nL"
      walk_at "ki"
      walk_at "stt"
      walk_at "ki"
      refine dsD F hD (Nat.le_trans hkl (by decide)) fun oD' s' hD' F => ?_
      refine ⟨_, _, oD', _, hle1.trans (hle2.trans (by walk_at "le")), ?_, by rw [← show f'.toWd = f.toWd from hw]; exact hD', F⟩
      rw [stored_fresh (show (toR a).al ∉ _ from hfr)]
      exact psnoc hI ⟨rfl, _, rfl⟩
  rintro g57 ND2 oN2 kvN2 s57 hle57 hkN2 hN2 hNm2 F
  obtain ⟨g58, l58, hNK2, F⟩ := F.freezeD hN2 hNm2 (by rw [hfX]; exact fun h => nomatch h)
  have hkN2 : Paired (fun (kv : Str × Value) a => kv.1 = alN a ∧ ∃ t, kv.2 = .int 5 t) kvN2 ((hookA kind as1).filter fun a => !a.st) := by
    rw [List.size_toArray, hdP56.length, List.length_map, List.length_map, List.take_length] at hkN2
    exact hkN2
  have hkNk2 := pkeys2 (f := alN) (fun _ _ h => h.1) hkN2
  have hkNz2 : kvN2.length ≤ 6 := by
    rw [← List.length_map (f := (·.1)), hkNk2, List.length_map]
    exact Nat.le_trans (List.length_filter_le ..) hA2z
  have k56_58 := hle57.trans l58
  have k32_58 := k32_56.trans k56_58
  walk_at "s0"
  walk_at "ko"
  refine Calm.use (called_spec (vs := []) G (hxM.le k32_58) (IsList_le hnl k56_58) (Nat.zero_le _) hNK2 (Nat.le_trans hkNz2 (by decide)) (fun g' l => call_spec (V := fun _ => 5) G (hxM.le (k32_58.trans l)) (hatM.keeps (k32_58.trans l)) (pAt_le hzsM (k32_58.trans l)) hA2d hA2l hA2a (Nat.le_trans hA2z (by decide)) (Nat.zero_le _)
    (fun i v e => by simp at e) (by rw [hkNk2]; exact hA2l.sublist (List.filter_sublist.map _)) (Nat.le_trans hkNz2 (by decide))
    (fun hm => by rw [hkNk2] at hm; obtain ⟨b, hb, e⟩ := List.mem_map.mp hm; exact hA2s b (List.mem_filter.mp hb).1 e)
    (fun kv hkv => by
      obtain ⟨a, ha, h1, t, h2⟩ := pmemL hkN2 hkv
      have ha' := List.mem_filter.mp ha
      exact ⟨⟨t, h2⟩, by rw [h1]; exact List.mem_map_of_mem ha'.1, fun hm => by simp at hm⟩)
    (fun a ha h1 h2 => by
      cases hq : a.st with
      | true => rfl
      | false => exact absurd (by rw [hkNk2]; exact List.mem_map_of_mem (List.mem_filter.mpr ⟨ha, by rw [hq]; rfl⟩)) h2))) F (hR.le (by decide)) hh ?_
  rintro v59 g59 s59 l59 ⟨xi2, Hd2, kv4, rfl, hxi2, hHd2, hkv4⟩ F
  have k32_59 := k32_58.trans l59
  walk_at "l"
  walk_at "x1"
  walk_at "xret"
  walk_at "ec1"
  walk_at "ec"
  walk_at "nG"
  walk_at "cw"
  walk_at "a1"
  walk_at "s1"
  walk_at "nL"
  walk_at "s0"
  walk_at "ko"
  walk_at "d"
  refine Calm.use (asdict_spec G hxi2 (hxM.le k32_59) (hatM.keeps k32_59) (pAt_le hzsM k32_59) hA2d (Nat.le_trans hA2z (by decide)) hHd2 hkv4) F (hR.le (by decide)) hh ?_
  rintro v60 g60 s60 l60 ⟨R2, kv5, rfl, hR2, hkv5⟩ F
  have k40_60 := k40_56.trans (k56_58.trans (l59.trans l60))
  have hdL60 := IsList_le hdL k40_60
  have hdP60 := prd_le hdP k40_60
  walk_at "dcl"
  walk_at "nL"
  refine rdyList (gB := g60) F (hnd0 hh) hdL60 (Le.refl _) hdL60 (hnd0 hh) fun it s' R => ?_
  refine ⟨_, _, _, _, _, _, fun i _ kvs => Paired (fun (kv : Str × Value) a => kv.1 = a.n ∧ ∃ t, kv.2 = .int (if a.st then 70 else 5) t) kvs ((hookA kind as1).take i), R _ plainTgt_name, .nil, ?_, ?_⟩
  · rintro f' cenv i g4 g5 l D oD T s' v kvs E' hw En' hi hle1 hle2 hI hP hD F
    have hB : Base f'.toWd := by rw [hw]; exact hB
    have G : Good f'.toWd := by rw [hw]; exact G
    obtain ⟨y, hy, hvy⟩ := pat hdP60 (by simpa using hP)
    rw [List.map_map, List.getElem?_map, Option.map_eq_some_iff] at hy
    obtain ⟨a, ha, rfl⟩ := hy
    obtain ⟨t, v1, v2, v3, v4, rfl, ht, h1, h2, h3, h4⟩ := (hvy.le (hle1.trans hle2)).tup4
    obtain ⟨tk, rfl⟩ := h1.str
    obtain rfl := h3.bool
    have hkk := pkeys2 (f := fun a : AtD => a.n) (fun _ _ h => h.1) hI
    have hkl : kvs.length ≤ 6 := by
      rw [← List.length_map (f := (·.1)), hkk, List.length_map, List.length_take]
      omega
    have hfr : a.n ∉ kvs.map (·.1) := by rw [hkk]; exact notin_take (e := fun a : AtD => a.n) hA2d ha
    rw [← show f'.toWd = f.toWd from hw] at hD
    walk_at "as1"
    walk_at "l"
    walk_at "ts0"
    walk_at "i1"
    walk_at "emD"
    walk_at "es"
    walk_at "nL"
    walk_at "ki"
    walk_at "stt"
    walk_at "ei"
    walk_at "tp"
    walk_at "es"
    walk_at "nL"
    walk_at "ki"
    walk_at "stt"
    walk_at "d"
    show wpAny _ _ (truthy (.bool a.st)) _ _ _
    cases hq : a.st with
    | true =>
      walk_at "tb"
      walk_at "i1"
      walk_at "ki"
      refine dsD F hD (Nat.le_trans hkl (by decide)) fun oD' s' hD' F => ?_
      refine ⟨_, _, oD', _, hle1.trans (hle2.trans (by walk_at "le")), ?_, by rw [← show f'.toWd = f.toWd from hw]; exact hD', F⟩
      rw [stored_fresh (show (toR a).n ∉ _ from hfr), take_snoc ha]
      exact psnoc hI ⟨rfl, _, congrArg (fun z => Value.int z _) (show (70 : Int) = if a.st = true then 70 else 5 by rw [hq]; rfl)⟩
    | false =>
      walk_at "tb"
      walk_at "i0"
      walk_at "ki"
      refine dsD F hD (Nat.le_trans hkl (by decide)) fun oD' s' hD' F => ?_
      refine ⟨_, _, oD', _, hle1.trans (hle2.trans (by walk_at "le")), ?_, by rw [← show f'.toWd = f.toWd from hw]; exact hD', F⟩
      rw [stored_fresh (show (toR a).n ∉ _ from hfr), take_snoc ha]
      exact psnoc hI ⟨rfl, _, congrArg (fun z => Value.int z _) (show (5 : Int) = if a.st = true then 70 else 5 by rw [hq]; rfl)⟩
  rintro g61 WD oW kvW s61 hle61 hkW hW hWm F
  obtain ⟨g62, l62, hWK, F⟩ := F.freezeD hW hWm (by rw [hfX]; exact fun h => nomatch h)
  have hkW : Paired (fun (kv : Str × Value) a => kv.1 = a.n ∧ ∃ t, kv.2 = .int (if a.st then 70 else 5) t) kvW (hookA kind as1) := by
    rw [List.size_toArray, hdP60.length, List.length_map, List.length_map, List.take_length] at hkW
    exact hkW
  have hkWk := pkeys2 (f := fun a : AtD => a.n) (fun _ _ h => h.1) hkW
  refine dictEq F (hR2.le (hle61.trans l62)) hWK (hR.units) (by rw [hkWk]; exact hA2d) (pjoin hkv5 hkW fun x y a ha h1 h2 => by
    obtain ⟨e1, t, e2⟩ := h1
    obtain ⟨e3, u, e4⟩ := h2
    refine ⟨e1.trans e3.symm, _, t, u, ?_, e4⟩
    rw [e2]
    unfold wV
    rw [hkNk2]
    congr 1
    cases hq : a.st with
    | false => rw [if_pos (List.mem_append_right _ (List.mem_map_of_mem (List.mem_filter.mpr ⟨ha, by rw [hq]; rfl⟩)))]; rfl
    | true =>
      rw [if_neg fun hm => ?_]; rfl
      rcases List.mem_append.mp hm with hm | hm
      · simp at hm
      · obtain ⟨b, hb, e⟩ := List.mem_map.mp hm
        have hb' := List.mem_filter.mp hb
        have := inj_of_nodup hA2l b hb'.1 a ha e
        rw [this, hq] at hb'
        exact absurd hb'.2 (by decide)) ?_
  exact back F hfe hfg hfX rfl
/-! JoinF -/
theorem ints_of : ∀ {vs : List Value} {ns : List Int}, IntsAre vs ns → ∃ xs : List (Int × Tok), vs = xs.map iv ∧ xs.length = ns.length
  | _, _, .nil => ⟨[], rfl, rfl⟩
  | _, _, .cons n t h => by
    obtain ⟨xs, e1, e2⟩ := ints_of h
    exact ⟨(n, t) :: xs, by rw [e1]; rfl, by simp [e2]⟩
/-- the start: what is known at the head, without the tables -/
theorem start_law {prog : Program} {w : World} {s₁ : Shared} {mg mb : Str → Option Value} {loose : List Str} {mean : ExcName → Option Value} {p : Program}
    (KX : (Mine.hd.heap_39 w.params).In s₁.heap) (hT : ∀ P, P ∈ [445, 238, 520] → s₁.heap.get? P = some (tabObj #[])) (T : Top p loose mean mg mb s₁.heap) (hg : s₁.gens = #[]) :
    ∃ d : Wd, Good d ∧ d.prog = prog ∧ d.w = w ∧ d.os = s₁.os ∧ Wo d d.B [] s₁ ∧ (∀ b o, s₁.heap.get? b = some o → b ∉ [238, 520] → d.B.get? b = some o) := by
  have hB : ∀ b o, s₁.heap.get? b = some o → b ∉ [238, 520] → (pick s₁.heap fun b => b ∉ [238, 520]).get? b = some o := fun b o e h => (pick_get ..).mpr ⟨h, e⟩
  have sub : Le (pick s₁.heap fun b => b ∉ [238, 520]) s₁.heap := fun b o e => ((pick_get ..).mp e).2
  have no : ∀ P ∈ [238, 520], (pick s₁.heap fun b => b ∉ [238, 520]).get? P = none := fun P hP => by
    cases q : (pick s₁.heap fun b => b ∉ [238, 520]).get? P with
    | none => rfl
    | some o => exact absurd hP ((pick_get ..).mp q).1
  have hP : ∀ P ∈ [238, 520], s₁.heap.get? P = some (tabObj #[]) := fun P h => hT P (.tail _ h)
  have apart : ∀ b o, s₁.heap.get? b = some o → (∀ vs, o.data ≠ .fields vs) → b ∉ [238, 520] := fun b o e h hm => by
    rw [hP b hm] at e
    cases e
    exact h _ rfl
  have ns : ∀ {a : Addr} {m : Str → Option Value}, s₁.heap.Ns a m → (pick s₁.heap fun b => b ∉ [238, 520]).Ns a m := fun h => by
    obtain ⟨o, es, ep, ho, hd, r⟩ := h
    exact ⟨o, es, ep, hB _ _ ho (apart _ _ ho fun vs z => by rw [hd] at z; cases z), hd, r⟩
  have inB : (Mine.hd.heap_39 w.params).In (pick s₁.heap fun b => b ∉ [238, 520]) := fun a o e => hB a o (KX a o e) fun hm => by
    rcases List.mem_cons.mp hm with rfl | hm
    · have : (Mine.hd.heap_39 w.params).lookup 238 = none := by kernel_rfl
      rw [this] at e; cases e
    · rw [List.mem_singleton.mp hm] at e
      have : (Mine.hd.heap_39 w.params).lookup 520 = none := by kernel_rfl
      rw [this] at e; cases e
  refine ⟨⟨prog, w, Mine.hd.heap_39 w.params, [qD, qH], mg, mb, pick s₁.heap fun b => b ∉ [238, 520], s₁.os⟩, ⟨⟨inB, ns T.g, ns T.b, ?_, T.builtins, ?_, ?_⟩, rfl, rfl⟩, rfl, rfl, rfl, ⟨hg, rfl, Le.refl _, sub, ?_, (fun _ h => nomatch h), List.nodup_nil, ?_⟩, hB⟩
  · obtain ⟨mc, h, e⟩ := T.nolimit
    exact ⟨mc, ns h, e⟩
  · obtain ⟨bm, ob, h1, h2, h3, h4, h5, h6⟩ := T.bmain
    exact ⟨bm, ob, h1, h2, hB _ _ h3 (apart _ _ h3 fun vs z => by rw [h6] at z; cases z), h4, h5, h6⟩
  · intro q hq
    rcases List.mem_cons.mp hq with rfl | hq
    · exact codeHd_of_K inB (by kernel_rfl)
    · rw [List.mem_singleton.mp hq]
      exact codeHd_of_K inB (by kernel_rfl)
  · intro q hq
    have hm : q.P ∈ [238, 520] := by
      rcases List.mem_cons.mp hq with rfl | hq
      · exact .head _
      · rw [List.mem_singleton.mp hq]; exact .tail _ (.head _)
    exact ⟨⟨#[], hP _ hm, by simp [TriplesOk], fun c hc => by simp [codeAmong] at hc⟩, no _ hm⟩
  · show (pick s₁.heap _).objs.size ≤ _
    unfold pick
    simp
set_option maxHeartbeats 4000000 in
theorem law_holds : PySem.Challenge.rw_vc0015_01.Holds := Mine.hd (by
  k_fill
  intro w s₀ s₁ mg mb G Y fa o pm cd doc dV kV ho hd hcd hD hmg hg args vals as hpre hlay hrd hwl hlo
  have KX := km_in_of Y
  km_tabs Y
  refine Ground.open G ?_
  intro T B D TE TW
  have hfa : mg "law" = some (.ref fa) := hmg
  rw [mg_of (n := "law") (v := .ref 523) KX T.g (by kernel_rfl)] at hfa
  cases hfa
  clear hd hcd hD ho G Y hmg B D TE TW
  wrow_args hpre hlay hrd hwl hlo
  rename_i ns _ _ _ _ _ _ _ l vs _ hL _ _ _ hI _ hc _
  refine enter_call ?_
  obtain ⟨xs, rfl, hxs⟩ := ints_of hI
  obtain ⟨d, Gd, e1, e2, e3, W, hB⟩ := start_law (prog := PySem.Challenge.rw_vc0015_01.row.prog) KX hT8 T hg
  have hLB : d.B.IsList l (xs.map iv).toArray := by
    obtain ⟨o, h1, h2, n, h3⟩ := hL
    refine ⟨o, hB _ _ h1 fun hm => ?_, h2, n, h3⟩
    rw [hT8 l (.tail _ hm)] at h1
    cases h1
    cases h2
  have := law_spec Gd hLB (by omega) callerA s₁ ⟨by decide, by decide⟩ rfl rfl W
  rw [e1, e2] at this
  refine codeAny_mono this fun r s' hr => ?_
  obtain ⟨v, g', rfl, P, rfl⟩ := hr
  have htab : ∀ b, (∀ q ∈ d.tabs, q.P ≠ b) ∨ ∃ q ∈ d.tabs, q.P = b := fun b => Classical.byCases (p := ∃ q ∈ d.tabs, q.P = b) .inr fun h => .inl fun q hq e => h ⟨q, hq, e⟩
  have grown : ∀ q ∈ d.tabs, s₁.heap.get? q.P = some (tabObj #[]) ∧ isCodeTable s₁.heap q.P ∧ ∃ ps, s'.heap.get? q.P = some (tabObj ps) := fun q hq => by
    have hP : s₁.heap.get? q.P = some (tabObj #[]) := hT8 _ (by
      rw [Gd.tabs] at hq
      rcases List.mem_cons.mp hq with rfl | hq
      · exact .tail _ (.head _)
      · rw [List.mem_singleton.mp hq]; exact .tail _ (.tail _ (.head _)))
    obtain ⟨ps, h1, _⟩ := (P.wo.tabs q hq).1
    exact ⟨hP, (((Gd.base.codes q hq).keeps W.sub).tab hP).isCodeTable, ps, h1⟩
  refine ⟨.inl ⟨.bool true, .bool true, [], rfl, fun _ => rfl, .bool _, ?_, fun _ => ⟨List.nodup_nil, fun _ h => nomatch h⟩⟩, ⟨fun b o e => ?_, fun b o e => ?_⟩, P.wo.os.trans e3, .of_eq P.wo.gens⟩
  · refine postW_of (X := true) (by rfl) ?_ rfl
    show WTm.value _ (.eq .res (.lit (.bool true))) _ = _
    simp [WTm.value, same]
  · rcases htab b with h | ⟨q, hq, rfl⟩
    · exact .inl (P.keep b o e h fun h => nomatch h)
    · obtain ⟨h1, h2, ps, h3⟩ := grown q hq
      rw [h1] at e
      cases e
      exact .inr (.inl ⟨h2, rfl, #[], ps, rfl, by rw [Array.empty_append]; exact h3⟩)
  · rcases htab b with h | ⟨q, hq, rfl⟩
    · exact ⟨o, P.keep b o e h fun h => nomatch h⟩
    · obtain ⟨_, _, ps, h3⟩ := grown q hq
      exact ⟨_, h3⟩)
end Mine
theorem PySem.Challenge.cw_vc0015_01_holds : PySem.Challenge.rw_vc0015_01.Holds := by
  exact Mine.law_holds
