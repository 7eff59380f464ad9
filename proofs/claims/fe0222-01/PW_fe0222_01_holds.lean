import PyProof.Rows.All
import Wide.All
import OpenK.AllK
import Wide.FinOn
import PySem.Challenge.RW_fe0222_01
set_option Elab.async false
set_option maxRecDepth 100000
set_option maxHeartbeats 0
namespace Mine
open PySem PySem.W PyProof.Rows
open_top hd for PySem.Challenge.rw_fe0222_01
end Mine
namespace Mine
open PySem PySem.W PySem.Calls PyProof.Rows
abbrev Ledger := List (Addr × Obj)
def ExcCls (c : Value) : Prop := c = .type "KeyError" ∨ c = .type "ValueError" ∨ c = .type "RuntimeError" ∨ c = .ref 24
def IsSoft (o : Obj) : Prop := o.cls = .type "traceback" ∨ ExcCls o.cls
/-- a record of an exception's class -/
def IsExc (o : Obj) : Prop := ExcCls o.cls ∧ ∃ vs, o.data = .fields vs
theorem ExcCls.ne_tb {c : Value} (h : ExcCls c) : c ≠ .type "traceback" := by
  rcases h with h | h | h | h <;> subst h <;> decide
/-- how an object may turn: an exception's or a traceback's fields; a dict's slots; nothing else -/
structure ORel (o o' : Obj) : Prop where
  cls : o'.cls = o.cls
  soft : IsSoft o → ∀ vs, o.data = .fields vs → ∃ vs', o'.data = .fields vs' ∧ vs'.size = vs.size ∧ (ExcCls o.cls → vs'[2]? = vs[2]?)
  rec_ : ¬ IsSoft o → ∀ vs, o.data = .fields vs → o' = o
  dict : ∀ es n, o.data = .dict es n → ∃ sl, o' = { o with slots := sl }
  other : (∀ vs, o.data ≠ .fields vs) → (∀ es n, o.data ≠ .dict es n) → o' = o
theorem ORel.refl (o : Obj) : ORel o o := ⟨rfl, fun _ vs h => ⟨vs, h, rfl, fun _ => rfl⟩, fun _ _ _ => rfl, fun _ _ _ => ⟨o.slots, rfl⟩, fun _ _ => rfl⟩
theorem ORel.trans {o o' o'' : Obj} (a : ORel o o') (b : ORel o' o'') : ORel o o'' := by
  have soft' : IsSoft o' ↔ IsSoft o := by unfold IsSoft; rw [a.cls]
  refine ⟨b.cls.trans a.cls, fun hs vs hv => ?_, fun hs vs hv => ?_, fun es n hd => ?_, fun h1 h2 => ?_⟩
  · obtain ⟨vs', h1, h2, h2'⟩ := a.soft hs vs hv
    obtain ⟨vs'', h3, h4, h4'⟩ := b.soft (soft'.mpr hs) vs' h1
    exact ⟨vs'', h3, h4.trans h2, fun z => (h4' (by rw [a.cls]; exact z)).trans (h2' z)⟩
  · have e := a.rec_ hs vs hv
    subst e
    exact b.rec_ hs vs hv
  · obtain ⟨sl, e⟩ := a.dict es n hd
    have hd' : o'.data = .dict es n := by rw [e]; exact hd
    obtain ⟨sl', e'⟩ := b.dict es n hd'
    exact ⟨sl', by rw [e', e]⟩
  · have e := a.other h1 h2
    subst e
    exact b.other h1 h2
/-- only the slots turn, of a dict -/
theorem ORel.slots {o : Obj} (sl : Array (Option Value)) (hd : ∃ es n, o.data = .dict es n) : ORel o { o with slots := sl } := by
  obtain ⟨es, n, e⟩ := hd
  exact ⟨rfl, fun _ vs h => ⟨vs, h, rfl, fun _ => rfl⟩, fun _ vs h => (by rw [e] at h; cases h), fun _ _ _ => ⟨sl, rfl⟩, fun _ q => absurd e (q es n)⟩
theorem ORel.isExc {o o' : Obj} (r : ORel o o') (h : IsExc o) : IsExc o' := by
  obtain ⟨h1, vs, h2⟩ := h
  obtain ⟨vs', h3, _, _⟩ := r.soft (.inr h1) vs h2
  exact ⟨by rw [r.cls]; exact h1, vs', h3⟩
theorem ORel.isExc_back {o o' : Obj} (r : ORel o o') (h : IsExc o') : IsExc o := by
  obtain ⟨h1, vs, h2⟩ := h
  refine ⟨by rw [← r.cls]; exact h1, ?_⟩
  by_cases q : ∃ ws, o.data = .fields ws
  · exact q
  · by_cases q2 : ∃ es n, o.data = .dict es n
    · obtain ⟨es, n, e⟩ := q2
      obtain ⟨sl, e'⟩ := r.dict es n e
      rw [e'] at h2
      exact ⟨vs, h2⟩
    · have e := r.other (fun ws z => q ⟨ws, z⟩) (fun es n z => q2 ⟨es, n, z⟩)
      rw [e] at h2
      exact ⟨vs, h2⟩
/-- what a stretch may do to a ledger: at `Mut` all; at `fr` a dict's slots; exceptions' and tracebacks' fields -/
def Step (Mut fr : List Addr) (nz nz' : Ledger) : Prop := ∀ p ∈ nz, p.1 ∉ Mut → ∃ o', (p.1, o') ∈ nz' ∧ ORel p.2 o' ∧ (p.1 ∉ fr → (∃ es n, p.2.data = .dict es n) → o' = p.2)
theorem Step.refl (Mut fr : List Addr) (nz : Ledger) : Step Mut fr nz nz := fun p hp _ => ⟨p.2, hp, ORel.refl _, fun _ _ => rfl⟩
theorem Step.sub {Mut fr : List Addr} {nz nz' : Ledger} (h : ∀ p ∈ nz, p ∈ nz') : Step Mut fr nz nz' := fun p hp _ => ⟨p.2, h p hp, ORel.refl _, fun _ _ => rfl⟩
theorem Step.trans {Mut fr : List Addr} {a b c : Ledger} (x : Step Mut fr a b) (y : Step Mut fr b c) : Step Mut fr a c := fun p hp hm => by
  obtain ⟨o', h1, h2, h3⟩ := x p hp hm
  obtain ⟨o'', h4, h5, h6⟩ := y _ h1 hm
  refine ⟨o'', h4, h2.trans h5, fun q d => ?_⟩
  have e := h3 q d
  subst e
  exact h6 q d
theorem Step.weaken {M M' fr fr' : List Addr} {a b : Ledger} (x : Step M fr a b) (h : ∀ b, b ∈ M → b ∈ M') (h' : ∀ b, b ∈ fr → b ∈ fr') : Step M' fr' a b := fun p hp hm => by
  obtain ⟨o', h1, h2, h3⟩ := x p hp fun q => hm (h _ q)
  exact ⟨o', h1, h2, fun q => h3 fun z => q (h' _ z)⟩
theorem Step.keeps {Mut fr : List Addr} {nz nz' : Ledger} (S : Step Mut fr nz nz') {p : Addr × Obj} (hp : p ∈ nz) (hm : p.1 ∉ Mut) (hf : ∀ vs, p.2.data ≠ .fields vs) (hd : ∀ es n, p.2.data ≠ .dict es n) : p ∈ nz' := by
  obtain ⟨o', h1, h2, _⟩ := S p hp hm
  rw [h2.other hf hd] at h1
  exact h1
theorem Step.keepsR {Mut fr : List Addr} {nz nz' : Ledger} (S : Step Mut fr nz nz') {p : Addr × Obj} (hp : p ∈ nz) (hm : p.1 ∉ Mut) (hs : ¬ IsSoft p.2) (hf : ∃ vs, p.2.data = .fields vs) : p ∈ nz' := by
  obtain ⟨o', h1, h2, _⟩ := S p hp hm
  obtain ⟨vs, e⟩ := hf
  rw [h2.rec_ hs vs e] at h1
  exact h1
theorem Step.keepsD {Mut fr : List Addr} {nz nz' : Ledger} (S : Step Mut fr nz nz') {p : Addr × Obj} (hp : p ∈ nz) (hm : p.1 ∉ Mut) (hfr : p.1 ∉ fr) (hd : ∃ es n, p.2.data = .dict es n) : p ∈ nz' := by
  obtain ⟨o', h1, _, h2⟩ := S p hp hm
  rw [h2 hfr hd] at h1
  exact h1
theorem Step.dict {Mut fr : List Addr} {nz nz' : Ledger} (S : Step Mut fr nz nz') {a : Addr} {o : Obj} (hp : (a, o) ∈ nz) (hm : a ∉ Mut) (hd : ∃ es n, o.data = .dict es n) : ∃ sl, (a, { o with slots := sl }) ∈ nz' := by
  obtain ⟨o', h1, h2, _⟩ := S (a, o) hp hm
  obtain ⟨es, n, e⟩ := hd
  obtain ⟨sl, h3⟩ := h2.dict es n e
  have h3' : o' = { o with slots := sl } := h3
  subst h3'
  exact ⟨sl, h1⟩
/-- an exception stays one -/
theorem Step.exc {Mut fr : List Addr} {nz nz' : Ledger} (S : Step Mut fr nz nz') {a : Addr} {o : Obj} (hp : (a, o) ∈ nz) (hm : a ∉ Mut) (hx : IsExc o) : ∃ o', (a, o') ∈ nz' ∧ IsExc o' ∧ o'.cls = o.cls ∧ ORel o o' := by
  obtain ⟨o', h1, h2, _⟩ := S (a, o) hp hm
  exact ⟨o', h1, h2.isExc hx, h2.cls, h2⟩
structure Led (h₀ h : Heap) (nz : Ledger) : Prop where
  keep : h₀.StaysIn h
  size : h₀.objs.size ≤ h.objs.size
  at_ : ∀ p ∈ nz, h.get? p.1 = some p.2 ∧ h₀.get? p.1 = none
def ExcOK (nz : Ledger) (o : Obj) : Prop := ∃ vs, o.data = .fields vs ∧ 6 ≤ vs.size ∧
  (vs[1]? = some .none ∨ ∃ T oT ts, vs[1]? = some (.ref T) ∧ (T, oT) ∈ nz ∧ oT.cls = .type "traceback" ∧ oT.data = .fields ts ∧ 4 ≤ ts.size)
def SoftOK (nz : Ledger) : Prop := ∀ p ∈ nz, IsExc p.2 → ExcOK nz p.2
def TBOf (nz : Ledger) (o : Obj) : Prop := ∃ vs T oT ts, o.data = .fields vs ∧ 6 ≤ vs.size ∧ vs[1]? = some (.ref T) ∧ (T, oT) ∈ nz ∧ oT.cls = .type "traceback" ∧ oT.data = .fields ts ∧ 4 ≤ ts.size
/-- e has a traceback -/
def Noted (nz : Ledger) (e : Addr) : Prop := ∃ o, (e, o) ∈ nz ∧ IsExc o ∧ TBOf nz o
def FramesIn (nz : Ledger) (outer : List Env) : Prop := ∀ env ∈ outer, env.scope.kind ≠ .module ∧ ∃ L o, env.frame = some L ∧ (L, o) ∈ nz ∧ ∃ es ep, o.data = .dict es ep
theorem FramesIn.nil (nz : Ledger) : FramesIn nz [] := fun _ h => nomatch h
theorem FramesIn.mono {nz nz' : Ledger} {outer : List Env} (h : FramesIn nz outer) (s : ∀ p ∈ nz, p ∈ nz') : FramesIn nz' outer := fun env he => by
  obtain ⟨h1, L, o, h2, h3, h4⟩ := h env he
  exact ⟨h1, L, o, h2, s _ h3, h4⟩
theorem FramesIn.step {nz nz' : Ledger} {Mut fr : List Addr} {outer : List Env} (h : FramesIn nz outer) (s : Step Mut fr nz nz') (hm : ∀ a ∈ Mut, ∀ o, (a, o) ∈ nz → ∀ es ep, o.data ≠ .dict es ep) : FramesIn nz' outer := fun env he => by
  obtain ⟨h1, L, o, h2, h3, h4⟩ := h env he
  obtain ⟨sl, h5⟩ := s.dict h3 (fun q => by obtain ⟨es, ep, e⟩ := h4; exact hm L q o h3 es ep e) h4
  exact ⟨h1, L, _, h2, h5, h4⟩
theorem SoftOK.cons {nz : Ledger} {p : Addr × Obj} (h : SoftOK nz) (hp : ¬ IsExc p.2) : SoftOK (p :: nz) := by
  intro q hq hx
  rcases List.mem_cons.mp hq with rfl | hq
  · exact absurd hx hp
  · obtain ⟨vs, h1, h2, h3⟩ := h q hq hx
    refine ⟨vs, h1, h2, h3.imp id ?_⟩
    rintro ⟨T, oT, ts, a, b, c, d, e⟩
    exact ⟨T, oT, ts, a, .tail _ b, c, d, e⟩
/-! the frame at hand, as a ledger -/
section
variable {h₀ h h' : Heap} {L : Addr} {m : Str → Option Value} {news : Ledger}
theorem ns_obj (F : Fr h₀ L h m) : ∃ o es ep, h.get? L = some o ∧ o.data = .dict es ep := by
  obtain ⟨o, es, ep, ho, hd, _⟩ := F.ns
  exact ⟨o, es, ep, ho, hd⟩
theorem led_of (F : Fr h₀ L h m) (N : News h₀ L h news) : Led h₀ h news :=
  ⟨F.keep, Nat.le_trans F.above (Nat.le_of_lt F.ns.lt), fun p hp => ⟨(N p hp).1, (N p hp).2.2⟩⟩
theorem base_none (F : Fr h₀ L h m) : h₀.get? L = none := by
  cases q : h₀.get? L with
  | none => rfl
  | some o => exact absurd (Heap.lt_size q) (Nat.not_lt.mpr F.above)
/-- all that is known of the heap, the frame's own dict too -/
theorem led_all (F : Fr h₀ L h m) (N : News h₀ L h news) : ∃ o, (∃ es ep, o.data = .dict es ep) ∧ h.get? L = some o ∧ Led h₀ h ((L, o) :: news) := by
  obtain ⟨o, es, ep, ho, hd⟩ := ns_obj F
  refine ⟨o, ⟨es, ep, hd⟩, ho, F.keep, (led_of F N).size, fun p hp => ?_⟩
  rcases List.mem_cons.mp hp with rfl | hp
  · exact ⟨ho, base_none F⟩
  · exact (led_of F N).at_ p hp
theorem ns_slots {o : Obj} {sl : Array (Option Value)} (hn : h.Ns L m) (ho : h.get? L = some o) (ho' : h'.get? L = some { o with slots := sl }) : h'.Ns L m := by
  obtain ⟨o₁, es, ep, h1, h2, r⟩ := hn
  rw [ho] at h1
  cases h1
  exact ⟨_, es, ep, ho', h2, r⟩
/-- behind a call: the frame again -/
theorem fr_back {nz' : Ledger} {Mut fr : List Addr} {o : Obj} (F : Fr h₀ L h m) (ho : h.get? L = some o) (hd : ∃ es ep, o.data = .dict es ep) (D : Led h₀ h' nz') (S : Step Mut fr ((L, o) :: news) nz') (hm : L ∉ Mut) :
    Fr h₀ L h' m ∧ News h₀ L h' (nz'.filter fun p => decide (p.1 ≠ L)) := by
  obtain ⟨sl, hl⟩ := S.dict (.head _) hm hd
  refine ⟨⟨ns_slots F.ns ho (D.at_ _ hl).1, D.keep, F.above⟩, fun p hp => ?_⟩
  obtain ⟨h1, h2⟩ := List.mem_filter.mp hp
  exact ⟨(D.at_ p h1).1, of_decide_eq_true h2, (D.at_ p h1).2⟩
theorem News.notL (N : News h₀ L h news) {p : Addr × Obj} (hp : p ∈ news) : p.1 ≠ L := (N p hp).2.1
theorem step_back {nz' : Ledger} {Mut fr : List Addr} {o : Obj} (N : News h₀ L h news) (S : Step Mut (L :: fr) ((L, o) :: news) nz') : Step Mut fr news (nz'.filter fun p => decide (p.1 ≠ L)) := fun p hp hm => by
  obtain ⟨o', h1, h2, h3⟩ := S p (.tail _ hp) hm
  exact ⟨o', List.mem_filter.mpr ⟨h1, decide_eq_true (N p hp).2.1⟩, h2, fun q => h3 fun z => (List.mem_cons.mp z).elim (N p hp).2.1 q⟩
theorem one_obj {a : Addr} {o o' : Obj} (D : Led h₀ h news) (h1 : (a, o) ∈ news) (h2 : (a, o') ∈ news) : o = o' := Option.some.inj ((D.at_ _ h1).1.symm.trans (D.at_ _ h2).1)
end
end Mine
namespace Mine
open PySem PySem.W PySem.Calls PyProof.Rows
def noHeap : Heap := {}
theorem noHeap_get (a : Addr) : noHeap.get? a = none := by simp [noHeap, Heap.get?]
section
variable {h₀ h : Heap} {L : Addr} {m : Str → Option Value} {news : Ledger}
theorem funFrames_of (hl : ∀ p ∈ news, h.get? p.1 = some p.2) : ∀ {outer : List Env}, FramesIn news outer → h.FunFrames noHeap outer
  | [], _ => trivial
  | env :: outer, Fs => by
    obtain ⟨h1, L', o, h2, h3, es, ep, h4⟩ := Fs env (.head _)
    exact ⟨h1, ⟨L', o, h2, noHeap_get _, hl _ h3, fun vs q => by rw [h4] at q; cases q⟩, funFrames_of hl fun e he => Fs e (.tail _ he)⟩
theorem frames_dict {outer : List Env} (Fs : FramesIn news outer) (hl : ∀ p ∈ news, h.get? p.1 = some p.2) {a : Addr} (ha : a ∈ outer.filterMap (·.frame)) : ∃ o, (a, o) ∈ news ∧ ∃ es ep, o.data = .dict es ep := by
  obtain ⟨env, he, hf⟩ := List.mem_filterMap.mp ha
  obtain ⟨_, L', o, h2, h3, h4⟩ := Fs env he
  rw [h2] at hf
  cases hf
  exact ⟨o, h3, h4⟩
/-- one object of the ledger turns -/
theorem upd_fr {a : Addr} {o : Obj} {f : Obj → Obj} (F : Fr h₀ L h m) (N : News h₀ L h news) (ha : (a, o) ∈ news) (hf : (f o).isFreed = false) :
    Fr h₀ L (h.update a f) m ∧ News h₀ L (h.update a f) ((a, f o) :: news.filter fun p => decide (p.1 ≠ a)) := by
  have A := N _ ha
  refine ⟨⟨?_, fun b x q => (Heap.get?_update_other _ _ fun z => ?_).trans (F.keep b x q), F.above⟩, fun p hp => ?_⟩
  · obtain ⟨oL, es, ep, hL, r⟩ := F.ns
    exact ⟨oL, es, ep, (Heap.get?_update_other _ _ A.2.1).trans hL, r⟩
  · have e := A.2.2
    have z' : a = b := z
    simp only at e
    rw [z', q] at e
    cases e
  · rcases List.mem_cons.mp hp with rfl | hp
    · exact ⟨Heap.get?_update_self _ A.1 hf, A.2⟩
    · obtain ⟨h1, h2⟩ := List.mem_filter.mp hp
      exact ⟨(Heap.get?_update_other _ _ (Ne.symm (of_decide_eq_true h2))).trans (N p h1).1, (N p h1).2⟩
theorem upd_step {a : Addr} {o o' : Obj} (hl : ∀ p ∈ news, h.get? p.1 = some p.2) (ha : (a, o) ∈ news) (r : ORel o o') (nd : ∀ es n, o.data ≠ .dict es n) (Mut fr : List Addr) : Step Mut fr news ((a, o') :: news.filter fun p => decide (p.1 ≠ a)) := fun p hp _ => by
  by_cases e : p.1 = a
  · have : p.2 = o := Option.some.inj ((hl p hp).symm.trans (by rw [e]; exact hl _ ha))
    exact ⟨o', by rw [e]; exact .head _, by rw [this]; exact r, fun _ ⟨es, n, z⟩ => absurd (by rw [← this]; exact z) (nd es n)⟩
  · exact ⟨p.2, .tail _ (List.mem_filter.mpr ⟨hp, decide_eq_true e⟩), ORel.refl _, fun _ _ => rfl⟩
/-- an exception's entry, behind a step that turns no exception but the one whose traceback is set -/
theorem excOK_step {nz nz' : Ledger} {fr : List Addr} {o : Obj} (S : Step [] fr nz nz') (h : ExcOK nz o) : ExcOK nz' o := by
  obtain ⟨vs, h1, h2, h3⟩ := h
  refine ⟨vs, h1, h2, h3.imp id ?_⟩
  rintro ⟨T, oT, ts, a, b, c, d, e⟩
  obtain ⟨oT', b', r, _⟩ := S _ b (by simp)
  obtain ⟨ts', d', z, _⟩ := r.soft (.inl c) ts d
  exact ⟨T, oT', ts', a, b', r.cls.trans c, d', by rw [z]; exact e⟩
theorem tbOf_step {nz nz' : Ledger} {fr : List Addr} {o : Obj} (S : Step [] fr nz nz') (h : TBOf nz o) : TBOf nz' o := by
  obtain ⟨vs, T, oT, ts, h1, h2, a, b, c, d, e⟩ := h
  obtain ⟨oT', b', r, _⟩ := S _ b (by simp)
  obtain ⟨ts', d', z, _⟩ := r.soft (.inl c) ts d
  exact ⟨vs, T, oT', ts', h1, h2, a, b', r.cls.trans c, d', by rw [z]; exact e⟩
theorem TBOf.ok {nz : Ledger} {o : Obj} (h : TBOf nz o) : ExcOK nz o := by
  obtain ⟨vs, T, oT, ts, h1, h2, a, b, c, d, e⟩ := h
  exact ⟨vs, h1, h2, .inr ⟨T, oT, ts, a, b, c, d, e⟩⟩
end
section
variable {M : Model} {A : Around} {E : Value → Shared → Prop} {s : Shared} {h₀ : Heap} {L : Addr} {m : Str → Option Value} {news : Ledger}
/-- what a step on an exception leaves -/
structure Aft (h₀ : Heap) (L : Addr) (m : Str → Option Value) (news : Ledger) (fr' : List Addr) (h' : Heap) (news' : Ledger) : Prop where
  fr : Fr h₀ L h' m
  nw : News h₀ L h' news'
  st : Step [] fr' news news'
  ok : SoftOK news'
theorem setField_tb {T : Addr} {oT : Obj} {ts : Array Value} {x : Value} {i : Nat} {Q : Unit → Shared → Prop} (F : Fr h₀ L s.heap m) (N : News h₀ L s.heap news) (S : SoftOK news) (hT : (T, oT) ∈ news) (hc : oT.cls = .type "traceback") (hd : oT.data = .fields ts) (hi : i < ts.size)
    (h : ∀ h' news', Aft h₀ L m news [] h' news' → (∀ p ∈ news, p.1 ≠ T → p ∈ news') → Q () { s with heap := h' }) : wpAny M A (setField (.ref T) i x) Q E s := by
  have ho := (N _ hT).1
  have hd' := Obj.data_mapFields hd (·.setIfInBounds i x)
  have hfree := Obj.isFreed_of_fields hd'
  refine wpAny_setField ho hd hi ?_
  obtain ⟨F', N'⟩ := upd_fr F N hT (f := Obj.mapFields (·.setIfInBounds i x)) hfree
  have hr : ORel oT (Obj.mapFields (·.setIfInBounds i x) oT) := by
    refine ⟨Obj.cls_mapFields _ _, fun _ vs q => ?_, fun q => absurd (.inl hc) q, fun es n q => (by rw [hd] at q; cases q), fun q => absurd hd (q ts)⟩
    rw [hd] at q; cases q
    exact ⟨_, hd', by simp, fun z => absurd hc z.ne_tb⟩
  have St : Step [] [] news ((T, Obj.mapFields (·.setIfInBounds i x) oT) :: news.filter fun p => decide (p.1 ≠ T)) := upd_step (fun p hp => (N p hp).1) hT hr (fun es n q => by rw [hd] at q; cases q) [] []
  refine h _ _ ⟨F', N', St, fun q hq hx => ?_⟩ fun p hp hne => .tail _ (List.mem_filter.mpr ⟨hp, decide_eq_true hne⟩)
  rcases List.mem_cons.mp hq with rfl | hq
  · exact absurd hc (by have := hx.1.ne_tb; rw [Obj.cls_mapFields] at this; exact this)
  · exact excOK_step St (S q (List.mem_filter.mp hq).1 hx)
theorem flight_L {e : Addr} {oe : Obj} {fr : Option Addr} {Q : Unit → Shared → Prop} (F : Fr h₀ L s.heap m) (N : News h₀ L s.heap news) (S : SoftOK news) (he : (e, oe) ∈ news) (hx : IsExc oe)
    (h : ∀ h' news', Aft h₀ L m news [] h' news' → (e, oe) ∈ news' → Q () { s with heap := h' }) : wpAny M A (setFlight (.ref e) fr) Q E s := by
  obtain ⟨vs, h1, h2, h3⟩ := S _ he hx
  unfold setFlight
  rcases h3 with h3 | ⟨T, oT, ts, a, b, c, d, z⟩
  · refine wpAny_bind (wpAny_field (N _ he).1 h1 h3 ?_)
    rw [if_neg (by decide)]
    exact wpAny_pure (h _ _ ⟨F, N, Step.refl _ _ _, S⟩ he)
  · refine wpAny_bind (wpAny_field (N _ he).1 h1 a ?_)
    rw [if_pos (show (Value.ref T != Value.none) = true from by simp)]
    refine setField_tb F N S b c d (by omega) fun h' news' A' k => h h' news' A' (k _ he fun q => ?_)
    have q' : e = T := q
    subst q'
    have := one_obj (led_of F N) he b
    subst this
    exact hx.1.ne_tb c
/-- the entry itself -/
theorem entry_L {env : Env} {outer : List Env} {e : Addr} {oe : Obj} {head : Value} {hn : Bool} {Q : Unit → Shared → Prop} (F : Fr h₀ L s.heap m) (N : News h₀ L s.heap news) (S : SoftOK news) (he : (e, oe) ∈ news) (hx : IsExc oe)
    (hA : A.frames = some (env :: outer)) (Fs : FramesIn news outer) (hf : env.frame = some L) (hk : env.scope.kind ≠ .module)
    (h : ∀ h' news', Aft h₀ L m news (outer.filterMap (·.frame)) h' news' → Noted news' e → Q () { s with heap := h' }) :
    wpAny M A (do let a ← frameOf env; let pl ← entryPlaceOf L hn; let b ← EntryCells.newEntry head a .none (rawInt L) .none pl; setField (.ref e) 1 b) Q E s := by
  obtain ⟨oL, esL, epL, hoL, hdL⟩ := ns_obj F
  have hFun : s.heap.FunFrames noHeap (env :: outer) := ⟨hk, ⟨L, oL, hf, noHeap_get _, hoL, fun vs q => by rw [hdL] at q; cases q⟩, funFrames_of (fun p hp => (N p hp).1) Fs⟩
  refine wpAny_bind (wpAny_frameOf_fun hA hFun hf fun h₁ hs₁ => ?_)
  obtain ⟨vs, h1, h2, h3⟩ := S _ he hx
  -- the frames are dicts
  have fd : ∀ a ∈ (env :: outer).filterMap (·.frame), ∀ o, s.heap.get? a = some o → ∃ es ep, o.data = .dict es ep := by
    intro a ha o ho
    rw [List.filterMap_cons, hf] at ha
    rcases List.mem_cons.mp ha with rfl | ha
    · rw [hoL] at ho; cases ho; exact ⟨_, _, hdL⟩
    · obtain ⟨o', q1, q2⟩ := frames_dict (h := s.heap) Fs (fun p hp => (N p hp).1) ha
      rw [(N _ q1).1] at ho; cases ho; exact q2
  have fn : ∀ a ∈ (env :: outer).filterMap (·.frame), h₀.get? a = none := by
    intro a ha
    rw [List.filterMap_cons, hf] at ha
    rcases List.mem_cons.mp ha with rfl | ha
    · exact base_none F
    · obtain ⟨o', q1, _⟩ := frames_dict (h := s.heap) Fs (fun p hp => (N p hp).1) ha
      exact (N _ q1).2.2
  have hene : e ∉ (env :: outer).filterMap (·.frame) := fun hm => by
    obtain ⟨es, ep, q⟩ := fd e hm oe (N _ he).1
    rw [h1] at q; cases q
  -- one object of the ledger, behind the frames' making
  have one : ∀ p ∈ news, ∃ o', h₁.get? p.1 = some o' ∧ ORel p.2 o' ∧ ((∀ es ep, p.2.data ≠ .dict es ep) → o' = p.2) ∧ (p.1 ∉ outer.filterMap (·.frame) → o' = p.2) := by
    intro p hp
    by_cases hm : p.1 ∈ (env :: outer).filterMap (·.frame)
    · obtain ⟨sl, q⟩ := hs₁.2.2 p.1 p.2 (N p hp).1
      have qd := fd _ hm _ (N p hp).1
      refine ⟨_, q, ORel.slots sl qd, fun z => by obtain ⟨es, ep, q'⟩ := qd; exact absurd q' (z es ep), fun z => absurd ?_ z⟩
      rw [List.filterMap_cons, hf] at hm
      exact (List.mem_cons.mp hm).resolve_left (N p hp).2.1
    · exact ⟨p.2, (hs₁.2.1 _ hm).trans (N p hp).1, ORel.refl _, fun _ => rfl, fun _ => rfl⟩
  refine wpAny_bind (wpAny_entryPlaceOf fun pl hpl => ?_)
  unfold EntryCells.newEntry newFields
  refine wpAny_bind (wpAny_newObj_type ?_ (hpl.sizeOk5 _ _ _ _ _))
  have he₁ : h₁.get? e = some oe := (hs₁.2.1 e hene).trans (N _ he).1
  have he₂ := Heap.get?_push_of_some (h := h₁) { cls := .type "traceback", dict := none, data := .fields ([head, .ref L, .none, rawInt L, .none] ++ (if pl.isEmpty then List.replicate 6 Value.none else pl)).toArray } he₁
  refine wpAny_setField he₂ h1 (by omega) ?_
  have hTe : h₁.objs.size ≠ e := Nat.ne_of_gt (Heap.lt_size he₁)
  have hd₃ := Obj.data_mapFields h1 (·.setIfInBounds 1 (Value.ref h₁.objs.size))
  have he₃ := Heap.get?_update_self (Obj.mapFields (·.setIfInBounds 1 (Value.ref h₁.objs.size))) he₂ (Obj.isFreed_of_fields hd₃)
  have hT₃ := (Heap.get?_update_other (h₁.push { cls := .type "traceback", dict := none, data := .fields ([head, .ref L, .none, rawInt L, .none] ++ (if pl.isEmpty then List.replicate 6 Value.none else pl)).toArray })
    (Obj.mapFields (·.setIfInBounds 1 (Value.ref h₁.objs.size))) (Ne.symm hTe)).trans (Heap.get?_push_size h₁ rfl)
  have keep : ∀ b o, b ≠ e → h₁.get? b = some o →
      (((h₁.push { cls := .type "traceback", dict := none, data := .fields ([head, .ref L, .none, rawInt L, .none] ++ (if pl.isEmpty then List.replicate 6 Value.none else pl)).toArray }).update e (Obj.mapFields (·.setIfInBounds 1 (Value.ref h₁.objs.size))))).get? b = some o := fun b o hbe hb => by
    rw [Heap.get?_update_other _ _ (Ne.symm hbe)]
    exact Heap.get?_push_of_some _ hb
  generalize hh : (h₁.push { cls := .type "traceback", dict := none, data := .fields ([head, .ref L, .none, rawInt L, .none] ++ (if pl.isEmpty then List.replicate 6 Value.none else pl)).toArray }).update e (Obj.mapFields (·.setIfInBounds 1 (Value.ref h₁.objs.size))) = h₃ at he₃ hT₃ keep ⊢
  have hTs : 4 ≤ ([head, .ref L, .none, rawInt L, .none] ++ (if pl.isEmpty then List.replicate 6 Value.none else pl)).toArray.size := by
    simp only [List.size_toArray, List.length_append, List.length_cons, List.length_nil]; omega
  generalize ([head, .ref L, .none, rawInt L, .none] ++ (if pl.isEmpty then List.replicate 6 Value.none else pl)).toArray = tsN at hT₃ hTs
  clear hh
  have hre : ORel oe (Obj.mapFields (·.setIfInBounds 1 (Value.ref h₁.objs.size)) oe) := by
    refine ⟨Obj.cls_mapFields _ _, fun _ vs' q => ?_, fun q => absurd (.inr hx.1) q, fun es n q => (by rw [h1] at q; cases q), fun q => absurd h1 (q vs)⟩
    rw [h1] at q; cases q
    exact ⟨_, hd₃, by simp, fun _ => by rw [Array.getElem?_setIfInBounds_ne (by decide)]⟩
  -- each object, behind all
  have all : ∀ p ∈ news, ∃ o', h₃.get? p.1 = some o' ∧ ORel p.2 o' ∧ (p.1 ≠ e → (∀ es ep, p.2.data ≠ .dict es ep) → o' = p.2) ∧ (p.1 ∉ outer.filterMap (·.frame) → (∃ es n, p.2.data = .dict es n) → o' = p.2) := by
    intro p hp
    by_cases q : p.1 = e
    · have : p.2 = oe := Option.some.inj ((N p hp).1.symm.trans (by rw [q]; exact (N _ he).1))
      exact ⟨_, by rw [q]; exact he₃, by rw [this]; exact hre, fun z => absurd q z, fun _ ⟨es, n, z⟩ => by rw [this, h1] at z; cases z⟩
    · obtain ⟨o', z1, z2, z3, z4⟩ := one p hp
      exact ⟨o', keep _ _ q z1, z2, fun _ => z3, fun z _ => z4 z⟩
  have nT : h₀.get? h₁.objs.size = none := by
    cases q : h₀.get? h₁.objs.size with
    | none => rfl
    | some o =>
      have : h₁.get? h₁.objs.size = some o := (hs₁.2.1 _ fun hm => by rw [fn _ hm] at q; cases q).trans (F.keep _ _ q)
      exact absurd (Heap.lt_size this) (Nat.lt_irrefl _)
  have LT : h₁.objs.size ≠ L := Nat.ne_of_gt (hs₁.1 ▸ Heap.lt_size hoL)
  let tb : Obj := { cls := .type "traceback", dict := none, data := .fields tsN }
  let nz : Ledger := (h₁.objs.size, tb) :: news.filterMap fun p => (h₃.get? p.1).map fun o => (p.1, o)
  have inz : ∀ p ∈ news, ∀ o', h₃.get? p.1 = some o' → (p.1, o') ∈ nz := fun p hp o' q => .tail _ (List.mem_filterMap.mpr ⟨p, hp, by rw [q]; rfl⟩)
  have ofz : ∀ q ∈ nz, q = (h₁.objs.size, tb) ∨ ∃ p ∈ news, q.1 = p.1 ∧ h₃.get? q.1 = some q.2 := by
    intro q hq
    rcases List.mem_cons.mp hq with rfl | hq
    · exact .inl rfl
    · obtain ⟨p, hp, z⟩ := List.mem_filterMap.mp hq
      cases w : h₃.get? p.1 with
      | none => rw [w] at z; cases z
      | some o => rw [w] at z; cases z; exact .inr ⟨p, hp, rfl, w⟩
  have St : Step [] (outer.filterMap (·.frame)) news nz := fun p hp _ => by
    obtain ⟨o', z1, z2, _, z4⟩ := all p hp
    exact ⟨o', inz p hp o' z1, z2, z4⟩
  have tbe : TBOf nz (Obj.mapFields (·.setIfInBounds 1 (Value.ref h₁.objs.size)) oe) := ⟨vs.setIfInBounds 1 (Value.ref h₁.objs.size), h₁.objs.size, tb, tsN, hd₃, (by rw [Array.size_setIfInBounds]; exact h2), (by rw [Array.getElem?_setIfInBounds_self_of_lt (by omega)]), .head _, rfl, rfl, hTs⟩
  have Fr' : Fr h₀ L h₃ m := by
    refine ⟨?_, fun b o q => keep b o (fun z => ?_) ((hs₁.2.1 b fun hm => by rw [fn _ hm] at q; cases q).trans (F.keep _ _ q)), F.above⟩
    · obtain ⟨sl, q⟩ := hs₁.2.2 L oL hoL
      exact ns_slots F.ns hoL (keep _ _ (fun z => by rw [z] at hoL; rw [(N _ he).1] at hoL; cases hoL; rw [h1] at hdL; cases hdL) q)
    · have := (N _ he).2.2
      rw [← z, q] at this
      cases this
  have N' : News h₀ L h₃ nz := fun q hq => by
    rcases ofz q hq with rfl | ⟨p, hp, z1, z2⟩
    · exact ⟨hT₃, LT, nT⟩
    · exact ⟨z2, z1 ▸ (N p hp).2.1, z1 ▸ (N p hp).2.2⟩
  have Ok : SoftOK nz := fun q hq hc => by
    rcases ofz q hq with rfl | ⟨p, hp, z1, z2⟩
    · exact absurd rfl hc.1.ne_tb
    · obtain ⟨o', w1, w2, w3, _⟩ := all p hp
      have eq' : o' = q.2 := by rw [← z1, z2] at w1; exact (Option.some.inj w1).symm
      subst eq'
      by_cases w : p.1 = e
      · have : q.2 = Obj.mapFields (·.setIfInBounds 1 (Value.ref h₁.objs.size)) oe := by rw [z1, w, he₃] at z2; exact (Option.some.inj z2).symm
        rw [this]
        exact tbe.ok
      · have hc' : IsExc p.2 := w2.isExc_back hc
        have ok := S p hp hc'
        obtain ⟨vs', d1, _⟩ := id ok
        have : q.2 = p.2 := w3 w fun es ep z => by rw [d1] at z; cases z
        rw [this]
        exact excOK_step St ok
  exact h h₃ nz ⟨Fr', N', St, Ok⟩ ⟨_, inz _ he _ he₃, hre.isExc hx, tbe⟩
theorem note_L {env : Env} {outer : List Env} {e : Addr} {oe : Obj} {Q : Unit → Shared → Prop} (F : Fr h₀ L s.heap m) (N : News h₀ L s.heap news) (S : SoftOK news) (he : (e, oe) ∈ news) (hx : IsExc oe)
    (hA : A.frames = some (env :: outer)) (Fs : FramesIn news outer) (hf : env.frame = some L) (hk : env.scope.kind ≠ .module)
    (h : ∀ h' news', Aft h₀ L m news (outer.filterMap (·.frame)) h' news' → Noted news' e → Q () { s with heap := h' }) : wpAny M A (noteFrame (.ref e) env) Q E s := by
  obtain ⟨vs, h1, h2, h3⟩ := S _ he hx
  unfold noteFrame
  simp only [hf]
  rcases h3 with h3 | ⟨T, oT, ts, a, b, c, d, z⟩
  · refine wpAny_bind (wpAny_field (N _ he).1 h1 h3 ?_)
    rw [if_neg (by decide)]
    exact entry_L F N S he hx hA Fs hf hk h
  · refine wpAny_bind (wpAny_field (N _ he).1 h1 a ?_)
    rw [if_pos (show (Value.ref T != Value.none) = true from by simp)]
    refine wpAny_bind (wpAny_field (N _ b).1 d (show ts[3]? = some (ts[3]'(by omega)) by simp) ?_)
    by_cases q : (ts[3]'(by omega) == rawInt L) = true
    · rw [if_pos q]
      exact wpAny_pure (h _ _ ⟨F, N, Step.refl _ _ _, S⟩ ⟨oe, he, hx, vs, T, oT, ts, h1, h2, a, b, c, d, z⟩)
    · rw [if_neg q]
      refine wpAny_bind (setField_tb F N S b c d (by omega) fun h' news' A' k => ?_)
      have he' : (e, oe) ∈ news' := k _ he fun q => by
        have q' : e = T := q
        subst q'
        have := one_obj (led_of F N) he b
        subst this
        exact hx.1.ne_tb c
      have Fs' : FramesIn news' outer := Fs.step A'.st (fun a ha => nomatch ha)
      exact entry_L (s := { s with heap := h' }) A'.fr A'.nw A'.ok he' hx hA Fs' hf hk fun h'' news'' A'' nt => h h'' news'' ⟨A''.fr, A''.nw, (A'.st.weaken (fun _ z => z) fun _ z => nomatch z).trans A''.st, A''.ok⟩ nt
theorem leaving_L {env : Env} {outer : List Env} {e : Addr} {oe : Obj} {Q : Unit → Shared → Prop} (F : Fr h₀ L s.heap m) (N : News h₀ L s.heap news) (S : SoftOK news) (he : (e, oe) ∈ news) (hx : IsExc oe)
    (hA : A.frames = some (env :: outer)) (Fs : FramesIn news outer) (hf : env.frame = some L) (hk : env.scope.kind ≠ .module)
    (h : ∀ h' news', Aft h₀ L m news (outer.filterMap (·.frame)) h' news' → Noted news' e → Q () { s with heap := h' }) : wpAny M A (leaving env (.ref e)) Q E s := by
  unfold leaving
  refine wpAny_bind (note_L F N S he hx hA Fs hf hk fun h' news' A' nt => ?_)
  obtain ⟨o, ho, hc, tb⟩ := nt
  exact flight_L (s := { s with heap := h' }) A'.fr A'.nw A'.ok ho hc fun h'' news'' A'' k => h h'' news'' ⟨A''.fr, A''.nw, A'.st.trans (A''.st.weaken (fun _ z => z) fun _ z => nomatch z), A''.ok⟩ ⟨o, k, hc, tbOf_step A''.st tb⟩
end
end Mine
namespace Mine
open PySem PySem.W PySem.Calls PyProof.Rows
noncomputable abbrev pg : Program := PySem.Challenge.pw_fe0222_01
abbrev KIn (w : World) (h : Heap) : Prop := (hd.heap_39 w.params).In h
theorem sub_exc {w : World} {h : Heap} {M : Model} (X : KIn w h) {c : Value} (hc : ExcCls c) : Looks M h (isSubtype c (.type "BaseException")) true := by
  rcases hc with e | e | e | e <;> subst e
  · exact Looks.of_pure (by rw [isSubtype_type]; kernel_rfl)
  · exact Looks.of_pure (by rw [isSubtype_type]; kernel_rfl)
  · exact Looks.of_pure (by rw [isSubtype_type]; kernel_rfl)
  · exact looks_subIn X (show subIn (hd.heap_39 w.params) (.ref 24) (.type "BaseException") = some true from by kernel_rfl)
theorem meta_exc {w : World} {h : Heap} {M : Model} (X : KIn w h) {c : Value} (hc : ExcCls c) : Looks M h (typeOf c) (.type "type") := by
  rcases hc with e | e | e | e <;> subst e
  · exact Looks.of_pure (by kernel_rfl)
  · exact Looks.of_pure (by kernel_rfl)
  · exact Looks.of_pure (by kernel_rfl)
  · exact looks_typeIn X (show typeIn (hd.heap_39 w.params) (.ref 24) = some (.type "type") from by kernel_rfl)
theorem fr_K {w : World} {h₀ h : Heap} {L : Addr} {m : Str → Option Value} (F : Fr h₀ L h m) (X : KIn w h₀) : KIn w h := X.keeps F.keep
section
variable {w : World} {A : Around} {E : Value → Shared → Prop} {s : Shared} {env : Env} {h₀ : Heap} {L : Addr}
theorem raiseStmt_L {x : Sem Value} {Q : Flow → Shared → Prop} (X : KIn w h₀) (hh : A.handled = none)
    (h : wpAny (model pg w) A x (fun v s₁ => ∃ e oe m news, v = .ref e ∧ Fr h₀ L s₁.heap m ∧ News h₀ L s₁.heap news ∧ SoftOK news ∧ (e, oe) ∈ news ∧ IsExc oe ∧
      ∀ h' news', Aft h₀ L m news [] h' news' → (e, oe) ∈ news' → E (.ref e) { s₁ with heap := h' }) E s) :
    wpAny (model pg w) A (raiseStmt env (some x) none) Q E s := by
  unfold raiseStmt
  refine wpAny_bind (wpAny_mono h (fun v s₁ h₁ => ?_) fun _ _ x => x)
  obtain ⟨e, oe, m, news, rfl, F, N, S, he, hx, hE⟩ := h₁
  have hX := fr_K F X
  have hg := (N _ he).1
  obtain ⟨vs, hd⟩ := hx.2
  refine wpAny_bind (wpAny_pure ?_)
  refine wpAny_bind (wpAny_holding ?_)
  unfold excFromValue isExcClass isType
  refine wpAny_bind (wpAny_bind (wpAny_bind (wpAny_loadPart hg (wpAny_pure ?_))))
  simp only [hd]
  refine wpAny_pure ?_
  refine wpAny_bind (wpAny_bind (wpAny_bind (wpAny_loadPart hg (wpAny_pure ?_))))
  refine (sub_exc hX hx.1).here ?_
  refine wpAny_pure ?_
  refine wpAny_bind (wpAny_bind (wpAny_loadPart hg (wpAny_pure ?_)))
  simp only [hd]
  unfold raisedInstance
  refine wpAny_bind (wpAny_bind (wpAny_bind (wpAny_loadPart hg (wpAny_pure ?_))))
  refine wpAny_bind ((meta_exc hX hx.1).here ?_)
  refine wpAny_pure ?_
  refine wpAny_bind (flight_L F N S he hx fun h' news' A' k => ?_)
  exact wpAny_raiseNew_none hh (hE h' news' A' k)
end
end Mine
namespace Mine
open PySem PySem.W PySem.Calls PyProof.Rows
/-- an exception that leaves a frame -/
def RaisesTo (h₀ : Heap) (L : Addr) (outer : List Env) (R : Result → Shared → Prop) (e : Value) (s' : Shared) : Prop :=
  ∃ ea oe m news, e = .ref ea ∧ Fr h₀ L s'.heap m ∧ News h₀ L s'.heap news ∧ SoftOK news ∧ (ea, oe) ∈ news ∧ IsExc oe ∧ FramesIn news outer ∧
    ∀ h' news', Aft h₀ L m news (outer.filterMap (·.frame)) h' news' → Noted news' ea → R (.error (.ref ea)) { s' with heap := h' }
/-- where a call stands -/
structure Stand (A : Around) (nz : Ledger) (outer : List Env) (d u : Nat) : Prop where
  fr : A.frames = some outer
  fs : FramesIn nz outer
  dep : A.depth + d < recursionLimit
  un : A.units + u < cLine
section
variable {w : World} {A : Around} {s : Shared} {h₀ : Heap} {nz nzs : Ledger} {outer : List Env}
theorem enter_L {R : Result → Shared → Prop} {name qual : Str} {params : Arguments} {body : List Stmt} {scope : Scope} {dV kV doc pm cdv ct oc : Value} {an od : Option Addr} {osl : Array (Option Value)} {f : Addr} {args : Args} {binds : List (Str × Value)} {d u : Nat}
    (D : Led h₀ s.heap nz) (X : KIn w h₀) (lim : h₀.NoLimit) (S : Stand A nzs outer (d + 1) (u + 3))
    (ho : (hd.heap_39 w.params).lookup f = some ⟨oc, od, .func (fnOf name qual params body scope dV kV doc pm an cdv ct), osl⟩) (hcd : codeIn (hd.heap_39 w.params) cdv qual = true)
    (hbind : BindsTo s (fnOf name qual params body scope dV kV doc pm an cdv ct) args binds) (hloc : ∀ y ∈ binds, scope.names.lookup y.1 = some .local)
    (h : ∀ L h₁ tk, Fr h₀ L h₁ (fun y => binds.reverse.lookup y) → News h₀ L h₁ nz → (∀ p ∈ nz, p.1 < L) →
      (A.deeper (envOf qual scope L f cdv)).frames = some (envOf qual scope L f cdv :: outer) → (A.deeper (envOf qual scope L f cdv)).depth + d < recursionLimit → (A.deeper (envOf qual scope L f cdv)).units + u < cLine →
      wpAny (model pg w) (A.deeper (envOf qual scope L f cdv)) (execs body (envOf qual scope L f cdv))
        (fun fl s' => R (.ok (.ret (match fl with | .ret v => v | _ => .none))) s') (RaisesTo h₀ L outer R) { s with heap := h₁, toks := tk })
    (hco : scope.isCoroutine = false) (hgen : scope.isGenerator = false) (hk : scope.kind = .function)
    (hcell : ∀ x ∈ scope.names, x.2 ≠ .cell) : codeAny (model pg w) A (.call (.ref f) args) R s := by
  have hX : KIn w s.heap := X.keeps D.keep
  refine codeAny_call_def (fd := fnOf name qual params body scope dV kV doc pm an cdv ct) (body := body) (binds := binds) (by have := S.dep; omega) (hX _ _ ho) rfl (lim.keeps D.keep) (codeRec_of hX hcd) rfl hbind hcell hloc (fun h₁ hns hk₁ => ?_) hco hgen hk
  have F : Fr h₀ s.heap.objs.size h₁ (fun y => binds.reverse.lookup y) := ⟨hns, fun b o e => hk₁ _ _ (D.keep _ _ e), D.size⟩
  have lt : ∀ p ∈ nz, p.1 < s.heap.objs.size := fun p hp => Heap.lt_size (D.at_ p hp).1
  have N : News h₀ s.heap.objs.size h₁ nz := fun p hp => ⟨hk₁ _ _ (D.at_ p hp).1, Nat.ne_of_lt (lt p hp), (D.at_ p hp).2⟩
  have hfr : (A.deeper (envOf qual scope s.heap.objs.size f cdv)).frames = some (envOf qual scope s.heap.objs.size f cdv :: outer) := Around.frames_deeper S.fr
  refine wpAny_mono (h _ h₁ _ F N lt hfr (by have := S.dep; show A.depth + 1 + d < _; omega) (by have := S.un; show A.units + 3 + u < _; omega)) (fun _ _ x => x) fun e s' hr => ?_
  obtain ⟨ea, oe, m, news, rfl, F', N', Ok, he, hx, Fs, hR⟩ := hr
  exact leaving_L F' N' Ok he hx hfr Fs rfl (by show scope.kind ≠ _; rw [hk]; decide) fun h' news' A' nt => hR h' news' A' nt
end
end Mine
namespace Mine
open PySem PySem.W PySem.Calls PyProof.Rows
noncomputable abbrev pv := hd.view_39
abbrev TopH (mean : ExcName → Option Value) (mg mb : Str → Option Value) (h₀ : Heap) : Prop := Top pv [Str.ofString "HookImpl", Str.ofString "_law_kinds"] mean mg mb h₀
theorem loose_is : looseW hd.view_39 [Str.ofString "HookImpl"] = [Str.ofString "HookImpl", Str.ofString "_law_kinds"] := by kernel_rfl
def tupOf (vs : Array Value) (n : Nat) : Obj := { cls := .type "tuple", data := .seq vs n }
def IsSeq (o : Obj) : Prop := ∃ vs n, o.data = .seq vs n
abbrev LSet := Addr → Obj → Prop
def inL (nz : Ledger) : LSet := fun a o => (a, o) ∈ nz
def LSub (S S' : LSet) : Prop := ∀ a o, IsSeq o → S a o → S' a o
mutual
inductive VD (S : LSet) : Value → Dat → Prop
  | none : VD S Value.none Dat.none
  | int (i : Int) (t : Tok) : VD S (Value.int i t) (Dat.int i)
  | str (x : Str) (t : Tok) : VD S (Value.str x t) (Dat.str x)
  | tuple {a : Addr} {vs : List Value} {n : Nat} {ds : List Dat} : S a (tupOf vs.toArray n) → VDs S vs ds → VD S (Value.ref a) (Dat.tuple ds)
  | list {a : Addr} {vs : List Value} {n : Nat} {ds : List Dat} : S a (listOf vs.toArray n) → VDs S vs ds → VD S (Value.ref a) (Dat.list ds)
inductive VDs (S : LSet) : List Value → List Dat → Prop
  | nil : VDs S [] []
  | cons {v : Value} {vs : List Value} {d : Dat} {ds : List Dat} : VD S v d → VDs S vs ds → VDs S (v :: vs) (d :: ds)
end
theorem isSeq_tup (vs : Array Value) (n : Nat) : IsSeq (tupOf vs n) := ⟨vs, n, rfl⟩
theorem isSeq_list (vs : Array Value) (n : Nat) : IsSeq (listOf vs n) := ⟨vs, n, rfl⟩
mutual
theorem VD.mono {S S' : LSet} (hs : LSub S S') : ∀ {v : Value} {d : Dat}, VD S v d → VD S' v d
  | _, _, .none => .none
  | _, _, .int i t => .int i t
  | _, _, .str x t => .str x t
  | _, _, .tuple h r => .tuple (hs _ _ (isSeq_tup _ _) h) (VDs.mono hs r)
  | _, _, .list h r => .list (hs _ _ (isSeq_list _ _) h) (VDs.mono hs r)
theorem VDs.mono {S S' : LSet} (hs : LSub S S') : ∀ {vs : List Value} {ds : List Dat}, VDs S vs ds → VDs S' vs ds
  | _, _, .nil => .nil
  | _, _, .cons h r => .cons (VD.mono hs h) (VDs.mono hs r)
end
theorem VDs.append {S : LSet} {vs ws : List Value} {ds es : List Dat} (h : VDs S vs ds) (k : VDs S ws es) : VDs S (vs ++ ws) (ds ++ es) := by
  induction vs generalizing ds with
  | nil => cases h; exact k
  | cons v vs ih => cases h with | cons h r => exact .cons h (ih r)
theorem VDs.one {S : LSet} {v : Value} {d : Dat} (h : VD S v d) : VDs S [v] [d] := .cons h .nil
theorem VDs.length {S : LSet} {vs : List Value} {ds : List Dat} (h : VDs S vs ds) : vs.length = ds.length := by
  induction vs generalizing ds with
  | nil => cases h; rfl
  | cons v vs ih => cases h with | cons _ r => rw [List.length_cons, List.length_cons, ih r]
theorem VDs.at {S : LSet} {vs : List Value} {ds : List Dat} (h : VDs S vs ds) {k : Nat} {v : Value} (hk : vs[k]? = some v) : ∃ d, ds[k]? = some d ∧ VD S v d := by
  induction vs generalizing ds k with
  | nil => simp at hk
  | cons u vs ih =>
    cases h with
    | cons h r =>
      cases k with
      | zero => simp only [List.getElem?_cons_zero, Option.some.injEq] at hk ⊢; subst hk; exact ⟨_, rfl, h⟩
      | succ k => simp only [List.getElem?_cons_succ] at hk ⊢; exact ih r hk
/-- of a ledger, seqs that are not at `bad` -/
def offL (nz : Ledger) (bad : Addr → Prop) : LSet := fun a o => (a, o) ∈ nz ∧ ¬ bad a
theorem LSub.trans {A B C : LSet} (x : LSub A B) (y : LSub B C) : LSub A C := fun a o h q => y a o h (x a o h q)
theorem offL_inL (nz : Ledger) (bad : Addr → Prop) : LSub (offL nz bad) (inL nz) := fun _ _ _ h => h.1
theorem offL_step {nz nz' : Ledger} {Mut fr : List Addr} {bad bad' : Addr → Prop} (S : Step Mut fr nz nz') (hm : ∀ a, a ∈ Mut → bad a) (hb : ∀ a o, (a, o) ∈ nz → bad' a → bad a) : LSub (offL nz bad) (offL nz' bad') := fun a o hq h => by
  obtain ⟨vs, n, e⟩ := hq
  exact ⟨S.keeps h.1 (fun z => h.2 (hm a z)) (fun _ q => by simp only [e] at q; cases q) (fun _ _ q => by simp only [e] at q; cases q), fun z => h.2 (hb a o h.1 z)⟩
theorem Step.drop {nz nz' : Ledger} {M M' fr : List Addr} (S : Step M fr nz nz') (h : ∀ a ∈ M, a ∉ M' → ∀ p ∈ nz, p.1 ≠ a) : Step M' fr nz nz' := fun p hp hm => S p hp fun z => h _ z hm p hp rfl
/-- the value of a call for the first result -/
inductive Res (B : Addr → Prop) (nz : Ledger) (lg : Addr) : Value → Dat → Prop
  | none : Res B nz lg Value.none Dat.none
  | int (i : Int) (t : Tok) : Res B nz lg (Value.int i t) (Dat.int i)
  | str (x : Str) (t : Tok) : Res B nz lg (Value.str x t) (Dat.str x)
  | list {a : Addr} {vs : List Value} {n : Nat} {ds : List Dat} : (a, listOf vs.toArray n) ∈ nz → a ≠ lg → ¬ B a → VDs (offL nz fun b => b = a ∨ b = lg ∨ B b) vs ds → Res B nz lg (Value.ref a) (Dat.list ds)
def valueD (me : Int) : Dat := if me.fmod 5 = 0 then .int 0 else if me.fmod 5 = 1 then .list [] else if me.fmod 5 = 2 then .str (Str.ofString "") else .list [.int me]
def FreshV (nz : Ledger) (v : Value) : Prop := ∀ a, v = .ref a → ∀ p ∈ nz, p.1 ≠ a
theorem fresh_at {h₀ h : Heap} {L : Addr} {nz : Ledger} (N : News h₀ L h nz) : ∀ p ∈ nz, p.1 ≠ h.objs.size := fun p hp => Nat.ne_of_lt (Heap.lt_size (N p hp).1)
def Stop (p : Prop) : Prop := p
theorem Stop.of {p : Prop} (h : Stop p) : p := h
theorem Stop.go {p : Prop} (h : p) : Stop p := h
theorem kfill : (PySem.Challenge.rw_fe0222_01, hd.heap_39) = (PySem.Challenge.rw_fe0222_01, hd.heap_39) := by
  k_fill
  rfl
end Mine
namespace Mine
open PySem PySem.W PySem.Calls PyProof.Rows
def without (nz : Ledger) (a : Addr) : Ledger := nz.filter fun p => decide (p.1 ≠ a)
theorem mem_without {nz : Ledger} {a : Addr} {p : Addr × Obj} : p ∈ without nz a ↔ p ∈ nz ∧ p.1 ≠ a := by
  unfold without; rw [List.mem_filter]; exact ⟨fun h => ⟨h.1, of_decide_eq_true h.2⟩, fun h => ⟨h.1, decide_eq_true h.2⟩⟩
theorem without_mem {nz : Ledger} {a b : Addr} {o : Obj} (h : (b, o) ∈ nz) (hb : b ≠ a) : (b, o) ∈ without nz a := mem_without.mpr ⟨h, hb⟩
section
variable {h₀ h h' : Heap} {L a : Addr} {m : Str → Option Value} {nz : Ledger} {o o' : Obj}
/-- one object of the ledger turns, all others stay -/
theorem same_fr (F : Fr h₀ L h m) (N : News h₀ L h nz) (ha : (a, o) ∈ nz) (hs : Heap.SameBut a h h') (ho : h'.get? a = some o') : Fr h₀ L h' m ∧ News h₀ L h' ((a, o') :: without nz a) := by
  have A := N _ ha
  refine ⟨⟨F.ns.sameBut hs A.2.1.symm, fun b x q => (hs.2 b fun z => ?_).trans (F.keep b x q), F.above⟩, fun p hp => ?_⟩
  · have e := A.2.2
    simp only at e
    rw [← z, q] at e; cases e
  · rcases List.mem_cons.mp hp with rfl | hp
    · exact ⟨ho, A.2⟩
    · obtain ⟨h1, h2⟩ := mem_without.mp hp
      exact ⟨(hs.2 _ h2).trans (N p h1).1, (N p h1).2⟩
/-- one object is no longer known, all others stay -/
theorem ext_fr (F : Fr h₀ L h m) (N : News h₀ L h nz) (haL : a ≠ L) (h0 : h₀.get? a = none) (hs : Heap.ExtBut a h h') : Fr h₀ L h' m ∧ News h₀ L h' (without nz a) := by
  refine ⟨⟨F.ns.extBut hs haL.symm, fun b x q => hs b x (fun z => ?_) (F.keep b x q), F.above⟩, fun p hp => ?_⟩
  · rw [z, h0] at q; cases q
  · obtain ⟨h1, h2⟩ := mem_without.mp hp
    exact ⟨hs _ _ h2 (N p h1).1, (N p h1).2⟩
/-- all objects stay -/
theorem stay_fr (F : Fr h₀ L h m) (N : News h₀ L h nz) (hs : ∀ b o, h.get? b = some o → h'.get? b = some o) : Fr h₀ L h' m ∧ News h₀ L h' nz := by
  obtain ⟨oL, es, ep, hL, r⟩ := F.ns
  exact ⟨⟨⟨oL, es, ep, hs _ _ hL, r⟩, fun b x q => hs _ _ (F.keep b x q), F.above⟩, fun p hp => ⟨hs _ _ (N p hp).1, (N p hp).2⟩⟩
/-- a new object is known -/
theorem know (F : Fr h₀ L h m) (N : News h₀ L h nz) (ho : h.get? a = some o) (haL : a ≠ L) (h0 : h₀.get? a = none) : News h₀ L h ((a, o) :: nz) := fun p hp => by
  rcases List.mem_cons.mp hp with rfl | hp
  · exact ⟨ho, haL, h0⟩
  · exact N p hp
theorem size_none (F : Fr h₀ L h m) {b : Addr} (hb : h.objs.size ≤ b) : h₀.get? b = none := by
  cases hq : h₀.get? b with
  | none => rfl
  | some o' => exact absurd (Heap.lt_size (F.keep _ _ hq)) (Nat.not_lt.mpr hb)
theorem without_step {o' : Obj} (Mut fr : List Addr) (hm : a ∈ Mut) : Step Mut fr nz ((a, o') :: without nz a) := fun p hp h => ⟨p.2, .tail _ (mem_without.mpr ⟨hp, fun e => h (e ▸ hm)⟩), ORel.refl _, fun _ _ => rfl⟩
theorem without_step' (Mut fr : List Addr) (hm : a ∈ Mut) : Step Mut fr nz (without nz a) := fun p hp h => ⟨p.2, mem_without.mpr ⟨hp, fun e => h (e ▸ hm)⟩, ORel.refl _, fun _ _ => rfl⟩
theorem push_step (Mut fr : List Addr) {p : Addr × Obj} : Step Mut fr nz (p :: nz) := Step.sub fun _ h => .tail _ h
/-- SoftOK, when one hard object turns -/
theorem softOK_next {nw nw' : Ledger} (N : News h₀ L h nw) (S : SoftOK nw) (ha : (a, o) ∈ nw) (hs : ¬ IsSoft o) (hn : ∀ p ∈ nw', p ∈ nw ∨ ¬ IsExc p.2) (hk : ∀ p ∈ nw, p.1 ≠ a → p ∈ nw') : SoftOK nw' := fun q hq hx => by
  rcases hn q hq with hq | hq
  · obtain ⟨vs, h1, h2, h3⟩ := S q hq hx
    refine ⟨vs, h1, h2, h3.imp id ?_⟩
    rintro ⟨T, oT, ts, x, b, c, d, e⟩
    refine ⟨T, oT, ts, x, hk _ b fun z => hs ?_, c, d, e⟩
    have z' : T = a := z
    subst z'
    have : oT = o := Option.some.inj ((N _ b).1.symm.trans (N _ ha).1)
    exact this ▸ .inl c
  · exact absurd hx hq
theorem hard_seq {o : Obj} (h : o.cls = .type "list" ∨ o.cls = .type "tuple" ∨ o.cls = .type "dict" ∨ o.cls = .type "list_iterator" ∨ o.cls = .type "frame") : ¬ IsSoft o := by
  rintro (q | q | q | q | q) <;> rcases h with h | h | h | h | h <;> (rw [h] at q; revert q; decide)
theorem IsExc.soft {o : Obj} (h : IsExc o) : IsSoft o := .inr h.1
theorem softOK_turn {nw : Ledger} {o' : Obj} (N : News h₀ L h nw) (S : SoftOK nw) (ha : (a, o) ∈ nw) (hs : ¬ IsSoft o) (hs' : ¬ IsSoft o') : SoftOK ((a, o') :: without nw a) :=
  softOK_next N S ha hs (fun p hp => by
    rcases List.mem_cons.mp hp with rfl | hp
    · exact .inr fun x => hs' x.soft
    · exact .inl (mem_without.mp hp).1) fun p hp hne => .tail _ (mem_without.mpr ⟨hp, hne⟩)
theorem softOK_without {nw : Ledger} (N : News h₀ L h nw) (S : SoftOK nw) (ha : (a, o) ∈ nw) (hs : ¬ IsSoft o) : SoftOK (without nw a) :=
  softOK_next N S ha hs (fun p hp => .inl (mem_without.mp hp).1) fun p hp hne => mem_without.mpr ⟨hp, hne⟩
theorem SoftOK.hard {nz : Ledger} {p : Addr × Obj} (h : SoftOK nz) (hp : ¬ IsSoft p.2) : SoftOK (p :: nz) := h.cons fun x => hp x.soft
end
theorem one_obj' {h₀ h : Heap} {nz : Ledger} {a : Addr} {o o' : Obj} (D : Led h₀ h nz) (h1 : (a, o) ∈ nz) (h2 : (a, o') ∈ nz) : o = o' := Option.some.inj ((D.at_ _ h1).1.symm.trans (D.at_ _ h2).1)
theorem SoftOK.frame {nz : Ledger} {L : Addr} {o : Obj} (h : SoftOK nz) (hd : ∃ es ep, o.data = .dict es ep) : SoftOK ((L, o) :: nz) := h.cons fun x => by
  obtain ⟨_, _, q⟩ := x
  obtain ⟨_, _, z⟩ := hd
  exact absurd (q.symm.trans z) (by simp)
structure Back (h₀ : Heap) (L : Addr) (m : Str → Option Value) (Mut fr' : List Addr) (news : Ledger) (h' : Heap) (nz' : Ledger) : Prop where
  fr : Fr h₀ L h' m
  nw : News h₀ L h' (without nz' L)
  st : Step Mut fr' news (without nz' L)
  so : SoftOK (without nz' L)
/-- behind a call -/
theorem call_back {h₀ h h' : Heap} {L : Addr} {m : Str → Option Value} {nw nz' : Ledger} {Mut fr : List Addr} {o : Obj} (F : Fr h₀ L h m) (N : News h₀ L h nw) (ho : h.get? L = some o) (hd : ∃ es ep, o.data = .dict es ep) (D : Led h₀ h' nz') (S : Step Mut (L :: fr) ((L, o) :: nw) nz') (So : SoftOK nz') (hm : L ∉ Mut) : Back h₀ L m Mut fr nw h' nz' := by
  obtain ⟨F2, N2⟩ := fr_back F ho hd D S hm
  refine ⟨F2, N2, step_back N S, ?_⟩
  obtain ⟨sl2, hC2⟩ := S.dict (.head _) hm hd
  intro q hq hx
  obtain ⟨us, z1, z2, z3⟩ := So q (mem_without.mp hq).1 hx
  refine ⟨us, z1, z2, z3.imp id ?_⟩
  rintro ⟨T', oT, ts, x1, b, c, e1, e2⟩
  refine ⟨T', oT, ts, x1, without_mem b fun z => ?_, c, e1, e2⟩
  subst z
  have this : oT = _ := one_obj' D b hC2
  subst this
  obtain ⟨_, _, z⟩ := hd
  exact absurd (e1.symm.trans z) (by simp)
def ItAt (o : Obj) (l : Addr) (k : Nat) : Prop := o.cls = .type "list_iterator" ∧ o.data = .fields #[.ref l, .int k 0]
theorem ItAt.hard {o : Obj} {l k} (h : ItAt o l k) : ¬ IsSoft o := by
  rintro (q | q | q | q | q) <;> (rw [h.1] at q; revert q; decide)
theorem listIter_of {h : Heap} {I l : Addr} {k : Nat} {o : Obj} (ho : h.get? I = some o) (h1 : ItAt o l k) : h.IsListIter I l k := ⟨o, ho, h1.1, h1.2⟩
section
variable {w : World} {A : Around} {E : Value → Shared → Prop} {s : Shared} {h₀ : Heap} {L : Addr} {m : Str → Option Value} {nz : Ledger}
theorem next_item {I l : Addr} {oI ol : Obj} {k : Nat} {vs : List Value} {n : Nat} {x : Value} {Q : Option Value → Shared → Prop} (F : Fr h₀ L s.heap m) (N : News h₀ L s.heap nz) (hI : (I, oI) ∈ nz) (it : ItAt oI l k) (hl : (l, ol) ∈ nz) (hc : ol.cls = .type "list") (hd : ol.data = .seq vs.toArray n) (hx : vs[k]? = some x)
    (h : ∀ h' oI', ItAt oI' l (k + 1) → Fr h₀ L h' m → News h₀ L h' ((I, oI') :: without nz I) → Q (some x) { s with heap := h' }) : wpAny (model pg w) A (pyNext (.ref I)) Q E s := by
  refine wpAny_pyNext_list_item (listIter_of (N _ hI).1 it) ⟨ol, (N _ hl).1, hc, n, hd⟩ (by simpa using hx) fun h' hit hs => ?_
  obtain ⟨o', ho', h1, h2⟩ := hit
  obtain ⟨F', N'⟩ := same_fr F N hI hs ho'
  exact h h' o' ⟨h1, h2⟩ F' N'
theorem next_end {I l : Addr} {oI ol : Obj} {k : Nat} {vs : List Value} {n : Nat} {Q : Option Value → Shared → Prop} (hh : A.handled = none) (F : Fr h₀ L s.heap m) (N : News h₀ L s.heap nz) (hI : (I, oI) ∈ nz) (it : ItAt oI l k) (hl : (l, ol) ∈ nz) (hc : ol.cls = .type "list") (hd : ol.data = .seq vs.toArray n) (hx : vs[k]? = none)
    (h : ∀ h', Fr h₀ L h' m → News h₀ L h' (without nz I) → Q none { s with heap := h' }) : wpAny (model pg w) A (pyNext (.ref I)) Q E s := by
  refine wpAny_pyNext_list_end hh (listIter_of (N _ hI).1 it) ⟨ol, (N _ hl).1, hc, n, hd⟩ (by simpa using hx) fun h' hs => ?_
  obtain ⟨F', N'⟩ := ext_fr F N (N _ hI).2.1 (N _ hI).2.2 hs
  exact h h' F' N'
theorem append_L {D : Addr} {vs : List Value} {n : Nat} {x : Value} {Q : Value → Shared → Prop} (F : Fr h₀ L s.heap m) (N : News h₀ L s.heap nz) (hD : (D, listOf vs.toArray n) ∈ nz)
    (h : ∀ h' n', Fr h₀ L h' m → News h₀ L h' ((D, listOf (vs ++ [x]).toArray n') :: without nz D) → Q .none { s with heap := h' }) (hz : vs.length ≤ sizeLine) : wpAny (model pg w) A (call (.builtin "list.append") [.ref D, x]) Q E s := by
  refine wpAny_list_append_plain ⟨n, (N _ hD).1⟩ (fun h' hl hs => ?_) (by simpa using hz)
  obtain ⟨n', ho'⟩ := hl
  obtain ⟨F', N'⟩ := same_fr F N hD hs ho'
  refine h h' n' F' ?_
  simpa using N'
end
end Mine
namespace Mine
open PySem PySem.W PySem.Calls PyProof.Rows
section
variable {w : World} {A : Around} {E : Value → Shared → Prop} {s : Shared} {h₀ : Heap} {L : Addr} {m : Str → Option Value} {nz : Ledger}
/-- the loop of a comprehension over a list: one variable, no tests -/
theorem comp_core {elt iter : Expr} {x : Str} {px : Pos} {scope : Scope} {pos : Pos} {env : Env} {C I D l : Addr} {oI ol : Obj} {vs : List Value} {n nD : Nat} {R : Result → Shared → Prop} (hh : A.handled = none)
    (P : Nat → List Value → Ledger → Prop) (hP : ∀ k rs nw nw', Step [I, D] [] nw nw' → P k rs nw → P k rs nw')
    (hloc : env.locals = C) (hx : env.kindOf x = some .local) (hsc : env.scope.kind = .function)
    (F : Fr h₀ C s.heap m) (N : News h₀ C s.heap nz) (hI : (I, oI) ∈ nz) (it : ItAt oI l 0) (hl : (l, ol) ∈ nz) (hc : ol.cls = .type "list") (hd : ol.data = .seq vs.toArray n) (hD : (D, listOf #[] nD) ∈ nz)
    (hlI : l ≠ I) (hlD : l ≠ D) (hID : I ≠ D) (hz : vs.length ≤ sizeLine) (p0 : P 0 [] nz) (so : SoftOK nz)
    (turn : ∀ k v h' tk m' nw rs Q E', vs[k]? = some v → Fr h₀ C h' m' → m' x = some v → News h₀ C h' nw → SoftOK nw → (∃ o, (I, o) ∈ nw) → (∃ o, (D, o) ∈ nw) → P k rs nw →
      (∀ y h'' tk'' m'' nw', Fr h₀ C h'' m'' → News h₀ C h'' nw' → Step [] [] nw nw' → SoftOK nw' → P (k + 1) (rs ++ [y]) nw' → Q y { s with heap := h'', toks := tk'' }) →
      (∀ e s', wpAny (model pg w) A (noteFrame e env) (fun _ s'' => R (.error e) s'') (fun e' s'' => R (.error e') s'') s' → E' e s') →
      wpAny (model pg w) A (eval elt env) Q E' { s with heap := h', toks := tk })
    (hR : ∀ h' tk m' nw rs n', Fr h₀ C h' m' → News h₀ C h' nw → Step [I, D] [] nz nw → SoftOK nw → (D, listOf rs.toArray n') ∈ nw → P vs.length rs nw → R (.ok .next) { s with heap := h', toks := tk }) :
    codeAny (model pg w) A (.compLoop (.ListComp elt [⟨.Name x px, iter, [], 0⟩] scope pos) 0 (.ref I) (.ref D) env) R s := by
  refine codeAny_compLoop_list (fun j s' => ∃ k h' tk m' nw rs n' oI', j = vs.length - k ∧ k ≤ vs.length ∧ rs.length = k ∧ s' = { s with heap := h', toks := tk } ∧ Fr h₀ C h' m' ∧ News h₀ C h' nw ∧ Step [I, D] [] nz nw ∧ SoftOK nw ∧
    (I, oI') ∈ nw ∧ ItAt oI' l k ∧ (D, listOf rs.toArray n') ∈ nw ∧ P k rs nw) (fun j s' hI' => ?_) vs.length
    ⟨0, s.heap, s.toks, m, nz, [], nD, oI, rfl, Nat.zero_le _, rfl, rfl, F, N, Step.refl _ _ _, so, hI, it, hD, p0⟩
  obtain ⟨k, h', tk, m', nw, rs, n', oI', rfl, hk, hrs, rfl, F', N', St, so', hI', it', hD', p'⟩ := hI'
  have hl' : (l, ol) ∈ nw := St.keeps hl (by simp [hlI, hlD]) (fun _ q => by rw [hd] at q; cases q) (fun _ _ q => by rw [hd] at q; cases q)
  cases hv : vs[k]? with
  | none =>
    have hk' : k = vs.length := Nat.le_antisymm hk (by simpa using hv)
    refine next_end hh F' N' hI' it' hl' hc hd hv fun h'' F'' N'' => ?_
    have St2 : Step [I, D] [] nw (without nw I) := without_step' _ _ (by simp)
    exact hR h'' tk m' _ rs n' F'' N'' (St.trans St2) (softOK_without N' so' hI' it'.hard) (without_mem hD' hID.symm) (hk' ▸ hP _ _ _ _ St2 p')
  | some v =>
    have hklt : k < vs.length := by
      rcases Nat.lt_or_ge k vs.length with q | q
      · exact q
      · rw [List.getElem?_eq_none q] at hv; cases hv
    refine next_item F' N' hI' it' hl' hc hd hv fun h₁ oI₁ it₁ F₁ N₁ => ?_
    refine wpAny_assign_Name (wpAny_storeName_local (m := m') hx (by rw [hloc]; exact F₁.ns) (fun h₂ hn₂ hs₂ => ?_) (by rw [hsc]; rfl))
    rw [hloc] at hn₂ hs₂
    have F₂ := F₁.set hn₂ hs₂
    have N₂ := N₁.set hs₂
    have St1 : Step [I, D] [] nw ((I, oI₁) :: without nw I) := without_step _ _ (by simp)
    refine turn k v h₂ _ _ _ rs _ _ hv F₂ (by simp) N₂ (softOK_turn N' so' hI' it'.hard it₁.hard) ⟨_, .head _⟩ ⟨_, .tail _ (without_mem hD' hID.symm)⟩ (hP _ _ _ _ St1 p') (fun y h₃ tk₃ m₃ nw₃ F₃ N₃ St₃ so₃ p₃ => ?_) fun e s' he => he
    have hD₃ : (D, listOf rs.toArray n') ∈ nw₃ := St₃.keeps (.tail _ (without_mem hD' hID.symm)) (by simp) (fun _ q => by cases q) (fun _ _ q => by cases q)
    have hI₃ : (I, oI₁) ∈ nw₃ := St₃.keepsR (.head _) (by simp) it₁.hard ⟨_, it₁.2⟩
    refine append_L F₃ N₃ hD₃ (fun h₄ n₄ F₄ N₄ => ?_) (by omega)
    have St4 : Step [I, D] [] nw₃ ((D, listOf (rs ++ [y]).toArray n₄) :: without nw₃ D) := without_step _ _ (by simp)
    exact ⟨vs.length - (k + 1), by omega, k + 1, h₄, tk₃, m₃, _, rs ++ [y], n₄, oI₁, rfl, hklt, by simp [hrs], rfl, F₄, N₄, ((St.trans St1).trans (St₃.weaken (fun _ q => nomatch q) fun _ q => q)).trans St4, softOK_turn N₃ so₃ hD₃ (hard_seq (.inl rfl)) (hard_seq (.inl rfl)),
      .tail _ (without_mem hI₃ hID), it₁, .head _, hP _ _ _ _ St4 p₃⟩
/-- a list comprehension over a list, of a function without cells -/
theorem listComp_L {elt iter : Expr} {x : Str} {px : Pos} {scope fscope : Scope} {pos : Pos} {name : Str} {fa : Addr} {cd : Value} {Q : Value → Shared → Prop} (hh : A.handled = none)
    (P : Addr → Addr → Addr → Nat → List Value → Ledger → Prop) (hP : ∀ C I D k rs nw nw', Step [I, D] [] nw nw' → P C I D k rs nw → P C I D k rs nw')
    (hfree : ∀ y ∈ scope.names, y.2 ≠ .free) (hcell : ∀ y ∈ scope.names, y.2 ≠ .cell) (hkind : scope.kind = .function) (hnames : ∀ y ∈ scope.names, y.2 = .local → scope.names.lookup y.1 = some .local) (hx : scope.names.lookup x = some .local)
    (hs : ∀ v, foldedSetIterable iter (envOf name fscope L fa cd) v = pure v)
    (h : wpAny (model pg w) A (eval iter (envOf name fscope L fa cd)) (fun xv s₁ => ∃ (l : Addr) (ol : Obj) (vs : List Value) (n : Nat) (m : Str → Option Value) (nz : Ledger), xv = .ref l ∧ Fr h₀ L s₁.heap m ∧ News h₀ L s₁.heap nz ∧ (l, ol) ∈ nz ∧ ol.cls = .type "list" ∧ ol.data = .seq vs.toArray n ∧ vs.length ≤ sizeLine ∧ SoftOK nz ∧
      (∀ C I D oL oI, (∃ es ep, oL.data = .dict es ep) → ItAt oI l 0 → (∀ p ∈ (L, oL) :: nz, p.1 ≠ I ∧ p.1 ≠ D ∧ p.1 ≠ C) → P C I D 0 [] ((D, listOf #[] 0) :: (I, oI) :: (L, oL) :: nz)) ∧
      (∀ C I D k v h' tk m' (nw : Ledger) rs Q E', vs[k]? = some v → Fr h₀ C h' m' → m' x = some v → News h₀ C h' nw → SoftOK nw → (∃ o, (I, o) ∈ nw) → (∃ o, (D, o) ∈ nw) → P C I D k rs nw →
        (∀ y h'' tk'' m'' nw', Fr h₀ C h'' m'' → News h₀ C h'' nw' → Step [] [] nw nw' → SoftOK nw' → P C I D (k + 1) (rs ++ [y]) nw' → Q y { s₁ with heap := h'', toks := tk'' }) →
        wpAny (model pg w) A (eval elt (compEnv scope C (envOf name fscope L fa cd))) Q E' { s₁ with heap := h', toks := tk }) ∧
      (∀ C I D h' tk nw rs n', Fr h₀ L h' m → News h₀ L h' (without nw L) → Step [] [] nz (without nw L) → SoftOK (without nw L) → (∀ p ∈ nz, p.1 ≠ D) → D ≠ L → (D, listOf rs.toArray n') ∈ nw → P C I D vs.length rs nw → Q (.ref D) { s₁ with heap := h', toks := tk })) E s) :
    wpAny (model pg w) A (eval (.ListComp elt [⟨.Name x px, iter, [], 0⟩] scope pos) (envOf name fscope L fa cd)) Q E s := by
  refine wpAny_ListComp hfree hkind hnames (wpAny_mono h (fun xv s₁ h₁ => ?_) fun _ _ e => e) hs
  obtain ⟨l, ol, vs, n, m, nz, rfl, F, N, hl, hc, hd, hz, so, p0, turn, hQ⟩ := h₁
  refine wpAny_pyIter_list ⟨ol, (N _ hl).1, hc, n, hd⟩ (wpAny_newObj_type (hd := by size_fits) (wpAny_newFunctionEnv hcell (by intro y hy; simp at hy) (fun h₁ hns₁ hsb₁ => ?_) hkind))
  dsimp only at hns₁ hsb₁ ⊢
  obtain ⟨oL, hdL, hoL, -⟩ := led_all F N
  have hLs : L < s₁.heap.objs.size := Heap.lt_size hoL
  have FI := F.push { cls := .type "list_iterator", data := .fields #[.ref l, .int 0 0] }
  have NI := News.push F N { cls := .type "list_iterator", data := .fields #[.ref l, .int 0 0] }
  generalize hH1 : s₁.heap.push { cls := .type "list_iterator", data := .fields #[.ref l, .int 0 0] } = H1 at hns₁ hsb₁ FI NI ⊢
  have hs1 : H1.objs.size = s₁.heap.objs.size + 1 := by rw [← hH1, Heap.size_push]
  have FD := FI.push { cls := .type "list", dict := none, data := .seq ([] : List Value).toArray }
  have ND := News.push FI NI { cls := .type "list", dict := none, data := .seq ([] : List Value).toArray }
  generalize hH2 : H1.push { cls := .type "list", dict := none, data := .seq ([] : List Value).toArray } = H2 at hns₁ hsb₁ FD ND ⊢
  have hs2 : H2.objs.size = s₁.heap.objs.size + 2 := by rw [← hH2, Heap.size_push, hs1]
  have old : ∀ b o, H2.get? b = some o → h₁.get? b = some o := fun b o e => by
    rw [hsb₁.2 b (Nat.ne_of_lt (Heap.lt_size e))]
    exact Heap.get?_push_of_some _ e
  obtain ⟨F1, N1⟩ := stay_fr FD ND old
  have FC : Fr h₀ H2.objs.size h₁ (fun _ => none) := ⟨hns₁, F1.keep, Nat.le_trans F.above (Nat.le_trans (Nat.le_of_lt hLs) (by rw [hs2]; exact Nat.le_add_right _ _))⟩
  obtain ⟨oL', hdL', hoL', -⟩ := led_all F1 N1
  have NC : News h₀ H2.objs.size h₁ ((H1.objs.size, listOf #[] 0) :: (s₁.heap.objs.size, { cls := .type "list_iterator", data := .fields #[.ref l, .int 0 0] }) :: (L, oL') :: nz) := by
    intro p hp
    rcases List.mem_cons.mp hp with rfl | hp
    · have := N1 (H1.objs.size, _) (.head _)
      exact ⟨this.1, by show H1.objs.size ≠ H2.objs.size; omega, this.2.2⟩
    · rcases List.mem_cons.mp hp with rfl | hp
      · have := N1 (s₁.heap.objs.size, _) (.tail _ (.head _))
        exact ⟨this.1, by show s₁.heap.objs.size ≠ H2.objs.size; omega, this.2.2⟩
      · rcases List.mem_cons.mp hp with rfl | hp
        · exact ⟨hoL', Nat.ne_of_lt (Nat.lt_of_lt_of_le hLs (by rw [hs2]; exact Nat.le_add_right _ _)), base_none F⟩
        · have q := N1 p (.tail _ (.tail _ hp))
          have := Heap.lt_size (N p hp).1
          exact ⟨q.1, Nat.ne_of_lt (Nat.lt_of_lt_of_le this (by rw [hs2]; exact Nat.le_add_right _ _)), q.2.2⟩
  refine codeAny_compStart_list ?_ (wpAny_pyIter_listiter (l := l) (i := 0) ⟨_, (NC (s₁.heap.objs.size, _) (.tail _ (.head _))).1, rfl, rfl⟩ ?_)
  all_goals
    refine comp_core hh (P H2.objs.size s₁.heap.objs.size H1.objs.size) (hP _ _ _) (C := H2.objs.size) rfl hx hkind FC NC (.tail _ (.head _)) ⟨rfl, rfl⟩ (.tail _ (.tail _ (.tail _ hl))) hc hd (.head _) ?_ ?_ ?_ hz ?_ ?_ ?_ ?_
    · exact Nat.ne_of_lt (Heap.lt_size (N _ hl).1)
    · exact Nat.ne_of_lt (Nat.lt_trans (Heap.lt_size (N _ hl).1) (by rw [hs1]; exact Nat.lt_succ_self _))
    · rw [hs1]; exact Nat.ne_of_lt (Nat.lt_succ_self _)
    · refine p0 _ _ _ _ _ hdL' ⟨rfl, rfl⟩ fun p hp => ?_
      have : p.1 < s₁.heap.objs.size := by
        rcases List.mem_cons.mp hp with rfl | hp
        · exact hLs
        · exact Heap.lt_size (N p hp).1
      exact ⟨Nat.ne_of_lt this, Nat.ne_of_lt (Nat.lt_trans this (by rw [hs1]; exact Nat.lt_succ_self _)), Nat.ne_of_lt (Nat.lt_of_lt_of_le this (by rw [hs2]; exact Nat.le_add_right _ _))⟩
    · obtain ⟨es, ep, q⟩ := hdL'
      exact ((so.cons fun x => by obtain ⟨_, _, z⟩ := x; rw [q] at z; cases z).hard (hard_seq (.inr (.inr (.inr (.inl rfl)))))).hard (hard_seq (.inl rfl))
    · intro k v h' tk m' nw rs Q' E' hv F' hm' N' so' hI' hD' p' hQ' hE'
      exact turn _ _ _ k v h' tk m' nw rs Q' E' hv F' hm' N' so' hI' hD' p' hQ'
    · intro h' tk m' nw rs n' F' N' St so' hD' p'
      refine ⟨m', F'.ns, fun h'' hs'' => ?_⟩
      have hLI : L ≠ s₁.heap.objs.size := Nat.ne_of_lt hLs
      have hLD : L ≠ H1.objs.size := Nat.ne_of_lt (Nat.lt_trans hLs (by rw [hs1]; exact Nat.lt_succ_self _))
      obtain ⟨sl, hL'⟩ := St.dict (a := L) (.tail _ (.tail _ (.head _))) (by simp [hLI, hLD]) hdL'
      have g : ∀ p ∈ nw, h''.get? p.1 = some p.2 := fun p hp => (hs''.2 _ (N' p hp).2.1).trans (N' p hp).1
      have F'' : Fr h₀ L h'' m := by
        refine ⟨ns_slots F1.ns hoL' (g _ hL'), fun b o q => (hs''.2 b ?_).trans (F'.keep b o q), F.above⟩
        exact Nat.ne_of_lt (Nat.lt_of_lt_of_le (Heap.lt_size q) F'.above)
      refine hQ H2.objs.size s₁.heap.objs.size H1.objs.size h'' tk nw rs n' F'' (fun p hp => ?_) (fun p hp hm => ?_) ?_ (fun p hp => ?_) hLD.symm hD' p'
      · obtain ⟨q1, q2⟩ := mem_without.mp hp
        exact ⟨g p q1, q2, (N' p q1).2.2⟩
      · have lp := Heap.lt_size (N p hp).1
        obtain ⟨o', q1, q2, q3⟩ := St p (.tail _ (.tail _ (.tail _ hp))) (by
          simp only [List.mem_cons, List.not_mem_nil, or_false, not_or]
          exact ⟨Nat.ne_of_lt lp, Nat.ne_of_lt (Nat.lt_trans lp (by rw [hs1]; exact Nat.lt_succ_self _))⟩)
        exact ⟨o', without_mem q1 (N p hp).2.1, q2, q3⟩
      · intro q hq hx
        obtain ⟨vs', z1, z2, z3⟩ := so' q (mem_without.mp hq).1 hx
        refine ⟨vs', z1, z2, z3.imp id ?_⟩
        rintro ⟨T, oT, ts, a, b, c, d, e⟩
        refine ⟨T, oT, ts, a, without_mem b fun z => ?_, c, d, e⟩
        subst z
        have this : oT = { oL' with slots := sl } := Option.some.inj ((g (T, oT) b).symm.trans (g (T, _) hL'))
        obtain ⟨es, ep, q⟩ := hdL'
        subst this
        exact absurd (d.symm.trans q) (by simp)
      · exact Nat.ne_of_lt (Nat.lt_trans (Heap.lt_size (N p hp).1) (by rw [hs1]; exact Nat.lt_succ_self _))
end
end Mine
namespace Mine
open PySem PySem.W PySem.Calls PyProof.Rows
structure ExcT (T : String) : Prop where
  ga : Slot T "__getattribute__" "BaseException.__getattribute__"
  lk : typeLookup (.type T) "__class__" = pure (some (.builtin "object.__class__"))
  ow : isSubtype (.type T) (.type (".".intercalate ("object.__class__".cutAt '.').dropLast)) = pure true
  nb : (Value.type T == Value.type "builtin_function_or_method") = false
theorem entry_be_ga : entryFor table "BaseException.__getattribute__" = some Builtin.«object.__getattribute__» :=
  entryFor_alias (id' := "object.__getattribute__") (by kernel_rfl) (by first | rfl | decide +kernel) (by decide +kernel) (by kernel_rfl)
theorem args_be_ga (a b : Value) : argsOk "BaseException.__getattribute__" ⟨[a, b], []⟩ := by unfold argsOk; kernel_rfl
theorem excT_KeyError : ExcT "KeyError" where
  ga := .of (owner := "BaseException") (n := "__getattribute__") (by rw [typeLookup_type, builtinLookup_eq_fast]; kernel_rfl) (by decide +kernel) (by decide +kernel) (by decide +kernel)
    (by first | exact .inl (by decide +kernel) | exact .inr (by decide +kernel)) (by rw [isSubtype_type]; kernel_rfl)
  lk := by rw [typeLookup_type, builtinLookup_eq_fast]; kernel_rfl
  ow := by rw [F.owner_object_class, isSubtype_type]; kernel_rfl
  nb := by decide
theorem excT_ValueError : ExcT "ValueError" where
  ga := .of (owner := "BaseException") (n := "__getattribute__") (by rw [typeLookup_type, builtinLookup_eq_fast]; kernel_rfl) (by decide +kernel) (by decide +kernel) (by decide +kernel)
    (by first | exact .inl (by decide +kernel) | exact .inr (by decide +kernel)) (by rw [isSubtype_type]; kernel_rfl)
  lk := by rw [typeLookup_type, builtinLookup_eq_fast]; kernel_rfl
  ow := by rw [F.owner_object_class, isSubtype_type]; kernel_rfl
  nb := by decide
theorem excT_RuntimeError : ExcT "RuntimeError" where
  ga := .of (owner := "BaseException") (n := "__getattribute__") (by rw [typeLookup_type, builtinLookup_eq_fast]; kernel_rfl) (by decide +kernel) (by decide +kernel) (by decide +kernel)
    (by first | exact .inl (by decide +kernel) | exact .inr (by decide +kernel)) (by rw [isSubtype_type]; kernel_rfl)
  lk := by rw [typeLookup_type, builtinLookup_eq_fast]; kernel_rfl
  ow := by rw [F.owner_object_class, isSubtype_type]; kernel_rfl
  nb := by decide
section
variable {T : String} {prog : Program} {w : World} {A : Around} {E : Value → Shared → Prop} {h : Heap} {g : Array GenState} {d : Drawn} {t : Nat} {os : OsState} {a : Addr} {o : Obj}
theorem xc_get {R : Result → Shared → Prop} (X : ExcT T) (hx : h.get? a = some o) (hc : o.cls = .type T) (hq : R (.ok (.ret (.type T))) ⟨h, g, d, t, os⟩) :
    codeAny (model prog w) A (.call (.builtin "getset_descriptor.__get__") ⟨[.builtin "object.__class__", .ref a, .type T], []⟩) R ⟨h, g, d, t, os⟩ := by
  have hT : (⟨h, g, d, t, os⟩ : Shared).TypeIs (.ref a) T := ⟨_, hx, hc⟩
  have hT5 : (⟨h, g, d, t, os⟩ : Shared).TypeIs (.builtin "object.__class__") "getset_descriptor" := F.typeOf_object_class
  have f8 := X.ow
  refine codeAny_call_builtin F.slot_gs_get.plain F.entry_gs_get (F.slot_gs_get.check _ _ _ _ _ _ _ _ hT5 (F.args_gs_get _ _ _) ?_)
  repeat (any_goals (first | assumption | wp_step))
  refine ⟨Code.quiet_builtin _ (by decide +kernel), codeAny_builtin F.entry_object_class ?_⟩
  repeat (any_goals (first | assumption | wp_step))
  rw [if_neg (by rw [X.nb]; exact Bool.false_ne_true)]
  repeat (any_goals (first | assumption | wp_step))
theorem xc_entry {tk : Tok} {Q : Fin → Shared → Prop} (X : ExcT T) (hx : h.get? a = some o) (hc : o.cls = .type T) (hq : Q (.done (.ret (.type T))) ⟨h, g, d, t, os⟩) :
    wpAny (model prog w) A (Builtin.«object.__getattribute__» ⟨[.ref a, .str "__class__" tk], []⟩) Q E ⟨h, g, d, t, os⟩ := by
  have hT : (⟨h, g, d, t, os⟩ : Shared).TypeIs (.ref a) T := ⟨_, hx, hc⟩
  have hT5 : (⟨h, g, d, t, os⟩ : Shared).TypeIs (.builtin "object.__class__") "getset_descriptor" := F.typeOf_object_class
  have f4 := X.lk
  have f5 := F.typeOf_object_class
  have f6 := F.slot_gs_get.lookup
  have f7 := F.slot_gs_set.lookup
  repeat (any_goals (first | assumption | wp_step))
  refine xc_get X hx hc ?_
  repeat (any_goals (first | assumption | wp_step))
theorem xc_call {tk : Tok} {R : Result → Shared → Prop} (X : ExcT T) (hx : h.get? a = some o) (hc : o.cls = .type T) (hq : R (.ok (.ret (.type T))) ⟨h, g, d, t, os⟩) :
    codeAny (model prog w) A (.call (.builtin "BaseException.__getattribute__") ⟨[.ref a, .str "__class__" tk], []⟩) R ⟨h, g, d, t, os⟩ :=
  codeAny_call_builtin X.ga.plain entry_be_ga (X.ga.check _ _ _ _ _ _ _ _ (show (⟨h, g, d, t, os⟩ : Shared).TypeIs (.ref a) T from ⟨_, hx, hc⟩) (args_be_ga _ _) (xc_entry X hx hc hq))
theorem xc_by {tk : Tok} {Q : Value → Shared → Prop} (X : ExcT T) (hx : h.get? a = some o) (hc : o.cls = .type T) (hq : Q (.type T) ⟨h, g, d, t, os⟩) : wpAny (model prog w) A (getAttrBy (.ref a) (.str "__class__" tk) false) Q E ⟨h, g, d, t, os⟩ := by
  have hT : (⟨h, g, d, t, os⟩ : Shared).TypeIs (.ref a) T := ⟨_, hx, hc⟩
  have f2 := X.ga.lookup
  have f3 := X.ga.bind (.ref a)
  repeat (any_goals (first | assumption | wp_step))
  refine xc_call X hx hc ?_
  repeat (any_goals (first | assumption | wp_step))
theorem xc_attr {Q : Option Value → Shared → Prop} (X : ExcT T) (hx : h.get? a = some o) (hc : o.cls = .type T) (hq : Q (some (.type T)) ⟨h, g, d, t + 1, os⟩) : wpAny (model prog w) A (getAttr? (.ref a) "__class__") Q E ⟨h, g, d, t, os⟩ := by
  unfold getAttr? getAttrBy?
  repeat (any_goals (first | assumption | with_reducible apply xc_by X hx hc | wp_step))
end
theorem kitx_exc {K : Frag} {T : String} {a : Addr} (X : ExcT T) : KitX K (.ref a) (.type T) (KitAt a T) := kitx_of kitAt_ty (fun {_ _ _ _ _ s} p k => by obtain ⟨h, g, d, t, os⟩ := s; obtain ⟨o, h1, h2⟩ := p; exact xc_attr X h1 h2 k)
end Mine
namespace Mine
open PySem PySem.W PySem.Calls PyProof.Rows
theorem entry_unchain : entryFor table "proto.unchain" = some Builtin.«proto.unchain» := entryFor_of_tree (by kernel_rfl)
/-- what may be handled around -/
def HandOK (A : Around) (h : Heap) : Prop := A.handled = none ∨ ∃ a o vs, A.handled = some (.ref a) ∧ h.get? a = some o ∧ o.data = .fields vs ∧ vs[2]? = some Value.none
theorem HandOK.keeps {A : Around} {h h' : Heap} (H : HandOK A h) (k : ∀ b o, h.get? b = some o → h'.get? b = some o) : HandOK A h' := by
  rcases H with H | ⟨a, o, vs, H, h1, h2⟩
  · exact .inl H
  · exact .inr ⟨a, o, vs, H, k _ _ h1, h2⟩
section
variable {prog : Program} {w : World} {A : Around} {E : Value → Shared → Prop} {s : Shared}
theorem raiseNew_any {α : Type} {e : Addr} {oe : Obj} {es : Array Value} {Q : α → Shared → Prop} (H : HandOK A s.heap) (he : s.heap.get? e = some oe) (hd : oe.data = .fields es) (hz : 2 < es.size) (hne : ∀ a, A.handled = some (.ref a) → a ≠ e)
    (h : ∀ h', Heap.SameBut e s.heap h' → (∃ o', h'.get? e = some o' ∧ o'.cls = oe.cls) → E (.ref e) { s with heap := h' }) : wpAny (model prog w) A (raiseNew (.ref e) : Sem α) Q E s := by
  rcases H with H | ⟨a, o, vs, H, h1, h2, h3⟩
  · exact wpAny_raiseNew_none H (h s.heap (Heap.SameBut.refl _ _) ⟨oe, he, rfl⟩)
  · unfold raiseNew
    refine wpAny_bind (wpAny_handled ?_)
    rw [H]
    have hn : (Value.ref a != Value.ref e) = true := by
      have := hne a H
      simp only [bne_iff_ne, ne_eq, Value.ref.injEq]
      exact this
    dsimp only
    rw [if_pos hn]
    refine wpAny_bind (wpAny_holding (wpAny_runValue (codeAny_builtin entry_unchain ?_)))
    unfold Builtin.«proto.unchain»
    refine wpAny_bind (wpAny_field h1 h2 h3 ?_)
    rw [if_pos (by decide)]
    refine wpAny_bind (wpAny_pure (wpAny_pure ?_))
    refine wpAny_bind ?_
    simp only [updateField]
    refine wpAny_bind (wpAny_load he ?_)
    rw [hd]
    show wpAny _ A (if 2 < es.size then _ else _) _ E s
    rw [if_pos hz]
    refine wpAny_update he ?_
    refine wpAny_throw (h _ (Heap.SameBut.update ..) ⟨_, Heap.get?_update_self _ he (Obj.isFreed_of_fields (Obj.data_mapFields hd _)), Obj.cls_mapFields _ _⟩)
variable {K : Type} [DecidableEq K] {knd : KeyKind prog w K}
theorem dict_end_any {it d : Addr} {i ep : Nat} {kvs : List (K × Value)} {Q : Option Value → Shared → Prop} (H : HandOK A s.heap) (hne : A.handled ≠ some (.ref it)) (hit : s.heap.IsKeyIter it d i kvs.length ep)
    (hm : s.heap.DictAt knd d kvs ep) (hx : kvs[i]? = none)
    (hQ : ∀ h', Heap.ExtBut it s.heap h' → Q none { s with heap := h' }) : wpAny (model prog w) A (pyNext (.ref it)) Q E s := by
  obtain ⟨o, ho, hc, hd⟩ := id hit
  obtain ⟨od, es, hod, hcd, hdd, hk, hp, hn⟩ := id hm
  unfold pyNext
  refine wpAny_bind (wpAny_attempt (wpAny_callSpecial?_slot (name := Str.ofString "__next__") hit.typeIs F.slot_dict_keyiterator_next
    (wpAny_call_entry F.slot_dict_keyiterator_next hit.typeIs F.entry_dict_keyiterator_next ?_ (F.args_dict_keyiterator_next_1 _))))
  refine wpAny_bind (wpAny_pure ?_)
  refine wpAny_bind ?_
  refine wpAny_bind ?_
  first | refine wpAny_bind (wpAny_typeNameOfWhole_keyiter hit.typeIs (wpAny_pure ?_)) | refine wpAny_bind (wpAny_typeNameOf_keyiter hit.typeIs (wpAny_pure ?_))
  refine wpAny_bind (wpAny_fieldsOf ho hd ?_)
  have hown : Builtin.Dict_items.ownsTuple "dict_keyiterator" = false := by decide
  simp only [hown, Bool.false_eq_true, if_false]
  show wpAny _ _ (if (Value.ref d == Value.none) = true then _ else _) _ _ s
  rw [if_neg (show ¬ ((Value.ref d == Value.none) = true) from Bool.false_ne_true)]
  refine wpAny_bind (wpAny_pure ?_)
  refine wpAny_bind (wpAny_dictEntries hod hdd ?_)
  have hsz : es.size = kvs.length := by rw [← hp.length]; simp
  rw [if_neg (by rw [hsz]; simp)]
  refine wpAny_bind (wpAny_pure ?_)
  refine wpAny_bind (wpAny_dictEpoch hod hdd ?_)
  rw [if_neg (by simp)]
  refine wpAny_pure ?_
  have hge : es.size ≤ i := by rw [hsz]; simpa using hx
  simp only [show ¬ ((i : Int) < 0) from by omega, if_false, Int.toNat_natCast, Array.getElem?_eq_none hge]
  refine wpAny_bind ?_
  first | refine wpAny_bind (wpAny_typeNameOfWhole_keyiter hit.typeIs (wpAny_pure ?_)) | refine wpAny_bind (wpAny_typeNameOf_keyiter hit.typeIs (wpAny_pure ?_))
  show wpAny _ _ (setField (.ref it) 0 .none >>= _) _ _ s
  refine wpAny_bind (wpAny_setField ho hd (by simp) ?_)
  show wpAny _ _ (newExc (.type "StopIteration") [] >>= _) _ _ _
  refine wpAny_bind ?_
  simp only [newExc, newTuple]
  refine wpAny_bind (wpAny_newObj_type ?_ (by size_fits))
  refine wpAny_bind (m := firstArgMember _ _) (wpAny_of_eq (a := Value.none) (by first | rfl | (simp only [firstArgMember]; rfl)) ?_)
  refine wpAny_newObj_type ?_ (by size_fits)
  refine raiseNew_any (e := ((s.heap.update it (Obj.mapFields fun x => x.setIfInBounds 0 Value.none)).push { cls := Value.type "tuple", data := Data.seq #[] }).objs.size) ?_ (Heap.get?_push_size _ rfl) rfl (by simp; omega) ?_ fun h' hs' he' => ?_
  · rcases H with H | ⟨a, oa, vs, H, h1, h2⟩
    · exact .inl H
    · refine .inr ⟨a, oa, vs, H, Heap.get?_push_of_some _ (Heap.get?_push_of_some _ ?_), h2⟩
      rw [Heap.get?_update_other _ _ fun z => hne (by rw [z]; exact H)]
      exact h1
  · intro a ha
    rcases H with H | ⟨a', oa, vs, H, h1, h2⟩
    · rw [show A.in1.handled = A.handled from rfl, H] at ha; cases ha
    · rw [show A.in1.handled = A.handled from rfl, H] at ha
      cases ha
      refine Nat.ne_of_lt (Nat.lt_of_lt_of_le (Heap.lt_size h1) ?_)
      rw [Heap.size_push, Heap.size_update]
      exact Nat.le_succ _
  · obtain ⟨o', ho', hc'⟩ := he'
    refine wpAny_bind (wpAny_isInstance (T := "StopIteration") (b := true) ⟨o', ho', hc'⟩ isSubtype_stop ?_)
    refine wpAny_pure (hQ _ fun b ob hb hob => ?_)
    have lb := Heap.lt_size hob
    rw [hs'.2 b (by
      refine Nat.ne_of_lt (Nat.lt_of_lt_of_le lb ?_)
      rw [Heap.size_push, Heap.size_update]
      exact Nat.le_succ _)]
    refine Heap.get?_push_of_some _ (Heap.get?_push_of_some _ ?_)
    rw [Heap.get?_update_other _ _ (Ne.symm hb)]
    exact hob
end
end Mine
namespace Mine
open PySem PySem.W PySem.Calls PyProof.Rows
def CtxNone (o : Obj) : Prop := ∃ vs, o.data = .fields vs ∧ vs[2]? = some Value.none
/-- the errors' own table -/
structure ErrTab (w : World) (nz : Ledger) (er : Addr) (tab : List (Int × Addr)) : Prop where
  low : (er == sysModules) = false
  dict : ∃ o, (er, o) ∈ nz ∧ o.IsDictOf (intKind pg w) (tab.map fun p => (p.1, Value.ref p.2))
  exc : ∀ p ∈ tab, ∃ oe, (p.2, oe) ∈ nz ∧ IsExc oe ∧ CtxNone oe ∧ (oe.cls = .type "KeyError" ∨ oe.cls = .type "ValueError")
  inj : (tab.map (·.2)).Nodup
/-- which error -/
inductive ECode (nz : Ledger) (tab : List (Int × Addr)) : Addr → Int → Prop
  | own {me : Int} {e : Addr} : (me, e) ∈ tab → ECode nz tab e me
  | hook {e : Addr} {oe : Obj} : (e, oe) ∈ nz → IsExc oe → oe.cls = .ref 24 → ECode nz tab e (-1)
  | wrap {e : Addr} {oe : Obj} : (e, oe) ∈ nz → IsExc oe → CtxNone oe → oe.cls = .type "RuntimeError" → ECode nz tab e (-2)
theorem CtxNone.step {o o' : Obj} (r : ORel o o') (hx : IsExc o) (h : CtxNone o) : CtxNone o' := by
  obtain ⟨vs, h1, h2⟩ := h
  obtain ⟨vs', h3, _, h4⟩ := r.soft (.inr hx.1) vs h1
  exact ⟨vs', h3, by rw [h4 hx.1]; exact h2⟩
theorem exc_notSeq {o : Obj} (hx : IsExc o) : ¬ IsSeq o := fun ⟨_, _, q⟩ => by obtain ⟨_, _, z⟩ := hx; rw [q] at z; cases z
/-- lists alone turn -/
def MutSeq (Mut : List Addr) (nz : Ledger) : Prop := ∀ a ∈ Mut, ∀ o, (a, o) ∈ nz → IsSeq o
theorem MutSeq.exc {Mut : List Addr} {nz : Ledger} (h : MutSeq Mut nz) {a : Addr} {o : Obj} (ho : (a, o) ∈ nz) (hx : IsExc o) : a ∉ Mut := fun q => exc_notSeq hx (h a q o ho)
theorem MutSeq.nil (nz : Ledger) : MutSeq [] nz := fun _ h => nomatch h
theorem ErrTab.step {w : World} {nz nz' : Ledger} {er : Addr} {tab : List (Int × Addr)} {Mut fr : List Addr} (T : ErrTab w nz er tab) (S : Step Mut fr nz nz') (M : MutSeq Mut nz) (hfr : er ∉ fr) : ErrTab w nz' er tab := by
  refine ⟨T.low, ?_, fun p hp => ?_, T.inj⟩
  · obtain ⟨o, h1, h2⟩ := T.dict
    obtain ⟨es, ep, _, hd, _⟩ := id h2
    exact ⟨o, S.keepsD h1 (fun q => by obtain ⟨_, _, z⟩ := M _ q o h1; rw [hd] at z; cases z) hfr ⟨es, ep, hd⟩, h2⟩
  · obtain ⟨oe, h1, h2, h3, h4⟩ := T.exc p hp
    obtain ⟨o', g1, g2, g3, g4⟩ := S.exc h1 (M.exc h1 h2) h2
    exact ⟨o', g1, g2, h3.step g4 h2, by rw [g3]; exact h4⟩
theorem ECode.step {nz nz' : Ledger} {tab : List (Int × Addr)} {Mut fr : List Addr} {e : Addr} {c : Int} (T : ECode nz tab e c) (S : Step Mut fr nz nz') (M : MutSeq Mut nz) : ECode nz' tab e c := by
  cases T with
  | own h => exact .own h
  | hook h1 h2 h3 =>
    obtain ⟨o', g1, g2, g3, g4⟩ := S.exc h1 (M.exc h1 h2) h2
    exact .hook g1 g2 (g3.trans h3)
  | wrap h1 h2 h3 h4 =>
    obtain ⟨o', g1, g2, g3, g4⟩ := S.exc h1 (M.exc h1 h2) h2
    exact .wrap g1 g2 (h3.step g4 h2) (g3.trans h4)
theorem ECode.at {w : World} {nz : Ledger} {er : Addr} {tab : List (Int × Addr)} {e : Addr} {c : Int} (T : ErrTab w nz er tab) (C : ECode nz tab e c) : ∃ oe, (e, oe) ∈ nz ∧ IsExc oe := by
  cases C with
  | own h => obtain ⟨oe, h1, h2, _⟩ := T.exc _ h; exact ⟨oe, h1, h2⟩
  | hook h1 h2 _ => exact ⟨_, h1, h2⟩
  | wrap h1 h2 _ _ => exact ⟨_, h1, h2⟩
def HandN (A : Around) (nz : Ledger) : Prop := A.handled = none ∨ ∃ a o, A.handled = some (.ref a) ∧ (a, o) ∈ nz ∧ CtxNone o
theorem HandN.ok {A : Around} {h₀ h : Heap} {L : Addr} {nz : Ledger} (H : HandN A nz) (N : News h₀ L h nz) : HandOK A h := by
  rcases H with H | ⟨a, o, H, h1, vs, h2, h3⟩
  · exact .inl H
  · exact .inr ⟨a, o, vs, H, (N _ h1).1, h2, h3⟩
theorem HandN.ne {A : Around} {nz : Ledger} {I : Addr} (H : HandN A nz) (hI : ∀ p ∈ nz, p.1 ≠ I) : A.handled ≠ some (.ref I) := fun q => by
  rcases H with H | ⟨a, o, H, h1, _⟩
  · rw [H] at q; cases q
  · rw [H] at q; cases q
    exact hI _ h1 rfl
def KeyIt (o : Obj) (d : Addr) (i n ep : Nat) : Prop := o.cls = .type "dict_keyiterator" ∧ o.data = .fields #[.ref d, .int i 0, .int n 0, .int ep 0]
theorem keyIt_of {h : Heap} {I d : Addr} {i n ep : Nat} {o : Obj} (ho : h.get? I = some o) (h1 : KeyIt o d i n ep) : h.IsKeyIter I d i n ep := ⟨o, ho, h1.1, h1.2⟩
theorem fr_fun {h₀ h : Heap} {L : Addr} {m m' : Str → Option Value} (F : Fr h₀ L h m) (e : ∀ y, m y = m' y) : Fr h₀ L h m' := (funext e) ▸ F
theorem store_again {x : Str} {v : Option Value} {vl : Option Value} {m₀ : Str → Option Value} (y : Str) : (if y = x then v else (if y = x then vl else m₀ y)) = if y = x then v else m₀ y := by by_cases q : y = x <;> simp [q]
theorem sub_dict {w : World} {A : Around} {E : Value → Shared → Prop} {s : Shared} {h₀ : Heap} {L d : Addr} {nz : Ledger} {o : Obj} {K : Type} [DecidableEq K] {knd : KeyKind pg w K} {kvs : List (K × Value)} {k : K} {key v : Value} {value slice : Expr} {Q : Value → Shared → Prop}
    (N : News h₀ L s.heap nz) (hd : (d, o) ∈ nz) (hdict : o.IsDictOf knd kvs) (hkey : knd.is k key = true) (hv : valueAt kvs k = some v) (h : Q v { s with toks := s.toks + 1 })
    (hs : subscripted slice false (.ref d) key = operate [.ref d, key] (getItem (.ref d) key)) : wpAny (model pg w) A (subscriptTail value slice (.ref d) key) Q E s := by
  have D : s.heap.DictOf knd d kvs := Heap.dictOf_iff.mpr ⟨o, (N _ hd).1, hdict⟩
  exact tail_any D.typeIs slot_dict_getitem.lookup (wpAny_getItem_of hkey D.mapOf hv h) hs
/-- one turn's end, kept shut -/
def Turn (n : Nat) (I : Nat → Shared → Prop) (s : Shared) : Prop := ∃ m, m < n ∧ I m s
theorem forLoop_T {w : World} {A : Around} {s : Shared} {R : Result → Shared → Prop} {target : Expr} {it : Value} {body orelse : List Stmt} {env : Env} (I : Nat → Shared → Prop)
    (turn : ∀ n s, I n s → wpAny (model pg w) A (pyNext it) (fun r s₁ => match r with
      | none => wpAny (model pg w) A (execs orelse env) (fun f s₃ => R (.ok f) s₃) (notedBy (model pg w) A env fun e s' => R (.error e) s') s₁
      | some v => wpAny (model pg w) A (assign target env v) (fun _ s₂ => wpAny (model pg w) A (execs body env) (fun f s₃ => match f with
          | .next | .cont => Turn n I s₃
          | .brk => R (.ok .next) s₃
          | .ret v => R (.ok (.ret v)) s₃) (notedBy (model pg w) A env fun e s' => R (.error e) s') s₂) (notedBy (model pg w) A env fun e s' => R (.error e) s') s₁) (notedBy (model pg w) A env fun e s' => R (.error e) s') s)
    (n : Nat) (h : I n s) (ht : ∀ v, letOwnedTupleGo target it v = pure () := by intro _; rfl) : codeAny (model pg w) A (.forLoop target it body orelse env) R s :=
  codeAny_forLoop I turn n h ht
theorem looks_obj {M : Model} {h : Heap} {a : Addr} {o : Obj} (h1 : h.get? a = some o) : Looks M h (typeOf (.ref a)) o.cls := (Looks.ld h1).andThen .now
end Mine
namespace Mine
open PySem PySem.W PySem.Calls PyProof.Rows
def LogAt (B : Addr → Prop) (nz : Ledger) (lg : Addr) (v : Value) (ls : List Dat) : Prop := ∃ vs n, (lg, listOf vs.toArray n) ∈ nz ∧ VDs (offL nz fun b => b = lg ∨ v = .ref b ∨ B b) vs ls
def inD (me : Int) : Dat := .tuple [.str (Str.ofString "in"), .int me]
def DeedAt (nz : Ledger) (dd : Addr) (me kind : Int) : Prop := ∃ t u n, (dd, tupOf #[.int me t, .int kind u] n) ∈ nz
theorem DeedAt.step {nz nz' : Ledger} {dd : Addr} {me kind : Int} {Mut fr : List Addr} (h : DeedAt nz dd me kind) (S : Step Mut fr nz nz') (hm : dd ∉ Mut) : DeedAt nz' dd me kind := by
  obtain ⟨t, u, n, h⟩ := h
  exact ⟨t, u, n, S.keeps h hm (fun _ q => by cases q) fun _ _ q => by cases q⟩
theorem hard_tup {us : Array Value} {k : Nat} : ¬ IsSoft (tupOf us k) := hard_seq (.inr (.inl rfl))
theorem hard_list {us : Array Value} {k : Nat} : ¬ IsSoft (listOf us k) := hard_seq (.inl rfl)
/-- one entry more -/
theorem log_grow {h₀ h h4 : Heap} {L lg D' : Addr} {nz : Ledger} {vs us : List Value} {ls es : List Dat} {n k n' : Nat} {v : Value} {B : Addr → Prop} (hB : ∀ a, B a → ∃ o, (a, o) ∈ nz) (fr : List Addr) (_ : News h₀ L h4 ((lg, listOf (vs ++ [Value.ref D']).toArray n') :: without ((D', tupOf us.toArray k) :: nz) lg)) (N : News h₀ L h nz) (So : SoftOK nz) (hlg : (lg, listOf vs.toArray n) ∈ nz) (hvs : VDs (offL nz fun b => b = lg ∨ v = .ref b ∨ B b) vs ls)
    (hes : VDs (offL nz fun b => b = lg ∨ v = .ref b ∨ B b) us es) (hf : ∀ p ∈ nz, p.1 ≠ D') (hv : ∀ a, v = .ref a → ∃ o, (a, o) ∈ nz) :
    Step [lg] fr nz ((lg, listOf (vs ++ [Value.ref D']).toArray n') :: without ((D', tupOf us.toArray k) :: nz) lg) ∧ SoftOK ((lg, listOf (vs ++ [Value.ref D']).toArray n') :: without ((D', tupOf us.toArray k) :: nz) lg) ∧
    LogAt B ((lg, listOf (vs ++ [Value.ref D']).toArray n') :: without ((D', tupOf us.toArray k) :: nz) lg) lg v (ls ++ [.tuple es]) := by
  have hDl : D' ≠ lg := fun q => hf _ hlg q.symm
  have sub : LSub (offL nz fun b => b = lg ∨ v = .ref b ∨ B b) (offL ((lg, listOf (vs ++ [Value.ref D']).toArray n') :: without ((D', tupOf us.toArray k) :: nz) lg) fun b => b = lg ∨ v = .ref b ∨ B b) :=
    fun a o _ q => ⟨.tail _ (without_mem (.tail _ q.1) fun z => q.2 (.inl z)), q.2⟩
  refine ⟨fun p hp hm => ⟨p.2, .tail _ (without_mem (.tail _ hp) fun z => hm (by rw [z]; exact .head _)), ORel.refl _, fun _ _ => rfl⟩, ?_, ?_⟩
  · refine softOK_next N So hlg hard_list (fun p hp => ?_) fun p hp hne => .tail _ (without_mem (.tail _ hp) hne)
    rcases List.mem_cons.mp hp with rfl | hp
    · exact .inr fun x => hard_list x.soft
    · rcases List.mem_cons.mp (mem_without.mp hp).1 with rfl | hp
      · exact .inr fun x => hard_tup x.soft
      · exact .inl hp
  · refine ⟨vs ++ [Value.ref D'], n', .head _, (hvs.mono sub).append (.one (.tuple ⟨.tail _ (without_mem (.head _) hDl), fun q => ?_⟩ (hes.mono sub)))⟩
    rcases q with q | q | q
    · exact hDl q
    · obtain ⟨o, ho⟩ := hv _ q
      exact hf _ ho rfl
    · obtain ⟨o, ho⟩ := hB _ q
      exact hf _ ho rfl
theorem LogAt.step {B : Addr → Prop} {nz nz' : Ledger} {lg : Addr} {v v' : Value} {ls : List Dat} {Mut fr : List Addr} (h : LogAt B nz lg v ls) (S : Step Mut fr nz nz') (hm : lg ∉ Mut) (hM : ∀ a, a ∈ Mut → v = .ref a ∨ B a) (hv : ∀ a, v' = .ref a → (∃ o, (a, o) ∈ nz) → v = .ref a) : LogAt B nz' lg v' ls := by
  obtain ⟨vs, n, h1, h2⟩ := h
  exact ⟨vs, n, S.keeps h1 hm (fun _ q => by cases q) (fun _ _ q => by cases q), h2.mono (offL_step S (fun a ha => .inr (hM a ha)) fun a o ho hb => hb.imp id fun q => q.imp (fun q => hv a q ⟨o, ho⟩) id)⟩
section
variable {w : World} {A : Around} {E : Value → Shared → Prop} {s : Shared} {env : Env} {h₀ : Heap} {L : Addr}
theorem execRaise_L {x : Expr} {pos : Pos} {Q : Flow → Shared → Prop} (X : KIn w h₀) (hh : A.handled = none)
    (h : wpAny (model pg w) A (eval x env) (fun v s₁ => ∃ (e : Addr) (oe : Obj) (m : Str → Option Value) (news : Ledger), v = .ref e ∧ Fr h₀ L s₁.heap m ∧ News h₀ L s₁.heap news ∧ SoftOK news ∧ (e, oe) ∈ news ∧ IsExc oe ∧
      ∀ h' news', Aft h₀ L m news [] h' news' → (e, oe) ∈ news' → E (.ref e) { s₁ with heap := h' }) E s) :
    wpAny (model pg w) A (exec (.Raise (some x) none pos) env) Q E s := by
  rw [arm_exec_Raise]
  exact wpAny_bind (wpAny_standAt (raiseStmt_L X hh (wpAny_bind (wpAny_mono h (fun v s₁ h₁ => wpAny_bind (wpAny_standAt (wpAny_pure h₁))) fun _ _ e => e))))
theorem raisesTo_of {h₀ : Heap} {L : Addr} {outer : List Env} {R : Result → Shared → Prop} {e : Addr} {oe : Obj} {m : Str → Option Value} {news : Ledger} {s₁ : Shared} (F : Fr h₀ L s₁.heap m) (N : News h₀ L s₁.heap news) (So : SoftOK news) (he : (e, oe) ∈ news) (hx : IsExc oe) (Fs : FramesIn news outer)
    (k : ∀ h' news', Led h₀ h' news' → Step [] (outer.filterMap (·.frame)) news news' → SoftOK news' → Noted news' e → R (.error (.ref e)) { s₁ with heap := h' }) : RaisesTo h₀ L outer R (.ref e) s₁ :=
  ⟨e, oe, m, news, rfl, F, N, So, he, hx, Fs, fun h' news' A nt => k h' news' (led_of A.fr A.nw) A.st A.ok nt⟩
theorem execRaise_R {x : Expr} {pos : Pos} {Q : Flow → Shared → Prop} {outer : List Env} {R : Result → Shared → Prop} (X : KIn w h₀) (hh : A.handled = none)
    (h : wpAny (model pg w) A (eval x env) (fun v s₁ => ∃ (e : Addr) (oe : Obj) (m : Str → Option Value) (news : Ledger), v = .ref e ∧ Fr h₀ L s₁.heap m ∧ News h₀ L s₁.heap news ∧ SoftOK news ∧ (e, oe) ∈ news ∧ IsExc oe ∧ FramesIn news outer ∧
      ∀ h' news', Led h₀ h' news' → Step [] (outer.filterMap (·.frame)) news news' → SoftOK news' → Noted news' e → R (.error (.ref e)) { s₁ with heap := h' }) (RaisesTo h₀ L outer R) s) :
    wpAny (model pg w) A (exec (.Raise (some x) none pos) env) Q (RaisesTo h₀ L outer R) s := by
  refine execRaise_L (L := L) X hh (wpAny_mono h (fun v s₁ h₁ => ?_) fun _ _ x => x)
  obtain ⟨e, oe, m, news, rfl, F, N, So, he, hx, Fs, hk⟩ := h₁
  refine ⟨e, oe, m, news, rfl, F, N, So, he, hx, fun h' news' A' k => ?_⟩
  refine raisesTo_of (s₁ := { s₁ with heap := h' }) A'.fr A'.nw A'.ok k hx (Fs.step A'.st fun _ q => nomatch q) fun h'' news'' D St So' nt => hk h'' news'' D ((A'.st.weaken (fun _ q => q) fun _ q => nomatch q).trans St) So' nt
end
theorem frames_cons {nz : Ledger} {outer : List Env} {env : Env} {L : Addr} {oL : Obj} (h : FramesIn nz outer) (hd : ∃ es ep, oL.data = .dict es ep) (hf : env.frame = some L) (hk : env.scope.kind = .function) : FramesIn ((L, oL) :: nz) (env :: outer) := fun e he => by
  rcases List.mem_cons.mp he with rfl | he
  · exact ⟨by rw [hk]; decide, L, oL, hf, .head _, hd⟩
  · exact h.mono (fun _ q => .tail _ q) e he
theorem hB_step {B : Addr → Prop} {nz nz' : Ledger} {Mut fr : List Addr} (hB : ∀ a, B a → ∃ o, (a, o) ∈ nz) (S : Step Mut fr nz nz') (hm : ∀ a ∈ Mut, ∃ o, (a, o) ∈ nz') : ∀ a, B a → ∃ o, (a, o) ∈ nz' := fun a ha => by
  obtain ⟨o, ho⟩ := hB a ha
  by_cases q : a ∈ Mut
  · exact hm a q
  · obtain ⟨o', h, _⟩ := S _ ho q
    exact ⟨o', h⟩
theorem Res.map {B : Addr → Prop} {nz nz' : Ledger} {lg : Addr} {v : Value} {d : Dat} (h : Res B nz lg v d) (hs : ∀ p ∈ nz, IsSeq p.2 → p ∈ nz') : Res B nz' lg v d := by
  cases h with
  | none => exact .none
  | int i t => exact .int i t
  | str x t => exact .str x t
  | list h1 h2 h4 h3 => exact .list (hs _ h1 ⟨_, _, rfl⟩) h2 h4 (h3.mono fun a o q z => ⟨hs _ z.1 q, z.2⟩)
theorem Res.step {B : Addr → Prop} {nz nz' : Ledger} {lg : Addr} {v : Value} {d : Dat} {Mut fr : List Addr} (h : Res B nz lg v d) (S : Step Mut fr nz nz') (hm : ∀ a ∈ Mut, a = lg ∨ B a) : Res B nz' lg v d := by
  cases h with
  | none => exact .none
  | int i t => exact .int i t
  | str x t => exact .str x t
  | list h1 h2 h4 h3 => exact .list (S.keeps h1 (fun q => (hm _ q).elim h2 h4) (fun _ q => by cases q) (fun _ _ q => by cases q)) h2 h4 (h3.mono (offL_step S (fun a ha => .inr (hm a ha)) fun _ _ _ q => q))
theorem seq_without {h₀ h : Heap} {nz : Ledger} {L : Addr} {oL : Obj} (D : Led h₀ h nz) (hL : (L, oL) ∈ nz) (hd : ∃ es ep, oL.data = .dict es ep) : ∀ p ∈ nz, IsSeq p.2 → p ∈ without nz L := fun p hp ⟨vs, n, q⟩ => mem_without.mpr ⟨hp, fun z => by
  obtain ⟨a, o⟩ := p
  have z' : a = L := z
  subst z'
  have := one_obj' D hp hL
  subst this
  obtain ⟨_, _, w⟩ := hd
  exact absurd (q.symm.trans w) (by simp)⟩
theorem allLt_at {d : Addr} : ∀ {l : List (Addr × Obj)}, AllLt d l → ∀ p ∈ l, p.1 < d
  | [], _, _, h => nomatch h
  | _ :: _, ⟨h1, h2⟩, p, hp => (List.mem_cons.mp hp).elim (fun e => e ▸ h1) (allLt_at h2 p)
theorem allLt_cons {h₀ h' : Heap} {L d a : Addr} {o : Obj} {l : List (Addr × Obj)} (_ : News h₀ L h' ((a, o) :: l)) (h : a < d ∧ AllLt d l) : ∀ p ∈ (a, o) :: l, p.1 < d := allLt_at (l := (a, o) :: l) h
theorem mutSeq_one {h₀ h : Heap} {nz : Ledger} {a : Addr} {o : Obj} (D : Led h₀ h nz) (ha : (a, o) ∈ nz) (hs : IsSeq o) : MutSeq [a] nz := fun b hb o' ho' => by
  simp only [List.mem_cons, List.not_mem_nil, or_false] at hb
  subst hb
  exact one_obj' D ha ho' ▸ hs
theorem ErrTab.find {w : World} {nz : Ledger} {er : Addr} {tab : List (Int × Addr)} {me : Int} {e : Addr} (T : ErrTab w nz er tab) (h : (me, e) ∈ tab) : ∃ o, (er, o) ∈ nz ∧ o.IsDictOf (intKind pg w) (tab.map fun p => (p.1, Value.ref p.2)) ∧ valueAt (tab.map fun p => (p.1, Value.ref p.2)) me = some (.ref e) := by
  obtain ⟨o, h1, h2⟩ := T.dict
  obtain ⟨j, hj⟩ := List.mem_iff_getElem?.mp h
  obtain ⟨es, ep, _, _, _, _, hn⟩ := id h2
  exact ⟨o, h1, h2, valueAt_of_get hn (i := j) (by rw [List.getElem?_map, hj]; rfl)⟩
theorem FramesIn.mut {nz nz' : Ledger} {Mut fr : List Addr} {outer : List Env} (h : FramesIn nz outer) (s : Step Mut fr nz nz') (M : MutSeq Mut nz) : FramesIn nz' outer := h.step s fun a ha o ho es ep q => by
  obtain ⟨_, _, z⟩ := M a ha o ho
  rw [z] at q; cases q
end Mine
namespace Mine
open PySem PySem.W PySem.Calls PyProof.Rows
/-- an exception just made -/
def NewX (o : Obj) (c : Value) : Prop := o.cls = c ∧ ∃ t : Value, o.data = .fields #[t, .none, .none, .none, .bool false, .none]
theorem NewX.exc {o : Obj} {c : Value} (n : NewX o c) (h : ExcCls c) : IsExc o := ⟨n.1 ▸ h, let ⟨_, q⟩ := n.2; ⟨_, q⟩⟩
theorem NewX.ctx {o : Obj} {c : Value} (n : NewX o c) : CtxNone o := let ⟨_, q⟩ := n.2; ⟨_, q, rfl⟩
theorem new_fr {h₀ h h' : Heap} {L e : Addr} {m : Str → Option Value} {nz : Ledger} {o : Obj} (F : Fr h₀ L h m) (N : News h₀ L h nz) (k : ∀ b o, h.get? b = some o → h'.get? b = some o) (hn : h.get? e = none) (he : h'.get? e = some o) :
    Fr h₀ L h' m ∧ News h₀ L h' ((e, o) :: nz) ∧ ∀ p ∈ nz, p.1 ≠ e := by
  obtain ⟨F', N'⟩ := stay_fr F N k
  refine ⟨F', know F' N' he (fun q => ?_) ?_, fun p hp q => ?_⟩
  · obtain ⟨oL, _, _, hL, _⟩ := F.ns
    rw [← q, hn] at hL; cases hL
  · cases q : h₀.get? e with
    | none => rfl
    | some x => rw [F.keep _ _ q] at hn; cases hn
  · have := (N p hp).1
    rw [q, hn] at this; cases this
theorem softOK_new {nz : Ledger} {e : Addr} {o : Obj} {c : Value} (So : SoftOK nz) (n : NewX o c) : SoftOK ((e, o) :: nz) := fun q hq hx => by
  rcases List.mem_cons.mp hq with rfl | hq
  · obtain ⟨_, q⟩ := n.2
    exact ⟨_, q, Nat.le_refl _, .inl rfl⟩
  · obtain ⟨vs, h1, h2, h3⟩ := So q hq hx
    refine ⟨vs, h1, h2, h3.imp id ?_⟩
    rintro ⟨T, oT, ts, a, b, c, d, e⟩
    exact ⟨T, oT, ts, a, .tail _ b, c, d, e⟩
def hookO (dx : Addr) (sl : Array (Option Value)) : Obj := { cls := .ref 58, dict := some dx, data := .plain, slots := sl }
theorem hard_hook {dx : Addr} {sl : Array (Option Value)} : ¬ IsSoft (hookO dx sl) := by
  rintro (q | q | q | q | q) <;> (revert q; show Value.ref 58 = _ → False; decide)
/-- a HookImpl of the ledger -/
def ImplAt (nz : Ledger) (x f at_ : Addr) (b : Bool) : Prop := ∃ dx od sl kt n, (x, hookO dx sl) ∈ nz ∧ (dx, od) ∈ nz ∧ (∃ es ep, od.data = .dict es ep) ∧ (kt, tupOf #[] n) ∈ nz ∧
  (sl[0]?).join = some (.ref at_) ∧ (sl[1]?).join = some (.ref f) ∧ (sl[3]?).join = some (.ref kt) ∧ (sl[10]?).join = some (.bool b)
theorem ImplAt.step {nz nz' : Ledger} {x f at_ : Addr} {b : Bool} {Mut fr : List Addr} (h : ImplAt nz x f at_ b) (S : Step Mut fr nz nz') (M : MutSeq Mut nz) (hm : ∀ a ∈ Mut, ∀ o, (a, o) ∈ nz → o.cls = .type "list") : ImplAt nz' x f at_ b := by
  obtain ⟨dx, od, sl, kt, n, h1, h2, ⟨es, ep, h3⟩, h4, r⟩ := h
  obtain ⟨sl', h2'⟩ := S.dict h2 (fun q => by obtain ⟨_, _, z⟩ := M _ q _ h2; rw [h3] at z; cases z) ⟨es, ep, h3⟩
  refine ⟨dx, _, sl, kt, n, S.keeps h1 (fun q => ?_) (fun _ q => by cases q) (fun _ _ q => by cases q), h2', ⟨es, ep, h3⟩, S.keeps h4 (fun q => ?_) (fun _ q => by cases q) (fun _ _ q => by cases q), r⟩
  · obtain ⟨_, _, z⟩ := M _ q _ h1; cases z
  · have := hm _ q _ h4; revert this; show Value.type "tuple" = _ → False; decide
theorem ImplAt.mono {nz nz' : Ledger} {x f at_ : Addr} {b : Bool} (h : ImplAt nz x f at_ b) (s : ∀ p ∈ nz, p ∈ nz') : ImplAt nz' x f at_ b := by
  obtain ⟨dx, od, sl, kt, n, h1, h2, h3, h4, r⟩ := h
  exact ⟨dx, od, sl, kt, n, s _ h1, s _ h2, h3, s _ h4, r⟩
theorem ImplAt.has {nz : Ledger} {x f at_ : Addr} {b : Bool} (h : ImplAt nz x f at_ b) : ∃ o, (x, o) ∈ nz := by
  obtain ⟨dx, od, sl, kt, n, h1, _⟩ := h
  exact ⟨_, h1⟩
/-- a tuple of words -/
def ArgsAt (nz : Ledger) (a : Addr) (ws : List Str) : Prop := ∃ (ts : List (Str × Tok)) (n : Nat), (a, tupOf (ts.map fun p => Value.str p.1 p.2).toArray n) ∈ nz ∧ ts.map (·.1) = ws
theorem ArgsAt.mono {nz nz' : Ledger} {a : Addr} {ws : List Str} (h : ArgsAt nz a ws) (s : ∀ p ∈ nz, p ∈ nz') : ArgsAt nz' a ws := by
  obtain ⟨ts, n, h1, h2⟩ := h
  exact ⟨ts, n, s _ h1, h2⟩
theorem ArgsAt.step {nz nz' : Ledger} {a : Addr} {ws : List Str} {Mut fr : List Addr} (h : ArgsAt nz a ws) (S : Step Mut fr nz nz') (hm : ∀ a ∈ Mut, ∀ o, (a, o) ∈ nz → o.cls = .type "list") : ArgsAt nz' a ws := by
  obtain ⟨ts, n, h1, h2⟩ := h
  refine ⟨ts, n, S.keeps h1 (fun q => ?_) (fun _ q => by cases q) (fun _ _ q => by cases q), h2⟩
  have := hm _ q _ h1
  revert this; show Value.type "tuple" = _ → False; decide
theorem led_ext {h₀ h h' : Heap} {L : Addr} {m : Str → Option Value} {nz news : Ledger} (D : Led h₀ h nz) (F : Fr h L h' m) (N : News h L h' news) : Led h₀ h' (news ++ nz) := by
  refine ⟨fun a o q => F.keep _ _ (D.keep _ _ q), Nat.le_trans D.size (Nat.le_trans F.above (Nat.le_of_lt F.ns.lt)), fun p hp => ?_⟩
  rcases List.mem_append.mp hp with hp | hp
  · refine ⟨(N p hp).1, ?_⟩
    cases q : h₀.get? p.1 with
    | none => rfl
    | some o => have := (N p hp).2.2; rw [D.keep _ _ q] at this; cases this
  · exact ⟨F.keep _ _ (D.at_ p hp).1, (D.at_ p hp).2⟩
theorem Led.sub {h₀ h : Heap} {nz nz' : Ledger} (D : Led h₀ h nz) (s : ∀ p ∈ nz', p ∈ nz) : Led h₀ h nz' := ⟨D.keep, D.size, fun p hp => D.at_ p (s p hp)⟩
theorem softOK_drop {h₀ h : Heap} {nz nz' : Ledger} {L : Addr} {oL : Obj} (D : Led h₀ h nz) (So : SoftOK nz) (hL : (L, oL) ∈ nz) (hd : ∃ es ep, oL.data = .dict es ep) (s : ∀ p ∈ nz', p ∈ nz) (k : ∀ p ∈ nz, p.1 ≠ L → p ∈ nz') : SoftOK nz' := fun q hq hx => by
  obtain ⟨us, z1, z2, z3⟩ := So q (s q hq) hx
  refine ⟨us, z1, z2, z3.imp id ?_⟩
  rintro ⟨T', oT, ts, x1, b, c, e1, e2⟩
  refine ⟨T', oT, ts, x1, k _ b fun z => ?_, c, e1, e2⟩
  have z' : T' = L := z
  subst z'
  have := one_obj' D b hL
  subst this
  obtain ⟨_, _, z⟩ := hd
  exact absurd (e1.symm.trans z) (by simp)
/-- a frame let go in the midst -/
theorem pure_end {h₀ h : Heap} {new extra nz : Ledger} {L : Addr} {oL : Obj} (D : Led h₀ h (new ++ (L, oL) :: (extra ++ nz))) (So : SoftOK (new ++ (L, oL) :: (extra ++ nz))) (hd : ∃ es ep, oL.data = .dict es ep) :
    Led h₀ h ((new ++ extra) ++ nz) ∧ SoftOK ((new ++ extra) ++ nz) := by
  have s : ∀ p ∈ (new ++ extra) ++ nz, p ∈ new ++ (L, oL) :: (extra ++ nz) := fun p hp => by
    simp only [List.mem_append, List.mem_cons] at hp ⊢
    rcases hp with (h | h) | h
    · exact .inl h
    · exact .inr (.inr (.inl h))
    · exact .inr (.inr (.inr h))
  refine ⟨D.sub s, softOK_drop D So (List.mem_append.mpr (.inr (.head _))) hd s fun p hp hne => ?_⟩
  simp only [List.mem_append, List.mem_cons] at hp ⊢
  rcases hp with h | rfl | h | h
  · exact .inl (.inl h)
  · exact absurd rfl hne
  · exact .inl (.inr h)
  · exact .inr h
theorem led_self (h : Heap) : Led h h [] := ⟨fun _ _ e => e, Nat.le_refl _, fun _ hp => nomatch hp⟩
theorem below_of {A : Around} {nz : Ledger} {outer : List Env} {h₀ h : Heap} (hA : A.frames = some outer) (Fs : FramesIn nz outer) (D : Led h₀ h nz) : Below A noHeap outer h :=
  ⟨hA, fun a o q => (by rw [noHeap_get] at q; cases q), funFrames_of (fun p hp => (D.at_ p hp).1) Fs⟩
end Mine
namespace Mine
open PySem PySem.W PySem.Calls PyProof.Rows
section
variable {w : World} {A : Around} {E : Value → Shared → Prop} {s : Shared} {env : Env} {h₀ : Heap} {L : Addr} {m : Str → Option Value} {nz : Ledger}
theorem matches_L {e : Addr} {oe : Obj} {T : String} {Q : Bool → Shared → Prop} (he : s.heap.get? e = some oe) (hexc : isSubtype (.type T) (.type "BaseException") = pure true) (hnt : isSubtype (.type ((Manifest.find? T).elim "type" fun x => x.metatype)) (.type "tuple") = pure false)
    (sub : Looks (model pg w) s.heap (isSubtype oe.cls (.type T)) true) (h : Q true s) : wpAny (model pg w) A (excMatches (.ref e) (.type T)) Q E s := by
  obtain ⟨hp, g, d, tk, os⟩ := s
  unfold excMatches
  repeat (first | (with_reducible refine wpAny_loadPart_at he ?_) | (with_reducible refine wpAny_bind (sub.here ?_)) | wp_step)
  exact h
/-- a clause that holds, with a name, whose suite raises nothing -/
theorem handle_as_L {e : Addr} {oe : Obj} {T : String} {t : Expr} {n : Str} {b₀ : Stmt} {suite : List Stmt} {pos : Pos} {rest : List ExceptHandler} {Q : Flow → Shared → Prop}
    (hexc : isSubtype (.type T) (.type "BaseException") = pure true) (hnt : isSubtype (.type ((Manifest.find? T).elim "type" fun x => x.metatype)) (.type "tuple") = pure false)
    (sub : Looks (model pg w) s.heap (isSubtype oe.cls (.type T)) true)
    (F : Fr h₀ L s.heap m) (N : News h₀ L s.heap nz) (So : SoftOK nz) (he : (e, oe) ∈ nz) (hx : IsExc oe) (hL : env.locals = L) (hn : env.kindOf n = some .local) (hk : env.scope.kind = .function)
    (hev : ∀ {Q : Value → Shared → Prop} {E : Value → Shared → Prop}, Q (.type T) s → wpAny (model pg w) (A.mark (some (.ref e))) (eval t env) Q E s)
    (h : ∀ h' nz' E', Fr h₀ L h' (fun y => if y = n then some (.ref e) else m y) → News h₀ L h' nz' → Step [] [] nz nz' → SoftOK nz' → (e, oe) ∈ nz' →
      wpAny (model pg w) (A.mark (some (.ref e))) (execs (b₀ :: suite) env) (fun f s₄ => ∃ m₄ nz₄ , Fr h₀ L s₄.heap m₄ ∧ News h₀ L s₄.heap nz₄ ∧
        ∀ h₅ v, Fr h₀ L h₅ (fun y => if y = n then v else m₄ y) → News h₀ L h₅ nz₄ → Q f { s₄ with heap := h₅, toks := s₄.toks + 1 }) E' { s with heap := h', toks := s.toks + 1 }) :
    wpAny (model pg w) A (handleBy (.ref e) env (.ExceptHandler (some t) (some n) (b₀ :: suite) pos :: rest)) Q E s := by
  refine wpAny_handleBy_cons (codeAny_handlers_test (hev (matches_L (N _ he).1 hexc hnt sub ?_))) (by intro q; cases q)
  show codeAny _ _ _ _ _
  refine codeAny_handlers_suite_as ?_
  refine flight_L F N So he hx fun h' nz' A' ke => ?_
  refine wpAny_storeName_local (m := m) hn (by rw [hL]; exact A'.fr.ns) (fun h₂ hn₂ hs₂ => ?_) (by rw [hk]; rfl)
  rw [hL] at hn₂ hs₂
  refine wpAny_mono (h h₂ nz' _ (A'.fr.set hn₂ hs₂) (A'.nw.set hs₂) A'.st A'.ok ke) (fun f s₄ h₄ => ?_) fun _ _ x => x
  obtain ⟨m₄, nz₄, F₄, N₄, hQ⟩ := h₄
  refine wpAny_nameGoes_keeps (m := m₄) hn (by rw [hL]; exact F₄.ns) (by rw [hk]; rfl) fun h₅ v hn₅ hs₅ => ?_
  rw [hL] at hn₅ hs₅
  exact hQ h₅ v (F₄.set hn₅ hs₅) (N₄.set hs₅)
end
end Mine
namespace Mine
open PySem PySem.W PySem.Calls PyProof.Rows
theorem kfill1 : (PySem.Challenge.rw_fe0222_01, hd.heap_39) = (PySem.Challenge.rw_fe0222_01, hd.heap_39) := by
  k_fill
  rfl
theorem value_con {w : World} {A : Around} {s : Shared} {h₀ : Heap} {nz : Ledger} {outer : List Env} {mean : ExcName → Option Value} {mg mb : Str → Option Value} {R : Result → Shared → Prop} {B : Addr → Prop} (hB : ∀ a, B a → ∃ o, (a, o) ∈ nz) {me : Int} {tk : Tok} {lg : Addr}
    (D : Led h₀ s.heap nz) (So : SoftOK nz) (X : KIn w h₀) (T : TopH mean mg mb h₀) (S : Stand A nz outer 1 3) (hlg : ∃ o, (lg, o) ∈ nz)
    (hR : ∀ v h' tk' nz', Led h₀ h' nz' → (∀ p ∈ nz, p ∈ nz') → SoftOK nz' → Res B nz' lg v (valueD me) → FreshV nz v → v ≠ .none → R (.ok (.ret v)) { s with heap := h', toks := tk' }) :
    codeAny (model pg w) A (.call (.ref 79) ⟨[.int me tk], []⟩) R s := by
  refine enter_L (d := 0) (u := 0) (binds := [(Str.ofString "me", .int me tk)]) D X T.nolimit S (by k_is) (by k_is) (BindsTo.of_eq rfl) (locs rfl) ?_ rfl rfl rfl (by decide)
  intro L h₁ tk₁ F N lt hfr hdp hun
  try dsimp only
  k_steps
  · refine hR _ _ _ _ (led_of F N) (fun p hp => hp) So ?_ (by intro a q; cases q) (by simp)
    unfold valueD; rw [if_pos (by assumption)]; exact .int _ _
  · refine hR _ _ _ _ (led_of (by assumption) (by assumption)) (fun p hp => .tail _ hp) (So.hard hard_list) ?_ (by intro a q p hp; cases q; exact fresh_at N p hp) (by simp)
    unfold valueD; rw [if_neg (by assumption), if_pos (by assumption)]
    obtain ⟨o, ho⟩ := hlg
    exact .list (vs := []) (.head _) (fun z => fresh_at N _ ho z.symm) (fun z => by obtain ⟨o, ho⟩ := hB _ z; exact fresh_at N _ ho rfl) .nil
  · refine hR _ _ _ _ (led_of F N) (fun p hp => hp) So ?_ (by intro a q; cases q) (by simp)
    unfold valueD; rw [if_neg (by assumption), if_neg (by assumption), if_pos (by assumption)]; exact .str _ _
  · refine hR _ _ _ _ (led_of (by assumption) (by assumption)) (fun p hp => .tail _ hp) (So.hard hard_list) ?_ (by intro a q p hp; cases q; exact fresh_at N p hp) (by simp)
    unfold valueD; rw [if_neg (by assumption), if_neg (by assumption), if_neg (by assumption)]
    obtain ⟨o, ho⟩ := hlg
    exact .list (vs := [_]) (.head _) (fun z => fresh_at N _ ho z.symm) (fun z => by obtain ⟨o, ho⟩ := hB _ z; exact fresh_at N _ ho rfl) (.one (.int _ _))
end Mine
namespace Mine
open PySem PySem.W PySem.Calls PyProof.Rows
local macro_rules | `(tactic| walk_at "eval ListComp") => `(tactic| refine Stop.of ?_)
theorem kfill2 : (PySem.Challenge.rw_fe0222_01, hd.heap_39) = (PySem.Challenge.rw_fe0222_01, hd.heap_39) := by
  k_fill
  rfl
/-- lists of plain values, so deep -/
def ldOk : Nat → Dat → Bool
  | _, .none => true
  | _, .int _ => true
  | _, .str _ => true
  | n + 1, .list ds => ds.all (ldOk n) && decide (ds.length ≤ sizeLine)
  | _, _ => false
def newOff (nz nz' : Ledger) : LSet := offL nz' fun b => ∃ o, (b, o) ∈ nz
def FlatV : Value → Prop
  | .none => True
  | .int _ _ => True
  | .str _ _ => True
  | _ => False
theorem Stand.less {A : Around} {nz : Ledger} {outer : List Env} {d u d' u' : Nat} (S : Stand A nz outer d u) (hd : d' ≤ d) (hu : u' ≤ u) : Stand A nz outer d' u' := ⟨S.fr, S.fs, by have := S.dep; omega, by have := S.un; omega⟩
theorem seen_flat {w : World} {h₀ : Heap} {mean : ExcName → Option Value} {mg mb : Str → Option Value} (X : (hd.heap_39 w.params).In h₀) (T : TopH mean mg mb h₀) {A : Around} {s : Shared} {nz : Ledger} {outer : List Env} {R : Result → Shared → Prop} {v : Value}
    (D : Led h₀ s.heap nz) (S : Stand A nz outer 1 3) (hv : FlatV v)
    (hR : ∀ h' tk', Led h₀ h' nz → R (.ok (.ret v)) { s with heap := h', toks := tk' }) : codeAny (model pg w) A (.call (.ref 84) ⟨[v], []⟩) R s := by
  cases v with
  | none =>
    refine enter_L (d := 0) (u := 0) (binds := [(Str.ofString "what", .none)]) D X T.nolimit S (by k_is) (by k_is) (BindsTo.of_eq rfl) (locs rfl) ?_ rfl rfl rfl (by decide)
    intro L h₁ tk₁ F N lt hfr hdp hun
    k_steps
    exact hR _ _ (led_of F N)
  | int i t =>
    refine enter_L (d := 0) (u := 0) (binds := [(Str.ofString "what", .int i t)]) D X T.nolimit S (by k_is) (by k_is) (BindsTo.of_eq rfl) (locs rfl) ?_ rfl rfl rfl (by decide)
    intro L h₁ tk₁ F N lt hfr hdp hun
    k_steps
    exact hR _ _ (led_of F N)
  | str x t =>
    refine enter_L (d := 0) (u := 0) (binds := [(Str.ofString "what", .str x t)]) D X T.nolimit S (by k_is) (by k_is) (BindsTo.of_eq rfl) (locs rfl) ?_ rfl rfl rfl (by decide)
    intro L h₁ tk₁ F N lt hfr hdp hun
    k_steps
    exact hR _ _ (led_of F N)
  | _ => exact hv.elim
theorem seen_con {w : World} {h₀ : Heap} {mean : ExcName → Option Value} {mg mb : Str → Option Value} (X : (hd.heap_39 w.params).In h₀) (T : TopH mean mg mb h₀) : ∀ (n : Nat) {A : Around} {s : Shared} {nz : Ledger} {outer : List Env} {R : Result → Shared → Prop} {v : Value} {d : Dat}
    (_ : Led h₀ s.heap nz) (_ : SoftOK nz) (_ : Stand A nz outer (n + 1) (3 * n + 9)) (_ : A.handled = none) (_ : VD (inL nz) v d) (_ : ldOk n d = true)
    (_ : ∀ v' h' tk' nz', Led h₀ h' nz' → Step [] [] nz nz' → SoftOK nz' → VD (newOff nz nz') v' d → R (.ok (.ret v')) { s with heap := h', toks := tk' }),
    codeAny (model pg w) A (.call (.ref 84) ⟨[v], []⟩) R s := by
  intro n
  induction n with
  | zero =>
    intro A s nz outer R v d D So S hh V hok hR
    cases V with
    | none => exact seen_flat X T D (S.less (by omega) (by omega)) trivial fun h' tk' D' => hR _ h' tk' nz D' (Step.refl _ _ _) So .none
    | int i t => exact seen_flat X T D (S.less (by omega) (by omega)) trivial fun h' tk' D' => hR _ h' tk' nz D' (Step.refl _ _ _) So (.int _ _)
    | str x t => exact seen_flat X T D (S.less (by omega) (by omega)) trivial fun h' tk' D' => hR _ h' tk' nz D' (Step.refl _ _ _) So (.str _ _)
    | _ => simp [ldOk] at hok
  | succ n ih =>
    intro A s nz outer R v d D So S hh V hok hR
    cases V with
    | none => exact seen_flat X T D (S.less (by omega) (by omega)) trivial fun h' tk' D' => hR _ h' tk' nz D' (Step.refl _ _ _) So .none
    | int i t => exact seen_flat X T D (S.less (by omega) (by omega)) trivial fun h' tk' D' => hR _ h' tk' nz D' (Step.refl _ _ _) So (.int _ _)
    | str x t => exact seen_flat X T D (S.less (by omega) (by omega)) trivial fun h' tk' D' => hR _ h' tk' nz D' (Step.refl _ _ _) So (.str _ _)
    | tuple _ _ => simp [ldOk] at hok
    | @list a vs k ds ha hvs =>
      refine enter_L (d := n + 1) (u := 3 * n + 9) (binds := [(Str.ofString "what", .ref a)]) D X T.nolimit S (by k_is) (by k_is) (BindsTo.of_eq rfl) (locs rfl) ?_ rfl rfl rfl (by decide)
      intro L h₁ tk₁ F N lt hfr hdp hun
      have ha' : (a, listOf vs.toArray k) ∈ nz := ha
      k_steps
      refine Stop.go ?_
      refine listComp_L (h₀ := h₀) (A := A.deeper _) hh (fun C I D k rs nw => ∃ oL, (∃ es ep, oL.data = .dict es ep) ∧ (∀ p ∈ (L, oL) :: nz, p.1 ≠ I ∧ p.1 ≠ D ∧ p.1 ≠ C) ∧ Step [] [] ((L, oL) :: nz) nw ∧
        VDs (offL nw fun b => (∃ o, (b, o) ∈ nz) ∨ b = I ∨ b = D ∨ b = L) rs (ds.take k)) ?_ (by decide) (by decide) rfl (by decide) rfl (fun _ => rfl) ?_
      · rintro C I D k rs nw nw' St ⟨oL, h1, h2, h3, h4⟩
        refine ⟨oL, h1, h2, (h3.weaken (fun _ q => nomatch q) fun _ q => q).trans St |>.drop fun b hb _ p hp => ?_, h4.mono (offL_step St (fun b hb => ?_) fun _ _ _ q => q)⟩
        · simp only [List.mem_cons, List.not_mem_nil, or_false] at hb
          rcases hb with rfl | rfl
          · exact (h2 p hp).1
          · exact (h2 p hp).2.1
        · simp only [List.mem_cons, List.not_mem_nil, or_false] at hb
          rcases hb with rfl | rfl
          · exact .inr (.inl rfl)
          · exact .inr (.inr (.inl rfl))
      walk1
      simp only [ldOk, Bool.and_eq_true, decide_eq_true_eq] at hok
      refine ⟨a, listOf vs.toArray k, vs, k, _, nz, rfl, F, N, ha', rfl, rfl, by rw [hvs.length]; exact hok.2, So, ?_, ?_, ?_⟩
      · intro C I D oL oI hdL hit hne
        exact ⟨oL, hdL, hne, Step.sub fun p hp => .tail _ (.tail _ hp), .nil⟩
      · rintro C I D k' v h' tk m' nw rs Q E' hv F' hm' N' So' ⟨oI, hI⟩ ⟨oD, hD⟩ ⟨oL, h1, h2, h3, h4⟩ hQ
        refine wpAny_Call_NameR ?_
        refine Name_function_global rfl rfl (loadGlobal_global (T.g.keeps F'.keep) (mg_of X T.g (by k_is)) ?_) (by decide)
        clear F
        walk1
        walk1
        refine wpAny_Name (wpAny_loadName_local rfl rfl F'.ns hm' ?_)
        walk1
        refine ⟨X.keeps F'.keep, ?_⟩
        try dsimp only [List.nil_append, List.cons_append]
        obtain ⟨oC, hdC, hoC, DC⟩ := led_all F' N'
        obtain ⟨d', hd', hvd⟩ := hvs.at hv
        obtain ⟨sl, hL⟩ := h3.dict (.head _) (by simp) h1
        have sub : ∀ b, (∃ o, (b, o) ∈ nz) → ∃ o, (b, o) ∈ nw := fun b ⟨o, ho⟩ => by
          obtain ⟨o', q, _⟩ := h3 (b, o) (.tail _ ho) (by simp)
          exact ⟨o', q⟩
        have keepSeq : LSub (inL nz) (inL ((C, oC) :: nw)) := fun b o hq hb => by
          obtain ⟨us, j, e⟩ := hq
          exact .tail _ (h3.keeps (.tail _ hb) (by simp) (fun _ q => by rw [e] at q; cases q) (fun _ _ q => by rw [e] at q; cases q))
        have hokd : ldOk n d' = true := List.all_eq_true.mp hok.1 d' (List.mem_of_getElem? hd')
        refine wpAny_call (ih DC (So'.frame hdC) ⟨hfr, ?_, ?_, ?_⟩ hh (hvd.mono keepSeq) hokd fun v' h'' tk'' nz' D' St' So'' V' => ?_)
        · intro env he
          rcases List.mem_cons.mp he with rfl | he
          · exact ⟨by show ScopeKind.function ≠ ScopeKind.module; decide, L, _, rfl, .tail _ hL, h1⟩
          · obtain ⟨q1, q2, q3, q4, q5, q6⟩ := S.fs env he
            obtain ⟨sl', hL'⟩ := h3.dict (.tail _ q5) (by simp) q6
            exact ⟨q1, q2, _, q4, .tail _ hL', q6⟩
        · have := hdp; omega
        · have := hun; omega
        have BK := call_back (fr := []) F' N' hoC hdC D' (St'.weaken (fun _ q => q) fun _ q => nomatch q) So'' (by simp)
        have St2 := BK.st
        refine hQ v' h'' tk'' _ _ BK.fr BK.nw BK.st BK.so ⟨oL, h1, h2, h3.trans St2, ?_⟩
        have htk : List.take (k' + 1) ds = List.take k' ds ++ [d'] := by rw [List.take_add_one, hd']; rfl
        rw [htk]
        refine VDs.append (h4.mono (offL_step St2 (fun _ q => nomatch q) fun _ _ _ q => q)) (.one (V'.mono fun b o hq hb => ⟨List.mem_filter.mpr ⟨hb.1, decide_eq_true fun z => ?_⟩, ?_⟩))
        · exact hb.2 ⟨oC, by rw [show b = C from z]; exact .head _⟩
        · rintro (q | rfl | rfl | rfl)
          · obtain ⟨o', q'⟩ := sub b q
            exact hb.2 ⟨o', .tail _ q'⟩
          · exact hb.2 ⟨oI, .tail _ hI⟩
          · exact hb.2 ⟨oD, .tail _ hD⟩
          · exact hb.2 ⟨_, .tail _ hL⟩
      · rintro C I D h' tk nw rs n' F' N' St' So' hne hDL hD ⟨oL, h1, h2, h3, h4⟩
        refine hR _ h' tk (without nw L) (led_of F' N') St' So' ?_
        rw [show ds.take vs.length = ds by rw [hvs.length, List.take_length]] at h4
        refine .list (n := n') ⟨without_mem hD hDL, fun ⟨o, ho⟩ => hne _ ho rfl⟩ (h4.mono fun b o _ hb => ⟨without_mem hb.1 fun z => hb.2 (.inr (.inr (.inr z))), fun q => hb.2 (.inl q)⟩)
end Mine
namespace Mine
open PySem PySem.W PySem.Calls PyProof.Rows
local macro_rules | `(tactic| walk_at "exec For") => `(tactic| refine Stop.of ?_)
local macro_rules | `(tactic| walk_at "call builtin:isinstance") => `(tactic| refine Stop.of ?_)
theorem kfill3 : (PySem.Challenge.rw_fe0222_01, hd.heap_39) = (PySem.Challenge.rw_fe0222_01, hd.heap_39) := by
  k_fill
  rfl
theorem isi_hook {w : World} {A : Around} {E : Value → Shared → Prop} {s : Shared} {Q : Value → Shared → Prop} {e : Addr} {oe : Obj} (X : (hd.heap_39 w.params).In s.heap) (h1 : s.heap.get? e = some oe) (hc : ExcCls oe.cls)
    (ht : oe.cls = .ref 24 → Q (.bool true) s) (hf : oe.cls ≠ .ref 24 → ∀ tk, Q (.bool false) { s with toks := tk }) : wpAny (model pg w) A (call (.builtin "isinstance") [.ref e, .ref 24]) Q E s := by
  rcases hc with hc | hc | hc | hc
  · exact kia_one (K := hd.heap_39 w.params) (kitx_exc excT_KeyError) X ⟨oe, h1, hc⟩ (by kernel_rfl) (by intro q; cases q) (hf (by rw [hc]; intro q; cases q))
  · exact kia_one (K := hd.heap_39 w.params) (kitx_exc excT_ValueError) X ⟨oe, h1, hc⟩ (by kernel_rfl) (by intro q; cases q) (hf (by rw [hc]; intro q; cases q))
  · exact kia_one (K := hd.heap_39 w.params) (kitx_exc excT_RuntimeError) X ⟨oe, h1, hc⟩ (by kernel_rfl) (by intro q; cases q) (hf (by rw [hc]; intro q; cases q))
  · exact isi_call (K := hd.heap_39 w.params) (t := .ref 24) X (fun M => hc ▸ looks_obj h1) (by kernel_rfl) (by intro q; cases q) (ht hc)
theorem isi_rt {w : World} {A : Around} {E : Value → Shared → Prop} {s : Shared} {Q : Value → Shared → Prop} {e : Addr} {oe : Obj} (X : (hd.heap_39 w.params).In s.heap) (h1 : s.heap.get? e = some oe) (hc : oe.cls = .type "RuntimeError")
    (ht : ∀ tk, Q (.bool true) { s with toks := tk }) : wpAny (model pg w) A (call (.builtin "isinstance") [.ref e, .type "RuntimeError"]) Q E s :=
  kia_one (K := hd.heap_39 w.params) (kitx_exc excT_RuntimeError) X ⟨oe, h1, hc⟩ (by kernel_rfl) (by intro q; cases q) ht
theorem which_con {w : World} {h₀ : Heap} {mean : ExcName → Option Value} {mg mb : Str → Option Value} (X : (hd.heap_39 w.params).In h₀) (T : TopH mean mg mb h₀) {A : Around} {s : Shared} {nz : Ledger} {outer : List Env} {R : Result → Shared → Prop} {e er : Addr} {c : Int} {tab : List (Int × Addr)}
    (D : Led h₀ s.heap nz) (S : Stand A nz outer 2 70) (H0 : (∀ oe, (e, oe) ∈ nz → oe.cls ≠ .ref 24) → HandN A nz) (ET : ErrTab w nz er tab) (C : ECode nz tab e c)
    (hR : ∀ h' tk' tc, Led h₀ h' nz → R (.ok (.ret (.int c tc))) { s with heap := h', toks := tk' }) : codeAny (model pg w) A (.call (.ref 91) ⟨[.ref e, .ref er], []⟩) R s := by
  refine enter_L (d := 1) (u := 67) (binds := [(Str.ofString "err", .ref e), (Str.ofString "errs", .ref er)]) D X T.nolimit S (by k_is) (by k_is) (BindsTo.of_eq rfl) (locs rfl) ?_ rfl rfl rfl (by decide)
  intro L h₁ tk₁ F N lt hfr hdp hun
  k_steps
  refine Stop.go ?_
  obtain ⟨oe, he, hx⟩ := C.at ET
  refine isi_hook (X.keeps F.keep) (N _ he).1 hx.1 (fun hc => ?_) fun hc tk => ?_
  · k_steps
    have : c = -1 := by
      cases C with
      | own h =>
        obtain ⟨oe', h1, h2, h3, h4⟩ := ET.exc _ h
        have := one_obj D he h1
        subst this
        rw [hc] at h4
        rcases h4 with q | q <;> cases q
      | hook _ _ _ => rfl
      | wrap h1 h2 h3 h4 =>
        have := one_obj D he h1
        subst this
        rw [hc] at h4
        cases h4
    subst this
    exact hR _ _ _ (led_of F N)
  · have H : HandN A nz := H0 fun oe' h' q => hc (one_obj D he h' ▸ q)
    k_steps
    refine Stop.go ?_
    refine wpAny_For ?_
    walk1
    obtain ⟨od, ho, es, ep, hex, hdat, hk, hp, hn⟩ := ET.dict
    have hAt : h₁.DictAt (intKind pg w) er (tab.map fun p => (p.1, Value.ref p.2)) ep := ⟨od, es, (N _ ho).1, hex, hdat, hk, hp, hn⟩
    refine wpAny_pyIter_dict (knd := intKind pg w) ET.low hAt ?_
    have F2 := F.push { cls := .type "dict_keyiterator", data := .fields #[.ref er, .int 0 0, .int (tab.map fun p => (p.1, Value.ref p.2)).length 0, .int ep 0] }
    have N2 := News.push F N { cls := .type "dict_keyiterator", data := .fields #[.ref er, .int 0 0, .int (tab.map fun p => (p.1, Value.ref p.2)).length 0, .int ep 0] }
    have hnI : A.handled ≠ some (.ref h₁.objs.size) := H.ne (fresh_at N)
    have hfI := fresh_at N
    clear F N
    refine forLoop_T (fun n s' => ∃ k h' tk oI vl, n = tab.length - k ∧ k ≤ tab.length ∧ s' = { s with heap := h', toks := tk } ∧
      Fr h₀ L h' (fun y => if y = Str.ofString "me" then vl else List.lookup y [(Str.ofString "err", Value.ref e), (Str.ofString "errs", Value.ref er)].reverse) ∧ News h₀ L h' ((h₁.objs.size, oI) :: nz) ∧ KeyIt oI er k tab.length ep ∧
      (∀ j p, j < k → tab[j]? = some p → p.2 ≠ e)) ?_ tab.length ⟨0, _, _, _, none, rfl, Nat.zero_le _, rfl, fr_fun F2 ?_, N2, ⟨rfl, by simp⟩, fun j p hj => absurd hj (Nat.not_lt_zero _)⟩
    · rintro n s' ⟨k, h', tk', oI, vl, rfl, hk', rfl, F, N, KI, hno⟩
      cases hv : tab[k]? with
      | none =>
        refine dict_end_any (knd := intKind pg w) (H.ok (fun q hq => N q (.tail _ hq))) hnI (keyIt_of (N _ (.head _)).1 ((List.length_map ..).symm ▸ KI)) ⟨od, es, (N _ (.tail _ ho)).1, hex, hdat, hk, hp, hn⟩ (by rw [List.getElem?_map, hv]; rfl) fun h'' hs'' => ?_
        obtain ⟨F3, N3⟩ := ext_fr F N (N _ (.head _)).2.1 (N _ (.head _)).2.2 hs''
        have hkl : k = tab.length := Nat.le_antisymm hk' (by simpa using hv)
        have hcls : oe.cls = .type "RuntimeError" ∧ c = -2 := by
          cases C with
          | own h =>
            obtain ⟨j, hj⟩ := List.mem_iff_getElem?.mp h
            have hjl : j < k := by
              rw [hkl]
              rcases Nat.lt_or_ge j tab.length with q | q
              · exact q
              · rw [List.getElem?_eq_none q] at hj; cases hj
            exact absurd rfl (hno j _ hjl hj)
          | hook h1 _ h3 =>
            have := one_obj D he h1
            subst this
            exact absurd h3 hc
          | wrap h1 h2 h3 h4 =>
            have := one_obj D he h1
            subst this
            exact ⟨h4, rfl⟩
        obtain ⟨hcls, rfl⟩ := hcls
        have N4 : News h₀ L h'' nz := fun q hq => N3 q (mem_without.mpr ⟨.tail _ hq, hfI q hq⟩)
        clear F N N3
        k_steps
        refine Stop.go ?_
        refine isi_rt (X.keeps F3.keep) (N4 _ he).1 hcls fun tk2 => ?_
        k_steps
        exact hR _ _ _ (led_of F3 N4)
      | some p =>
        refine wpAny_pyNext_dict_item (knd := intKind pg w) (k := p.1) (v := .ref p.2) (keyIt_of (N _ (.head _)).1 ((List.length_map ..).symm ▸ KI)) ⟨od, es, (N _ (.tail _ ho)).1, hex, hdat, hk, hp, hn⟩ (by rw [List.getElem?_map, hv]; rfl) fun key h'' hkey hit hs'' => ?_
        obtain ⟨oI', hoI', hI1, hI2⟩ := hit
        obtain ⟨F3, N3⟩ := same_fr F N (.head _) hs'' hoI'
        obtain ⟨tm, rfl⟩ := Value.isInt_shape hkey
        refine wpAny_assign_Name ?_
        refine stN F3 N3 fun h4 F4 N4 => ?_
        have F5 := fr_fun F4 store_again
        have N5 : News h₀ L h4 ((h₁.objs.size, oI') :: nz) := fun q hq => by
          rcases List.mem_cons.mp hq with rfl | hq
          · exact N4 _ (.head _)
          · exact N4 q (.tail _ (mem_without.mpr ⟨.tail _ hq, hfI q hq⟩))
        clear F N F3 N3 F4 N4
        k_steps
        refine sub_dict N5 (.tail _ ho) ⟨es, ep, hex, hdat, hk, hp, hn⟩ hkey (valueAt_of_get hn (i := k) (by rw [List.getElem?_map, hv]; rfl)) ?_ (by with_unfolding_all rfl)
        k_steps
        obtain ⟨op, hop, hxp, _, hop2⟩ := ET.exc p (List.mem_of_getElem? hv)
        by_cases hpe : p.2 = e
        · rw [hpe]
          refine wpAny_is_ref_self ?_
          k_steps
          have : c = p.1 := by
            cases C with
            | own h =>
              obtain ⟨j, hj⟩ := List.mem_iff_getElem?.mp h
              have hj2 : (tab.map (·.2))[j]? = some e := by rw [List.getElem?_map, hj]; rfl
              have hk2 : (tab.map (·.2))[k]? = some e := by rw [List.getElem?_map, hv, ← hpe]; rfl
              have hjl : j < (tab.map (·.2)).length := by
                rcases Nat.lt_or_ge j (tab.map (·.2)).length with q | q
                · exact q
                · rw [List.getElem?_eq_none q] at hj2; cases hj2
              have := (List.getElem?_inj hjl ET.inj).mp (hj2.trans hk2.symm)
              subst this
              rw [hj] at hv
              cases hv
              rfl
            | hook h1 _ h3 =>
              have := one_obj D he h1
              subst this
              exact absurd h3 hc
            | wrap h1 h2 h3 h4 =>
              rw [hpe] at hop
              have := one_obj D hop h1
              subst this
              rw [h4] at hop2
              rcases hop2 with q | q <;> simp at q
          subst this
          exact hR _ _ _ (led_of F5 (fun q hq => N5 q (.tail _ hq)))
        · refine wpAny_is_ref_other hpe (N5 _ (.tail _ hop)).1 (N5 _ (.tail _ he)).1 (by rcases hop2 with q | q <;> (rw [q]; decide)) ?_
          k_steps
          have hkl : k < tab.length := by
            rcases Nat.lt_or_ge k tab.length with q | q
            · exact q
            · rw [List.getElem?_eq_none q] at hv; cases hv
          refine ⟨tab.length - (k + 1), by omega, k + 1, _, _, oI', _, rfl, hkl, rfl, F5, N5, ⟨hI1, by rw [hI2, List.length_map]⟩, fun j q hj hq => ?_⟩
          rcases Nat.lt_succ_iff_lt_or_eq.mp hj with z | rfl
          · exact hno j q z hq
          · rw [hv] at hq; cases hq; exact hpe
    · intro y
      by_cases q : y = Str.ofString "me"
      · subst q; rfl
      · rw [if_neg q]
end Mine
namespace Mine
open PySem PySem.W PySem.Calls PyProof.Rows
local macro_rules | `(tactic| walk_at "exec For") => `(tactic| refine Stop.of ?_)
local macro_rules | `(tactic| walk_at "call builtin:list.append") => `(tactic| refine Stop.of ?_)
local macro_rules | `(tactic| walk_at "exec Raise") => `(tactic| refine Stop.of ?_)
local macro_rules | `(tactic| walk_at "call ref") => `(tactic| refine Stop.of ?_)
theorem kfill4 : (PySem.Challenge.rw_fe0222_01, hd.heap_39) = (PySem.Challenge.rw_fe0222_01, hd.heap_39) := by
  k_fill
  rfl
theorem plain_con {w : World} {h₀ : Heap} {mean : ExcName → Option Value} {mg mb : Str → Option Value} (X : (hd.heap_39 w.params).In h₀) (T : TopH mean mg mb h₀) {A : Around} {s : Shared} {nz : Ledger} {outer : List Env} {R : Result → Shared → Prop} {B : Addr → Prop} (hB : ∀ a, B a → ∃ o, (a, o) ∈ nz) {lg er dd : Addr} {me kind : Int} {tab : List (Int × Addr)} {ls : List Dat}
    (D : Led h₀ s.heap nz) (So : SoftOK nz) (S : Stand A nz outer 3 70) (hh : A.handled = none) (ET : ErrTab w nz er tab) (hfr : er ∉ outer.filterMap (·.frame)) (LG : LogAt B nz lg .none ls) (hls : ls.length + 1 ≤ sizeLine) (DA : DeedAt nz dd me kind) (hme : ∃ e, (me, e) ∈ tab)
    (hR : kind ≠ 2 → ∀ v h' tk' nz', Led h₀ h' nz' → Step [lg] (outer.filterMap (·.frame)) nz nz' → SoftOK nz' → LogAt B nz' lg v (ls ++ [inD me]) → FreshV nz v → (kind = 1 ∧ v = .none ∨ kind ≠ 1 ∧ Res B nz' lg v (valueD me) ∧ v ≠ .none) → R (.ok (.ret v)) { s with heap := h', toks := tk' })
    (hE : kind = 2 → ∀ e h' tk' nz', (me, e) ∈ tab → Led h₀ h' nz' → Step [lg] (outer.filterMap (·.frame)) nz nz' → SoftOK nz' → LogAt B nz' lg .none (ls ++ [inD me]) → Noted nz' e → R (.error (.ref e)) { s with heap := h', toks := tk' }) :
    codeAny (model pg w) A (.call (.ref 98) ⟨[.ref lg, .ref er, .ref dd], []⟩) R s := by
  obtain ⟨t, u, n, hdd⟩ := DA
  obtain ⟨vs, nl, hlg, hvs⟩ := LG
  unfold tupOf at hdd
  refine enter_L (d := 2) (u := 67) (binds := [(Str.ofString "log", .ref lg), (Str.ofString "errs", .ref er), (Str.ofString "deed", .ref dd)]) D X T.nolimit S (by k_is) (by k_is) (BindsTo.of_eq rfl) (locs rfl) ?_ rfl rfl rfl (by decide)
  intro L h₁ tk₁ F N lt hfr' hdp hun
  k_steps
  refine unpackN_ F N (News.isTup N hdd) hh rfl rfl fun h2 F2 N2 => ?_
  clear F N
  k_steps
  refine Stop.go ?_
  with_reducible rename Fr _ _ _ _ => F3
  with_reducible rename News _ _ _ _ => N3
  refine append_L F3 N3 (.tail _ hlg) (fun h4 n4 F4 N4 => ?_) (by rw [hvs.length]; omega)
  rename ∀ p ∈ nz, p.1 < _ => l1
  have G := log_grow hB (outer.filterMap (·.frame)) N4 (fun q hq => N3 q (.tail _ hq)) So hlg hvs (.cons (.str _ _) (.one (.int _ _))) (fun p hp => Nat.ne_of_lt (l1 p hp)) (fun a q => nomatch q)
  obtain ⟨St4, So4, LG4⟩ := G
  clear N3 F3
  k_steps
  · refine Stop.go ?_
    have M4 := mutSeq_one D hlg ⟨_, _, rfl⟩
    have ET4 := ET.step St4 M4 hfr
    obtain ⟨e, he⟩ := hme
    obtain ⟨od, ho, hod, hval⟩ := ET4.find he
    obtain ⟨oe, heN, hx, _⟩ := ET4.exc _ he
    refine execRaise_R (L := L) (outer := outer) X hh ?_
    walk1
    walk1
    walk1
    refine sub_dict N4 ho hod (intKind_is _ _ _ _) hval ?_ (by with_unfolding_all rfl)
    exact ⟨e, oe, _, _, rfl, F4, N4, So4, heN, hx, S.fs.mut St4 M4, fun h' news' D' St' So' nt =>
      hE (by assumption) e h' _ news' he D' (St4.trans (St'.weaken (fun _ q => nomatch q) fun _ q => q)) So' (LG4.step St' (fun q => nomatch q) (fun _ q => nomatch q) fun _ q => nomatch q) nt⟩
  · exact hR (by assumption) _ _ _ _ (led_of F4 N4) St4 So4 LG4 (fun _ q => nomatch q) (.inl ⟨by assumption, rfl⟩)
  · refine Stop.go ?_
    obtain ⟨oL, hdL, hoL, DL⟩ := led_all F4 N4
    have hB4 := hB_step hB St4 (fun a ha => by simp only [List.mem_cons, List.not_mem_nil, or_false] at ha; subst ha; exact ⟨_, .head _⟩)
    refine wpAny_call (value_con (B := B) (lg := lg) (outer := _ :: outer) (fun a q => let ⟨o, ho⟩ := hB4 a q; ⟨o, .tail _ ho⟩) DL (So4.frame hdL) X T ⟨hfr', frames_cons (S.fs.mut St4 (mutSeq_one D hlg ⟨_, _, rfl⟩)) hdL rfl rfl, ?_, ?_⟩ ⟨_, .tail _ (.head _)⟩ fun v h5 tk5 nz5 D5 sub5 So5 R5 fv nv => ?_)
    · have := hdp; omega
    · have := hun; omega
    have BK := call_back (fr := outer.filterMap (·.frame)) (Mut := []) F4 N4 hoL hdL D5 (Step.sub sub5) So5 (by simp)
    have S5 := seq_without D5 (sub5 _ (.head _)) hdL
    refine hR (by assumption) v h5 tk5 _ (led_of BK.fr BK.nw) (St4.trans (BK.st.weaken (fun _ q => nomatch q) fun _ q => q)) BK.so (LG4.step BK.st (fun q => nomatch q) (fun _ q => nomatch q) ?_) ?_ (.inr ⟨by assumption, R5.map S5, nv⟩)
    · rintro a rfl ⟨o, ho⟩
      exact absurd rfl (fv a rfl _ (.tail _ ho))
    · rintro a rfl p hp q
      by_cases z : p.1 = lg
      · exact fv a rfl (lg, _) (.tail _ (.head _)) (z.symm.trans q)
      · obtain ⟨o', hp', _⟩ := St4 p hp (by simpa using z)
        exact fv a rfl _ (.tail _ hp') q
end Mine
namespace Mine
local macro_rules | `(tactic| walk_at "pad") => `(tactic| skip)
open PySem PySem.W PySem.Calls PyProof.Rows
local macro_rules | `(tactic| walk_at "exec For") => `(tactic| refine Stop.of ?_)
local macro_rules | `(tactic| walk_at "call builtin:list.append") => `(tactic| refine Stop.of ?_)
local macro_rules | `(tactic| walk_at "exec Raise") => `(tactic| refine Stop.of ?_)
local macro_rules | `(tactic| walk_at "call ref") => `(tactic| refine Stop.of ?_)
theorem kfill5 : (PySem.Challenge.rw_fe0222_01, hd.heap_39) = (PySem.Challenge.rw_fe0222_01, hd.heap_39) := by
  k_fill
  rfl
/-- a wrapper's rest -/
def TearAt (nz : Ledger) (a lg dd er : Addr) : Prop := ∃ n, (a, tupOf #[.ref 112, .ref lg, .ref dd, .ref er] n) ∈ nz
theorem wrap_con {w : World} {h₀ : Heap} {mean : ExcName → Option Value} {mg mb : Str → Option Value} (X : (hd.heap_39 w.params).In h₀) (T : TopH mean mg mb h₀) {A : Around} {s : Shared} {nz : Ledger} {outer : List Env} {R : Result → Shared → Prop} {B : Addr → Prop} (hB : ∀ a, B a → ∃ o, (a, o) ∈ nz) {lg er dd : Addr} {me kind : Int} {tab : List (Int × Addr)} {ls : List Dat}
    (D : Led h₀ s.heap nz) (So : SoftOK nz) (S : Stand A nz outer 3 70) (hh : A.handled = none) (ET : ErrTab w nz er tab) (hfr : er ∉ outer.filterMap (·.frame)) (LG : LogAt B nz lg .none ls) (hls : ls.length + 1 ≤ sizeLine) (DA : DeedAt nz dd me kind) (hme : ∃ e, (me, e) ∈ tab)
    (hR : kind ≠ 8 → ∀ v h' tk' nz', Led h₀ h' nz' → Step [lg] (outer.filterMap (·.frame)) nz nz' → SoftOK nz' → LogAt B nz' lg .none (ls ++ [inD me]) → FreshV nz v → (kind = 9 ∧ v = .none ∨ kind ≠ 9 ∧ ∃ a, v = .ref a ∧ TearAt nz' a lg dd er) → R (.ok (.ret v)) { s with heap := h', toks := tk' })
    (hE : kind = 8 → ∀ e h' tk' nz', (me, e) ∈ tab → Led h₀ h' nz' → Step [lg] (outer.filterMap (·.frame)) nz nz' → SoftOK nz' → LogAt B nz' lg .none (ls ++ [inD me]) → Noted nz' e → R (.error (.ref e)) { s with heap := h', toks := tk' }) :
    codeAny (model pg w) A (.call (.ref 105) ⟨[.ref lg, .ref er, .ref dd], []⟩) R s := by
  obtain ⟨t, u, n, hdd⟩ := DA
  obtain ⟨vs, nl, hlg, hvs⟩ := LG
  unfold tupOf at hdd
  refine enter_L (d := 2) (u := 67) (binds := [(Str.ofString "log", .ref lg), (Str.ofString "errs", .ref er), (Str.ofString "deed", .ref dd)]) D X T.nolimit S (by k_is) (by k_is) (BindsTo.of_eq rfl) (locs rfl) ?_ rfl rfl rfl (by decide)
  intro L h₁ tk₁ F N lt hfr' hdp hun
  k_steps
  refine unpackN_ F N (News.isTup N hdd) hh rfl rfl fun h2 F2 N2 => ?_
  clear F N
  k_steps
  refine Stop.go ?_
  with_reducible rename Fr _ _ _ _ => F3
  with_reducible rename News _ _ _ _ => N3
  refine append_L F3 N3 (.tail _ hlg) (fun h4 n4 F4 N4 => ?_) (by rw [hvs.length]; omega)
  rename ∀ p ∈ nz, p.1 < _ => l1
  have G := log_grow hB (outer.filterMap (·.frame)) N4 (fun q hq => N3 q (.tail _ hq)) So hlg hvs (.cons (.str _ _) (.one (.int _ _))) (fun p hp => Nat.ne_of_lt (l1 p hp)) (fun a q => nomatch q)
  obtain ⟨St4, So4, LG4⟩ := G
  have AL := fun d => allLt_cons (d := d) N4
  clear N3 F3
  k_steps
  · refine Stop.go ?_
    have M4 := mutSeq_one D hlg ⟨_, _, rfl⟩
    have ET4 := ET.step St4 M4 hfr
    obtain ⟨e, he⟩ := hme
    obtain ⟨od, ho, hod, hval⟩ := ET4.find he
    obtain ⟨oe, heN, hx, _⟩ := ET4.exc _ he
    refine execRaise_R (L := L) (outer := outer) X hh ?_
    walk1
    walk1
    walk1
    refine sub_dict N4 ho hod (intKind_is _ _ _ _) hval ?_ (by with_unfolding_all rfl)
    exact ⟨e, oe, _, _, rfl, F4, N4, So4, heN, hx, S.fs.mut St4 M4, fun h' news' D' St' So' nt =>
      hE (by assumption) e h' _ news' he D' (St4.trans (St'.weaken (fun _ q => nomatch q) fun _ q => q)) So' (LG4.step St' (fun q => nomatch q) (fun _ q => nomatch q) fun _ q => nomatch q) nt⟩
  · exact hR (by assumption) _ _ _ _ (led_of F4 N4) St4 So4 LG4 (fun _ q => nomatch q) (.inl ⟨by assumption, rfl⟩)
  · with_reducible rename Fr _ _ _ _ => F5
    with_reducible rename News _ _ _ _ => N5
    rename _ ∧ AllLt _ _ => l6
    have l5 := AL _ l6
    refine hR (by assumption) _ _ _ _ (led_of F5 N5) (St4.trans (push_step _ _)) (So4.hard hard_tup) (LG4.step (push_step [] []) (fun q => nomatch q) (fun _ q => nomatch q) ?_) ?_ (.inr ⟨by assumption, _, rfl, _, .head _⟩)
    · intro _ q
      cases q
    · rintro a q p hp z
      cases q
      by_cases y : p.1 = lg
      · exact absurd (y.symm.trans z ▸ l5 _ (.head _)) (Nat.lt_irrefl _)
      · obtain ⟨o', hp', _⟩ := St4 p hp (by simpa using y)
        exact absurd (z ▸ l5 _ hp') (Nat.lt_irrefl _)
end Mine
namespace Mine
local macro_rules | `(tactic| walk_at "pad") => `(tactic| skip)
open PySem PySem.W PySem.Calls PyProof.Rows
local macro_rules | `(tactic| walk_at "exec For") => `(tactic| refine Stop.of ?_)
local macro_rules | `(tactic| walk_at "call builtin:list.append") => `(tactic| refine Stop.of ?_)
local macro_rules | `(tactic| walk_at "exec Raise") => `(tactic| refine Stop.of ?_)
local macro_rules | `(tactic| walk_at "call ref") => `(tactic| refine Stop.of ?_)
local macro_rules | `(tactic| walk_at "call builtin:isinstance") => `(tactic| refine Stop.of ?_)
theorem kfill6 : (PySem.Challenge.rw_fe0222_01, hd.heap_39) = (PySem.Challenge.rw_fe0222_01, hd.heap_39) := by
  k_fill
  rfl
inductive Out where
  | ok (d : Dat)
  | err (c : Int)
def backD (me : Int) (d : Dat) : Dat := .tuple [.str (Str.ofString "back"), .int me, d]
def hurtD (me : Int) (c : Int) : Dat := .tuple [.str (Str.ofString "hurt"), .int me, .int c]
def addTo (me : Int) : Dat → Dat
  | .list ds => .list (ds ++ [.int me])
  | d => d
def postO (me kind : Int) : Out → Out
  | .ok d => if kind = 7 then .err me else if kind = 5 then .ok (.list [.int me, d]) else if kind = 11 then .ok (addTo me d) else .ok d
  | .err c => if kind = 7 ∨ kind = 10 then .err me else if kind = 6 then .ok (.list [.int me]) else .err c
def postL (me : Int) : Out → Dat
  | .ok d => backD me d
  | .err c => hurtD me c
def mutOf (lg : Addr) : Value → List Addr
  | .ref a => [lg, a]
  | _ => [lg]
theorem Res.vd {B : Addr → Prop} {nz : Ledger} {lg : Addr} {v : Value} {d : Dat} (h : Res B nz lg v d) : VD (offL nz fun b => b = lg ∨ B b) v d := by
  cases h with
  | none => exact .none
  | int i t => exact .int i t
  | str x t => exact .str x t
  | list h1 h2 h4 h3 => exact .list ⟨h1, fun q => q.elim h2 h4⟩ (h3.mono fun a o _ z => ⟨z.1, fun q => z.2 (.inr q)⟩)
theorem step_of_news {h₀ h' : Heap} {L a : Addr} {o' : Obj} {nz : Ledger} (_ : News h₀ L h' ((a, o') :: without nz a)) : Step [a] [] nz ((a, o') :: without nz a) := without_step _ _ (.head _)
theorem mem_mutOf (lg : Addr) (v : Value) : ∀ b, b ∈ [lg] → b ∈ mutOf lg v := fun b h => by
  simp only [List.mem_cons, List.not_mem_nil, or_false] at h
  subst h
  cases v <;> simp [mutOf]
theorem fresh_step {nz nz' : Ledger} {lg d : Addr} {fr : List Addr} (S : Step [lg] fr nz nz') (hl : ∃ o, (lg, o) ∈ nz') (l : ∀ p ∈ nz', p.1 < d) : ∀ p ∈ nz, p.1 ≠ d := fun p hp z => by
  by_cases y : p.1 = lg
  · obtain ⟨o, ho⟩ := hl
    exact absurd (y.symm.trans z ▸ l _ ho) (Nat.lt_irrefl _)
  · obtain ⟨o', hp', _⟩ := S p hp (by simpa using y)
    exact absurd (z ▸ l _ hp') (Nat.lt_irrefl _)
theorem post_ok {w : World} {h₀ : Heap} {mean : ExcName → Option Value} {mg mb : Str → Option Value} (X : (hd.heap_39 w.params).In h₀) (T : TopH mean mg mb h₀) (nn : Nat) {A : Around} {s : Shared} {nz : Ledger} {outer : List Env} {R : Result → Shared → Prop} {B : Addr → Prop} (hB : ∀ a, B a → ∃ o, (a, o) ∈ nz) {lg er dd td : Addr} {me kind : Int} {tab : List (Int × Addr)} {ls : List Dat} {v : Value} {d : Dat}
    (D : Led h₀ s.heap nz) (So : SoftOK nz) (S : Stand A nz outer (nn + 3) (3 * nn + 80)) (hh : A.handled = none) (ET : ErrTab w nz er tab) (hfr : er ∉ outer.filterMap (·.frame)) (TD : TearAt nz td lg dd er) (DA : DeedAt nz dd me kind) (hme : ∃ e, (me, e) ∈ tab)
    (LG : LogAt B nz lg v ls) (hls : ls.length + 1 ≤ sizeLine) (RV : Res B nz lg v d) (hok : ldOk nn d = true)
    (hR : ∀ v' d' h' tk' nz', postO me kind (.ok d) = .ok d' → Led h₀ h' nz' → Step (mutOf lg v) (outer.filterMap (·.frame)) nz nz' → SoftOK nz' → Res B nz' lg v' d' → LogAt B nz' lg v' (ls ++ [backD me d]) → (v' = v ∨ FreshV nz v') → R (.ok (.ret v')) { s with heap := h', toks := tk' })
    (hE : ∀ e c h' tk' nz', postO me kind (.ok d) = .err c → Led h₀ h' nz' → Step (mutOf lg v) (outer.filterMap (·.frame)) nz nz' → SoftOK nz' → ECode nz' tab e c → LogAt B nz' lg .none (ls ++ [backD me d]) → Noted nz' e → R (.error (.ref e)) { s with heap := h', toks := tk' }) :
    codeAny (model pg w) A (.call (.ref 112) ⟨[.ref td, v, .none], []⟩) R s := by
  obtain ⟨t, u, n, hdd⟩ := DA
  obtain ⟨ntd, htd⟩ := TD
  obtain ⟨vs, nl, hlg, hvs⟩ := id LG
  unfold tupOf at hdd htd
  refine enter_L (d := nn + 2) (u := 3 * nn + 77) (binds := [(Str.ofString "own", .ref td), (Str.ofString "result", v), (Str.ofString "exception", .none)]) D X T.nolimit S (by k_is) (by k_is) (BindsTo.of_eq rfl) (locs rfl) ?_ rfl rfl rfl (by decide)
  intro L h₁ tk₁ F N lt hfr' hdp hun
  k_steps
  with_reducible rename Fr _ _ _ _ => F2
  with_reducible rename News _ _ _ _ => N2
  refine unpackN_ F2 N2 (News.isTup N2 hdd) hh rfl rfl fun h3 F3 N3 => ?_
  clear F2 N2
  k_steps
  refine Stop.go ?_
  with_reducible rename Fr _ _ _ _ => F4
  with_reducible rename News _ _ _ _ => N4
  obtain ⟨oL, hdL, hoL, DL⟩ := led_all F4 N4
  refine wpAny_call (seen_con X T nn (outer := _ :: outer) DL (So.frame hdL) ⟨hfr', frames_cons S.fs hdL rfl rfl, ?_, ?_⟩ hh (RV.vd.mono (fun a o _ q => .tail _ q.1)) hok fun v5 h5 tk5 nz5 D5 St5 So5 V5 => ?_)
  · have := hdp; omega
  · have := hun; omega
  have BK := call_back (fr := []) (Mut := []) F4 N4 hoL hdL D5 (St5.weaken (fun _ q => q) fun _ q => nomatch q) So5 (by simp)
  have F5 := BK.fr
  have N5 := BK.nw
  have hlg5 : (lg, listOf vs.toArray nl) ∈ without nz5 L := BK.st.keeps hlg (by simp) (fun _ q => by cases q) (fun _ _ q => by cases q)
  have sub5 : ∀ b, (∃ o, (b, o) ∈ nz) → ∃ o, (b, o) ∈ without nz5 L := fun b ⟨o, ho⟩ => by
    obtain ⟨o', q, _⟩ := BK.st _ ho (by simp)
    exact ⟨o', q⟩
  obtain ⟨sl5, hL5⟩ := St5.dict (.head _) (by simp) hdL
  have V5' : VD (offL (without nz5 L) fun b => b = lg ∨ v = .ref b ∨ B b) v5 d := V5.mono fun a o hq q => ⟨seq_without D5 hL5 hdL _ q.1 hq, fun z => q.2 (by
    rcases z with rfl | rfl | z
    · exact ⟨_, .tail _ hlg⟩
    · cases RV with | list h1 _ _ _ => exact ⟨_, .tail _ h1⟩
    · obtain ⟨o, ho⟩ := hB _ z
      exact ⟨_, .tail _ ho⟩)⟩
  have hB5 : ∀ a, B a → ∃ o, (a, o) ∈ without nz5 L := fun a ha => sub5 a (hB a ha)
  have hvs5 : VDs (offL (without nz5 L) fun b => b = lg ∨ v = .ref b ∨ B b) vs ls := hvs.mono (offL_step BK.st (fun _ q => nomatch q) fun _ _ _ q => q)
  have St5' := BK.st
  have So5' := BK.so
  clear BK F4 N4
  k_steps
  refine Stop.go ?_
  with_reducible rename Fr _ _ _ _ => F6
  with_reducible rename News _ _ _ _ => N6
  refine append_L F6 N6 (.tail _ hlg5) (fun h7 n7 F7 N7 => ?_) (by rw [hvs.length]; omega)
  rename ∀ p ∈ without nz5 L, p.1 < _ => l1
  have G := log_grow hB5 (outer.filterMap (·.frame)) N7 (fun q hq => N6 q (.tail _ hq)) So5' hlg5 hvs5 (.cons (.str _ _) (.cons (.int _ _) (.one V5'))) (fun p hp => Nat.ne_of_lt (l1 p hp)) (fun a q => by
    subst q
    cases RV with | list h1 _ _ _ => exact sub5 _ ⟨_, h1⟩)
  obtain ⟨St7, So7, LG7⟩ := G
  have AL := fun d => allLt_cons (d := d) N7
  have St07 := (St5'.weaken (fun _ q => nomatch q) (fun _ q => nomatch q)).trans St7
  have RV7 := RV.step St07 (fun a ha => .inl (by simpa using ha))
  clear N6 F6
  k_steps
  · refine Stop.go ?_
    have M7 : MutSeq [lg] nz := mutSeq_one D hlg ⟨_, _, rfl⟩
    have ET7 := ET.step St07 M7 hfr
    obtain ⟨e, he⟩ := hme
    obtain ⟨od, ho, hod, hval⟩ := ET7.find he
    obtain ⟨oe, heN, hx, _⟩ := ET7.exc _ he
    refine execRaise_R (L := L) (outer := outer) X hh ?_
    walk1
    walk1
    walk1
    refine sub_dict N7 ho hod (intKind_is _ _ _ _) hval ?_ (by with_unfolding_all rfl)
    exact ⟨e, oe, _, _, rfl, F7, N7, So7, heN, hx, S.fs.mut St07 M7, fun h' news' D' St' So' nt =>
      hE e me h' _ news' (by simp only [postO]; rw [if_pos (by assumption)]) D' ((St07.trans (St'.weaken (fun _ q => nomatch q) fun _ q => q)).weaken (mem_mutOf lg v) fun _ q => q) So' (.own he) (LG7.step St' (fun q => nomatch q) (fun _ q => nomatch q) fun _ q => nomatch q) nt⟩
  · exfalso; omega
  · exfalso; omega
  · exact hR v d _ _ _ (by simp only [postO]; rw [if_neg (by omega), if_neg (by omega), if_neg (by omega)]) (led_of F7 N7) (St07.weaken (mem_mutOf lg v) fun _ q => q) So7 RV7 LG7 (.inl rfl)
  · with_reducible rename Fr _ _ _ _ => F8
    with_reducible rename News _ _ _ _ => N8
    rename _ ∧ AllLt _ _ => l6
    have l5 := AL _ l6
    have fr8 := fresh_step St07 ⟨_, .head _⟩ l5
    refine hR _ (.list [.int me, d]) _ _ _ (by simp only [postO]; rw [if_neg (by omega), if_pos (by assumption)]) (led_of F8 N8) ((St07.trans (push_step _ _)).weaken (mem_mutOf lg v) fun _ q => q) (So7.hard hard_list) (.list (vs := [.int me _, v]) (.head _) (Ne.symm (Nat.ne_of_lt l6.1)) (fun z => by obtain ⟨o, ho⟩ := hB _ z; exact fr8 _ ho rfl) (.cons (.int _ _) (.one (RV7.vd.mono fun a o _ q => ⟨.tail _ q.1, ?_⟩))))
      (LG7.step (push_step [] []) (fun q => nomatch q) (fun _ q => nomatch q) ?_) (.inr ?_)
    · rintro (rfl | z)
      · exact absurd (l5 _ q.1) (Nat.lt_irrefl _)
      · exact q.2 z
    · rintro a q ⟨o, ho⟩
      cases q
      exact absurd (l5 _ ho) (Nat.lt_irrefl _)
    · rintro a q p hp
      cases q
      exact fr8 p hp
  · refine Stop.go ?_
    cases RV7 with
    | none =>
      refine kia_one (b := false) (K := hd.heap_39 w.params) kitx_none (X.keeps F7.keep) trivial (by kernel_rfl) (by intro q; cases q) fun tk9 => ?_
      k_steps
      exact hR _ .none _ _ _ (by simp only [postO]; rw [if_neg (by omega), if_neg (by omega), if_pos (by assumption)]; rfl) (led_of F7 N7) (St07.weaken (mem_mutOf lg _) fun _ q => q) So7 .none LG7 (.inl rfl)
    | int i ti =>
      refine kia_one (b := false) (K := hd.heap_39 w.params) kitx_int (X.keeps F7.keep) trivial (by kernel_rfl) (by intro q; cases q) fun tk9 => ?_
      k_steps
      exact hR _ (.int i) _ _ _ (by simp only [postO]; rw [if_neg (by omega), if_neg (by omega), if_pos (by assumption)]; rfl) (led_of F7 N7) (St07.weaken (mem_mutOf lg _) fun _ q => q) So7 (.int _ _) LG7 (.inl rfl)
    | str x tx =>
      refine kia_one (b := false) (K := hd.heap_39 w.params) kitx_str (X.keeps F7.keep) trivial (by kernel_rfl) (by intro q; cases q) fun tk9 => ?_
      k_steps
      exact hR _ (.str x) _ _ _ (by simp only [postO]; rw [if_neg (by omega), if_neg (by omega), if_pos (by assumption)]; rfl) (led_of F7 N7) (St07.weaken (mem_mutOf lg _) fun _ q => q) So7 (.str _ _) LG7 (.inl rfl)
    | @list a rs na ds ha hal haB hrs =>
      refine kia_one (b := true) (K := hd.heap_39 w.params) kitx_list (X.keeps F7.keep) ⟨listOf rs.toArray na, (N7 _ ha).1, rfl⟩ (by kernel_rfl) (by intro q; cases q) fun tk9 => ?_
      have hlen : rs.length ≤ sizeLine := by
        rw [hrs.length]
        cases nn with
        | zero => simp [ldOk] at hok
        | succ m => simp only [ldOk, Bool.and_eq_true, decide_eq_true_eq] at hok; exact hok.2
      k_steps
      refine Stop.go ?_
      refine append_L F7 N7 ha (fun h9 n9 F9 N9 => ?_) hlen
      have St9 := step_of_news N9
      have So9 := softOK_turn N7 So7 ha hard_list (hard_list (us := (rs ++ [Value.int me t]).toArray) (k := n9))
      clear F7
      k_steps
      refine hR _ (.list (ds ++ [.int me])) _ _ _ (by simp only [postO]; rw [if_neg (by omega), if_neg (by omega), if_pos (by assumption)]; rfl) (led_of F9 N9) ((St07.weaken (mem_mutOf lg _) fun _ q => q).trans (St9.weaken (fun b hb => ?_) fun _ q => nomatch q)) So9 (.list (.head _) hal haB ((hrs.mono fun b o _ q => ⟨.tail _ (without_mem q.1 fun z => q.2 (.inl z)), q.2⟩).append (.one (.int _ _))))
        (LG7.step St9 (by simpa using hal.symm) (fun b hb => by simp only [List.mem_cons, List.not_mem_nil, or_false] at hb; rw [hb]; exact .inl rfl) fun _ q _ => q) (.inl rfl)
      simp only [List.mem_cons, List.not_mem_nil, or_false] at hb
      subst hb
      simp [mutOf]
  · exact hR v d _ _ _ (by simp only [postO]; rw [if_neg (by omega), if_neg (by omega), if_neg (by omega)]) (led_of F7 N7) (St07.weaken (mem_mutOf lg v) fun _ q => q) So7 RV7 LG7 (.inl rfl)
end Mine
namespace Mine
open PySem PySem.W PySem.Calls PyProof.Rows
local macro_rules | `(tactic| walk_at "exec For") => `(tactic| refine Stop.of ?_)
local macro_rules | `(tactic| walk_at "call builtin:list.append") => `(tactic| refine Stop.of ?_)
local macro_rules | `(tactic| walk_at "exec Raise") => `(tactic| refine Stop.of ?_)
local macro_rules | `(tactic| walk_at "call ref") => `(tactic| refine Stop.of ?_)
local macro_rules | `(tactic| walk_at "call builtin:isinstance") => `(tactic| refine Stop.of ?_)
theorem kfill7 : (PySem.Challenge.rw_fe0222_01, hd.heap_39) = (PySem.Challenge.rw_fe0222_01, hd.heap_39) := by
  k_fill
  rfl
theorem post_err {w : World} {h₀ : Heap} {mean : ExcName → Option Value} {mg mb : Str → Option Value} (X : (hd.heap_39 w.params).In h₀) (T : TopH mean mg mb h₀) {A : Around} {s : Shared} {nz : Ledger} {outer : List Env} {R : Result → Shared → Prop} {B : Addr → Prop} (hB : ∀ a, B a → ∃ o, (a, o) ∈ nz) {lg er dd td e₀ : Addr} {me kind c₀ : Int} {tab : List (Int × Addr)} {ls : List Dat} {v : Value}
    (D : Led h₀ s.heap nz) (So : SoftOK nz) (S : Stand A nz outer 5 80) (hh : A.handled = none) (ET : ErrTab w nz er tab) (hfr : er ∉ outer.filterMap (·.frame)) (TD : TearAt nz td lg dd er) (DA : DeedAt nz dd me kind) (hme : ∃ e, (me, e) ∈ tab)
    (LG : LogAt B nz lg .none ls) (hls : ls.length + 1 ≤ sizeLine) (EC : ECode nz tab e₀ c₀)
    (hR : ∀ v' d' h' tk' nz', postO me kind (.err c₀) = .ok d' → Led h₀ h' nz' → Step [lg] (outer.filterMap (·.frame)) nz nz' → SoftOK nz' → Res B nz' lg v' d' → LogAt B nz' lg v' (ls ++ [hurtD me c₀]) → FreshV nz v' → R (.ok (.ret v')) { s with heap := h', toks := tk' })
    (hE : ∀ e c h' tk' nz', postO me kind (.err c₀) = .err c → Led h₀ h' nz' → Step [lg] (outer.filterMap (·.frame)) nz nz' → SoftOK nz' → ECode nz' tab e c → LogAt B nz' lg .none (ls ++ [hurtD me c₀]) → Noted nz' e → R (.error (.ref e)) { s with heap := h', toks := tk' }) :
    codeAny (model pg w) A (.call (.ref 112) ⟨[.ref td, v, .ref e₀], []⟩) R s := by
  obtain ⟨t, u, n, hdd⟩ := DA
  obtain ⟨ntd, htd⟩ := TD
  obtain ⟨vs, nl, hlg, hvs⟩ := id LG
  unfold tupOf at hdd htd
  refine enter_L (d := 4) (u := 77) (binds := [(Str.ofString "own", .ref td), (Str.ofString "result", v), (Str.ofString "exception", .ref e₀)]) D X T.nolimit S (by k_is) (by k_is) (BindsTo.of_eq rfl) (locs rfl) ?_ rfl rfl rfl (by decide)
  intro L h₁ tk₁ F N lt hfr' hdp hun
  k_steps
  with_reducible rename Fr _ _ _ _ => F2
  with_reducible rename News _ _ _ _ => N2
  refine unpackN_ F2 N2 (News.isTup N2 hdd) hh rfl rfl fun h3 F3 N3 => ?_
  clear F2 N2
  k_steps
  refine Stop.go ?_
  with_reducible rename Fr _ _ _ _ => F4
  with_reducible rename News _ _ _ _ => N4
  obtain ⟨oL, hdL, hoL, DL⟩ := led_all F4 N4
  refine wpAny_call (which_con X T (outer := _ :: outer) DL ⟨hfr', frames_cons S.fs hdL rfl rfl, ?_, ?_⟩ (fun _ => .inl hh) (ET.step (Mut := []) (fr := []) (push_step _ _) (MutSeq.nil _) (by simp)) (EC.step (Mut := []) (fr := []) (push_step _ _) (MutSeq.nil _)) fun h5 tk5 tc D5 => ?_)
  · have := hdp; omega
  · have := hun; omega
  have BK := call_back (fr := []) (Mut := []) F4 N4 hoL hdL D5 (Step.refl _ _ _) (So.frame hdL) (by simp)
  have F5 := BK.fr
  have N5 : News h₀ L h5 nz := fun p hp => BK.nw p (mem_without.mpr ⟨.tail _ hp, (N4 p hp).2.1⟩)
  clear BK F4 N4
  k_steps
  refine Stop.go ?_
  with_reducible rename Fr _ _ _ _ => F6
  with_reducible rename News _ _ _ _ => N6
  refine append_L F6 N6 (.tail _ hlg) (fun h7 n7 F7 N7 => ?_) (by rw [hvs.length]; omega)
  rename ∀ p ∈ nz, p.1 < _ => l1
  have G := log_grow hB (outer.filterMap (·.frame)) N7 (fun q hq => N6 q (.tail _ hq)) So hlg hvs (.cons (.str _ _) (.cons (.int _ _) (.one (.int _ _)))) (fun p hp => Nat.ne_of_lt (l1 p hp)) (fun a q => nomatch q)
  obtain ⟨St7, So7, LG7⟩ := G
  have AL := fun d => allLt_cons (d := d) N7
  have M7 : MutSeq [lg] nz := mutSeq_one D hlg ⟨_, _, rfl⟩
  have ET7 := ET.step St7 M7 hfr
  have EC7 := EC.step St7 M7
  clear N6 F6
  k_steps
  · refine Stop.go ?_
    obtain ⟨e, he⟩ := hme
    obtain ⟨od, ho, hod, hval⟩ := ET7.find he
    obtain ⟨oe, heN, hx, _⟩ := ET7.exc _ he
    refine execRaise_R (L := L) (outer := outer) X hh ?_
    walk1
    walk1
    walk1
    refine sub_dict N7 ho hod (intKind_is _ _ _ _) hval ?_ (by with_unfolding_all rfl)
    exact ⟨e, oe, _, _, rfl, F7, N7, So7, heN, hx, S.fs.mut St7 M7, fun h' news' D' St' So' nt =>
      hE e me h' _ news' (by simp only [postO]; rw [if_pos (by omega)]) D' (St7.trans (St'.weaken (fun _ q => nomatch q) fun _ q => q)) So' (.own he) (LG7.step St' (fun q => nomatch q) (fun _ q => nomatch q) fun _ q => nomatch q) nt⟩
  · refine Stop.go ?_
    obtain ⟨e, he⟩ := hme
    obtain ⟨od, ho, hod, hval⟩ := ET7.find he
    obtain ⟨oe, heN, hx, _⟩ := ET7.exc _ he
    refine execRaise_R (L := L) (outer := outer) X hh ?_
    walk1
    walk1
    walk1
    refine sub_dict N7 ho hod (intKind_is _ _ _ _) hval ?_ (by with_unfolding_all rfl)
    exact ⟨e, oe, _, _, rfl, F7, N7, So7, heN, hx, S.fs.mut St7 M7, fun h' news' D' St' So' nt =>
      hE e me h' _ news' (by simp only [postO]; rw [if_pos (by omega)]) D' (St7.trans (St'.weaken (fun _ q => nomatch q) fun _ q => q)) So' (.own he) (LG7.step St' (fun q => nomatch q) (fun _ q => nomatch q) fun _ q => nomatch q) nt⟩
  · with_reducible rename Fr _ _ _ _ => F8
    with_reducible rename News _ _ _ _ => N8
    rename _ ∧ AllLt _ _ => l6
    have l5 := AL _ l6
    have fr8 := fresh_step St7 ⟨_, .head _⟩ l5
    refine hR _ (.list [.int me]) _ _ _ (by simp only [postO]; rw [if_neg (by omega), if_pos (by assumption)]) (led_of F8 N8) (St7.trans (push_step _ _)) (So7.hard hard_list) (.list (vs := [.int me _]) (.head _) (Ne.symm (Nat.ne_of_lt l6.1)) (fun z => by obtain ⟨o, ho⟩ := hB _ z; exact fr8 _ ho rfl) (.one (.int _ _)))
      (LG7.step (push_step [] []) (fun q => nomatch q) (fun _ q => nomatch q) ?_) ?_
    · rintro a q ⟨o, ho⟩
      cases q
      exact absurd (l5 _ ho) (Nat.lt_irrefl _)
    · rintro a q p hp
      cases q
      exact fr8 p hp
  · refine Stop.go ?_
    obtain ⟨oe, heN, hx⟩ := EC7.at ET7
    refine execRaise_R (L := L) (outer := outer) X hh ?_
    walk1
    exact ⟨e₀, oe, _, _, rfl, F7, N7, So7, heN, hx, S.fs.mut St7 M7, fun h' news' D' St' So' nt =>
      hE e₀ c₀ h' _ news' (by simp only [postO]; rw [if_neg (by omega), if_neg (by omega)]) D' (St7.trans (St'.weaken (fun _ q => nomatch q) fun _ q => q)) So' (EC7.step St' (MutSeq.nil _)) (LG7.step St' (fun q => nomatch q) (fun _ q => nomatch q) fun _ q => nomatch q) nt⟩
end Mine
namespace Mine
open PySem PySem.W PySem.Calls PyProof.Rows
local macro_rules | `(tactic| walk_at "exec Raise") => `(tactic| refine Stop.of ?_)
theorem kfill8 : (PySem.Challenge.rw_fe0222_01, hd.heap_39) = (PySem.Challenge.rw_fe0222_01, hd.heap_39) := by
  k_fill
  rfl
theorem wrapfail_con {w : World} {h₀ : Heap} {mean : ExcName → Option Value} {mg mb : Str → Option Value} (X : (hd.heap_39 w.params).In h₀) (T : TopH mean mg mb h₀) {A : Around} {s : Shared} {nz : Ledger} {outer : List Env} {R : Result → Shared → Prop} {v₁ v₂ : Value}
    (D : Led h₀ s.heap nz) (So : SoftOK nz) (S : Stand A nz outer 2 10) (hh : A.handled = none)
    (hE : ∀ e h' tk' nz', Led h₀ h' nz' → Step [] (outer.filterMap (·.frame)) nz nz' → SoftOK nz' → (∀ tab, ECode nz' tab e (-2)) → Noted nz' e → R (.error (.ref e)) { s with heap := h', toks := tk' }) :
    codeAny (model pg w) A (.call (.ref 34) ⟨[v₁, v₂], []⟩) R s := by
  refine enter_L (d := 1) (u := 7) (binds := [(Str.ofString "wrap_controller", v₁), (Str.ofString "msg", v₂)]) D X T.nolimit S (by k_is) (by k_is) (BindsTo.of_eq rfl) (locs rfl) ?_ rfl rfl rfl (by decide)
  intro L h₁ tk₁ F N lt hfr' hdp hun
  k_steps
  refine Stop.go ?_
  refine Raise_madeB0 PySem.F.excCall_RuntimeError PySem.F.excRaise_RuntimeError hh ?_
  walk1
  refine ⟨rfl, fun h2 e hm => ?_⟩
  obtain ⟨ob, t, het, hc, hdt⟩ := hm.newExc.there
  obtain ⟨F2, N2, fe⟩ := new_fr F N hm.keeps hm.new het
  have nx : NewX ob (.type "RuntimeError") := ⟨hc, t, hdt⟩
  have ix := nx.exc (.inr (.inr (.inl rfl)))
  refine raisesTo_of F2 N2 (softOK_new So nx) (.head _) ix (S.fs.mono fun _ q => .tail _ q) fun h' news' D' St' So' nt => ?_
  obtain ⟨o', g1, g2, g3, g4⟩ := St'.exc (.head _) (by simp) ix
  exact hE e h' _ news' D' ((push_step _ _).trans St') So' (fun _ => .wrap g1 g2 (nx.ctx.step g4 ix) (g3.trans hc)) nt
end Mine
namespace Mine
open PySem PySem.W PySem.Calls PyProof.Rows
local macro_rules | `(tactic| k_room) => `(tactic| ((try simp only [depth_under_make, depth_under_kw, depth_in1, depth_deeper, depth_caller]); (show _ < _); (dsimp only [Around.deeper, Around.under] at *); omega))
local macro_rules | `(tactic| walk_at "subscriptTail") => `(tactic| (k_dflt (refine' sub_dict (knd := strKind pg _) ?N ?m ?d ?k ?v ?_ ?s; (case N => k_asm); (case m => k_mem); (case d => k_asm); (case k => exact strKind_is _ _ _ _); (case v => rfl); (case s => with_unfolding_all rfl); k_whole)))
local macro_rules | `(tactic| walk_at "setAttr ref") => `(tactic| (k_dflt (refine' set_slot ?k1 ?k2 ?k3 ?k4 ?k5 ?k6 ?k7 ?k8 ?k9 ?k10 ?k11 ?k12 ?k13 ?_; (case k1 => k_asm); (case k2 => k_asm); (case k3 => k_asm); (case k4 => (refine' InstAt.of_news ?N ?h1 ?h2; (case N => k_asm); (case h1 => k_mem); (case h2 => k_mem))); (case k5 => k_is); (case k6 => k_is); (case k7 => k_is); (case k8 => k_is); (case k9 => k_is); (case k10 => decide); (case k11 => k_slotset); (case k12 => exact rfl); (case k13 => k_upd); k_whole; intro h' F' N'; (try k_sweep))))
local macro_rules | `(tactic| walk_at "assign Tuple") => `(tactic| refine Stop.of ?_)
theorem kfillh1 : (PySem.Challenge.rw_fe0222_01, hd.heap_39) = (PySem.Challenge.rw_fe0222_01, hd.heap_39) := by
  k_fill
  rfl
theorem impl_con {w : World} {h₀ : Heap} {mean : ExcName → Option Value} {mg mb : Str → Option Value} (X : (hd.heap_39 w.params).In h₀) (T : TopH mean mg mb h₀) {A : Around} {s : Shared} {nz : Ledger} {outer : List Env} {R : Result → Shared → Prop} {f at_ : Addr} {b : Bool}
    (D : Led h₀ s.heap nz) (S : Stand A nz outer 6 40) (hh : A.handled = none)
    (So : SoftOK nz) (hR : ∀ x h' tk' new, Led h₀ h' (new ++ nz) → SoftOK (new ++ nz) → ImplAt new x f at_ b → (∀ p ∈ new, ∀ q ∈ nz, q.1 ≠ p.1) → R (.ok (.ret (.ref x))) { s with heap := h', toks := tk' }) :
    codeAny (model pg w) A (.call (.ref 133) ⟨[.ref f, .ref at_, .bool b], []⟩) R s := by
  obtain ⟨ahd, adp, afr, agd, aun⟩ := A
  have Sfr : afr = some outer := S.fr
  subst Sfr
  have hah : ahd = none := hh
  subst hah
  have B := below_of S.fr S.fs D
  have X' : (hd.heap_39 w.params).In s.heap := X.keeps D.keep
  have T' : TopH mean mg mb s.heap := T.keeps D.keep
  have hdep : adp + 6 < recursionLimit := S.dep
  refine enter_L (d := 5) (u := 37) (binds := [(Str.ofString "work", .ref f), (Str.ofString "args", .ref at_), (Str.ofString "wraps", .bool b)]) (led_self s.heap) X' T'.nolimit S (by k_is) (by k_is) (BindsTo.of_eq rfl) (locs rfl) ?_ rfl rfl rfl (by decide)
  intro L h₁ tk₁ F N lt hfr' hdp hun
  clear X T
  k_steps
  refine Stop.go ?_
  with_reducible rename Fr _ _ _ _ => F2
  with_reducible rename News _ _ _ _ => N2
  refine unpackN_ F2 N2 (News.isTup N2 (.tail _ (.tail _ (.head _)))) rfl rfl rfl fun h3 F3 N3 => ?_
  clear F2 N2
  k_steps
  with_reducible rename Fr s.heap _ _ _ => F9
  with_reducible rename News s.heap _ _ _ => N9
  rename Obj.IsDictOf _ _ _ => hdo
  obtain ⟨_, _, hex, _⟩ := id hdo
  refine hR _ _ _ _ (led_ext D F9 N9) ?_ ⟨_, _, _, _, _, .head _, .tail _ (.head _), ⟨_, _, rfl⟩, .tail _ (.tail _ (.tail _ (.head _))), rfl, rfl, rfl, rfl⟩ fun p hp q hq z => ?_
  · exact ((((So.hard (hard_seq (.inr (.inr (.inl hex.1))))).hard hard_tup).hard hard_tup).hard (hard_seq (.inr (.inr (.inl rfl))))).hard hard_hook
  · have := (N9 _ hp).2.2
    rw [← z, (D.at_ q hq).1] at this
    cases this
end Mine
namespace Mine
open PySem PySem.W PySem.Calls PyProof.Rows
local macro_rules | `(tactic| walk_at "call ref") => `(tactic| refine Stop.of ?_)
theorem kfillh2 : (PySem.Challenge.rw_fe0222_01, hd.heap_39) = (PySem.Challenge.rw_fe0222_01, hd.heap_39) := by
  k_fill
  rfl
def dword (me : Int) : Str := Str.ofString "d" ++ Str.ofString (toString me)
def wLog : Str := Str.ofString "log"
def wErrs (kind : Int) : Str := if kind = 3 then Str.ofString "nowhere" else Str.ofString "errs"
def SingleAt (nz : Ledger) (x : Addr) (me kind : Int) : Prop := ∃ at_, ImplAt nz x (if 3 < kind then 105 else 98) at_ (decide (3 < kind)) ∧ ArgsAt nz at_ [wLog, wErrs kind, dword me]
theorem single_of {nz : Ledger} {x f at_ : Addr} {me kind : Int} {t1 t2 t3 : Tok} {n : Nat} {we : Str} (I : ImplAt nz x f at_ (decide (3 < kind))) (h : (at_, tupOf [Value.str wLog t1, Value.str we t2, Value.str (dword me) t3].toArray n) ∈ nz) (hf : (if 3 < kind then (105 : Addr) else 98) = f) (hw : wErrs kind = we) : SingleAt nz x me kind := by
  subst hf hw
  exact ⟨at_, I, [(wLog, t1), (wErrs kind, t2), (dword me, t3)], n, h, rfl⟩
theorem single_con {w : World} {h₀ : Heap} {mean : ExcName → Option Value} {mg mb : Str → Option Value} (X : (hd.heap_39 w.params).In h₀) (T : TopH mean mg mb h₀) {A : Around} {s : Shared} {nz : Ledger} {outer : List Env} {R : Result → Shared → Prop} {dd : Addr} {me kind : Int}
    (D : Led h₀ s.heap nz) (S : Stand A nz outer 8 60) (hh : A.handled = none) (So : SoftOK nz) (DA : DeedAt nz dd me kind) (m0 : 0 ≤ me) (m1 : me ≤ 100)
    (hR : ∀ x h' tk' new, Led h₀ h' (new ++ nz) → SoftOK (new ++ nz) → SingleAt new x me kind → (∀ p ∈ new, ∀ q ∈ nz, q.1 ≠ p.1) → R (.ok (.ret (.ref x))) { s with heap := h', toks := tk' }) :
    codeAny (model pg w) A (.call (.ref 140) ⟨[.ref dd], []⟩) R s := by
  obtain ⟨t, u, n, hdd⟩ := DA
  unfold tupOf at hdd
  refine enter_L (d := 7) (u := 57) (binds := [(Str.ofString "deed", .ref dd)]) D X T.nolimit S (by k_is) (by k_is) (BindsTo.of_eq rfl) (locs rfl) ?_ rfl rfl rfl (by decide)
  intro L h₁ tk₁ F N lt hfr' hdp hun
  k_steps
  · refine Stop.go ?_
    with_reducible rename Fr _ _ _ _ => F4
    with_reducible rename News _ _ _ _ => N4
    rename ∀ p ∈ nz, p.1 < _ => l4
    obtain ⟨oL, hdL, hoL, DL⟩ := led_all F4 N4
    refine wpAny_call (impl_con (outer := _ :: outer) X T DL ⟨hfr', frames_cons (S.fs.mono fun _ q => .tail _ q) hdL rfl rfl, ?_, ?_⟩ hh ((So.hard hard_tup).frame hdL) fun x h5 tk5 new D5 So5 I5 f5 => ?_)
    · have := hdp; omega
    · have := hun; omega
    obtain ⟨D6, So6⟩ := pure_end (extra := [_]) D5 So5 hdL
    refine hR x h5 tk5 _ D6 So6 (single_of (I5.mono fun p hp => List.mem_append.mpr (.inl hp)) (List.mem_append.mpr (.inr (.head _))) (if_pos (by assumption)) (if_pos (by assumption))) ?_
    · rintro p hp q hq
      rcases List.mem_append.mp hp with hp | hp
      · exact f5 p hp q (.tail _ (.tail _ hq))
      · simp only [List.mem_cons, List.not_mem_nil, or_false] at hp
        subst hp
        exact Nat.ne_of_lt (l4 q hq)
  · refine Stop.go ?_
    with_reducible rename Fr _ _ _ _ => F4
    with_reducible rename News _ _ _ _ => N4
    rename ∀ p ∈ nz, p.1 < _ => l4
    obtain ⟨oL, hdL, hoL, DL⟩ := led_all F4 N4
    refine wpAny_call (impl_con (outer := _ :: outer) X T DL ⟨hfr', frames_cons (S.fs.mono fun _ q => .tail _ q) hdL rfl rfl, ?_, ?_⟩ hh ((So.hard hard_tup).frame hdL) fun x h5 tk5 new D5 So5 I5 f5 => ?_)
    · have := hdp; omega
    · have := hun; omega
    obtain ⟨D6, So6⟩ := pure_end (extra := [_]) D5 So5 hdL
    refine hR x h5 tk5 _ D6 So6 (single_of (I5.mono fun p hp => List.mem_append.mpr (.inl hp)) (List.mem_append.mpr (.inr (.head _))) (if_pos (by assumption)) (if_neg (by assumption))) ?_
    · rintro p hp q hq
      rcases List.mem_append.mp hp with hp | hp
      · exact f5 p hp q (.tail _ (.tail _ hq))
      · simp only [List.mem_cons, List.not_mem_nil, or_false] at hp
        subst hp
        exact Nat.ne_of_lt (l4 q hq)
  · refine Stop.go ?_
    with_reducible rename Fr _ _ _ _ => F4
    with_reducible rename News _ _ _ _ => N4
    rename ∀ p ∈ nz, p.1 < _ => l4
    obtain ⟨oL, hdL, hoL, DL⟩ := led_all F4 N4
    refine wpAny_call (impl_con (outer := _ :: outer) X T DL ⟨hfr', frames_cons (S.fs.mono fun _ q => .tail _ q) hdL rfl rfl, ?_, ?_⟩ hh ((So.hard hard_tup).frame hdL) fun x h5 tk5 new D5 So5 I5 f5 => ?_)
    · have := hdp; omega
    · have := hun; omega
    obtain ⟨D6, So6⟩ := pure_end (extra := [_]) D5 So5 hdL
    refine hR x h5 tk5 _ D6 So6 (single_of (I5.mono fun p hp => List.mem_append.mpr (.inl hp)) (List.mem_append.mpr (.inr (.head _))) (if_neg (by assumption)) (if_pos (by assumption))) ?_
    · rintro p hp q hq
      rcases List.mem_append.mp hp with hp | hp
      · exact f5 p hp q (.tail _ (.tail _ hq))
      · simp only [List.mem_cons, List.not_mem_nil, or_false] at hp
        subst hp
        exact Nat.ne_of_lt (l4 q hq)
  · refine Stop.go ?_
    with_reducible rename Fr _ _ _ _ => F4
    with_reducible rename News _ _ _ _ => N4
    rename ∀ p ∈ nz, p.1 < _ => l4
    obtain ⟨oL, hdL, hoL, DL⟩ := led_all F4 N4
    refine wpAny_call (impl_con (outer := _ :: outer) X T DL ⟨hfr', frames_cons (S.fs.mono fun _ q => .tail _ q) hdL rfl rfl, ?_, ?_⟩ hh ((So.hard hard_tup).frame hdL) fun x h5 tk5 new D5 So5 I5 f5 => ?_)
    · have := hdp; omega
    · have := hun; omega
    obtain ⟨D6, So6⟩ := pure_end (extra := [_]) D5 So5 hdL
    refine hR x h5 tk5 _ D6 So6 (single_of (I5.mono fun p hp => List.mem_append.mpr (.inl hp)) (List.mem_append.mpr (.inr (.head _))) (if_neg (by assumption)) (if_neg (by assumption))) ?_
    · rintro p hp q hq
      rcases List.mem_append.mp hp with hp | hp
      · exact f5 p hp q (.tail _ (.tail _ hq))
      · simp only [List.mem_cons, List.not_mem_nil, or_false] at hp
        subst hp
        exact Nat.ne_of_lt (l4 q hq)
end Mine
namespace Mine
open PySem PySem.W PySem.Calls PyProof.Rows
/-! the plain law's words: rows in the order of the call -/
inductive Row
  | nil
  | one (me kind : Int) (rest : Row)
  | part (inner rest : Row)
abbrev OL := Out × List Dat
def pre (l : List Dat) (p : OL) : OL := (p.1, l ++ p.2)
def postP (me kind : Int) (p : OL) : OL := (postO me kind p.1, p.2 ++ [postL me p.1])
def goOn (p q : OL) : OL := match p.1 with
  | .ok .none => pre p.2 q
  | _ => p
def oneP (me kind : Int) (q : OL) : OL := if kind = 3 then (.err (-1), []) else pre [inD me] (if kind = 2 ∨ kind = 8 then (.err me, []) else if kind = 9 then (.err (-2), []) else if kind = 1 then q else if 3 < kind then postP me kind q else (.ok (valueD me), []))
def run : Row → OL
  | .nil => (.ok .none, [])
  | .one me kind rest => oneP me kind (run rest)
  | .part inner rest => goOn (run inner) (run rest)
def unw : List (Int × Int) → OL → OL
  | [], p => p
  | x :: st, p => unw st (postP x.1 x.2 p)
theorem pre_pre (a b : List Dat) (p : OL) : pre a (pre b p) = pre (a ++ b) p := by simp [pre]
theorem pre_nil (p : OL) : pre [] p = p := rfl
theorem postP_pre (me kind : Int) (l : List Dat) (p : OL) : postP me kind (pre l p) = pre l (postP me kind p) := by simp [postP, pre]
theorem unw_pre (l : List Dat) : ∀ (st : List (Int × Int)) (p : OL), unw st (pre l p) = pre l (unw st p)
  | [], _ => rfl
  | x :: st, p => by rw [unw, postP_pre, unw_pre l st]; rfl
def cnt : Row → Nat
  | .nil => 0
  | .one _ _ r => cnt r + 1
  | .part i r => cnt i + cnt r
def dep : Row → Nat
  | .nil => 0
  | .one _ _ r => dep r
  | .part i r => max (dep i + 1) (dep r)
theorem run_len : ∀ r : Row, (run r).2.length ≤ 2 * cnt r
  | .nil => Nat.le_refl _
  | .one me kind r => by
    have ih := run_len r
    simp only [run, oneP, cnt]
    split
    · simp
    · simp only [pre]
      split
      · simp; omega
      · split
        · simp; omega
        · split
          · simp; omega
          · split
            · simp [postP]; omega
            · simp; omega
  | .part i r => by
    have h1 := run_len i
    have h2 := run_len r
    simp only [run, goOn, cnt]
    split
    · simp [pre]; omega
    · omega
/-- how large a result may be -/
def sizeOk (n : Nat) (d : Dat) : Prop := ldOk (n + 2) d = true ∧ ∀ ds, d = .list ds → ds.length ≤ n + 2
theorem ldOk_mono : ∀ {n : Nat} {d : Dat}, ldOk n d = true → ldOk (n + 1) d = true
  | 0, d, h => by cases d <;> first | rfl | (simp [ldOk] at h)
  | n + 1, d, h => by
    cases d with
    | list ds =>
      simp only [ldOk, Bool.and_eq_true, List.all_eq_true] at h ⊢
      exact ⟨fun x hx => ldOk_mono (h.1 x hx), h.2⟩
    | _ => first | rfl | (simp [ldOk] at h)
theorem sizeOk.mono {n n' : Nat} {d : Dat} (h : sizeOk n d) (hn : n ≤ n') : sizeOk n' d := by
  refine ⟨?_, fun ds e => Nat.le_trans (h.2 ds e) (by omega)⟩
  have : ∀ k, ldOk (n + 2 + k) d = true := fun k => by
    induction k with
    | zero => exact h.1
    | succ k ih => exact ldOk_mono ih
  have := this (n' - n)
  rwa [show n + 2 + (n' - n) = n' + 2 by omega] at this
/-! what stands around -/
structure Wd (w : World) (nz : Ledger) (lg er dl pt : Addr) (tab : List (Int × Addr)) (ds : List (Int × Int × Addr)) (ps : List (Str × Addr)) : Prop where
  err : ErrTab w nz er tab
  dlist : ∃ n, (dl, listOf (ds.map fun p => Value.ref p.2.2).toArray n) ∈ nz
  dl_ne : dl ≠ lg
  deed : ∀ p ∈ ds, DeedAt nz p.2.2 p.1 p.2.1 ∧ p.2.2 ≠ lg ∧ (∃ e, (p.1, e) ∈ tab) ∧ 0 ≤ p.1 ∧ p.1 ≤ 100
  low : (pt == sysModules) = false
  pdict : ∃ o, (pt, o) ∈ nz ∧ o.IsDictOf (strKind pg w) (ps.map fun p => (p.1, Value.ref p.2))
theorem dict_keep {w : World} {nz nz' : Ledger} {Mut fr : List Addr} {a : Addr} {o : Obj} {K : Type} [DecidableEq K] {knd : KeyKind pg w K} {kvs : List (K × Value)} (S : Step Mut fr nz nz') (M : MutSeq Mut nz) (hfr : a ∉ fr) (h1 : (a, o) ∈ nz) (h2 : o.IsDictOf knd kvs) : (a, o) ∈ nz' := by
  obtain ⟨es, ep, _, hd, _⟩ := id h2
  exact S.keepsD h1 (fun q => by obtain ⟨_, _, z⟩ := M _ q o h1; rw [hd] at z; cases z) hfr ⟨es, ep, hd⟩
theorem Wd.step {w : World} {nz nz' : Ledger} {lg er dl pt : Addr} {tab : List (Int × Addr)} {ds : List (Int × Int × Addr)} {ps : List (Str × Addr)} {fr : List Addr} (W : Wd w nz lg er dl pt tab ds ps) (S : Step [lg] fr nz nz') (M : MutSeq [lg] nz) (h1 : er ∉ fr) (h2 : pt ∉ fr) : Wd w nz' lg er dl pt tab ds ps := by
  refine ⟨W.err.step S M h1, ?_, W.dl_ne, fun p hp => ?_, W.low, ?_⟩
  · obtain ⟨n, h⟩ := W.dlist
    exact ⟨n, S.keeps h (by simpa using W.dl_ne) (fun _ q => by cases q) fun _ _ q => by cases q⟩
  · obtain ⟨a, b, c⟩ := W.deed p hp
    exact ⟨a.step S (by simpa using b), b, c⟩
  · obtain ⟨o, a, b⟩ := W.pdict
    exact ⟨o, dict_keep S M h2 a b, b⟩
theorem Wd.sub {w : World} {nz nz' : Ledger} {lg er dl pt : Addr} {tab : List (Int × Addr)} {ds : List (Int × Int × Addr)} {ps : List (Str × Addr)} (W : Wd w nz lg er dl pt tab ds ps) (s : ∀ p ∈ nz, p ∈ nz') : Wd w nz' lg er dl pt tab ds ps := by
  have S : Step [] [] nz nz' := Step.sub s
  refine ⟨W.err.step S (MutSeq.nil _) (by simp), ?_, W.dl_ne, fun p hp => ?_, W.low, ?_⟩
  · obtain ⟨n, h⟩ := W.dlist
    exact ⟨n, s _ h⟩
  · obtain ⟨a, b, c⟩ := W.deed p hp
    exact ⟨a.step S (by simp), b, c⟩
  · obtain ⟨o, a, b⟩ := W.pdict
    exact ⟨o, s _ a, b⟩
def wDeeds : Str := Str.ofString "deeds"
def wParts : Str := Str.ofString "parts"
/-- the words' table -/
structure TableAt (w : World) (nz : Ledger) (tb lg er dl pt : Addr) (ds : List (Int × Int × Addr)) (ps : List (Str × Addr)) : Prop where
  low : (tb == sysModules) = false
  at_ : ∃ (o : Obj) (kvs : List (Str × Value)), (tb, o) ∈ nz ∧ o.IsDictOf (strKind pg w) kvs ∧ valueAt kvs wLog = some (.ref lg) ∧ valueAt kvs (Str.ofString "errs") = some (.ref er) ∧ valueAt kvs (Str.ofString "nowhere") = none ∧
    valueAt kvs wDeeds = some (.ref dl) ∧ valueAt kvs wParts = some (.ref pt) ∧ (∀ p ∈ ds, valueAt kvs (dword p.1) = some (.ref p.2.2)) ∧ (∀ p ∈ ps, valueAt kvs p.1 = some (.ref p.2))
theorem TableAt.step {w : World} {nz nz' : Ledger} {tb lg er dl pt : Addr} {ds : List (Int × Int × Addr)} {ps : List (Str × Addr)} {Mut fr : List Addr} (T : TableAt w nz tb lg er dl pt ds ps) (S : Step Mut fr nz nz') (M : MutSeq Mut nz) (hfr : tb ∉ fr) : TableAt w nz' tb lg er dl pt ds ps := by
  obtain ⟨o, kvs, h1, h2, r⟩ := T.at_
  exact ⟨T.low, o, kvs, dict_keep S M hfr h1 h2, h2, r⟩
/-- a row of implementations, in the order of the call -/
inductive RowAt (nz : Ledger) (lg : Addr) (ds : List (Int × Int × Addr)) (ps : List (Str × Addr)) : List Value → Row → Prop
  | nil : RowAt nz lg ds ps [] .nil
  | one {x : Addr} {me kind : Int} {dd : Addr} {vs : List Value} {rest : Row} : SingleAt nz x me kind → (me, kind, dd) ∈ ds → RowAt nz lg ds ps vs rest → RowAt nz lg ds ps (.ref x :: vs) (.one me kind rest)
  | part {x at_ il : Addr} {word : Str} {n : Nat} {vs ws : List Value} {inner rest : Row} : ImplAt nz x 126 at_ false → ArgsAt nz at_ [wLog, Str.ofString "errs", wDeeds, wParts, word] → (word, il) ∈ ps → il ≠ lg → (il, listOf ws.reverse.toArray n) ∈ nz →
      RowAt nz lg ds ps ws inner → RowAt nz lg ds ps vs rest → RowAt nz lg ds ps (.ref x :: vs) (.part inner rest)
theorem SingleAt.step {nz nz' : Ledger} {x : Addr} {me kind : Int} {Mut fr : List Addr} (h : SingleAt nz x me kind) (S : Step Mut fr nz nz') (M : MutSeq Mut nz) (hm : ∀ a ∈ Mut, ∀ o, (a, o) ∈ nz → o.cls = .type "list") : SingleAt nz' x me kind := by
  obtain ⟨a, h1, h2⟩ := h
  exact ⟨a, h1.step S M hm, h2.step S hm⟩
theorem RowAt.step {nz nz' : Ledger} {lg : Addr} {ds : List (Int × Int × Addr)} {ps : List (Str × Addr)} {fr : List Addr} {vs : List Value} {r : Row} (h : RowAt nz lg ds ps vs r) (S : Step [lg] fr nz nz') (M : MutSeq [lg] nz) (hm : ∀ a ∈ [lg], ∀ o, (a, o) ∈ nz → o.cls = .type "list") : RowAt nz' lg ds ps vs r := by
  induction h with
  | nil => exact .nil
  | one h1 h2 _ ih => exact .one (h1.step S M hm) h2 ih
  | part h1 h2 h3 h4 h5 _ _ ih1 ih2 => exact .part (h1.step S M hm) (h2.step S hm) h3 h4 (S.keeps h5 (by simpa using h4) (fun _ q => by cases q) fun _ _ q => by cases q) ih1 ih2
theorem RowAt.mono {nz nz' : Ledger} {lg : Addr} {ds : List (Int × Int × Addr)} {ps : List (Str × Addr)} {vs : List Value} {r : Row} (h : RowAt nz lg ds ps vs r) (s : ∀ p ∈ nz, p ∈ nz') : RowAt nz' lg ds ps vs r := by
  have S : Step [] [] nz nz' := Step.sub s
  induction h with
  | nil => exact .nil
  | one h1 h2 _ ih => exact .one (h1.step S (MutSeq.nil _) fun _ q => nomatch q) h2 ih
  | part h1 h2 h3 h4 h5 _ _ ih1 ih2 => exact .part (h1.mono s) (h2.mono s) h3 h4 (s _ h5) ih1 ih2
/-- own things turn, those from before do not -/
theorem Step.thru {Mut M' fr fr' : List Addr} {a b c : Ledger} (x : Step Mut fr a b) (y : Step M' fr' b c) (hm : ∀ z ∈ M', z ∈ Mut ∨ ∀ p ∈ a, p.1 ≠ z) (hf : ∀ z ∈ fr', z ∈ fr ∨ ∀ p ∈ a, p.1 ≠ z) : Step Mut fr a c := fun p hp hn => by
  obtain ⟨o', h1, h2, h3⟩ := x p hp hn
  obtain ⟨o'', h4, h5, h6⟩ := y _ h1 fun q => (hm _ q).elim hn fun z => z p hp rfl
  refine ⟨o'', h4, h2.trans h5, fun q d => ?_⟩
  have e := h3 q d
  subst e
  exact h6 (fun z => (hf _ z).elim q fun z => z p hp rfl) d
/-- as enter_L, for a def with a cell -/
theorem enter_LC {w : World} {A : Around} {s : Shared} {h₀ : Heap} {nz nzs : Ledger} {outer : List Env} {R : Result → Shared → Prop} {name qual : Str} {params : Arguments} {body : List Stmt} {scope : Scope} {dV kV doc pm cdv ct oc : Value} {an od : Option Addr} {osl : Array (Option Value)} {f : Addr} {args : Args} {binds : List (Str × Value)} {d u : Nat} {cn : Str}
    (D : Led h₀ s.heap nz) (X : KIn w h₀) (lim : h₀.NoLimit) (S : Stand A nzs outer (d + 1) (u + 3))
    (ho : (hd.heap_39 w.params).lookup f = some ⟨oc, od, .func (fnOf name qual params body scope dV kV doc pm an cdv ct), osl⟩) (hcd : codeIn (hd.heap_39 w.params) cdv qual = true)
    (hbind : BindsTo s (fnOf name qual params body scope dV kV doc pm an cdv ct) args binds) (hkind : (binds.all fun y => scope.names.lookup y.1 == some .local || scope.names.lookup y.1 == some .cell) = true)
    (hnd : ((cellsFrom 0 scope.names []).map (·.1)).Nodup) (hone : ∀ L : Addr, cellsFrom (L + 1) scope.names [] = [(cn, L + 1)])
    (h : ∀ L h₁ tk oc, Fr h₀ L h₁ (bindL (envOfC qual scope L f cdv).kindOf binds fun _ => none) → News h₀ L h₁ ((L + 1, oc) :: nz) → oc.data = .cell (bindC (envOfC qual scope L f cdv).kindOf binds (fun _ => none) cn) → (∀ p ∈ nz, p.1 < L) →
      (A.deeper (envOfC qual scope L f cdv)).frames = some (envOfC qual scope L f cdv :: outer) → (A.deeper (envOfC qual scope L f cdv)).depth + d < recursionLimit → (A.deeper (envOfC qual scope L f cdv)).units + u < cLine →
      wpAny (model pg w) (A.deeper (envOfC qual scope L f cdv)) (execs body (envOfC qual scope L f cdv))
        (fun fl s' => R (.ok (.ret (match fl with | .ret v => v | _ => .none))) s') (RaisesTo h₀ L outer R) { s with heap := h₁, toks := tk })
    (hco : scope.isCoroutine = false) (hgen : scope.isGenerator = false) (hk : scope.kind = .function) : codeAny (model pg w) A (.call (.ref f) args) R s := by
  have hX : KIn w s.heap := X.keeps D.keep
  refine codeAny_call_function (by have := S.dep; omega) (hX _ _ ho) rfl hco hgen rfl (codeRec_of hX hcd) (hbind _ _ _ _ ?_)
  refine wpAny_newFunctionEnv_cells hk (kindsX hkind _) fun env' he s' x => ?_
  subst he
  refine ⟨(lim.keeps D.keep).keeps x.toInCall.keep, codeAny_func ?_⟩
  obtain ⟨h₁, tk, rfl, _⟩ := x.done
  have hk₁ := x.toInCall.keep
  obtain ⟨cells, NC, Y⟩ := Cl.news (h₀ := s.heap) (Nat.le_refl _) fun n c hm => ⟨x.cell n c (lookup_of_mem_nodup (cellsFrom_names scope.names 0 (s.heap.objs.size + 1) [] [] rfl ▸ hnd) hm), x.above n c hm⟩
  rw [hone] at Y
  obtain ⟨oc', rfl, hoc⟩ := CellsAre.one Y
  have F : Fr h₀ s.heap.objs.size h₁ _ := ⟨x.toInCall.ns, fun b o e => hk₁ _ _ (D.keep _ _ e), D.size⟩
  have lt : ∀ p ∈ nz, p.1 < s.heap.objs.size := fun p hp => Heap.lt_size (D.at_ p hp).1
  have N : News h₀ s.heap.objs.size h₁ ((s.heap.objs.size + 1, oc') :: nz) := fun p hp => by
    rcases List.mem_cons.mp hp with rfl | hp
    · have q := NC _ (.head _)
      refine ⟨q.1, q.2.1, ?_⟩
      cases z : h₀.get? (s.heap.objs.size + 1) with
      | none => rfl
      | some o => have := D.keep _ _ z; rw [q.2.2] at this; cases this
    · exact ⟨hk₁ _ _ (D.at_ p hp).1, Nat.ne_of_lt (lt p hp), (D.at_ p hp).2⟩
  have hfr : (A.deeper (envOfC qual scope s.heap.objs.size f cdv)).frames = some (envOfC qual scope s.heap.objs.size f cdv :: outer) := Around.frames_deeper S.fr
  refine wpAny_mono (h _ h₁ tk oc' F N hoc lt hfr (by have := S.dep; show A.depth + 1 + d < _; omega) (by have := S.un; show A.units + 3 + u < _; omega)) (fun _ _ x => x) fun e s' hr => ?_
  obtain ⟨ea, oe, m, news, rfl, F', N', Ok, he, hx, Fs, hR⟩ := hr
  exact leaving_L F' N' Ok he hx hfr Fs rfl (by show scope.kind ≠ _; rw [hk]; decide) fun h' news' A' nt => hR h' news' A' nt
end Mine
namespace Mine
open PySem PySem.W PySem.Calls PyProof.Rows
structure WordsOK (ds : List (Int × Int × Addr)) (ps : List (Str × Addr)) : Prop where
  nd : (ds.map (fun p => dword p.1) ++ ps.map (·.1)).Nodup
  off : ∀ x ∈ [wLog, Str.ofString "errs", wDeeds, wParts, Str.ofString "nowhere"], x ∉ ds.map (fun p => dword p.1) ++ ps.map (·.1)
def kvs0 (lg er dl pt : Addr) : List (Str × Value) := [(wLog, .ref lg), (Str.ofString "errs", .ref er), (wDeeds, .ref dl), (wParts, .ref pt)]
def kvsD (ds : List (Int × Int × Addr)) : List (Str × Value) := ds.map fun p => (dword p.1, Value.ref p.2.2)
def kvsP (ps : List (Str × Addr)) : List (Str × Value) := ps.map fun p => (p.1, Value.ref p.2)
theorem words_nodup {ds : List (Int × Int × Addr)} {ps : List (Str × Addr)} (WO : WordsOK ds ps) (lg er dl pt : Addr) : ((kvs0 lg er dl pt ++ (kvsD ds ++ kvsP ps)).map (·.1)).Nodup := by
  have e : (kvsD ds ++ kvsP ps).map (·.1) = ds.map (fun p => dword p.1) ++ ps.map (·.1) := by simp [kvsD, kvsP, Function.comp_def]
  rw [List.map_append, e, List.nodup_append]
  refine ⟨by show [wLog, Str.ofString "errs", wDeeds, wParts].Nodup; decide, WO.nd, fun a ha b hb q => ?_⟩
  subst q
  refine WO.off a ?_ hb
  have ha' : a ∈ [wLog, Str.ofString "errs", wDeeds, wParts] := ha
  simp only [List.mem_cons, List.not_mem_nil, or_false] at ha' ⊢
  rcases ha' with h | h | h | h <;> simp [h]
theorem valueAt_mem {K : Type} [DecidableEq K] {kvs : List (K × Value)} (hn : (kvs.map (·.1)).Nodup) {k : K} {v : Value} (h : (k, v) ∈ kvs) : valueAt kvs k = some v := by
  obtain ⟨i, hi⟩ := List.mem_iff_getElem?.mp h
  exact valueAt_of_get hn hi
theorem mem_uno {α : Type} {a b : α} (q : b ∈ [a]) : b = a := (List.mem_cons.mp q).elim id fun z => nomatch z
theorem setItem_L {w : World} {A : Around} {E : Value → Shared → Prop} {s : Shared} {h₀ : Heap} {L d : Addr} {m : Str → Option Value} {nz : Ledger} {o : Obj} {K : Type} [DecidableEq K] {knd : KeyKind pg w K} {kvs : List (K × Value)} {k : K} {key v : Value} {Q : Unit → Shared → Prop}
    (F : Fr h₀ L s.heap m) (N : News h₀ L s.heap nz) (hd : (d, o) ∈ nz) (hdict : o.IsDictOf knd kvs) (hkey : knd.is k key = true) (hnew : k ∉ kvs.map (·.1)) (hz : kvs.length ≤ sizeLine)
    (h : ∀ h' o', Fr h₀ L h' m → News h₀ L h' ((d, o') :: without nz d) → o'.IsDictOf knd (kvs ++ [(k, v)]) → Q () { s with heap := h', toks := s.toks + 1 }) : wpAny (model pg w) A (setItem (.ref d) key v) Q E s := by
  refine wpAny_setItem_pairs hkey (Heap.dictOf_iff.mpr ⟨o, (N _ hd).1, hdict⟩) (fun h' hd' hs => ?_) hz
  obtain ⟨o', ho', hdo'⟩ := Heap.dictOf_iff.mp hd'
  rw [stored_absent (valueAt_none_of_not_mem hnew)] at hdo'
  obtain ⟨F', N'⟩ := same_fr F N hd hs ho'
  exact h h' o' F' N' hdo'
theorem IsDictOf.hard {w : World} {K : Type} [DecidableEq K] {knd : KeyKind pg w K} {kvs : List (K × Value)} {o : Obj} (h : o.IsDictOf knd kvs) : ¬ IsSoft o := by
  obtain ⟨_, _, hex, _⟩ := h
  exact hard_seq (.inr (.inr (.inl hex.1)))
theorem kvsD_take {ds : List (Int × Int × Addr)} {k : Nat} {p : Int × Int × Addr} (h : ds[k]? = some p) : kvsD (ds.take (k + 1)) = kvsD (ds.take k) ++ [(dword p.1, Value.ref p.2.2)] := by
  unfold kvsD
  rw [List.take_add_one, h]
  simp
theorem kvsP_take {ps : List (Str × Addr)} {k : Nat} {p : Str × Addr} (h : ps[k]? = some p) : kvsP (ps.take (k + 1)) = kvsP (ps.take k) ++ [(p.1, Value.ref p.2)] := by
  unfold kvsP
  rw [List.take_add_one, h]
  simp
theorem nodup_next {α : Type} {l r : List α} {x : α} (h : (l ++ x :: r).Nodup) : x ∉ l := fun q => by
  rw [List.nodup_append] at h
  exact h.2.2 x q x (.head _) rfl
local macro_rules | `(tactic| walk_at "exec For") => `(tactic| refine Stop.of ?_)
local macro_rules | `(tactic| walk_at "setItem ref") => `(tactic| refine Stop.of ?_)
theorem kfillht : (PySem.Challenge.rw_fe0222_01, hd.heap_39) = (PySem.Challenge.rw_fe0222_01, hd.heap_39) := by
  k_fill
  rfl
theorem table_con {w : World} {h₀ : Heap} {mean : ExcName → Option Value} {mg mb : Str → Option Value} (X : (hd.heap_39 w.params).In h₀) (T : TopH mean mg mb h₀) {A : Around} {s : Shared} {nz : Ledger} {outer : List Env} {R : Result → Shared → Prop} {lg er dl pt : Addr} {tab : List (Int × Addr)} {ds : List (Int × Int × Addr)} {ps : List (Str × Addr)}
    (D : Led h₀ s.heap nz) (So : SoftOK nz) (S : Stand A nz outer 4 60) (hh : A.handled = none) (W : Wd w nz lg er dl pt tab ds ps) (WO : WordsOK ds ps) (hl1 : ds.length ≤ 100) (hl2 : ps.length ≤ 100)
    (hR : ∀ tb h' tk' new, Led h₀ h' (new ++ nz) → SoftOK (new ++ nz) → TableAt w new tb lg er dl pt ds ps → (∀ p ∈ new, ∀ q ∈ nz, q.1 ≠ p.1) → R (.ok (.ret (.ref tb))) { s with heap := h', toks := tk' }) :
    codeAny (model pg w) A (.call (.ref 119) ⟨[.ref lg, .ref er, .ref dl, .ref pt], []⟩) R s := by
  refine enter_L (d := 3) (u := 57) (binds := [(Str.ofString "log", .ref lg), (Str.ofString "errs", .ref er), (Str.ofString "deeds", .ref dl), (Str.ofString "parts", .ref pt)]) D X T.nolimit S (by k_is) (by k_is) (BindsTo.of_eq rfl) (locs rfl) ?_ rfl rfl rfl (by decide)
  intro L h₁ tk₁ F N lt hfr' hdp hun
  have ltb : ∀ p ∈ nz, p.1 ≠ h₁.objs.size := fun p hp => Nat.ne_of_lt (Heap.lt_size (N p hp).1)
  have Dnz := led_of F N
  have FrL := lt
  k_steps
  refine Stop.go ?_
  with_reducible rename Fr _ _ _ _ => F1
  with_reducible rename News _ _ _ _ => N1
  rename Obj.IsDictOf _ _ _ => hd1
  replace hd1 : Obj.IsDictOf (strKind pg w) _ (kvs0 lg er dl pt) := hd1
  rename (_ == sysModules) = false => low1
  replace F1 : Fr h₀ L _ (fun y => if y = Str.ofString "table" then some (Value.ref h₁.objs.size) else List.lookup y [(Str.ofString "log", Value.ref lg), (Str.ofString "errs", Value.ref er), (Str.ofString "deeds", Value.ref dl), (Str.ofString "parts", Value.ref pt)].reverse) := F1
  generalize htb : h₁.objs.size = tb at *
  obtain ⟨nl, hdl⟩ := W.dlist
  refine wpAny_For ?_
  walk1
  refine wpAny_pyIter_list ⟨_, (N1 _ (.tail _ hdl)).1, rfl, nl, rfl⟩ ?_
  have F2 := F1.push { cls := .type "list_iterator", data := .fields #[.ref dl, .int 0 0] }
  have N2 := News.push F1 N1 { cls := .type "list_iterator", data := .fields #[.ref dl, .int 0 0] }
  have hfI := fresh_at N1
  clear F1 N1
  rename Heap => hp
  have hIt : tb ≠ hp.objs.size := hfI _ (.head _)
  have hIn : ∀ p ∈ nz, p.1 ≠ hp.objs.size := fun p hp => hfI p (.tail _ hp)
  generalize hp.objs.size = I at *
  refine forLoop_T (fun n s' => ∃ k h' tk o' oI vl, n = ds.length - k ∧ k ≤ ds.length ∧ s' = { s with heap := h', toks := tk } ∧
      Fr h₀ L h' (fun y => if y = Str.ofString "deed" then vl else if y = Str.ofString "table" then some (Value.ref tb) else List.lookup y [(Str.ofString "log", Value.ref lg), (Str.ofString "errs", Value.ref er), (Str.ofString "deeds", Value.ref dl), (Str.ofString "parts", Value.ref pt)].reverse) ∧
      News h₀ L h' ((tb, o') :: (I, oI) :: nz) ∧ ItAt oI dl k ∧ o'.IsDictOf (strKind pg w) (kvs0 lg er dl pt ++ kvsD (ds.take k))) ?_ ds.length ⟨0, _, _, _, { cls := .type "list_iterator", data := .fields #[.ref dl, .int (0 : Nat) 0] }, none, rfl, Nat.zero_le _, rfl, fr_fun F2 ?_, ?_, ⟨rfl, rfl⟩, by simpa [kvsD] using hd1⟩
  · rintro n s' ⟨k, h', tk', o', oI, vl, rfl, hk', rfl, F, N, KI, hdo⟩
    cases hv : ds[k]? with
    | none =>
      refine next_end hh F N (.tail _ (.head _)) KI (.tail _ (.tail _ hdl)) rfl rfl (by simp [hv]) fun h'' F3 N3 => ?_
      have hkl : k = ds.length := Nat.le_antisymm hk' (by simpa using hv)
      rw [hkl, List.take_length] at hdo
      have N4 : News h₀ L h'' ((tb, o') :: nz) := fun q hq => by
        rcases List.mem_cons.mp hq with rfl | hq
        · exact N3 _ (without_mem (.head _) hIt)
        · exact N3 q (mem_without.mpr ⟨.tail _ (.tail _ hq), hIn q hq⟩)
      clear F N N3
      k_steps
      refine Stop.go ?_
      refine wpAny_For ?_
      walk1
      obtain ⟨op, hpt, hpd⟩ := W.pdict
      obtain ⟨esp, epp, hexp, hdatp, hkp, hpp, hnp⟩ := id hpd
      have hAt : h''.DictAt (strKind pg w) pt (ps.map fun p => (p.1, Value.ref p.2)) epp := ⟨op, esp, (N4 _ (.tail _ hpt)).1, hexp, hdatp, hkp, hpp, hnp⟩
      refine wpAny_pyIter_dict (knd := strKind pg w) W.low hAt ?_
      have F5 := F3.push { cls := .type "dict_keyiterator", data := .fields #[.ref pt, .int 0 0, .int (ps.map fun p => (p.1, Value.ref p.2)).length 0, .int epp 0] }
      have N5 := News.push F3 N4 { cls := .type "dict_keyiterator", data := .fields #[.ref pt, .int 0 0, .int (ps.map fun p => (p.1, Value.ref p.2)).length 0, .int epp 0] }
      have hfJ := fresh_at N4
      clear F3 N4
      have hJt : tb ≠ h''.objs.size := hfJ _ (.head _)
      have hJn : ∀ p ∈ nz, p.1 ≠ h''.objs.size := fun p hp => hfJ p (.tail _ hp)
      generalize h''.objs.size = J at *
      refine forLoop_T (fun n s' => ∃ k h' tk o' oI vw, n = ps.length - k ∧ k ≤ ps.length ∧ s' = { s with heap := h', toks := tk } ∧
          Fr h₀ L h' (fun y => if y = Str.ofString "word" then vw else if y = Str.ofString "deed" then vl else if y = Str.ofString "table" then some (Value.ref tb) else List.lookup y [(Str.ofString "log", Value.ref lg), (Str.ofString "errs", Value.ref er), (Str.ofString "deeds", Value.ref dl), (Str.ofString "parts", Value.ref pt)].reverse) ∧
          News h₀ L h' ((tb, o') :: (J, oI) :: nz) ∧ KeyIt oI pt k ps.length epp ∧ o'.IsDictOf (strKind pg w) (kvs0 lg er dl pt ++ kvsD ds ++ kvsP (ps.take k))) ?_ ps.length ⟨0, _, _, _, { cls := .type "dict_keyiterator", data := .fields #[.ref pt, .int 0 0, .int (ps.map fun p => (p.1, Value.ref p.2)).length 0, .int epp 0] }, none, rfl, Nat.zero_le _, rfl, fr_fun F5 ?_, ?_, ⟨rfl, by simp⟩, by simpa [kvsP] using hdo⟩
      · rintro n s' ⟨k, h', tk', o', oI, vw, rfl, hk', rfl, F, N, KI, hdo⟩
        cases hv : ps[k]? with
        | none =>
          refine dict_end_any (knd := strKind pg w) (.inl hh) (by show A.handled ≠ _; rw [hh]; intro q; cases q) (keyIt_of (N _ (.tail _ (.head _))).1 ((List.length_map ..).symm ▸ KI)) ⟨op, esp, (N _ (.tail _ (.tail _ hpt))).1, hexp, hdatp, hkp, hpp, hnp⟩ (by rw [List.getElem?_map, hv]; rfl) fun h8 hs8 => ?_
          obtain ⟨F3, N3⟩ := ext_fr F N (N _ (.tail _ (.head _))).2.1 (N _ (.tail _ (.head _))).2.2 hs8
          have hkl : k = ps.length := Nat.le_antisymm hk' (by simpa using hv)
          rw [hkl, List.take_length] at hdo
          have N4 : News h₀ L h8 ((tb, o') :: nz) := fun q hq => by
            rcases List.mem_cons.mp hq with rfl | hq
            · exact N3 _ (without_mem (.head _) hJt)
            · exact N3 q (mem_without.mpr ⟨.tail _ (.tail _ hq), hJn q hq⟩)
          clear F N N3
          k_steps
          have hn := words_nodup WO lg er dl pt
          rw [List.append_assoc] at hdo
          refine hR tb _ _ [(tb, o')] (led_of F3 N4) (So.hard (IsDictOf.hard hdo)) ⟨low1, o', _, .head _, hdo, ?_, ?_, ?_, ?_, ?_, fun p hp => ?_, fun p hp => ?_⟩ fun p hp q hq => by rw [mem_uno hp]; exact ltb q hq
          · exact valueAt_mem hn (List.mem_append.mpr (.inl (.head _)))
          · exact valueAt_mem hn (List.mem_append.mpr (.inl (.tail _ (.head _))))
          · refine valueAt_none_of_not_mem fun q => ?_
            rw [List.map_append] at q
            rcases List.mem_append.mp q with q | q
            · revert q
              show Str.ofString "nowhere" ∉ [wLog, Str.ofString "errs", wDeeds, wParts]
              decide
            · refine WO.off (Str.ofString "nowhere") (by simp) ?_
              have e : (kvsD ds ++ kvsP ps).map (·.1) = ds.map (fun p => dword p.1) ++ ps.map (·.1) := by simp [kvsD, kvsP, Function.comp_def]
              rw [← e]; exact q
          · exact valueAt_mem hn (List.mem_append.mpr (.inl (.tail _ (.tail _ (.head _)))))
          · exact valueAt_mem hn (List.mem_append.mpr (.inl (.tail _ (.tail _ (.tail _ (.head _))))))
          · exact valueAt_mem hn (List.mem_append.mpr (.inr (List.mem_append.mpr (.inl (List.mem_map.mpr ⟨p, hp, rfl⟩)))))
          · exact valueAt_mem hn (List.mem_append.mpr (.inr (List.mem_append.mpr (.inr (List.mem_map.mpr ⟨p, hp, rfl⟩)))))
        | some p =>
          refine wpAny_pyNext_dict_item (knd := strKind pg w) (k := p.1) (v := .ref p.2) (keyIt_of (N _ (.tail _ (.head _))).1 ((List.length_map ..).symm ▸ KI)) ⟨op, esp, (N _ (.tail _ (.tail _ hpt))).1, hexp, hdatp, hkp, hpp, hnp⟩ (by rw [List.getElem?_map, hv]; rfl) fun key h8 hkey hit hs8 => ?_
          obtain ⟨oI', hoI', hI1, hI2⟩ := hit
          obtain ⟨F3, N3⟩ := same_fr F N (.tail _ (.head _)) hs8 hoI'
          obtain ⟨tm, rfl⟩ := Value.isStrOf_shape hkey
          have hkl : k < ps.length := by
            rcases Nat.lt_or_ge k ps.length with q | q
            · exact q
            · rw [List.getElem?_eq_none q] at hv; cases hv
          refine wpAny_assign_Name ?_
          refine stN F3 N3 fun h4 F4 N4 => ?_
          have F5 := fr_fun F4 store_again
          have N5 : News h₀ L h4 ((tb, o') :: (J, oI') :: nz) := fun q hq => by
            rcases List.mem_cons.mp hq with rfl | hq
            · exact N4 _ (.tail _ (without_mem (.head _) hJt))
            · rcases List.mem_cons.mp hq with rfl | hq
              · exact N4 _ (.head _)
              · exact N4 q (.tail _ (mem_without.mpr ⟨.tail _ (.tail _ hq), hJn q hq⟩))
          clear F N F3 N3 F4 N4
          have hnew : p.1 ∉ (kvs0 lg er dl pt ++ kvsD ds ++ kvsP (ps.take k)).map (·.1) := by
            have e : ps = ps.take k ++ p :: ps.drop (k + 1) := by
              rw [List.getElem?_eq_getElem hkl, Option.some.injEq] at hv
              rw [← hv, ← List.drop_eq_getElem_cons hkl, List.take_append_drop]
            have := words_nodup WO lg er dl pt
            rw [e] at this
            simp only [kvsP, List.map_append, List.map_cons] at this ⊢
            rw [← List.append_assoc, ← List.append_assoc] at this
            exact nodup_next this
          k_steps
          refine sub_dict (knd := strKind pg w) N5 (.tail _ (.tail _ hpt)) hpd hkey (valueAt_of_get hnp (i := k) (by rw [List.getElem?_map, hv]; rfl)) ?_ (by with_unfolding_all rfl)
          k_steps
          refine Stop.go ?_
          with_reducible rename Fr _ _ _ _ => F6
          with_reducible rename News _ _ _ _ => N6
          refine setItem_L (knd := strKind pg w) (k := p.1) F6 N6 (.head _) hdo hkey hnew ?_ fun h7 o7 F7 N7 hd7 => ?_
          · have h1 : (kvs0 lg er dl pt ++ kvsD ds ++ kvsP (ps.take k)).length = 4 + ds.length + k := by
              simp only [kvsD, kvsP, List.length_append, List.length_map, List.length_take]
              show 4 + _ + _ = _
              rw [Nat.min_eq_left (Nat.le_of_lt hkl)]
            have h2 : (400 : Nat) ≤ sizeLine := by decide
            rw [h1]; omega
          clear F6
          k_steps
          refine ⟨ps.length - (k + 1), by omega, k + 1, h7, _, o7, oI', _, rfl, hkl, rfl, F7, fun q hq => N7 q ?_, ⟨hI1, by rw [hI2, List.length_map]⟩, by rw [kvsP_take hv, ← List.append_assoc]; exact hd7⟩
          rcases List.mem_cons.mp hq with rfl | hq
          · exact .head _
          · rcases List.mem_cons.mp hq with rfl | hq
            · exact .tail _ (without_mem (.tail _ (.head _)) hJt.symm)
            · exact .tail _ (mem_without.mpr ⟨.tail _ (.tail _ hq), ltb q hq⟩)
      · intro y
        by_cases q : y = Str.ofString "word"
        · subst q; rfl
        · rw [if_neg q]
      · intro p hp
        rcases List.mem_cons.mp hp with rfl | hp
        · exact N5 _ (.tail _ (.head _))
        · rcases List.mem_cons.mp hp with rfl | hp
          · exact N5 _ (.head _)
          · exact N5 p (.tail _ (.tail _ hp))
    | some p =>
      refine next_item F N (.tail _ (.head _)) KI (.tail _ (.tail _ hdl)) rfl rfl (x := .ref p.2.2) (by simp [hv]) fun h'' oI' KI' F3 N3 => ?_
      have hkl : k < ds.length := by
        rcases Nat.lt_or_ge k ds.length with q | q
        · exact q
        · rw [List.getElem?_eq_none q] at hv; cases hv
      refine wpAny_assign_Name ?_
      refine stN F3 N3 fun h4 F4 N4 => ?_
      have F5 := fr_fun F4 store_again
      have hmem := List.mem_of_getElem? hv
      obtain ⟨⟨t, u, nd, hdd⟩, -, -, hb1, hb2⟩ := W.deed p hmem
      have N5 : News h₀ L h4 ((tb, o') :: (I, oI') :: (p.2.2, tupOf #[.int p.1 t, .int p.2.1 u] nd) :: nz) := fun q hq => by
        rcases List.mem_cons.mp hq with rfl | hq
        · exact N4 _ (.tail _ (without_mem (.head _) hIt))
        · rcases List.mem_cons.mp hq with rfl | hq
          · exact N4 _ (.head _)
          · rcases List.mem_cons.mp hq with rfl | hq
            · exact N4 _ (.tail _ (without_mem (.tail _ (.tail _ hdd)) (hIn _ hdd)))
            · exact N4 q (.tail _ (mem_without.mpr ⟨.tail _ (.tail _ hq), hIn q hq⟩))
      clear F N F3 N3 F4 N4
      unfold tupOf at N5
      have hnew : dword p.1 ∉ (kvs0 lg er dl pt ++ kvsD (ds.take k)).map (·.1) := by
        have e : ds = ds.take k ++ p :: ds.drop (k + 1) := by
          rw [List.getElem?_eq_getElem hkl, Option.some.injEq] at hv
          rw [← hv, ← List.drop_eq_getElem_cons hkl, List.take_append_drop]
        have := words_nodup WO lg er dl pt
        rw [e] at this
        simp only [kvsD, List.map_append, List.map_cons, List.append_assoc, List.cons_append] at this ⊢
        rw [← List.append_assoc] at this
        exact nodup_next this
      k_steps
      refine Stop.go ?_
      with_reducible rename Fr _ _ _ _ => F6
      with_reducible rename News _ _ _ _ => N6
      refine setItem_L (knd := strKind pg w) (k := dword p.1) F6 N6 (.head _) hdo (strKind_is _ _ _ _) hnew ?_ fun h7 o7 F7 N7 hd7 => ?_
      · have h1 : (kvs0 lg er dl pt ++ kvsD (ds.take k)).length = 4 + k := by
          simp only [kvsD, List.length_append, List.length_map, List.length_take]
          show 4 + _ = _
          rw [Nat.min_eq_left (Nat.le_of_lt hkl)]
        have h2 : (200 : Nat) ≤ sizeLine := by decide
        rw [h1]; omega
      clear F6
      k_steps
      refine ⟨ds.length - (k + 1), by omega, k + 1, h7, _, o7, oI', _, rfl, hkl, rfl, F7, fun q hq => N7 q ?_, KI', by rw [kvsD_take hv, ← List.append_assoc]; exact hd7⟩
      rcases List.mem_cons.mp hq with rfl | hq
      · exact .head _
      · rcases List.mem_cons.mp hq with rfl | hq
        · exact .tail _ (without_mem (.tail _ (.head _)) hIt.symm)
        · exact .tail _ (mem_without.mpr ⟨.tail _ (.tail _ (.tail _ hq)), ltb q hq⟩)
  · intro y
    by_cases q : y = Str.ofString "deed"
    · subst q; rfl
    · rw [if_neg q]
  · intro p hp
    rcases List.mem_cons.mp hp with rfl | hp
    · exact N2 _ (.tail _ (.head _))
    · rcases List.mem_cons.mp hp with rfl | hp
      · exact N2 _ (.head _)
      · exact N2 p (.tail _ (.tail _ hp))
end Mine
namespace Mine
open PySem PySem.W PySem.Calls PyProof.Rows
def pword (i : Nat) : Str := Str.ofString "part" ++ Str.ofString (toString (10 + (i : Int)))
def Same (a : Addr) (nz nz' : Ledger) : Prop := ∀ p ∈ nz, p.1 ≠ a → p ∈ nz'
theorem frames_same {nz nz' : Ledger} {outer : List Env} {a : Addr} (h : FramesIn nz outer) (S : Same a nz nz') (ha : a ∉ outer.filterMap (·.frame)) : FramesIn nz' outer := fun env he => by
  obtain ⟨h1, L, o, h2, h3, h4⟩ := h env he
  exact ⟨h1, L, o, h2, S _ h3 (fun q => ha (List.mem_filterMap.mpr ⟨env, he, (show L = a from q) ▸ h2⟩)), h4⟩
local macro_rules | `(tactic| walk_at "call ref") => `(tactic| refine Stop.of ?_)
local macro_rules | `(tactic| walk_at "setItem ref") => `(tactic| refine Stop.of ?_)
local macro_rules | `(tactic| walk_at "call builtin:len") => `(tactic| refine Stop.of ?_)
local macro_rules | `(tactic| walk_at "subscriptTail Name Slice ref ref") => `(tactic| refine Stop.of ?_)
local macro_rules | `(tactic| k_mem) => `(tactic| assumption)
theorem kfillj1 : (PySem.Challenge.rw_fe0222_01, hd.heap_39) = (PySem.Challenge.rw_fe0222_01, hd.heap_39) := by
  k_fill
  rfl
theorem folded_con {w : World} {h₀ : Heap} {mean : ExcName → Option Value} {mg mb : Str → Option Value} (X : (hd.heap_39 w.params).In h₀) (T : TopH mean mg mb h₀) {A : Around} {s : Shared} {nz : Ledger} {outer : List Env} {R : Result → Shared → Prop} {rw pt : Addr} {o : Obj} {ps : List (Str × Addr)} {ws : List Value} {n : Nat}
    (D : Led h₀ s.heap nz) (So : SoftOK nz) (S : Stand A nz outer 8 70) (hh : A.handled = none) (hrw : (rw, listOf ws.toArray n) ∈ nz) (hpt : (pt, o) ∈ nz) (hpd : o.IsDictOf (strKind pg w) (kvsP ps)) (low : (pt == sysModules) = false) (hl : ps.length ≤ 100) (hw : ws.length ≤ 100) (hnew : pword ps.length ∉ ps.map (·.1)) (hptf : pt ∉ outer.filterMap (·.frame))
    (hR : ∀ rl il x at_ o' n1 n2 h' tk' nz', Led h₀ h' nz' → SoftOK nz' → Same pt nz nz' → (pt, o') ∈ nz' → o'.IsDictOf (strKind pg w) (kvsP (ps ++ [(pword ps.length, il)])) → (il, listOf ws.reverse.toArray n1) ∈ nz' → (∀ p ∈ nz, p.1 ≠ il) → (∃ nwI, ImplAt nwI x 126 at_ false ∧ ∀ p ∈ nwI, p ∈ nz' ∧ (∀ q ∈ nz, q.1 ≠ p.1) ∧ p.1 ≠ rl) → ArgsAt nz' at_ [wLog, Str.ofString "errs", wDeeds, wParts, pword ps.length] → (∀ q ∈ nz, q.1 ≠ at_) →
      (rl, listOf [Value.ref x].toArray n2) ∈ nz' → (∀ p ∈ nz, p.1 ≠ rl) → il ≠ rl → at_ ≠ rl → R (.ok (.ret (.ref rl))) { s with heap := h', toks := tk' }) :
    codeAny (model pg w) A (.call (.ref 147) ⟨[.ref rw, .ref pt], []⟩) R s := by
  refine enter_L (d := 7) (u := 67) (binds := [(Str.ofString "row", .ref rw), (Str.ofString "parts", .ref pt)]) D X T.nolimit S (by k_is) (by k_is) (BindsTo.of_eq rfl) (locs rfl) ?_ rfl rfl rfl (by decide)
  intro L h₁ tk₁ F N lt hfr' hdp hun
  k_steps
  refine Stop.go ?_
  refine kda_len N hpt hpd low (by rw [kvsP, List.length_map]; omega) ?_
  rw [show (kvsP ps).length = ps.length from List.length_map _]
  have hpw : pword ps.length = Str.ofString "part" ++ Str.ofString (toString (10 + (ps.length : Int))) := rfl
  walk1
  walk1
  walk1
  walk1
  walk1
  walk1
  have b0 : 0 ≤ 10 + (ps.length : Int) := by omega
  have b1 : 10 + (ps.length : Int) ≤ 200 := by omega
  have hz1 : (200 : Nat) ≤ sizeLine := by decide
  generalize hkk : 10 + (ps.length : Int) = kk at *
  k_steps
  refine Stop.go ?_
  with_reducible rename Fr _ _ _ _ => F2
  with_reducible rename News _ _ _ _ => N2
  refine krv_lit (its := ws.toArray) (zs := ws.reverse) F2 N2 ⟨_, (N2 _ hrw).1, rfl, n, rfl⟩ (IsPart.int _ _) rfl (fun il h3 F3 N3 l3 => ?_) (by with_unfolding_all rfl) (by intro _; with_unfolding_all rfl) (by simp only [List.size_toArray]; omega)
  clear F2 N2
  k_steps
  refine Stop.go ?_
  with_reducible rename Fr _ _ _ _ => F4
  with_reducible rename News _ _ _ _ => N4
  have hpil : pt ≠ il := Nat.ne_of_lt (l3 _ hpt)
  refine setItem_L (knd := strKind pg w) (k := pword ps.length) F4 N4 (.tail _ hpt) hpd (by rw [hpw]; exact strKind_is _ _ _ _) (by rw [show (kvsP ps).map (·.1) = ps.map (·.1) by simp [kvsP, Function.comp_def]]; exact hnew) (by rw [kvsP, List.length_map]; omega) fun h5 o5 F5 N5 hd5 => ?_
  rw [show kvsP ps ++ [(pword ps.length, Value.ref il)] = kvsP (ps ++ [(pword ps.length, il)]) by simp [kvsP]] at hd5
  have So5 : SoftOK ((pt, o5) :: without ((il, listOf ws.reverse.toArray 0) :: nz) pt) := softOK_turn N4 (So.hard hard_list) (.tail _ hpt) (IsDictOf.hard hpd) (IsDictOf.hard hd5)
  have l5 : ∀ p ∈ nz, p.1 < il := l3
  clear F4
  k_steps
  refine Stop.go ?_
  with_reducible rename Fr _ _ _ _ => F6
  with_reducible rename News _ _ _ _ => N6
  rename _ ∧ AllLt _ _ => l6
  rename_i tD D2 _
  have l7 : ∀ p ∈ nz, p.1 < D2 := fun p hp => by
    by_cases q : p.1 = pt
    · rw [q]; exact l6.1
    · exact allLt_at l6.2 p (mem_without.mpr ⟨.tail _ hp, q⟩)
  have hil7 : il < D2 := allLt_at l6.2 (il, listOf ws.reverse.toArray 0) (without_mem (.head _) hpil.symm)
  have SM : Same pt nz ((pt, o5) :: without ((il, listOf ws.reverse.toArray 0) :: nz) pt) := fun p hp hne => .tail _ (mem_without.mpr ⟨.tail _ hp, hne⟩)
  obtain ⟨nk, N7, So7, SM7, hpt7, hil7', hat7⟩ : ∃ nk : Ledger, News h₀ L _ nk ∧ SoftOK nk ∧ Same pt nz nk ∧ (pt, o5) ∈ nk ∧ (il, listOf ws.reverse.toArray 0) ∈ nk ∧ ArgsAt nk D2 [wLog, Str.ofString "errs", wDeeds, wParts, Str.ofString "part" ++ Str.ofString (toString kk)] :=
    ⟨_, N6, So5.hard hard_tup, fun p hp hne => .tail _ (SM p hp hne), .tail _ (.head _), .tail _ (.tail _ (without_mem (.head _) hpil.symm)), ⟨[(wLog, _), (Str.ofString "errs", _), (wDeeds, _), (wParts, _), (Str.ofString "part" ++ Str.ofString (toString kk), _)], _, .head _, rfl⟩⟩
  rw [← hpw] at hat7
  clear N6
  obtain ⟨oL, hdL, hoL, DL⟩ := led_all F6 N7
  refine wpAny_call (impl_con (outer := _ :: outer) X T DL ⟨hfr', frames_cons (frames_same S.fs SM7 hptf) hdL rfl rfl, by omega, by omega⟩ hh (So7.frame hdL) fun x h7 tk7 new D7 So8 I7 f7 => ?_)
  have St7 : Step [] (L :: outer.filterMap (·.frame)) ((L, oL) :: nk) (new ++ (L, oL) :: nk) := Step.sub fun p hp => List.mem_append.mpr (.inr hp)
  have BK := call_back (fr := outer.filterMap (·.frame)) (Mut := []) F6 N7 hoL hdL D7 St7 So8 (by simp)
  have F8 := BK.fr
  have N8 := BK.nw
  have So9 := BK.so
  have sub8 : ∀ p ∈ nk, p ∈ without (new ++ (L, oL) :: nk) L := fun p hp => mem_without.mpr ⟨List.mem_append.mpr (.inr (.tail _ hp)), (N7 p hp).2.1⟩
  have hI8 : ∀ p ∈ new, p ∈ without (new ++ (L, oL) :: nk) L ∧ ∀ q ∈ nz, q.1 ≠ p.1 := fun p hp => ⟨mem_without.mpr ⟨List.mem_append.mpr (.inl hp), fun q => f7 p hp (L, oL) (.head _) q.symm⟩, fun q hq => by
    by_cases e : q.1 = pt
    · rw [e]; exact f7 p hp (pt, o5) (.tail _ hpt7)
    · exact f7 p hp q (.tail _ (SM7 q hq e))⟩
  clear BK F6 N7
  generalize without (new ++ (L, oL) :: nk) L = nv at *
  k_steps
  with_reducible rename Fr _ _ _ _ => F9
  with_reducible rename News _ _ _ _ => N9
  rename ∀ p ∈ nv, p.1 < _ => fr9
  refine hR _ il x D2 o5 0 0 _ _ _ (led_of F9 N9) (So9.hard hard_list) (fun p hp hne => .tail _ (sub8 _ (SM7 p hp hne))) (.tail _ (sub8 _ hpt7)) hd5 (.tail _ (sub8 _ hil7')) (fun p hp => Nat.ne_of_lt (l5 p hp)) ⟨new, I7, fun p hp => ⟨.tail _ (hI8 p hp).1, (hI8 p hp).2, Nat.ne_of_lt (fr9 p (hI8 p hp).1)⟩⟩ ((hat7.mono sub8).mono fun _ q => .tail _ q) (fun q hq => Nat.ne_of_lt (l7 q hq)) (.head _) (fun p hp => ?_) (Nat.ne_of_lt (fr9 _ (sub8 _ hil7'))) (let ⟨_, _, g1, _⟩ := hat7; Nat.ne_of_lt (fr9 _ (sub8 _ g1)))
  by_cases q : p.1 = pt
  · rw [q]; exact Nat.ne_of_lt (fr9 _ (sub8 _ hpt7))
  · exact Nat.ne_of_lt (fr9 _ (sub8 _ (SM7 p hp q)))
end Mine
namespace Mine
open PySem PySem.W PySem.Calls PyProof.Rows
def wrapM (m : Int) (r : Row) : Row := if 1 < m then .part r .nil else r
def units : List (Int × Int) → List Int → List (Int × (Row → Row))
  | d1 :: d2 :: ds, m1 :: m2 :: ms => if m1 = 1 ∧ d1.2 < 4 ∧ d2.2 < 4 then (m1, Row.part (.one d1.1 d1.2 (.one d2.1 d2.2 .nil))) :: units ds ms else (m1, Row.one d1.1 d1.2) :: units (d2 :: ds) (m2 :: ms)
  | [d1], m1 :: _ => [(m1, Row.one d1.1 d1.2)]
  | _, _ => []
def foldU : List (Int × (Row → Row)) → Row
  | [] => .nil
  | u :: us => wrapM u.1 (u.2 (foldU us))
theorem RowAt.more {nz nz' : Ledger} {lg : Addr} {ds : List (Int × Int × Addr)} {ps ps' : List (Str × Addr)} {vs : List Value} {r : Row} (h : RowAt nz lg ds ps vs r) (s : ∀ p ∈ nz, p ∈ nz') (t : ∀ p ∈ ps, p ∈ ps') : RowAt nz' lg ds ps' vs r := by
  have S : Step [] [] nz nz' := Step.sub s
  induction h with
  | nil => exact .nil
  | one h1 h2 _ ih => exact .one (h1.step S (MutSeq.nil _) fun _ q => nomatch q) h2 ih
  | part h1 h2 h3 h4 h5 _ _ ih1 ih2 => exact .part (h1.mono s) (h2.mono s) (t _ h3) h4 (s _ h5) ih1 ih2
inductive HeadAt (nz : Ledger) (lg : Addr) (ds : List (Int × Int × Addr)) (ps : List (Str × Addr)) (x : Addr) : (Row → Row) → Prop
  | one {me kind : Int} {dd : Addr} : SingleAt nz x me kind → (me, kind, dd) ∈ ds → HeadAt nz lg ds ps x (Row.one me kind)
  | part {at_ il : Addr} {word : Str} {n : Nat} {ws : List Value} {inner : Row} : ImplAt nz x 126 at_ false → ArgsAt nz at_ [wLog, Str.ofString "errs", wDeeds, wParts, word] → (word, il) ∈ ps → il ≠ lg → (il, listOf ws.reverse.toArray n) ∈ nz → RowAt nz lg ds ps ws inner → HeadAt nz lg ds ps x (Row.part inner)
theorem HeadAt.more {nz nz' : Ledger} {lg : Addr} {ds : List (Int × Int × Addr)} {ps ps' : List (Str × Addr)} {x : Addr} {g : Row → Row} (h : HeadAt nz lg ds ps x g) (s : ∀ p ∈ nz, p ∈ nz') (t : ∀ p ∈ ps, p ∈ ps') : HeadAt nz' lg ds ps' x g := by
  cases h with
  | one h1 h2 => exact .one (h1.step (Step.sub s : Step [] [] nz nz') (MutSeq.nil _) fun _ q => nomatch q) h2
  | part h1 h2 h3 h4 h5 h6 => exact .part (h1.mono s) (h2.mono s) (t _ h3) h4 (s _ h5) (h6.more s t)
theorem HeadAt.row {nz : Ledger} {lg : Addr} {ds : List (Int × Int × Addr)} {ps : List (Str × Addr)} {x : Addr} {g : Row → Row} {vs : List Value} {r : Row} (h : HeadAt nz lg ds ps x g) (hr : RowAt nz lg ds ps vs r) : RowAt nz lg ds ps (.ref x :: vs) (g r) := by
  cases h with
  | one h1 h2 => exact .one h1 h2 hr
  | part h1 h2 h3 h4 h5 h6 => exact .part h1 h2 h3 h4 h5 h6 hr
inductive UnitAt (nz : Ledger) (lg : Addr) (ds : List (Int × Int × Addr)) (ps : List (Str × Addr)) (ms : List Int) : Value → (Int × (Row → Row)) → Prop
  | mk {t sl x : Addr} {k : Nat} {u : Tok} {n1 n2 : Nat} {m : Int} {g : Row → Row} : (t, tupOf #[.int (k : Int) u, .ref sl] n1) ∈ nz → (sl, listOf [Value.ref x].toArray n2) ∈ nz → HeadAt nz lg ds ps x g → ms[k]? = some m → UnitAt nz lg ds ps ms (.ref t) (m, g)
inductive UnitsAt (nz : Ledger) (lg : Addr) (ds : List (Int × Int × Addr)) (ps : List (Str × Addr)) (ms : List Int) : List Value → List (Int × (Row → Row)) → Prop
  | nil : UnitsAt nz lg ds ps ms [] []
  | cons {v : Value} {vs : List Value} {u : Int × (Row → Row)} {us : List (Int × (Row → Row))} : UnitAt nz lg ds ps ms v u → UnitsAt nz lg ds ps ms vs us → UnitsAt nz lg ds ps ms (v :: vs) (u :: us)
theorem UnitsAt.more {nz nz' : Ledger} {lg : Addr} {ds : List (Int × Int × Addr)} {ps ps' : List (Str × Addr)} {ms : List Int} {vs : List Value} {us : List (Int × (Row → Row))} (h : UnitsAt nz lg ds ps ms vs us) (s : ∀ p ∈ nz, p ∈ nz') (t : ∀ p ∈ ps, p ∈ ps') : UnitsAt nz' lg ds ps' ms vs us := by
  induction h with
  | nil => exact .nil
  | cons h1 _ ih =>
    cases h1 with
    | mk a b c d => exact .cons (.mk (s _ a) (s _ b) (c.more s t) d) ih
theorem UnitsAt.append {nz : Ledger} {lg : Addr} {ds : List (Int × Int × Addr)} {ps : List (Str × Addr)} {ms : List Int} {vs ws : List Value} {us us' : List (Int × (Row → Row))} (h : UnitsAt nz lg ds ps ms vs us) (k : UnitsAt nz lg ds ps ms ws us') : UnitsAt nz lg ds ps ms (vs ++ ws) (us ++ us') := by
  induction h with
  | nil => exact k
  | cons h1 _ ih => exact .cons h1 ih
theorem UnitsAt.length {nz : Ledger} {lg : Addr} {ds : List (Int × Int × Addr)} {ps : List (Str × Addr)} {ms : List Int} {vs : List Value} {us : List (Int × (Row → Row))} (h : UnitsAt nz lg ds ps ms vs us) : vs.length = us.length := by
  induction h with
  | nil => rfl
  | cons _ _ ih => simp [ih]
theorem UnitsAt.at {nz : Ledger} {lg : Addr} {ds : List (Int × Int × Addr)} {ps : List (Str × Addr)} {ms : List Int} {vs : List Value} {us : List (Int × (Row → Row))} (h : UnitsAt nz lg ds ps ms vs us) : ∀ {i : Nat} {v : Value}, vs[i]? = some v → ∃ u, us[i]? = some u ∧ UnitAt nz lg ds ps ms v u := by
  induction h with
  | nil => intro i v hv; simp at hv
  | cons h1 _ ih =>
    intro i v hv
    cases i with
    | zero => simp only [List.getElem?_cons_zero, Option.some.injEq] at hv ⊢; subst hv; exact ⟨_, rfl, h1⟩
    | succ i => simp only [List.getElem?_cons_succ] at hv ⊢; exact ih hv
def MarksAt (nz : Ledger) (mk : Addr) (ms : List Int) : Prop := ∃ (mt : List (Int × Tok)) (n : Nat), (mk, listOf (mt.map fun p => Value.int p.1 p.2).toArray n) ∈ nz ∧ mt.map (·.1) = ms
def WordsP (ps : List (Str × Addr)) : Prop := ps.map (·.1) = (List.range ps.length).map pword
theorem pword_inj : ∀ i j : Fin 40, pword i = pword j → i = j := by decide +kernel
theorem wordsP_new {ps : List (Str × Addr)} (h : WordsP ps) (hl : ps.length ≤ 30) : pword ps.length ∉ ps.map (·.1) := by
  rw [h]
  intro q
  obtain ⟨i, hi, e⟩ := List.mem_map.mp q
  have hi' := List.mem_range.mp hi
  have := pword_inj ⟨i, by omega⟩ ⟨ps.length, by omega⟩ e
  simp only [Fin.mk.injEq] at this
  omega
theorem wordsP_snoc {ps : List (Str × Addr)} (h : WordsP ps) (il : Addr) : WordsP (ps ++ [(pword ps.length, il)]) := by
  unfold WordsP at *
  rw [List.map_append, h, List.length_append, List.length_singleton, List.range_succ, List.map_append]
  rfl
/-- the test of one step -/
def pairs (ds : List (Int × Int)) (ms : List Int) : Bool := match ds, ms with
  | d1 :: d2 :: _, m1 :: _ => decide (m1 = 1 ∧ d1.2 < 4 ∧ d2.2 < 4)
  | _, _ => false
theorem units_pair {ds : List (Int × Int)} {ms : List Int} (h : pairs ds ms = true) (hl : ms.length = ds.length) : ∃ d1 d2 ds' m1 m2 ms', ds = d1 :: d2 :: ds' ∧ ms = m1 :: m2 :: ms' ∧ units ds ms = (m1, Row.part (.one d1.1 d1.2 (.one d2.1 d2.2 .nil))) :: units ds' ms' := by
  match ds, ms with
  | d1 :: d2 :: ds', m1 :: m2 :: ms' =>
    simp only [pairs, decide_eq_true_eq] at h
    exact ⟨d1, d2, ds', m1, m2, ms', rfl, rfl, by rw [units, if_pos h]⟩
  | d1 :: d2 :: ds', [m1] => simp at hl
  | [], _ => simp [pairs] at h
  | [_], _ => simp [pairs] at h
  | _ :: _ :: _, [] => simp [pairs] at h
theorem units_one {ds : List (Int × Int)} {ms : List Int} {d1 : Int × Int} {m1 : Int} (h : pairs (d1 :: ds) (m1 :: ms) = false) (hl : ms.length = ds.length) : units (d1 :: ds) (m1 :: ms) = (m1, Row.one d1.1 d1.2) :: units ds ms := by
  match ds, ms with
  | d2 :: ds', m2 :: ms' =>
    simp only [pairs, decide_eq_false_iff_not] at h
    rw [units, if_neg h]
  | [], [] => rfl
  | [], _ :: _ => simp at hl
  | _ :: _, [] => simp at hl
end Mine
namespace Mine
open PySem PySem.W PySem.Calls PyProof.Rows
theorem noteFrame_same {env env' : Env} (h : env.frame = env'.frame) (e : Value) : noteFrame e env = noteFrame e env' := by
  unfold noteFrame PySem.frameOf
  rw [h]
def TItAt (o : Obj) (t : Addr) (k : Nat) : Prop := o.cls = .type "tuple_iterator" ∧ o.data = .fields #[.ref t, .int k 0]
theorem TItAt.hard {o : Obj} {l k} (h : TItAt o l k) : ¬ IsSoft o := by
  rintro (q | q | q | q | q) <;> (rw [h.1] at q; revert q; decide)
section
variable {w : World} {A : Around} {E : Value → Shared → Prop} {s : Shared} {h₀ : Heap} {L : Addr} {m : Str → Option Value} {nz : Ledger}
theorem frame_turn {h : Heap} {C : Addr} {mC : Str → Option Value} {oL : Obj} (FC : Fr h₀ C h mC) (NC : News h₀ C h ((L, oL) :: nz)) (hn : h.Ns L m) (hab : h₀.objs.size ≤ L) :
    ∃ oC, (∃ es ep, oC.data = .dict es ep) ∧ Fr h₀ L h m ∧ News h₀ L h ((C, oC) :: without nz L) := by
  obtain ⟨oC, es, ep, ho, hd⟩ := ns_obj FC
  have hCL : C ≠ L := fun q => (NC (L, oL) (.head _)).2.1 q.symm
  refine ⟨oC, ⟨es, ep, hd⟩, ⟨hn, FC.keep, hab⟩, fun p hp => ?_⟩
  rcases List.mem_cons.mp hp with rfl | hp
  · exact ⟨ho, hCL, base_none FC⟩
  · obtain ⟨h1, h2⟩ := mem_without.mp hp
    exact ⟨(NC p (.tail _ h1)).1, h2, (NC p (.tail _ h1)).2.2⟩
theorem passOn_L {M : Model} {α : Type} {what : String} {e : Addr} {oe : Obj} {cenv : Env} {Q : α → Shared → Prop} (F : Fr h₀ L s.heap m) (N : News h₀ L s.heap nz) (So : SoftOK nz) (he : (e, oe) ∈ nz) (hx : IsExc oe) (tb : TBOf nz oe)
    (h : ∀ h' nz', Aft h₀ L m nz [] h' nz' → (e, oe) ∈ nz' → E (.ref e) { s with heap := h' }) : wpAny M A (PySem.passOn what (.ref e) cenv : Sem α) Q E s := by
  obtain ⟨vs, T, oT, ts, h1, h2, a, b, c, d, z⟩ := tb
  unfold PySem.passOn
  refine wpAny_bind (wpAny_field (N _ he).1 h1 a ?_)
  rw [if_neg (show ¬ (Value.ref T == Value.none) = true from by simp)]
  first
    | exact wpAny_bind (flight_L F N So he hx fun h' nz' A' ke => wpAny_throw (h h' nz' A' ke))
    | exact wpAny_bind (wpAny_pure (wpAny_bind (flight_L F N So he hx fun h' nz' A' ke => wpAny_throw (h h' nz' A' ke))))
theorem args_L {env fenv : Env} {outer : List Env} {x k y : Str} {px pk pk' py pe : Pos} {iter : Expr} {cscope : Scope} {cl : List (Str × Addr)} {pos spos : Pos} {cA tb at_ : Addr} {oc o : Obj} {ts : List (Str × Tok)} {nt : Nat} {kvs : List (Str × Value)} {Q : Flow → Shared → Prop}
    (hh : A.handled = none)
    (hsw : swapsWith (.ListComp (.Subscript (.Name k pk) (.Name x pk') pe) [⟨.Name x px, iter, [], 0⟩] cscope pos) (some (.Name y py)) spos.line env = pure true)
    (hs : ∀ v, foldedSetIterable iter env v = pure v)
    (hclos : closureFor cscope env = pure cl) (hcell : ∀ z ∈ cscope.names, z.2 ≠ .cell) (hkind : cscope.kind = .function) (hnames : ∀ z ∈ cscope.names, z.2 = .local → cscope.names.lookup z.1 = some .local) (hx : cscope.names.lookup x = some .local)
    (hkc : (relabel cscope env).names.lookup k = some .cell) (hclk : cl.lookup k = some cA) (hdk : (k == ("__debug__" : Str)) = false) (hdx : (x == ("__debug__" : Str)) = false)
    (hloc : env.locals = L) (hfr : env.frame = some L) (hffr : fenv.frame = some L) (hy : env.kindOf y = some .local) (hek : env.scope.kind = .function) (hfk : fenv.scope.kind ≠ .module)
    (hA : A.frames = some (fenv :: outer)) (Fs : FramesIn nz outer)
    (F : Fr h₀ L s.heap m) (N : News h₀ L s.heap nz) (So : SoftOK nz) (hcA : (cA, oc) ∈ nz) (hoc : oc.data = .cell (some (.ref tb))) (hat : (at_, tupOf (ts.map fun p => Value.str p.1 p.2).toArray nt) ∈ nz) (hsz : ts.length ≤ 100)
    (htb : (tb, o) ∈ nz) (hdict : o.IsDictOf (strKind pg w) kvs) (low : (tb == sysModules) = false)
    (hev : ∀ {Q : Value → Shared → Prop} {E : Value → Shared → Prop}, (∀ tk, Q (.ref at_) { s with toks := tk }) → wpAny (model pg w) A (eval iter env) Q E s)
    (hR : ∀ (h' : Heap) (tk : Tok) (D : Addr) (n' : Nat) (vs : List Value), ts.map (fun p => valueAt kvs p.1) = vs.map some → Fr h₀ L h' (fun z => if z = y then some (.ref D) else m z) → News h₀ L h' ((D, listOf vs.toArray n') :: nz) → (∀ p ∈ nz, p.1 < D) → Q .next { s with heap := h', toks := tk })
    (hE : ∀ e oe h' tk nz', (∃ p ∈ ts, valueAt kvs p.1 = none) → Fr h₀ L h' m → News h₀ L h' nz' → Step [] (outer.filterMap (·.frame)) nz nz' → SoftOK nz' → (e, oe) ∈ nz' → IsExc oe → CtxNone oe → oe.cls = .type "KeyError" → Noted nz' e → E (.ref e) { s with heap := h', toks := tk }) :
    wpAny (model pg w) A (exec (.Assign [.Name y py] (.ListComp (.Subscript (.Name k pk) (.Name x pk') pe) [⟨.Name x px, iter, [], 0⟩] cscope pos) spos) env) Q E s := by
  rw [exec_Assign_Name_used _ _ _ _ hsw]
  refine wpAny_bind (wpAny_standAt (wpAny_bind ?_))
  show wpAny _ A (do let _ ← comprehension (.ListComp (.Subscript (.Name k pk) (.Name x pk') pe) [⟨.Name x px, iter, [], 0⟩] cscope pos) cscope env _ (newList []) false (eval iter env) (some (assign (.Name y py) env))) _ _ s
  refine wpAny_bind (wpAny_mono (wpAny_comprehension_free (use := some (assign (.Name y py) env)) (Q := fun _ s' => Q .next s') rfl hs hclos hkind hnames (hev fun tk₁ => ?_)) (fun _ s' hq => wpAny_pure (wpAny_pure hq)) fun _ _ e => e)
  have hT : ({ s with toks := tk₁ } : Shared).heap.IsTuple at_ (ts.map fun p => Value.str p.1 p.2).toArray := ⟨_, (N _ hat).1, rfl, nt, rfl⟩
  refine wpAny_pyIter_tuple hT (wpAny_newObj_type (hd := by size_fits) (wpAny_newFunctionEnv hcell (by intro z hz; simp at hz) (fun h₁ hns₁ hsb₁ => ?_) hkind))
  dsimp only at hns₁ hsb₁ ⊢
  obtain ⟨oL, hdL, hoL, -⟩ := led_all F N
  have hLs : L < s.heap.objs.size := Heap.lt_size hoL
  have FI := F.push { cls := .type "tuple_iterator", data := .fields #[.ref at_, .int 0 0] }
  have NI := News.push F N { cls := .type "tuple_iterator", data := .fields #[.ref at_, .int 0 0] }
  generalize hH1 : s.heap.push { cls := .type "tuple_iterator", data := .fields #[.ref at_, .int 0 0] } = H1 at hns₁ hsb₁ FI NI ⊢
  have hs1 : H1.objs.size = s.heap.objs.size + 1 := by rw [← hH1, Heap.size_push]
  have FD := FI.push { cls := .type "list", dict := none, data := .seq ([] : List Value).toArray }
  have ND := News.push FI NI { cls := .type "list", dict := none, data := .seq ([] : List Value).toArray }
  generalize hH2 : H1.push { cls := .type "list", dict := none, data := .seq ([] : List Value).toArray } = H2 at hns₁ hsb₁ FD ND ⊢
  have hs2 : H2.objs.size = s.heap.objs.size + 2 := by rw [← hH2, Heap.size_push, hs1]
  have old : ∀ b o, H2.get? b = some o → h₁.get? b = some o := fun b o e => by
    rw [hsb₁.2 b (Nat.ne_of_lt (Heap.lt_size e))]
    exact Heap.get?_push_of_some _ e
  obtain ⟨F1, N1⟩ := stay_fr FD ND old
  obtain ⟨oL', hdL', hoL', -⟩ := led_all F1 N1
  have nsL := F1.ns
  have abL := F1.above
  have FC : Fr h₀ H2.objs.size h₁ (fun _ => none) := ⟨hns₁, F1.keep, Nat.le_trans F.above (Nat.le_trans (Nat.le_of_lt hLs) (by rw [hs2]; exact Nat.le_add_right _ _))⟩
  have ltN : ∀ p ∈ (L, oL') :: nz, p.1 < s.heap.objs.size := fun p hp => by
    rcases List.mem_cons.mp hp with rfl | hp
    · exact hLs
    · exact Heap.lt_size (N p hp).1
  have NC : News h₀ H2.objs.size h₁ ((H1.objs.size, listOf ([] : List Value).toArray 0) :: (s.heap.objs.size, { cls := .type "tuple_iterator", data := .fields #[.ref at_, .int (0 : Nat) 0] }) :: (L, oL') :: nz) := by
    intro p hp
    rcases List.mem_cons.mp hp with rfl | hp
    · have := N1 (H1.objs.size, _) (.head _)
      exact ⟨this.1, by show H1.objs.size ≠ H2.objs.size; omega, this.2.2⟩
    · rcases List.mem_cons.mp hp with rfl | hp
      · have := N1 (s.heap.objs.size, _) (.tail _ (.head _))
        exact ⟨this.1, by show s.heap.objs.size ≠ H2.objs.size; omega, this.2.2⟩
      · rcases List.mem_cons.mp hp with rfl | hp
        · exact ⟨hoL', Nat.ne_of_lt (Nat.lt_of_lt_of_le hLs (by rw [hs2]; exact Nat.le_add_right _ _)), base_none F⟩
        · have q := N1 p (.tail _ (.tail _ hp))
          have := Heap.lt_size (N p hp).1
          exact ⟨q.1, Nat.ne_of_lt (Nat.lt_of_lt_of_le this (by rw [hs2]; exact Nat.le_add_right _ _)), q.2.2⟩
  have hDI : H1.objs.size ≠ s.heap.objs.size := by rw [hs1]; exact Nat.ne_of_gt (Nat.lt_succ_self _)
  have hDs : s.heap.objs.size < H1.objs.size := by rw [hs1]; exact Nat.lt_succ_self _
  have hCs : H1.objs.size < H2.objs.size := by rw [hs2, hs1]; exact Nat.lt_succ_self _
  generalize s.heap.objs.size = I at *
  generalize H1.objs.size = D at *
  generalize H2.objs.size = C at *
  clear hH1 hH2 FD ND FI NI F1 N1 old hsb₁ hs1 hs2
  have loop : ∀ tk₂, codeAny (model pg w) A (.compLoop (.ListComp (.Subscript (.Name k pk) (.Name x pk') pe) [⟨.Name x px, iter, [], 0⟩] cscope pos) 0 (.ref I) (.ref D) (compEnvC cscope cl C env))
      (compPost (model pg w) A E (some (assign (.Name y py) env)) (fun _ s' => Q .next s') (.ref D) C) { s with heap := h₁, toks := tk₂ } := by
    intro tk₂
    refine codeAny_compLoop_list (fun j s' => ∃ (i : Nat) (h' : Heap) (tk : Tok) (mC : Str → Option Value) (vs : List Value) (n' : Nat) (oI : Obj), j = ts.length - i ∧ i ≤ ts.length ∧ s' = { s with heap := h', toks := tk } ∧ (ts.take i).map (fun p => valueAt kvs p.1) = vs.map some ∧ Fr h₀ C h' mC ∧ TItAt oI at_ i ∧ h'.Ns L m ∧
      News h₀ C h' ((D, listOf vs.toArray n') :: (I, oI) :: (L, oL') :: nz)) (fun j s' hI' => ?_) ts.length ⟨0, h₁, tk₂, _, [], 0, _, rfl, Nat.zero_le _, rfl, rfl, FC, ⟨rfl, rfl⟩, nsL, NC⟩
    obtain ⟨i, h', tk, mC, vs, n', oI, rfl, hi, rfl, hvs, F', itI, nsL', N'⟩ := hI'
    have hTI : h'.IsTupleIter I at_ i := ⟨oI, (N' (I, oI) (.tail _ (.head _))).1, itI⟩
    have hTT : h'.IsTuple at_ (ts.map fun p => Value.str p.1 p.2).toArray := ⟨_, (N' _ (.tail _ (.tail _ (.tail _ hat)))).1, rfl, nt, rfl⟩
    have hlen : vs.length = (ts.take i).length := by have := congrArg List.length hvs; simpa using this.symm
    cases hv : ts[i]? with
    | none =>
      have hie : i = ts.length := Nat.le_antisymm hi (by simpa using hv)
      refine wpAny_pyNext_tuple_end (s := { s with heap := h', toks := tk }) hh hTI hTT (by simpa using hv) fun h2 hs2 => ?_
      -- the end
      obtain ⟨F2, N2⟩ := ext_fr F' N' (N' (I, oI) (.tail _ (.head _))).2.1 (N' (I, oI) (.tail _ (.head _))).2.2 hs2
      have nsL2 : h2.Ns L m := nsL'.extBut hs2 (Nat.ne_of_lt hLs)
      have N2' : News h₀ C h2 ((L, oL') :: (D, listOf vs.toArray n') :: nz) := fun p hp => by
        refine N2 p (mem_without.mpr ?_)
        rcases List.mem_cons.mp hp with rfl | hp
        · exact ⟨.tail _ (.tail _ (.head _)), Nat.ne_of_lt hLs⟩
        · rcases List.mem_cons.mp hp with rfl | hp
          · exact ⟨.head _, hDI⟩
          · exact ⟨.tail _ (.tail _ (.tail _ hp)), Nat.ne_of_lt (ltN p (.tail _ hp))⟩
      obtain ⟨oC, hdC, F3, N3⟩ := frame_turn F2 N2' nsL2 abL
      show wpAny _ A (assign (.Name y py) env (.ref D)) _ _ _
      refine wpAny_assign_Name (wpAny_storeName_local (m := m) hy (by rw [hloc]; exact F3.ns) (fun h₃ hn₃ hs₃ => ?_) (by rw [hek]; rfl))
      rw [hloc] at hn₃ hs₃
      have F4 := F3.set hn₃ hs₃
      have N4 := N3.set hs₃
      have hLC : L ≠ C := Nat.ne_of_lt (Nat.lt_trans (Nat.lt_trans hLs hDs) hCs)
      refine ⟨mC, F2.ns.sameBut hs₃ hLC.symm, fun h₄ hs₄ => ?_⟩
      obtain ⟨F5, N5⟩ := ext_fr F4 N4 (a := C) hLC.symm (base_none F2) hs₄.extBut
      refine hR h₄ _ D n' vs (by rw [← hvs, hie, List.take_length]) F5 (fun p hp => N5 p (mem_without.mpr ?_)) fun p hp => Nat.lt_trans (ltN p (.tail _ hp)) hDs
      rcases List.mem_cons.mp hp with rfl | hp
      · exact ⟨.tail _ (without_mem (.head _) (Nat.ne_of_gt (Nat.lt_trans hLs hDs))), Nat.ne_of_lt hCs⟩
      · exact ⟨.tail _ (mem_without.mpr ⟨.tail _ hp, (N p hp).2.1⟩), Nat.ne_of_lt (Nat.lt_trans (Nat.lt_trans (ltN p (.tail _ hp)) hDs) hCs)⟩
    | some t =>
      have hilt : i < ts.length := by
        rcases Nat.lt_or_ge i ts.length with q | q
        · exact q
        · rw [List.getElem?_eq_none q] at hv; cases hv
      refine wpAny_pyNext_tuple_item (s := { s with heap := h', toks := tk }) (x := .str t.1 t.2) hTI hTT (by simp [hv]) fun h2 hit2 hs2 => ?_
      obtain ⟨oI2, hoI2, itI2⟩ := hit2
      obtain ⟨F2, N2⟩ := same_fr F' N' (.tail _ (.head _)) hs2 hoI2
      have nsL2 : h2.Ns L m := nsL'.sameBut hs2 (Nat.ne_of_lt hLs)
      have N2' : News h₀ C h2 ((D, listOf vs.toArray n') :: (I, oI2) :: (L, oL') :: nz) := fun p hp => by
        refine N2 p ?_
        rcases List.mem_cons.mp hp with rfl | hp
        · exact .tail _ (mem_without.mpr ⟨.head _, hDI⟩)
        · rcases List.mem_cons.mp hp with rfl | hp
          · exact .head _
          · exact .tail _ (mem_without.mpr ⟨.tail _ (.tail _ hp), Nat.ne_of_lt (ltN p hp)⟩)
      refine wpAny_assign_Name (wpAny_storeName_local (m := mC) (lookup_relabel_local hx) F2.ns (fun h₃ hn₃ hs₃ => ?_) (by simp [compEnvC, relabel, hkind]))
      have hLC : L ≠ C := Nat.ne_of_lt (Nat.lt_trans (Nat.lt_trans hLs hDs) hCs)
      have F3 : Fr h₀ C h₃ _ := F2.set hn₃ hs₃
      have N3 := N2'.set hs₃
      have nsL3 : h₃.Ns L m := nsL2.sameBut hs₃ hLC
      have hdo : h₃.DictOf (strKind pg w) tb kvs := Heap.dictOf_iff.mpr ⟨o, (N3 _ (.tail _ (.tail _ (.tail _ htb)))).1, hdict⟩
      refine wpAny_Subscript_Name_late (wpAny_Name (wpAny_loadName_cell (c := cA) (v := .ref tb) (by simp [compEnvC, relabel, hkind]) hkc hclk ⟨oc, (N3 _ (.tail _ (.tail _ (.tail _ hcA)))).1, hoc⟩
        (wpAny_Name (wpAny_loadName_local (m := fun z => if z = x then some (Value.str t.1 t.2) else mC z) (v := .str t.1 t.2) (by simp [compEnvC, relabel, hkind]) (lookup_relabel_local hx) F3.ns (by simp) ?_) hdx)) hdk)
      refine ⟨"dict", _, slot_dict_getitem.lookup, hdo.typeIs, ?_⟩
      cases hval : valueAt kvs t.1 with
      | some v =>
        refine wpAny_getItem_of (strKind_is _ _ _ _) hdo.mapOf hval ?_
        have hvz : vs.toArray.size ≤ sizeLine := by
          have h1 : (ts.take i).length ≤ ts.length := by rw [List.length_take]; exact Nat.min_le_right _ _
          have h2 : (100 : Nat) ≤ sizeLine := by decide
          rw [List.size_toArray]; omega
        refine wpAny_list_append_plain ⟨n', (N3 _ (.head _)).1⟩ (fun h4 hl4 hs4 => ?_) hvz
        obtain ⟨n4, ho4⟩ := hl4
        obtain ⟨F4, N4⟩ := same_fr F3 N3 (.head _) hs4 ho4
        refine ⟨ts.length - (i + 1), by omega, i + 1, h4, _, _, vs ++ [v], n4, oI2, rfl, hilt, rfl, ?_, F4, itI2, nsL3.sameBut hs4 (Nat.ne_of_lt (Nat.lt_trans hLs hDs)), fun p hp => ?_⟩
        · rw [List.take_add_one, hv]
          simp [hvs, hval]
        · refine N4 p ?_
          rcases List.mem_cons.mp hp with rfl | hp
          · simp
          · refine .tail _ (mem_without.mpr ⟨.tail _ hp, ?_⟩)
            rcases List.mem_cons.mp hp with rfl | hp
            · exact hDI.symm
            · exact Nat.ne_of_lt (Nat.lt_trans (ltN p hp) hDs)
      | none =>
        refine wpAny_getItem_missing_of (strKind_is _ _ _ _) low hh hdo.mapOf hval fun h4 e hm => ?_
        obtain ⟨ob, t', het, hcx, hdt⟩ := hm.there
        obtain ⟨F4, N4, fe⟩ := new_fr F3 N3 hm.keeps hm.new het
        have nx : NewX ob (.type "KeyError") := ⟨hcx, t', hdt⟩
        have ix := nx.exc (.inl rfl)
        have nsL4 : h4.Ns L m := by
          obtain ⟨o1, es, ep, q, r⟩ := nsL3
          exact ⟨o1, es, ep, hm.keeps _ _ q, r⟩
        have N4' : News h₀ C h4 ((L, oL') :: (e, ob) :: nz) := fun p hp => by
          refine N4 p ?_
          rcases List.mem_cons.mp hp with rfl | hp
          · exact .tail _ (.tail _ (.tail _ (.head _)))
          · rcases List.mem_cons.mp hp with rfl | hp
            · exact .head _
            · exact .tail _ (.tail _ (.tail _ (.tail _ hp)))
        obtain ⟨oC, hdC, F5, N5⟩ := frame_turn F4 N4' nsL4 abL
        have heL : e ≠ L := fun q => fe (L, oL') (.tail _ (.tail _ (.head _))) q.symm
        have N5' : News h₀ L h4 ((C, oC) :: (e, ob) :: nz) := fun p hp => by
          rcases List.mem_cons.mp hp with rfl | hp
          · exact N5 _ (.head _)
          · refine N5 p (.tail _ (mem_without.mpr ⟨hp, ?_⟩))
            rcases List.mem_cons.mp hp with rfl | hp
            · exact heL
            · exact (N p hp).2.1
        have So5 : SoftOK ((C, oC) :: (e, ob) :: nz) := (softOK_new So nx).frame hdC
        show wpAny _ A (noteFrame (.ref e) _) _ _ _
        rw [noteFrame_same (env := compEnvC cscope cl C env) (env' := fenv) (hfr.trans hffr.symm)]
        refine note_L F5 N5' So5 (.tail _ (.head _)) ix hA (Fs.mono fun _ q => .tail _ (.tail _ q)) hffr hfk fun h5 nz5 A5 nt5 => ?_
        obtain ⟨slC, hC5⟩ := A5.st.dict (.head _) (by simp) hdC
        have nsC5 : h5.Ns C (fun z => if z = x then some (Value.str t.1 t.2) else mC z) := ns_slots F4.ns (N5' _ (.head _)).1 (A5.nw _ hC5).1
        refine ⟨_, nsC5, fun h6 hs6 cenv _ => ?_⟩
        obtain ⟨F6, N6⟩ := ext_fr A5.fr A5.nw (a := C) hLC.symm (base_none F4) hs6.extBut
        have So6 : SoftOK (without nz5 C) := softOK_drop (led_of A5.fr A5.nw) A5.ok hC5 hdC (fun p hp => (mem_without.mp hp).1) fun p hp hne => mem_without.mpr ⟨hp, hne⟩
        obtain ⟨oe5, he5, hx5, cls5, r5⟩ := A5.st.exc (.tail _ (.head _)) (by simp) ix
        have heC : e ≠ C := fun q => by have := hm.new; rw [q] at this; obtain ⟨o1, _, _, h1, _⟩ := F3.ns; rw [this] at h1; cases h1
        have he6 : (e, oe5) ∈ without nz5 C := without_mem he5 heC
        obtain ⟨oe, heo, hxo, tbo⟩ := nt5
        have eqo : oe = oe5 := one_obj' (led_of A5.fr A5.nw) heo he5
        subst eqo
        have tb6 : TBOf (without nz5 C) oe := by
          obtain ⟨us, T, oT, us', z1, z2, z3, z4, z5, z6, z7⟩ := tbo
          refine ⟨us, T, oT, us', z1, z2, z3, without_mem z4 fun q => ?_, z5, z6, z7⟩
          subst q
          have := one_obj' (led_of A5.fr A5.nw) z4 hC5
          subst this
          obtain ⟨_, _, q⟩ := hdC
          exact absurd (z6.symm.trans q) (by simp)
        refine passOn_L (s := { s with heap := h6, toks := _ }) F6 N6 So6 he6 hxo tb6 fun h7 nz7 A7 ke => ?_
        have St : Step [] (outer.filterMap (·.frame)) nz nz7 := by
          refine Step.trans (b := without nz5 C) (fun p hp hm => ?_) (A7.st.weaken (fun _ q => q) fun _ q => nomatch q)
          obtain ⟨o', g1, g2⟩ := A5.st p (.tail _ (.tail _ hp)) hm
          exact ⟨o', without_mem g1 (Nat.ne_of_lt (Nat.lt_trans (Nat.lt_trans (ltN p (.tail _ hp)) hDs) hCs)), g2⟩
        exact hE e oe h7 _ nz7 ⟨t, List.mem_of_getElem? hv, hval⟩ A7.fr A7.nw St A7.ok ke hxo (nx.ctx.step r5 ix) (cls5.trans hcx) ⟨oe, ke, hxo, tbOf_step A7.st tb6⟩
  exact codeAny_compStart_list (loop _) (wpAny_pyIter_tupleiter (t := at_) (i := 0) ⟨_, (NC (I, _) (.tail _ (.head _))).1, rfl, rfl⟩ (loop _))
end
end Mine
namespace Mine
open PySem PySem.W PySem.Calls PyProof.Rows
section
variable {w : World} {A : Around} {E : Value → Shared → Prop} {s : Shared} {env : Env} {h₀ : Heap} {L : Addr} {m : Str → Option Value} {nz : Ledger}
/-- a field of the new exception is set -/
theorem set_new {e : Addr} {o : Obj} {vs : Array Value} {x : Value} {i : Nat} {M : Model} {Q : Unit → Shared → Prop} (F : Fr h₀ L s.heap m) (N : News h₀ L s.heap ((e, o) :: nz)) (hf : ∀ p ∈ nz, p.1 ≠ e) (hd : o.data = .fields vs) (hi : i < vs.size)
    (h : ∀ h' o', Fr h₀ L h' m → News h₀ L h' ((e, o') :: nz) → o'.cls = o.cls → o'.data = .fields (vs.setIfInBounds i x) → Q () { s with heap := h' }) : wpAny M A (setField (.ref e) i x) Q E s := by
  refine wpAny_setField (N _ (.head _)).1 hd hi ?_
  have hd' := Obj.data_mapFields hd (·.setIfInBounds i x)
  obtain ⟨F', N'⟩ := upd_fr F N (.head _) (f := Obj.mapFields (·.setIfInBounds i x)) (Obj.isFreed_of_fields hd')
  refine h _ _ F' (fun p hp => N' p ?_) (Obj.cls_mapFields _ _) hd'
  rcases List.mem_cons.mp hp with rfl | hp
  · exact .head _
  · exact .tail _ (List.mem_filter.mpr ⟨.tail _ hp, decide_eq_true (hf p hp)⟩)
theorem raiseNew_new {α : Type} {k e : Addr} {o ok : Obj} {vs : Array Value} {Q : α → Shared → Prop} (hk : A.handled = some (.ref k)) (F : Fr h₀ L s.heap m) (N : News h₀ L s.heap ((e, o) :: nz)) (hf : ∀ p ∈ nz, p.1 ≠ e) (hd : o.data = .fields vs) (hi : 2 < vs.size) (hok : (k, ok) ∈ nz) (hc : CtxNone ok)
    (h : ∀ h' o', Fr h₀ L h' m → News h₀ L h' ((e, o') :: nz) → o'.cls = o.cls → o'.data = .fields (vs.setIfInBounds 2 (.ref k)) → E (.ref e) { s with heap := h' }) : wpAny (model pg w) A (raiseNew (.ref e) : Sem α) Q E s := by
  have he := (N _ (.head _)).1
  obtain ⟨us, h2, h3⟩ := hc
  unfold raiseNew
  refine wpAny_bind (wpAny_handled ?_)
  rw [hk]
  have hn : (Value.ref k != Value.ref e) = true := by
    have := hf _ hok
    simp only [bne_iff_ne, ne_eq, Value.ref.injEq]
    exact this
  dsimp only
  rw [if_pos hn]
  refine wpAny_bind (wpAny_holding (wpAny_runValue (codeAny_builtin entry_unchain ?_)))
  unfold Builtin.«proto.unchain»
  refine wpAny_bind (wpAny_field (N _ (.tail _ hok)).1 h2 h3 ?_)
  rw [if_pos (by decide)]
  refine wpAny_bind (wpAny_pure (wpAny_pure ?_))
  refine wpAny_bind ?_
  simp only [updateField]
  refine wpAny_bind (wpAny_load he ?_)
  rw [hd]
  show wpAny _ A (if 2 < vs.size then _ else _) _ E s
  rw [if_pos hi]
  refine wpAny_update he ?_
  have hd' := Obj.data_mapFields hd (·.setIfInBounds 2 (Value.ref k))
  obtain ⟨F', N'⟩ := upd_fr F N (.head _) (f := Obj.mapFields (·.setIfInBounds 2 (Value.ref k))) (Obj.isFreed_of_fields hd')
  refine wpAny_throw (h _ _ F' (fun p hp => N' p ?_) (Obj.cls_mapFields _ _) hd')
  rcases List.mem_cons.mp hp with rfl | hp
  · exact .head _
  · exact .tail _ (List.mem_filter.mpr ⟨.tail _ hp, decide_eq_true (hf p hp)⟩)
theorem sub_exc_here {c : Value} {Q : Bool → Shared → Prop} {M : Model} (X : KIn w s.heap) (hc : ExcCls c) (h : Q true s) : wpAny M A (isSubtype c (.type "BaseException")) Q E s := (sub_exc X hc).here h
theorem excFrom_L {e : Addr} {o : Obj} {what : String} {Q : Value → Shared → Prop} (X : KIn w s.heap) (hg : s.heap.get? e = some o) (hx : IsExc o) (h : Q (.ref e) s) : wpAny (model pg w) A (excFromValue (.ref e) what) Q E s := by
  obtain ⟨vs, hd⟩ := hx.2
  unfold excFromValue isExcClass isType
  refine wpAny_bind (wpAny_bind (wpAny_bind (wpAny_loadPart hg (wpAny_pure ?_))))
  simp only [hd]
  refine wpAny_pure ?_
  refine wpAny_bind (wpAny_bind (wpAny_bind (wpAny_loadPart hg (wpAny_pure ?_))))
  refine (sub_exc X hx.1).here ?_
  exact wpAny_pure h
theorem raiseFrom_L {x c : Sem Value} {k : Addr} {Q : Flow → Shared → Prop} (X : KIn w h₀) (hk : A.handled = some (.ref k))
    (h : wpAny (model pg w) A x (fun v s₁ => wpAny (model pg w) A c (fun cv s₂ => ∃ e o ok m nz, v = .ref e ∧ cv = .ref k ∧ Fr h₀ L s₂.heap m ∧ News h₀ L s₂.heap ((e, o) :: nz) ∧ (∀ p ∈ nz, p.1 ≠ e) ∧ SoftOK nz ∧ (∃ C, ExcCls C ∧ NewX o C) ∧ (k, ok) ∈ nz ∧ IsExc ok ∧ CtxNone ok ∧
      ∀ h' o', Fr h₀ L h' m → News h₀ L h' ((e, o') :: nz) → SoftOK ((e, o') :: nz) → IsExc o' → o'.cls = o.cls → E (.ref e) { s₂ with heap := h' }) E s₁) E s) :
    wpAny (model pg w) A (raiseStmt env (some x) (some c)) Q E s := by
  unfold raiseStmt
  refine wpAny_bind (wpAny_mono h (fun v s₁ h₁ => ?_) fun _ _ x => x)
  dsimp only
  refine wpAny_bind (wpAny_holding (wpAny_mono h₁ (fun cv s₂ h₂ => wpAny_bind (wpAny_pure ?_)) fun _ _ x => x))
  obtain ⟨e, o, ok, m, nz, rfl, rfl, F, N, hf, So, ⟨C, hC, nx⟩, hok, hxk, hck, hE⟩ := h₂
  have hX := fr_K F X
  obtain ⟨t, hd⟩ := nx.2
  have hcls : ExcCls o.cls := by rw [nx.1]; exact hC
  refine wpAny_bind (wpAny_holding (excFrom_L hX (N _ (.head _)).1 ⟨hcls, _, hd⟩ ?_))
  dsimp only
  rw [if_neg (show ¬ ((Value.ref k == Value.none) = true) from Bool.false_ne_true)]
  refine wpAny_bind (wpAny_holding (excFrom_L hX (N _ (.tail _ hok)).1 hxk ?_))
  refine wpAny_bind (set_new F N hf hd (by simp) fun h1 o1 F1 N1 c1 d1 => ?_)
  refine wpAny_bind (set_new (s := { s₂ with heap := h1 }) F1 N1 hf d1 (by simp) fun h2 o2 F2 N2 c2 d2 => ?_)
  have hg2 := (N2 _ (.head _)).1
  have cc2 : o2.cls = o.cls := c2.trans c1
  unfold isType raisedInstance
  refine wpAny_bind (wpAny_bind (wpAny_loadPart hg2 (wpAny_pure ?_)))
  simp only [d2]
  refine wpAny_bind (wpAny_bind (wpAny_bind (wpAny_loadPart hg2 (wpAny_pure ?_))))
  refine wpAny_bind ((meta_exc (fr_K F2 X) (by rw [cc2]; exact hcls)).here ?_)
  refine wpAny_pure ?_
  unfold setFlight
  refine wpAny_bind (wpAny_bind (wpAny_field (i := 1) (x := .none) hg2 d2 (by simp) ?_))
  rw [if_neg (by decide)]
  refine wpAny_pure ?_
  refine raiseNew_new (s := { s₂ with heap := h2 }) hk F2 N2 hf d2 (by simp) hok hck fun h3 o3 F3 N3 c3 d3 => ?_
  have hx3 : IsExc o3 := ⟨by rw [c3, cc2]; exact hcls, _, d3⟩
  refine hE h3 o3 F3 N3 (fun q hq hx => ?_) hx3 (c3.trans cc2)
  rcases List.mem_cons.mp hq with rfl | hq
  · exact ⟨_, d3, by simp, .inl (by simp)⟩
  · obtain ⟨vs, g1, g2, g3⟩ := So q hq hx
    refine ⟨vs, g1, g2, g3.imp id ?_⟩
    rintro ⟨T, oT, ts, a, b, c, d, e⟩
    exact ⟨T, oT, ts, a, .tail _ b, c, d, e⟩
theorem cameBack_L {M : Model} {e : Addr} {oe : Obj} (F : Fr h₀ L s.heap m) (N : News h₀ L s.heap nz) (So : SoftOK nz) (he : (e, oe) ∈ nz) (hx : IsExc oe) (tb : TBOf nz oe)
    (h : ∀ h' nz', Aft h₀ L m nz [] h' nz' → (e, oe) ∈ nz' → E (.ref e) { s with heap := h' }) : cameBackBy M A env E (.ref e) s := by
  obtain ⟨vs, T, oT, ts, h1, h2, a, b, c, d, z⟩ := tb
  unfold cameBackBy
  refine wpAny_bind (wpAny_field (N _ he).1 h1 a ?_)
  rw [if_neg (show ¬ (Value.ref T == Value.none) = true from by simp)]
  first
    | exact flight_L F N So he hx fun h' nz' A' ke => h h' nz' A' ke
    | exact wpAny_bind (wpAny_pure (flight_L F N So he hx fun h' nz' A' ke => h h' nz' A' ke))
/-- a clause that holds, with a name, whose suite raises -/
theorem handle_raise_L {outer : List Env} {e : Addr} {oe : Obj} {T : String} {t : Expr} {n : Str} {b₀ : Stmt} {suite : List Stmt} {pos : Pos} {rest : List ExceptHandler} {Q : Flow → Shared → Prop}
    (hexc : isSubtype (.type T) (.type "BaseException") = pure true) (hnt : isSubtype (.type ((Manifest.find? T).elim "type" fun x => x.metatype)) (.type "tuple") = pure false)
    (sub : Looks (model pg w) s.heap (isSubtype oe.cls (.type T)) true)
    (F : Fr h₀ L s.heap m) (N : News h₀ L s.heap nz) (So : SoftOK nz) (he : (e, oe) ∈ nz) (hx : IsExc oe) (hL : env.locals = L) (hfL : env.frame = some L) (hA : A.frames = some (env :: outer)) (hn : env.kindOf n = some .local) (hk : env.scope.kind = .function)
    (hev : ∀ {Q : Value → Shared → Prop} {E : Value → Shared → Prop}, Q (.type T) s → wpAny (model pg w) (A.mark (some (.ref e))) (eval t env) Q E s)
    (h : ∀ h' nz', Fr h₀ L h' (fun y => if y = n then some (.ref e) else m y) → News h₀ L h' nz' → Step [] [] nz nz' → SoftOK nz' → (e, oe) ∈ nz' →
      wpAny (model pg w) (A.mark (some (.ref e))) (execs (b₀ :: suite) env) (fun _ _ => False) (fun x s₄ => ∃ e2 o2 m₄ nz₄, x = .ref e2 ∧ Fr h₀ L s₄.heap m₄ ∧ News h₀ L s₄.heap nz₄ ∧ SoftOK nz₄ ∧ (e2, o2) ∈ nz₄ ∧ IsExc o2 ∧ FramesIn nz₄ outer ∧
        ∀ h₅ v nz₅ tk, Fr h₀ L h₅ (fun y => if y = n then v else m₄ y) → News h₀ L h₅ nz₅ → Step [] (outer.filterMap (·.frame)) nz₄ nz₅ → SoftOK nz₅ → Noted nz₅ e2 → E (.ref e2) { s₄ with heap := h₅, toks := tk }) { s with heap := h', toks := s.toks + 1 }) :
    wpAny (model pg w) A (handleBy (.ref e) env (.ExceptHandler (some t) (some n) (b₀ :: suite) pos :: rest)) Q E s := by
  refine wpAny_handleBy_cons (codeAny_handlers_test (hev (matches_L (N _ he).1 hexc hnt sub ?_))) (by intro q; cases q)
  show codeAny _ _ _ _ _
  refine codeAny_handlers_suite_as ?_
  refine flight_L F N So he hx fun h' nz' A' ke => ?_
  refine wpAny_storeName_local (m := m) hn (by rw [hL]; exact A'.fr.ns) (fun h₂ hn₂ hs₂ => ?_) (by rw [hk]; rfl)
  rw [hL] at hn₂ hs₂
  refine wpAny_mono (h h₂ nz' (A'.fr.set hn₂ hs₂) (A'.nw.set hs₂) A'.st A'.ok ke) (fun f s₄ h₄ => h₄.elim) fun x s₄ h₄ => ?_
  obtain ⟨e2, o2, m₄, nz₄, rfl, F₄, N₄, So₄, he₄, hx₄, Fs₄, hE⟩ := h₄
  have hA' : (A.mark (some (.ref e))).frames = some (env :: outer) := hA
  have hkm : env.scope.kind ≠ .module := by rw [hk]; decide
  refine note_L F₄ N₄ So₄ he₄ hx₄ hA' Fs₄ hfL hkm fun h5 nz5 A5 nt5 => ?_
  obtain ⟨o5, he5, hx5, tb5⟩ := nt5
  refine wpAny_nameGoes_keeps (m := m₄) hn (by rw [hL]; exact A5.fr.ns) (by rw [hk]; rfl) fun h6 v hn₆ hs₆ => ?_
  rw [hL] at hn₆ hs₆
  have F6 := A5.fr.set hn₆ hs₆
  have N6 := A5.nw.set hs₆
  refine passOn_L (s := { s₄ with heap := h6, toks := _ }) F6 N6 A5.ok he5 hx5 tb5 fun h7 nz7 A7 ke7 => ?_
  have Fs7 : FramesIn nz7 outer := (Fs₄.step A5.st fun _ q => nomatch q).step A7.st fun _ q => nomatch q
  show wpAny _ _ (noteFrame (.ref e2) env) _ _ _
  refine note_L (s := { s₄ with heap := h7, toks := _ }) A7.fr A7.nw A7.ok ke7 hx5 hA' Fs7 hfL hkm fun h8 nz8 A8 nt8 => ?_
  obtain ⟨o8, he8, hx8, tb8⟩ := nt8
  refine cameBack_L (s := { s₄ with heap := h8, toks := _ }) A8.fr A8.nw A8.ok he8 hx8 tb8 fun h9 nz9 A9 ke9 => ?_
  exact hE h9 v nz9 _ A9.fr A9.nw ((A5.st.trans (A7.st.weaken (fun _ q => q) fun _ q => nomatch q)).trans (A8.st.trans (A9.st.weaken (fun _ q => q) fun _ q => nomatch q))) A9.ok ⟨o8, ke9, hx8, tbOf_step A9.st tb8⟩
end
theorem hook_spec : specOf pv (Str.ofString "HookCallError") = some ("Exception.__new__", [Value.type "Exception", Value.type "BaseException", Value.type "object"]) := by kernel_rfl
theorem hook_new {w : World} {h₀ : Heap} {mean : ExcName → Option Value} {mg mb : Str → Option Value} {A : Around} {s : Shared} {Q : Value → Shared → Prop} {E : Value → Shared → Prop} (_X : (hd.heap_39 w.params).In h₀) (T : TopH mean mg mb h₀) (hk : ∀ b o, h₀.get? b = some o → s.heap.get? b = some o) (hg : mg (Str.ofString "HookCallError") = some (.ref 24))
    (h : ∀ h' e, Heap.MadeExcOf s.heap h' e (.ref 24) [] → Q (.ref e) { s with heap := h' }) : wpAny (model pg w) A (call (.ref 24) []) Q E s := by
  obtain ⟨C, O, -⟩ := T.ownAt hook_spec
  have hC24 : C = 24 := by
    have := O.own.bound.symm.trans hg
    cases this; rfl
  subst hC24
  obtain ⟨tl, N, nm, q, bs, hdct, sn, sub, ab, col, dd, k0, k1, k2, k3, k5, mN, hC, hN, hni, Tl⟩ := O.own.obj
  obtain ⟨hp, g, d, t, os⟩ := s
  exact wpAny_call_exc_subT PySem.F.excBase_Exception (Tl.keeps hk) (hk _ _ hC) (hN.keeps hk) hni (fun h' e hm => h h' e hm) (Nat.zero_le _)
end Mine
namespace Mine
open PySem PySem.W PySem.Calls PyProof.Rows
def bodyOf (d : Data) : List Stmt := match d with
  | .func fd => (match fd.body with | .stmts b => b | _ => [])
  | _ => []
def tryOf : List Stmt → Nat → List Stmt × List ExceptHandler × List Stmt
  | b, n => match b[n]? with | some (.Try x h _ f _) => (x, h, f) | _ => ([], [], [])
def forOf : List Stmt → Nat → List Stmt
  | b, n => match b[n]? with | some (.For _ _ x ..) => x | _ => []
def noScope : Scope := { kind := .function, names := [], isGenerator := false, isCoroutine := false, more := [] }
def envAt (d : Data) (L f : Addr) : Env := match d with
  | .func fd => envOfC fd.qualname fd.scope L f fd.code
  | _ => envOfC (Str.ofString "") noScope L f .none
/-- the body of the loop over the implementations -/
def mcLoop (o : Obj) : List Stmt := forOf (tryOf (bodyOf o.data) 3).1 0
structure McM (m : Str → Option Value) (rs td : Addr) : Prop where
  rs : m (Str.ofString "results") = some (.ref rs)
  ex : m (Str.ofString "exception") = some .none
  td : m (Str.ofString "teardowns") = some (.ref td)
  fi : m (Str.ofString "firstresult") = some (.bool true)
/-- one implementation, and what it makes of the rest -/
inductive ItemAt (nz : Ledger) (lg : Addr) (ds : List (Int × Int × Addr)) (ps : List (Str × Addr)) (x : Addr) : (OL → OL) → Prop
  | one {me kind : Int} {dd : Addr} : SingleAt nz x me kind → (me, kind, dd) ∈ ds → ItemAt nz lg ds ps x (oneP me kind)
  | part {at_ il : Addr} {word : Str} {n : Nat} {ws : List Value} {inner : Row} : ImplAt nz x 126 at_ false → ArgsAt nz at_ [wLog, Str.ofString "errs", wDeeds, wParts, word] → (word, il) ∈ ps → il ≠ lg → (il, listOf ws.reverse.toArray n) ∈ nz →
      RowAt nz lg ds ps ws inner → ItemAt nz lg ds ps x (goOn (run inner))
/-- how a turn may end -/
structure TurnPost (w : World) (B : Addr → Prop) (Q : Flow → Shared → Prop) (E : Value → Shared → Prop) (s : Shared) (h₀ : Heap) (L rs td lg er : Addr) (tab : List (Int × Addr)) (ds : List (Int × Int × Addr)) (fr : List Addr) (nz : Ledger) (ls : List Dat) (tvs : List Value) (f : OL → OL) : Prop where
  err : ∀ e c ls' h' tk m' nz', (∀ q, f q = (.err c, ls')) → Fr h₀ L h' m' → News h₀ L h' nz' → McM m' rs td → Step [lg] fr nz nz' → SoftOK nz' → ECode nz' tab e c → LogAt B nz' lg .none (ls ++ ls') → Noted nz' e → E (.ref e) { s with heap := h', toks := tk }
  brk : ∀ v d ls' h' tk m' nz' n', (∀ q, f q = (.ok d, ls')) → Fr h₀ L h' m' → News h₀ L h' nz' → McM m' rs td → Step [lg, rs] fr nz nz' → SoftOK nz' → Res B nz' lg v d → LogAt B nz' lg v (ls ++ ls') → FreshV nz v → (rs, listOf ([v] : List Value).toArray n') ∈ nz' → Q .brk { s with heap := h', toks := tk }
  nxt : ∀ ls' h' tk m' nz', (∀ q, f q = pre ls' q) → Fr h₀ L h' m' → News h₀ L h' nz' → McM m' rs td → Step [lg] fr nz nz' → SoftOK nz' → LogAt B nz' lg .none (ls ++ ls') → Q .next { s with heap := h', toks := tk }
  tear : ∀ me kind dd a ls' h' tk m' nz' n', (∀ q, f q = pre ls' (postP me kind q)) → (me, kind, dd) ∈ ds → Fr h₀ L h' m' → News h₀ L h' nz' → McM m' rs td → Step [lg, td] fr nz nz' → SoftOK nz' → LogAt B nz' lg .none (ls ++ ls') → TearAt nz' a lg dd er →
    (td, listOf (tvs ++ [Value.ref a]).toArray n') ∈ nz' → Q .next { s with heap := h', toks := tk }
theorem map_three {α β : Type} {f : α → β} {l : List α} {a b c : β} (h : l.map f = [a, b, c]) : ∃ x y z, l = [x, y, z] ∧ f x = a ∧ f y = b ∧ f z = c := by
  rcases l with _ | ⟨x, _ | ⟨y, _ | ⟨z, _ | ⟨u, l⟩⟩⟩⟩ <;> simp at h
  exact ⟨x, y, z, rfl, h⟩
theorem LogAt.bad {B B' : Addr → Prop} {nz : Ledger} {lg : Addr} {v : Value} {ls : List Dat} (h : LogAt B nz lg v ls) (hb : ∀ a o, (a, o) ∈ nz → B' a → a = lg ∨ v = .ref a ∨ B a) : LogAt B' nz lg v ls := by
  obtain ⟨vs, n, h1, h2⟩ := h
  exact ⟨vs, n, h1, h2.mono fun a o _ q => ⟨q.1, fun z => q.2 (z.elim .inl fun z => z.elim (fun z => .inr (.inl z)) (hb a o q.1))⟩⟩
theorem LogAt.sub {B : Addr → Prop} {nz nz' : Ledger} {lg : Addr} {v : Value} {ls : List Dat} (h : LogAt B nz lg v ls) (s : ∀ p ∈ nz, p ∈ nz') : LogAt B nz' lg v ls := by
  obtain ⟨vs, n, h1, h2⟩ := h
  exact ⟨vs, n, s _ h1, h2.mono fun a o _ q => ⟨s _ q.1, q.2⟩⟩
theorem mem_one {α : Type} {a b : α} (q : b ∈ [a]) : b = a := (List.mem_cons.mp q).elim id fun z => nomatch z
theorem Res.shape {B : Addr → Prop} {nz : Ledger} {lg : Addr} {v : Value} {d : Dat} (h : Res B nz lg v d) : v = .none ∨ (∃ i t, v = .int i t) ∨ (∃ y t, v = .str y t) ∨ ∃ a, v = .ref a := by
  cases h with
  | none => exact .inl rfl
  | int i t => exact .inr (.inl ⟨_, _, rfl⟩)
  | str y t => exact .inr (.inr (.inl ⟨_, _, rfl⟩))
  | list _ _ _ _ => exact .inr (.inr (.inr ⟨_, rfl⟩))
theorem noted_drop {h₀ h : Heap} {nz : Ledger} {L e : Addr} {oL : Obj} (D : Led h₀ h nz) (nt : Noted nz e) (hL : (L, oL) ∈ nz) (hd : ∃ es ep, oL.data = .dict es ep) : Noted (without nz L) e := by
  obtain ⟨o, h1, h2, vs, T, oT, ts, g1, g2, g3, g4, g5, g6, g7⟩ := nt
  obtain ⟨es, ep, hd⟩ := hd
  refine ⟨o, without_mem h1 fun q => ?_, h2, vs, T, oT, ts, g1, g2, g3, without_mem g4 fun q => ?_, g5, g6, g7⟩
  · subst q
    have := one_obj' D h1 hL
    subst this
    rw [g1] at hd; cases hd
  · subst q
    have := one_obj' D g4 hL
    subst this
    rw [g6] at hd; cases hd
local macro_rules | `(tactic| walk_at "exec Try") => `(tactic| refine Stop.of ?_)
local macro_rules | `(tactic| walk_at "exec Assign cons ListComp") => `(tactic| refine Stop.of ?_)
local macro_rules | `(tactic| walk_at "exec Raise") => `(tactic| refine Stop.of ?_)
local macro_rules | `(tactic| walk_at "call ref") => `(tactic| refine Stop.of ?_)
local macro_rules | `(tactic| walk_at "call builtin:list.append") => `(tactic| refine Stop.of ?_)
local macro_rules | `(tactic| k_mem) => `(tactic| assumption)
theorem ldE {M : Model} {A : Around} {E : Value → Shared → Prop} {s : Shared} {env : Env} {h₀ : Heap} {m : Str → Option Value} {x : Str} {pos : Pos} {v : Value} {Q : Value → Shared → Prop} (F : Fr h₀ env.locals s.heap m) (hv : m x = some v) (h : Q v s) (hk : env.scope.kind = .function) (hl : env.kindOf x = some .local) (hd : (x == ("__debug__" : Str)) = false) :
    wpAny M A (eval (.Name x pos) env) Q E s := wpAny_Name (wpAny_loadName_local hk hl F.ns hv h) hd
local macro_rules | `(tactic| walk_at "eval Name") => `(tactic| (k_here; k_dflt (refine' ldE ?k1 ?k2 ?_ rfl rfl (by decide); (case k1 => k_asm); (case k2 => first | exact rfl | assumption); k_whole)))
local macro_rules | `(tactic| walk_at "getAttr ref") => `(tactic| (k_dflt (refine' get_slot ?k1 ?k2 ?k3 ?k4 ?k5 ?k6 ?k7 ?k8 ?k9 ?k10 ?k11 ?_; (case k1 => k_asm); (case k2 => k_asm); (case k3 => (refine' InstAt.of_news ?N ?h1 ?h2; (case N => k_asm); (case h1 => k_mem); (case h2 => k_mem))); (case k4 => k_is); (case k5 => k_is); (case k6 => k_is); (case k7 => k_is); (case k8 => k_is); (case k9 => k_is); (case k10 => assumption); (case k11 => k_handed); k_whole)))
theorem truthy_tupE {w : World} {A : Around} {E : Value → Shared → Prop} {s : Shared} {h₀ : Heap} {L t : Addr} {nz : Ledger} {n : Nat} {Q : Bool → Shared → Prop} (N : News h₀ L s.heap nz) (hm : (t, ({ cls := .type "tuple", data := .seq #[] n } : Obj)) ∈ nz) (h : Q false { s with toks := s.toks + 1 + 1 }) :
    wpAny (model pg w) A (truthy (.ref t)) Q E s := ktl_truthy (N _ hm).1 (by simp) h
local macro_rules | `(tactic| walk_at "truthy ref") => `(tactic| (k_dflt (refine' truthy_tupE ?N ?m ?_; (case N => k_asm); (case m => k_mem); k_whole)))
theorem starCall_E {M : Model} {A : Around} {E : Value → Shared → Prop} {s : Shared} {env : Env} {o e : Expr} {name : Str} {apos pos sp : Pos} {Q : Value → Shared → Prop}
    (h : wpAny M A (eval o env) (fun ov s₁ => wpAny M A (getAttr ov name true) (fun f s₂ => wpAny M A (callWith pos f [] (backTo pos (starEach [.Starred e sp] env)) []) Q E s₂) E s₁) E s)
    (hbase : attributeBase o name env (eval o env) = eval o env := by rfl) : wpAny M A (eval (.Call (.Attribute o name apos) [.Starred e sp] [] pos) env) Q E s := by
  rw [arm_eval_Call, hbase]
  refine wpAny_bind (wpAny_mono h (fun ov s₁ h₁ => wpAny_bind (wpAny_standAt ?_)) fun _ _ x => x)
  unfold methodCall
  have hf : methodCallForm ([Expr.Starred e sp].length + ([] : List Keyword).length) (backTo pos (starEach [.Starred e sp] env)) (backToKw pos (keywordEach [] env)) = false := by rfl
  rw [hf]
  unfold calleeOf methodCallPos
  simp only [Bool.false_eq_true, if_false, Bool.not_false, Bool.true_or, if_true]
  refine wpAny_bind (wpAny_holding (wpAny_bind (wpAny_mono h₁ (fun f s₂ h₂ => wpAny_pure ?_) fun _ _ x => x)))
  exact wpAny_bind (wpAny_pure h₂)
local macro_rules | `(tactic| walk_at "eval Call Attribute") => `(tactic| ((with_reducible show wpAny _ _ (eval (Expr.Call (Expr.Attribute _ _ _) [Expr.Starred _ _] [] _) _) _ _ _); refine starCall_E ?_))
theorem kfillhc : (PySem.Challenge.rw_fe0222_01, hd.heap_39) = (PySem.Challenge.rw_fe0222_01, hd.heap_39) := by
  k_fill
  rfl
theorem turn_plain {w : World} {h₀ : Heap} {mean : ExcName → Option Value} {mg mb : Str → Option Value} (X : (hd.heap_39 w.params).In h₀) (T : TopH mean mg mb h₀) {o39 : Obj} (ho : (hd.heap_39 w.params).lookup 39 = some o39)
    {A : Around} {s : Shared} {nz : Ledger} {outer : List Env} {Q : Flow → Shared → Prop} {E : Value → Shared → Prop} {L lg er dl pt tb rs td x dd : Addr} {me kind : Int} {m : Str → Option Value} {oc : Obj} {tab : List (Int × Addr)} {ds : List (Int × Int × Addr)} {ps : List (Str × Addr)} {ls : List Dat} {tvs : List Value} {n1 n2 : Nat} {B : Addr → Prop} (hB : ∀ a, B a → ∃ o, (a, o) ∈ nz) (hBr : B rs) (hBt : B td)
    (F : Fr h₀ L s.heap m) (N : News h₀ L s.heap nz) (So : SoftOK nz) (hA : A.frames = some (envAt o39.data L 39 :: outer)) (Fs : FramesIn nz outer) (hdep : A.depth + 8 < recursionLimit) (hun : A.units + 80 < cLine) (hh : A.handled = none)
    (W : Wd w nz lg er dl pt tab ds ps) (TB : TableAt w nz tb lg er dl pt ds ps) (hf1 : er ∉ outer.filterMap (·.frame)) (LG : LogAt B nz lg .none ls) (hls : ls.length + 1 ≤ sizeLine)
    (hcA : (L + 1, oc) ∈ nz) (hoc : oc.data = .cell (some (.ref tb))) (hrs : (rs, listOf ([] : List Value).toArray n1) ∈ nz) (htd : (td, listOf tvs.toArray n2) ∈ nz) (hd1 : rs ≠ td) (hd2 : rs ≠ lg) (hd3 : td ≠ lg) (M : McM m rs td)
    (hx : m (Str.ofString "hook_impl") = some (.ref x)) (SA : SingleAt nz x me kind) (hds : (me, kind, dd) ∈ ds) (hk : kind ≤ 3)
    (TP : TurnPost w B Q E s h₀ L rs td lg er tab ds (outer.filterMap (·.frame)) nz ls tvs (oneP me kind)) :
    wpAny (model pg w) A (execs (mcLoop o39) (envAt o39.data L 39)) Q E s := by
  have h3 := Option.some.inj (ho.symm.trans (by k_is))
  subst h3
  clear ho
  dsimp only [mcLoop, bodyOf, tryOf, forOf, envAt, List.getElem?_cons_zero, List.getElem?_cons_succ] at hA ⊢
  obtain ⟨at_, ⟨dx, od, sl, kt, nk, hi1, hi2, hi3, hi4, hs0, hs1, hs3, hs10⟩, ts, nt, hat, hts⟩ := SA
  rw [decide_eq_false (by omega : ¬ 3 < kind)] at hs10
  rw [if_neg (by omega : ¬ 3 < kind)] at hs1
  obtain ⟨ot, kvs, ht1, ht2, ht3, ht4, ht5, ht6, ht7, ht8, ht9⟩ := TB.at_
  have hmr := M.rs
  have hmt := M.td
  have hmf := M.fi
  unfold hookO at hi1
  unfold tupOf at hi4
  k_steps
  refine Stop.go ?_
  refine wpAny_Try_except ?_
  k_steps
  refine Stop.go ?_
  refine args_L (fenv := envOfC _ _ L 39 _) (outer := outer) (ts := ts) (nt := nt) hh (by with_unfolding_all rfl) (fun _ => rfl) (by with_unfolding_all rfl) (by decide) rfl (by decide) rfl rfl rfl (by decide) (by decide) rfl rfl rfl rfl rfl (by intro q; cases q) hA Fs F N So hcA hoc hat ?_ ht1 ht2 TB.low ?_ ?_ ?_
  · have := congrArg List.length hts
    simp only [List.length_map, List.length_cons, List.length_nil] at this
    omega
  · intro Q E hq
    k_steps
    exact hq _
  · intro h1 tk1 D1 nD vs hvs F1 N1 fD
    obtain ⟨a, b, c, rfl, ha, hb, hc⟩ := map_three hts
    have hk3 : kind ≠ 3 := by
      rintro rfl
      have hn : wErrs 3 = Str.ofString "nowhere" := rfl
      rw [List.map_cons, List.map_cons, hb, hn, ht5] at hvs
      rcases vs with _ | ⟨v1, _ | ⟨v2, vs⟩⟩ <;> simp at hvs
    have hvs3 : vs = [.ref lg, .ref er, .ref dd] := by
      have hn : wErrs kind = Str.ofString "errs" := if_neg hk3
      rw [List.map_cons, List.map_cons, List.map_cons, List.map_nil, ha, hb, hc, hn, ht3, ht4, ht8 _ hds] at hvs
      obtain ⟨v1, v2, v3, rfl, q1, q2, q3⟩ := map_three hvs.symm
      cases q1; cases q2; cases q3; rfl
    subst hvs3
    k_steps
    refine Stop.go ?_
    with_reducible rename Fr _ _ _ _ => F4
    with_reducible rename News _ _ _ _ => N4
    obtain ⟨oL, hdL, hoL, DL⟩ := led_all F4 N4
    have sub : ∀ p ∈ nz, p ∈ (L, oL) :: (D1, listOf [Value.ref lg, Value.ref er, Value.ref dd].toArray nD) :: nz := fun p hp => .tail _ (.tail _ hp)
    have herL : er ≠ L := fun q => by obtain ⟨o, h1, _⟩ := W.err.dict; exact (N4 _ (.tail _ h1)).2.1 q
    have hfr2 : er ∉ L :: outer.filterMap (·.frame) := fun q => (List.mem_cons.mp q).elim herL hf1
    have hlgL : lg ≠ L := fun q => by obtain ⟨vs, n, h1, _⟩ := LG; exact (N4 _ (.tail _ h1)).2.1 q
    have hlgL : L ≠ lg := hlgL.symm
    refine wpAny_call (plain_con (B := B) (me := me) (kind := kind) (outer := _ :: outer) X T (fun a ha => let ⟨o, ho⟩ := hB a ha; ⟨o, sub _ ho⟩) DL ((So.hard hard_list).frame hdL) ⟨hA, frames_cons (Fs.mono fun _ q => .tail _ q) hdL rfl rfl, by omega, by omega⟩ hh (W.sub sub).err hfr2 (LG.sub sub) hls ((W.sub sub).deed _ hds).1 (W.deed _ hds).2.2.1 ?_ ?_)
    · intro hk2 v h5 tk5 nz5 D5 St5 So5 LG5 fv5 hv5
      have St5 : Step [lg] (L :: outer.filterMap (·.frame)) ((L, oL) :: (D1, listOf [Value.ref lg, Value.ref er, Value.ref dd].toArray nD) :: nz) nz5 := St5
      have BK := call_back (fr := outer.filterMap (·.frame)) (Mut := [lg]) F4 N4 hoL hdL D5 St5 So5 (by simpa using hlgL)
      have F5 := BK.fr
      have N5 := BK.nw
      have St15 : Step [lg] (outer.filterMap (·.frame)) nz (without nz5 L) := (push_step _ _).trans BK.st
      have So5' := BK.so
      have S5 := seq_without D5 (St5.dict (.head _) (by simpa using hlgL) hdL).choose_spec hdL
      have LG5' : LogAt B (without nz5 L) lg v (ls ++ [inD me]) := by
        obtain ⟨vs, n, h1, h2⟩ := LG5
        exact ⟨vs, n, S5 _ h1 ⟨_, _, rfl⟩, h2.mono fun a o hq q => ⟨S5 _ q.1 hq, q.2⟩⟩
      have fv : FreshV nz v := fun a q p hp => fv5 a q p (sub p hp)
      have hrs5 := St15.keeps hrs (by simpa using hd2) (fun _ q => by cases q) (fun _ _ q => by cases q)
      clear BK F4 N4
      have hcase : v = .none ∨ (∃ i t, v = .int i t) ∨ (∃ y t, v = .str y t) ∨ ∃ a, v = .ref a := by
        rcases hv5 with ⟨_, rfl⟩ | ⟨_, r, _⟩
        · exact .inl rfl
        · exact r.shape
      have hfin : ∀ h9 tk9 m9 n9, v ≠ .none → Fr h₀ L h9 m9 → News h₀ L h9 ((rs, listOf ([] ++ [v]).toArray n9) :: without (without nz5 L) rs) → McM m9 rs td → Q .brk { s with heap := h9, toks := tk9 } := by
        intro h9 tk9 m9 n9 hvn F9 N9 M9
        rcases hv5 with ⟨_, q⟩ | ⟨hk1, r, _⟩
        · exact absurd q hvn
        have St9 := step_of_news N9
        refine TP.brk v (valueD me) [inD me] h9 tk9 m9 _ n9 (fun q => ?_) F9 N9 M9 ((St15.weaken (fun _ q => mem_one q ▸ .head _) fun _ q => q).trans (St9.weaken (fun _ q => .tail _ q) fun _ q => nomatch q)) (softOK_turn N5 So5' hrs5 hard_list hard_list) ((r.map S5).step St9 fun a ha => .inr (by simp only [List.mem_cons, List.not_mem_nil, or_false] at ha; rw [ha]; exact hBr))
          (LG5'.step St9 (by simpa using hd2.symm) (fun a ha => .inr (by simp only [List.mem_cons, List.not_mem_nil, or_false] at ha; rw [ha]; exact hBr)) fun _ q _ => q) fv (.head _)
        simp only [oneP]
        rw [if_neg hk3, if_neg (show ¬ (kind = 2 ∨ kind = 8) by omega), if_neg (show ¬ kind = 9 by omega), if_neg hk1, if_neg (show ¬ 3 < kind by omega)]
        rfl
      rcases hcase with rfl | ⟨i, t, rfl⟩ | ⟨y, t, rfl⟩ | ⟨a, rfl⟩
      · have hk1 : kind = 1 := by
          rcases hv5 with ⟨q, _⟩ | ⟨_, _, q⟩
          · exact q
          · exact absurd rfl q
        k_steps
        with_reducible rename Fr _ _ _ _ => F9
        with_reducible rename News _ _ _ _ => N9
        refine TP.nxt [inD me] _ _ _ _ (fun q => ?_) F9 N9 ⟨M.rs, M.ex, M.td, M.fi⟩ St15 So5' LG5'
        simp only [oneP]
        rw [if_neg hk3, if_neg (show ¬ (kind = 2 ∨ kind = 8) by omega), if_neg (show ¬ kind = 9 by omega), if_pos hk1]
      · k_steps
        refine Stop.go ?_
        with_reducible rename Fr _ _ _ _ => F6
        with_reducible rename News _ _ _ _ => N6
        refine append_L F6 N6 hrs5 (fun h9 n9 F9 N9 => ?_) (Nat.zero_le _)
        clear F6
        k_steps
        exact hfin _ _ _ n9 (by simp) F9 N9 ⟨M.rs, M.ex, M.td, M.fi⟩
      · k_steps
        refine Stop.go ?_
        with_reducible rename Fr _ _ _ _ => F6
        with_reducible rename News _ _ _ _ => N6
        refine append_L F6 N6 hrs5 (fun h9 n9 F9 N9 => ?_) (Nat.zero_le _)
        clear F6
        k_steps
        exact hfin _ _ _ n9 (by simp) F9 N9 ⟨M.rs, M.ex, M.td, M.fi⟩
      · k_steps
        refine Stop.go ?_
        with_reducible rename Fr _ _ _ _ => F6
        with_reducible rename News _ _ _ _ => N6
        refine append_L F6 N6 hrs5 (fun h9 n9 F9 N9 => ?_) (Nat.zero_le _)
        clear F6
        k_steps
        exact hfin _ _ _ n9 (by simp) F9 N9 ⟨M.rs, M.ex, M.td, M.fi⟩
    · intro hk2 e h5 tk5 nz5 he D5 St5 So5 LG5 nt
      have St5 : Step [lg] (L :: outer.filterMap (·.frame)) ((L, oL) :: (D1, listOf [Value.ref lg, Value.ref er, Value.ref dd].toArray nD) :: nz) nz5 := St5
      have BK := call_back (fr := outer.filterMap (·.frame)) (Mut := [lg]) F4 N4 hoL hdL D5 St5 So5 (by simpa using hlgL)
      have S5 := seq_without D5 (St5.dict (.head _) (by simpa using hlgL) hdL).choose_spec hdL
      have LG5' : LogAt B (without nz5 L) lg .none (ls ++ [inD me]) := by
        obtain ⟨vs, n, h1, h2⟩ := LG5
        exact ⟨vs, n, S5 _ h1 ⟨_, _, rfl⟩, h2.mono fun a o hq q => ⟨S5 _ q.1 hq, q.2⟩⟩
      refine TP.err e me [inD me] _ _ _ _ (fun q => ?_) BK.fr BK.nw ⟨M.rs, M.ex, M.td, M.fi⟩ ((push_step _ _).trans BK.st) BK.so (.own he) LG5' ?_
      · simp only [oneP]
        rw [if_neg hk3, if_pos (.inl hk2)]
        rfl
      · exact noted_drop D5 nt (St5.dict (.head _) (by simpa using hlgL) hdL).choose_spec hdL
  · intro e oe h1 tk1 nz1 hmiss F1 N1 St1 So1 he hx hc hcls nt
    have hk3 : kind = 3 := by
      refine Decidable.byContradiction fun hk3 => ?_
      obtain ⟨a, b, c, rfl, ha, hb, hc'⟩ := map_three hts
      have hn : wErrs kind = Str.ofString "errs" := if_neg hk3
      obtain ⟨p, hp, hv⟩ := hmiss
      rw [hn] at hb
      simp only [List.mem_cons, List.not_mem_nil, or_false] at hp
      rcases hp with rfl | rfl | rfl
      · rw [ha, ht3] at hv; cases hv
      · rw [hb, ht4] at hv; cases hv
      · rw [hc', ht8 _ hds] at hv; cases hv
    show wpAny _ A (noteFrame (.ref e) _) _ _ _
    have Fs1 : FramesIn nz1 outer := Fs.step St1 fun _ q => nomatch q
    refine note_L (outer := outer) F1 N1 So1 he hx hA Fs1 rfl (by intro q; cases q) fun h2 nz2 A2 nt2 => ?_
    obtain ⟨o2, he2, hx2, tb2⟩ := nt2
    obtain ⟨o2', he2', _, hcls2, r2⟩ := A2.st.exc he (by simp) hx
    have := one_obj' (led_of A2.fr A2.nw) he2 he2'
    subst this
    refine flight_L (s := { s with heap := h2, toks := _ }) A2.fr A2.nw A2.ok he2 hx2 fun h3 nz3 A3 ke3 => ?_
    have hcls3 : o2.cls = .type "KeyError" := hcls2.trans hcls
    have Fs3 : FramesIn nz3 outer := (Fs1.step A2.st fun _ q => nomatch q).step A3.st fun _ q => nomatch q
    have F3 := A3.fr
    have N3 := A3.nw
    have St13 : Step [] (outer.filterMap (·.frame)) nz nz3 := (St1.trans A2.st).trans (A3.st.weaken (fun _ q => q) fun _ q => nomatch q)
    have So3 := A3.ok
    have hc3 : CtxNone o2 := hc.step r2 hx
    clear A2 A3 F N F1 N1
    refine handle_raise_L (T := "KeyError") (outer := outer) (s := { s with heap := h3, toks := _ }) (by rw [isSubtype_type]; kernel_rfl) (by rw [isSubtype_type]; kernel_rfl) (Looks.of_pure (by rw [hcls3, isSubtype_type]; kernel_rfl)) F3 N3 So3 ke3 hx2 rfl rfl hA rfl rfl ?_ ?_
    · intro Q E hq
      walk1
      exact hq
    · intro h4 nz4 F4 N4 St4 So4 ke4
      clear F3 N3
      k_steps
      refine Stop.go ?_
      rw [arm_exec_Raise]
      refine wpAny_bind (wpAny_standAt (raiseFrom_L (L := L) (k := e) X rfl ?_))
      refine wpAny_bind ?_
      k_steps
      refine Stop.go ?_
      refine hook_new X T F4.keep (mg_of X T.g (by k_is)) fun h5 e5 hm => ?_
      obtain ⟨t5, het, -, -⟩ := hm.there
      obtain ⟨F5, N5, fe⟩ := new_fr F4 N4 hm.keeps hm.new het
      clear F4 N4
      refine wpAny_bind (wpAny_standAt (wpAny_pure ?_))
      refine wpAny_bind ?_
      k_steps
      refine wpAny_bind (wpAny_standAt (wpAny_pure ?_))
      refine ⟨e5, _, o2, _, nz4, rfl, rfl, F5, N5, fe, So4, ⟨.ref 24, .inr (.inr (.inr rfl)), rfl, _, rfl⟩, ke4, hx2, hc3, fun h6 o6 F6 N6 So6 hx6 hcls6 => ?_⟩
      refine ⟨e5, o6, _, _, rfl, F6, N6, So6, .head _, hx6, (Fs3.step St4 fun _ q => nomatch q).mono fun _ q => .tail _ q, fun h7 v7 nz7 tk7 F7 N7 St7 So7 nt7 => ?_⟩
      obtain ⟨o8, he8, hx8, hcls8, _⟩ := St7.exc (.head _) (by simp) hx6
      have St17 : Step [] (outer.filterMap (·.frame)) nz nz7 := ((St13.trans (St4.weaken (fun _ q => q) fun _ q => nomatch q)).trans (push_step _ _)).trans St7
      refine TP.err e5 (-1) [] h7 tk7 _ nz7 (fun q => ?_) F7 N7 ⟨M.rs, M.ex, M.td, M.fi⟩ (St17.weaken (fun _ q => nomatch q) fun _ q => q) So7 (.hook he8 hx8 (hcls8.trans hcls6)) ?_ nt7
      · simp only [oneP]
        rw [if_pos hk3]
      · rw [List.append_nil]
        exact LG.step St17 (by simp) (fun _ q => nomatch q) fun _ q => nomatch q
end Mine
namespace Mine
open PySem PySem.W PySem.Calls PyProof.Rows
theorem norm_end2 {h₀ h : Heap} {L : Addr} {Y : Ledger} {pt rw : Addr} {o ol : Obj} {m : Str → Option Value} (F : Fr h₀ L h m) (N : News h₀ L h Y) (So : SoftOK Y) (h1 : (pt, o) ∈ Y) (h2 : (rw, ol) ∈ Y) (_ : True) : True := trivial
def stp (r : Row) (u : Int × (Row → Row)) : Row := wrapM u.1 (u.2 r)
def envF (d : Data) (L f : Addr) : Env := match d with
  | .func fd => envOf fd.qualname fd.scope L f fd.code
  | _ => envOf (Str.ofString "") noScope L f .none
theorem same_back {h₀ h h' : Heap} {L a : Addr} {m : Str → Option Value} {X Y : Ledger} {oL : Obj} (F : Fr h₀ L h m) (ho : h.get? L = some oL) (hd : ∃ es ep, oL.data = .dict es ep) (D : Led h₀ h' Y) (So : SoftOK Y) (S : Same a ((L, oL) :: X) Y) (hne : L ≠ a) :
    Fr h₀ L h' m ∧ News h₀ L h' (without Y L) ∧ SoftOK (without Y L) := by
  have hL := S _ (.head _) hne
  exact ⟨⟨ns_slots (sl := oL.slots) F.ns ho (D.at_ _ hL).1, D.keep, F.above⟩, fun p hp => ⟨(D.at_ p (mem_without.mp hp).1).1, (mem_without.mp hp).2, (D.at_ p (mem_without.mp hp).1).2⟩, softOK_drop D So hL hd (fun p hp => (mem_without.mp hp).1) fun p hp hne => mem_without.mpr ⟨hp, hne⟩⟩
theorem norm_L {h₀ h : Heap} {Y : Ledger} {pt rw : Addr} {o ol : Obj} (D : Led h₀ h Y) (h1 : (pt, o) ∈ Y) (h2 : (rw, ol) ∈ Y) : ∀ p, p ∈ Y ↔ p ∈ (pt, o) :: (rw, ol) :: without (without Y pt) rw := fun p => by
  constructor
  · intro hp
    by_cases q : p.1 = pt
    · have : p = (pt, o) := Prod.ext q (one_obj' D (show (pt, p.2) ∈ Y from q ▸ hp) h1)
      rw [this]; exact .head _
    · by_cases q2 : p.1 = rw
      · have : p = (rw, ol) := Prod.ext q2 (one_obj' D (show (rw, p.2) ∈ Y from q2 ▸ hp) h2)
        rw [this]; exact .tail _ (.head _)
      · exact .tail _ (.tail _ (mem_without.mpr ⟨mem_without.mpr ⟨hp, q⟩, q2⟩))
  · intro hp
    rcases List.mem_cons.mp hp with rfl | hp
    · exact h1
    · rcases List.mem_cons.mp hp with rfl | hp
      · exact h2
      · exact (mem_without.mp (mem_without.mp hp).1).1
theorem softOK_iff {Y Y' : Ledger} (So : SoftOK Y) (h : ∀ p, p ∈ Y ↔ p ∈ Y') : SoftOK Y' := fun q hq hx => by
  obtain ⟨vs, h1, h2, h3⟩ := So q ((h q).mpr hq) hx
  refine ⟨vs, h1, h2, h3.imp id ?_⟩
  rintro ⟨T, oT, ts, a, b, c, d, e⟩
  exact ⟨T, oT, ts, a, (h _).mp b, c, d, e⟩
theorem norm_end {h₀ h : Heap} {L : Addr} {Y : Ledger} {pt rw : Addr} {o ol : Obj} {m : Str → Option Value} (F : Fr h₀ L h m) (N : News h₀ L h Y) (So : SoftOK Y) (h1 : (pt, o) ∈ Y) (h2 : (rw, ol) ∈ Y) :
    ∃ nr, News h₀ L h ((pt, o) :: (rw, ol) :: nr) ∧ SoftOK ((pt, o) :: (rw, ol) :: nr) ∧ (∀ p ∈ nr, p.1 ≠ pt ∧ p.1 ≠ rw) ∧ ∀ p ∈ Y, p.1 ≠ pt → p.1 ≠ rw → p ∈ nr := by
  have e := norm_L (led_of F N) h1 h2
  exact ⟨_, fun p hp => N p ((e p).mpr hp), softOK_iff So e, fun p hp => ⟨(mem_without.mp (mem_without.mp hp).1).2, (mem_without.mp hp).2⟩, fun p hp a b => mem_without.mpr ⟨mem_without.mpr ⟨hp, a⟩, b⟩⟩
theorem forAny_T {w : World} {A : Around} {s : Shared} {R : Result → Shared → Prop} {target : Expr} {it : Value} {body orelse : List Stmt} {env : Env} (I : Nat → Shared → Prop)
    (turn : ∀ n s, I n s → wpAny (model pg w) A (pyNext it) (fun r s₁ => match r with
      | none => wpAny (model pg w) A (execs orelse env) (fun f s₃ => R (.ok f) s₃) (notedBy (model pg w) A env fun e s' => R (.error e) s') s₁
      | some v => wpAny (model pg w) A (letOwnedTupleGo target it v) (fun _ s₁' =>
          wpAny (model pg w) A (assign target env v) (fun _ s₂ => wpAny (model pg w) A (execs body env) (fun f s₃ => match f with
            | .next | .cont => Turn n I s₃
            | .brk => R (.ok .next) s₃
            | .ret v => R (.ok (.ret v)) s₃) (notedBy (model pg w) A env fun e s' => R (.error e) s') s₂) (notedBy (model pg w) A env fun e s' => R (.error e) s') s₁') (notedBy (model pg w) A env fun e s' => R (.error e) s') s₁) (notedBy (model pg w) A env fun e s' => R (.error e) s') s)
    (n : Nat) (h : I n s) : codeAny (model pg w) A (.forLoop target it body orelse env) R s := codeAny_forLoop_any I turn n h
local macro_rules | `(tactic| walk_at "call ref") => `(tactic| refine Stop.of ?_)
local macro_rules | `(tactic| walk_at "exec For") => `(tactic| refine Stop.of ?_)
local macro_rules | `(tactic| walk_at "exec For Tuple Name") => `(tactic| refine Stop.of ?_)
local macro_rules | `(tactic| walk_at "binaryOp Add ref ref") => `(tactic| refine Stop.of ?_)
local macro_rules | `(tactic| walk_at "assign Tuple") => `(tactic| refine Stop.of ?_)
local macro_rules | `(tactic| walk_at "subscriptTail Name Name ref int") => `(tactic| refine Stop.of ?_)
local macro_rules | `(tactic| k_mem) => `(tactic| assumption)
local macro_rules | `(tactic| walk_at "eval Name") => `(tactic| (k_here; k_dflt (refine' ldE ?k1 ?k2 ?_ rfl rfl (by decide); (case k1 => k_asm); (case k2 => first | exact rfl | assumption); k_whole)))
theorem kfillj25 : (PySem.Challenge.rw_fe0222_01, hd.heap_39) = (PySem.Challenge.rw_fe0222_01, hd.heap_39) := by
  k_fill
  rfl
theorem fold_tail {w : World} {h₀ : Heap} {mean : ExcName → Option Value} {mg mb : Str → Option Value} (X : (hd.heap_39 w.params).In h₀) (T : TopH mean mg mb h₀) {oF : Obj} (ho : (hd.heap_39 w.params).lookup 154 = some oF) {A : Around} {s : Shared} {nz nr : Ledger} {outer : List Env} {Q : Flow → Shared → Prop} {E : Value → Shared → Prop} {L lg mk pt rw rs : Addr} {m : Str → Option Value} {o' : Obj} {ds : List (Int × Int × Addr)} {ms : List Int} {ps : List (Str × Addr)} {uvs : List Value} {us : List (Int × (Row → Row))} {nu nd : Nat}
    (hA : A.frames = some (envF oF.data L 154 :: outer)) (Fs : FramesIn nz outer) (hdep : A.depth + 9 < recursionLimit) (hun : A.units + 87 < cLine) (hh : A.handled = none) (F : Fr h₀ L s.heap m) (N : News h₀ L s.heap ((pt, o') :: nr)) (So : SoftOK ((pt, o') :: nr)) (hoff : ∀ p ∈ nr, p.1 ≠ pt) (hkeep : ∀ p ∈ nz, p.1 ≠ pt → p ∈ nr)
    (hm1 : m (Str.ofString "rest") = some (.ref rs)) (hm2 : m (Str.ofString "row") = some (.ref rw)) (hm3 : m (Str.ofString "marks") = some (.ref mk)) (hm4 : m (Str.ofString "parts") = some (.ref pt))
    (hmk : MarksAt nz mk ms) (hpm : pt ≠ mk) (hrw : (rw, listOf uvs.toArray nu) ∈ nr) (hrs : (rs, listOf ([] : List Value).toArray nd) ∈ nr) (hrs0 : ∀ p ∈ nz, p.1 ≠ rs) (hpd : o'.IsDictOf (strKind pg w) (kvsP ps)) (low : (pt == sysModules) = false) (hptf : pt ∉ outer.filterMap (·.frame)) (hWP : WordsP ps) (hpl : ps.length ≤ 14) (hul : uvs.length ≤ 14) (hml : ms.length ≤ 14) (hlg : ∃ o, (lg, o) ∈ nz) (hpt : ∃ o, (pt, o) ∈ nz)
    (hU : UnitsAt nr lg ds ps ms uvs us)
    (hQ : ∀ rl vs ps o' n h' tk' nz', Led h₀ h' nz' → SoftOK nz' → Same pt nz nz' → (pt, o') ∈ nz' → o'.IsDictOf (strKind pg w) (kvsP ps) → WordsP ps → ps.length ≤ 30 → (rl, listOf (List.toArray vs) n) ∈ nz' → vs.length ≤ 14 → (∀ p ∈ nz, p.1 ≠ rl) → RowAt (without (without nz' pt) rl) lg ds ps vs (us.foldl stp .nil) → Q (.ret (.ref rl)) { s with heap := h', toks := tk' }) :
    wpAny (model pg w) A (execs ((bodyOf oF.data).drop 4) (envF oF.data L 154)) Q E s := by
  have h3 := Option.some.inj (ho.symm.trans (by k_is))
  subst h3
  clear ho
  dsimp only [bodyOf, envF, List.drop] at hA ⊢
  obtain ⟨mt, nm, hmt, hms⟩ := hmk
  have hmt' := hkeep _ hmt hpm.symm
  k_steps
  refine Stop.go ?_
  refine wpAny_For ?_
  walk1
  refine wpAny_pyIter_list ⟨_, (N _ (.tail _ hrw)).1, rfl, nu, rfl⟩ ?_
  have F4 := F.push { cls := .type "list_iterator", data := .fields #[.ref rw, .int 0 0] }
  have N4 := News.push F N { cls := .type "list_iterator", data := .fields #[.ref rw, .int 0 0] }
  have hfI := fresh_at N
  have hz30 : (40 : Nat) ≤ sizeLine := by decide
  clear F N
  generalize s.heap.objs.size = I at *
  have hptI : pt ≠ I := hfI (pt, o') (.head _)
  have hnrI : ∀ p ∈ nr, p.1 ≠ I := fun p hp => hfI p (.tail _ hp)
  refine forAny_T (fun n s' => ∃ (j : Nat) (h' : Heap) (tk : Tok) (m' : Str → Option Value) (o' : Obj) (ps : List (Str × Addr)) (r : Row) (rs : Addr) (rvs : List Value) (nrs : Nat) (nf : Ledger) (oI : Obj),
    n = uvs.length - j ∧ j ≤ uvs.length ∧ s' = { s with heap := h', toks := tk } ∧ Fr h₀ L h' m' ∧ m' (Str.ofString "rest") = some (.ref rs) ∧ m' (Str.ofString "marks") = some (.ref mk) ∧ m' (Str.ofString "parts") = some (.ref pt) ∧
    News h₀ L h' ((pt, o') :: (I, oI) :: nf) ∧ SoftOK ((pt, o') :: (I, oI) :: nf) ∧ (∀ p ∈ nf, p.1 ≠ pt ∧ p.1 ≠ I) ∧ (∀ p ∈ nz, p.1 ≠ pt → p ∈ nf) ∧ o'.IsDictOf (strKind pg w) (kvsP ps) ∧ WordsP ps ∧ ps.length ≤ 14 + j ∧ ItAt oI rw j ∧
    (rw, listOf uvs.toArray nu) ∈ nf ∧ (rs, listOf rvs.toArray nrs) ∈ nf ∧ (∀ p ∈ nz, p.1 ≠ rs) ∧ rvs.length ≤ j ∧ RowAt (without nf rs) lg ds ps rvs r ∧ UnitsAt nf lg ds ps ms uvs us ∧ us.foldl stp .nil = (us.drop j).foldl stp r) ?_ uvs.length
    ⟨0, _, _, m, o', ps, .nil, rs, [], nd, nr, { cls := .type "list_iterator", data := .fields #[.ref rw, .int (0 : Nat) 0] }, rfl, Nat.zero_le _, rfl, F4, hm1, hm3, hm4, ?_, ?_, fun p hp => ⟨hoff p hp, hnrI p hp⟩, hkeep, hpd, hWP, by omega, ⟨rfl, rfl⟩, hrw, hrs, hrs0, Nat.le_refl _, .nil, hU, rfl⟩
  · rintro n s' ⟨j, h', tk, m', o', ps, r, rs, rvs, nrs, nf, oI, rfl, hj, rfl, F, hm1, hm3, hm4, N, So', hoff', hkeep', hpd', hWP', hpl', hIt, hrw', hrs', hrs0', hrl, hRow, hU', heq⟩
    have hmt2 := hkeep' _ hmt hpm.symm
    cases hv : uvs[j]? with
    | none =>
      have hje : j = uvs.length := Nat.le_antisymm hj (by simpa using hv)
      refine next_end hh F N (.tail _ (.head _)) hIt (.tail _ (.tail _ hrw')) rfl rfl hv fun h'' F3 N3 => ?_
      have SoE : SoftOK (without ((pt, o') :: (I, oI) :: nf) I) := softOK_without N So' (.tail _ (.head _)) hIt.hard
      clear F N
      k_steps
      with_reducible rename Fr _ _ _ _ => F9
      with_reducible rename News _ _ _ _ => N9
      refine hQ rs rvs ps o' nrs _ _ _ (led_of F9 N9) SoE (fun p hp hne => mem_without.mpr ⟨.tail _ (.tail _ (hkeep' p hp hne)), (hoff' p (hkeep' p hp hne)).2⟩) (mem_without.mpr ⟨.head _, hptI⟩) hpd' hWP' (by omega) (mem_without.mpr ⟨.tail _ (.tail _ hrs'), (hoff' _ hrs').2⟩) (by omega) hrs0' ?_
      rw [heq, hje, hU.length, List.drop_length]
      exact hRow.more (fun p hp => have hp1 := (mem_without.mp hp).1; mem_without.mpr ⟨mem_without.mpr ⟨mem_without.mpr ⟨.tail _ (.tail _ hp1), (hoff' p hp1).2⟩, (hoff' p hp1).1⟩, (mem_without.mp hp).2⟩) fun _ q => q
    | some y =>
      obtain ⟨u, hu, hUA⟩ := hU'.at hv
      cases hUA with
      | @mk t sl x kk tu n1 n2 mm g ht hsl hH hmm =>
      refine next_item F N (.tail _ (.head _)) hIt (.tail _ (.tail _ hrw')) rfl rfl hv fun h'' oI' hIt' F3 N3 => ?_
      have N5 : News h₀ L h'' ((pt, o') :: (I, oI') :: nf) := fun q hq => by
        rcases List.mem_cons.mp hq with rfl | hq
        · exact N3 _ (.tail _ (without_mem (.head _) hptI))
        · rcases List.mem_cons.mp hq with rfl | hq
          · exact N3 _ (.head _)
          · exact N3 q (.tail _ (mem_without.mpr ⟨.tail _ (.tail _ hq), (hoff' q hq).2⟩))
      have So5 : SoftOK ((pt, o') :: (I, oI') :: nf) := softOK_next N So' (.tail _ (.head _)) hIt.hard (fun p hp => by
        rcases List.mem_cons.mp hp with rfl | hp
        · exact .inl (.head _)
        · rcases List.mem_cons.mp hp with rfl | hp
          · exact .inr fun q => hIt'.hard q.soft
          · exact .inl (.tail _ (.tail _ hp))) fun p hp hne => by
        rcases List.mem_cons.mp hp with rfl | hp
        · exact .head _
        · rcases List.mem_cons.mp hp with rfl | hp
          · exact absurd rfl hne
          · exact .tail _ (.tail _ hp)
      clear F N N3
      refine wpAny_letOwnedTupleGo_listiter (l := rw) (i := j + 1) ⟨oI', (N5 _ (.tail _ (.head _))).1, hIt'.1, hIt'.2⟩ ?_
      k_steps
      refine Stop.go ?_
      refine unpackN_ F3 N5 (News.isTup N5 (.tail _ (.tail _ ht))) hh rfl rfl fun h5 F5 N6 => ?_
      clear F3 N5
      k_steps
      refine Stop.go ?_
      with_reducible rename Fr _ _ _ _ => F7
      with_reducible rename News _ _ _ _ => N7
      rename Heap => h7
      have lf7 := fresh_at N7
      refine add_lists (vs := [.ref x]) (ws := rvs) F7 N7 ⟨_, (N7 _ (.tail _ (.tail _ hsl))).1, rfl, n2, rfl⟩ ⟨_, (N7 _ (.tail _ (.tail _ hrs'))).1, rfl, nrs, rfl⟩ (fun h8 F8 N8 => ?_) (by simp only [List.length_cons, List.length_nil]; omega)
      dsimp only at F8 N8 lf7 ⊢
      have So8 : SoftOK ((h7.objs.size, listOf ([Value.ref x] ++ rvs).toArray 0) :: (pt, o') :: (I, oI') :: nf) := So5.hard hard_list
      generalize h7.objs.size = l3 at *
      have lpt : l3 ≠ pt := (lf7 _ (.head _)).symm
      have lI : l3 ≠ I := (lf7 _ (.tail _ (.head _))).symm
      have lnf : ∀ p ∈ nf, p.1 ≠ l3 := fun p hp => lf7 p (.tail _ (.tail _ hp))
      have lnz : ∀ p ∈ nz, p.1 ≠ l3 := fun p hp => by
        by_cases q : p.1 = pt
        · rw [q]; exact lpt.symm
        · exact lnf _ (hkeep' p hp q)
      replace N8 : News h₀ L h8 ((l3, listOf ([Value.ref x] ++ rvs).toArray 0) :: (pt, o') :: (I, oI') :: nf) := N8
      obtain ⟨tt, hmm2⟩ : ∃ tt, mt[kk]? = some (mm, tt) := by
        rw [← hms, List.getElem?_map] at hmm
        cases e : mt[kk]? with
        | none => rw [e] at hmm; cases hmm
        | some z => rw [e] at hmm; obtain ⟨z1, z2⟩ := z; cases hmm; exact ⟨z2, rfl⟩
      have hml2 : mt.length ≤ 14 := by rw [← hms, List.length_map] at hml; exact hml
      have hjl : j < uvs.length := by
        rcases Nat.lt_or_ge j uvs.length with q | q
        · exact q
        · rw [List.getElem?_eq_none q] at hv; cases hv
      have hdu : us.drop j = (mm, g) :: us.drop (j + 1) := by
        have hjl2 : j < us.length := hU.length ▸ hjl
        rw [List.getElem?_eq_getElem hjl2, Option.some.injEq] at hu
        rw [← hu]; exact List.drop_eq_getElem_cons hjl2
      have hkkl : kk < mt.length := by
        rcases Nat.lt_or_ge kk mt.length with q | q
        · exact q
        · rw [List.getElem?_eq_none q] at hmm2; cases hmm2
      clear F7 N7
      k_steps
      refine Stop.go ?_
      with_reducible rename Fr _ _ _ _ => F9
      with_reducible rename News _ _ _ _ => N9
      refine item_list ⟨_, (N9 _ (.tail _ (.tail _ (.tail _ hmt2)))).1, rfl, nm, rfl⟩ (by omega) (by omega) (x := .int mm tt) (by simp [hmm2]) ?_
      k_steps
      · refine Stop.go ?_
        rename _ < mm => hgt
        obtain ⟨oL, hdL, hoL, DL⟩ := led_all F9 N9
        have hptL : pt ≠ L := (N9 (pt, o') (.tail _ (.head _))).2.1
        refine wpAny_call (folded_con (outer := _ :: outer) (ws := [.ref x] ++ rvs) (ps := ps) (o := o') X T DL (So8.frame hdL) ⟨hA, frames_cons ((frames_same Fs hkeep' hptf).mono fun _ q => .tail _ (.tail _ (.tail _ q))) hdL rfl rfl, by omega, by omega⟩ hh (.tail _ (.head _)) (.tail _ (.tail _ (.head _))) hpd' low (by omega) (by simp only [List.length_append, List.length_cons, List.length_nil]; omega) (wordsP_new hWP' (by omega)) (show pt ∉ L :: outer.filterMap (·.frame) from fun q => (List.mem_cons.mp q).elim hptL hptf) fun rl il x2 at_ o2 n5 n6 hA2 tkA nzA DA SoA SmA hptA hpdA hilA filA IA AA fatA hrlA frlA nilA natA => ?_)
        obtain ⟨FA, NA, SoA'⟩ := same_back F9 hoL hdL DA SoA SmA hptL.symm
        have nL9 : ∀ p ∈ (l3, listOf ([Value.ref x] ++ rvs).toArray 0) :: (pt, o') :: (I, oI') :: nf, p.1 ≠ L := fun p hp => (N9 p hp).2.1
        clear N9 F9
        have toA : ∀ p ∈ (l3, listOf ([Value.ref x] ++ rvs).toArray 0) :: (pt, o') :: (I, oI') :: nf, p.1 ≠ pt → p ∈ without nzA L := fun p hp a => mem_without.mpr ⟨SmA p (.tail _ hp) a, nL9 p hp⟩
        k_steps
        with_reducible rename Fr _ _ _ _ => FD
        with_reducible rename News _ _ _ _ => ND
        obtain ⟨nf', NE, SoE, offE, inE⟩ := norm_end FD ND SoA' (o := o2) (ol := oI') (mem_without.mpr ⟨hptA, hptL⟩) (toA _ (.tail _ (.tail _ (.head _))) hptI.symm)
        have inR : ∀ p ∈ nf, p ∈ nf' := fun p hp => inE p (toA p (.tail _ (.tail _ (.tail _ hp))) (hoff' p hp).1) (hoff' p hp).1 (hoff' p hp).2
        have inFr : ∀ p ∈ nzA, (∀ q ∈ (L, oL) :: (l3, listOf ([Value.ref x] ++ rvs).toArray 0) :: (pt, o') :: (I, oI') :: nf, q.1 ≠ p.1) → p ∈ nf' := fun p hp h => inE p (mem_without.mpr ⟨hp, fun q => h (L, oL) (.head _) q.symm⟩) (fun q => h (pt, o') (.tail _ (.tail _ (.head _))) q.symm) (fun q => h (I, oI') (.tail _ (.tail _ (.tail _ (.head _)))) q.symm)
        obtain ⟨nwI, IA1, IA2⟩ := IA
        have hAA : ArgsAt (without nf' rl) at_ [wLog, Str.ofString "errs", wDeeds, wParts, pword ps.length] := by
          obtain ⟨ts, k5, g1, g2⟩ := AA
          exact ⟨ts, k5, mem_without.mpr ⟨inFr _ g1 fatA, natA⟩, g2⟩
        have inz : ∀ p ∈ nz, ∃ o, (p.1, o) ∈ (L, oL) :: (l3, listOf ([Value.ref x] ++ rvs).toArray 0) :: (pt, o') :: (I, oI') :: nf := fun p hp => by
          by_cases q : p.1 = pt
          · exact ⟨o', q ▸ .tail _ (.tail _ (.head _))⟩
          · exact ⟨p.2, .tail _ (.tail _ (.tail _ (.tail _ (hkeep' p hp q))))⟩
        have hilg : il ≠ lg := fun q => by
          obtain ⟨ol, hl⟩ := hlg
          obtain ⟨o3, h3⟩ := inz _ hl
          exact filA (lg, o3) h3 q.symm
        have frl0 : ∀ p ∈ nz, p.1 ≠ rl := fun p hp => by
          obtain ⟨o3, h3⟩ := inz _ hp
          exact frlA (p.1, o3) h3
        have hRow0 : RowAt nf lg ds ps rvs r := hRow.more (fun p hp => (mem_without.mp hp).1) fun _ q => q
        have frl9 : ∀ p ∈ nf, p.1 ≠ rl := fun p hp => frlA p (.tail _ (.tail _ (.tail _ (.tail _ hp))))
        have hrow1 : RowAt (without nf' rl) lg ds (ps ++ [(pword ps.length, il)]) ([.ref x] ++ rvs) (g r) := (hH.row hRow0).more (fun p hp => mem_without.mpr ⟨inR p hp, frl9 p hp⟩) fun _ q => List.mem_append.mpr (.inl q)
        refine ⟨uvs.length - (j + 1), by omega, j + 1, _, _, _, o2, ps ++ [(pword ps.length, il)], .part (g r) .nil, rl, [.ref x2], n6, nf', oI', rfl, hjl, rfl, FD, rfl, hm3, hm4, NE, SoE, offE, fun p hp hne => inR p (hkeep' p hp hne), hpdA, wordsP_snoc hWP' il, by rw [List.length_append, List.length_singleton]; omega, hIt', inR _ hrw', inFr _ hrlA frlA, frl0, by simp, ?_, hU'.more inR (fun _ q => List.mem_append.mpr (.inl q)), ?_⟩
        · exact .part (IA1.mono fun p hp => mem_without.mpr ⟨inFr p (IA2 p hp).1 (IA2 p hp).2.1, (IA2 p hp).2.2⟩) hAA (List.mem_append.mpr (.inr (.head _))) hilg (mem_without.mpr ⟨inFr _ hilA filA, nilA⟩) hrow1 .nil
        · rw [heq, hdu, List.foldl_cons]
          show List.foldl stp (wrapM mm (g r)) _ = _
          rw [wrapM, if_pos hgt]
      · rename ¬ _ < mm => hgt
        obtain ⟨nf', NE, SoE, offE, inE⟩ := norm_end F9 N9 So8 (o := o') (ol := oI') (.tail _ (.head _)) (.tail _ (.tail _ (.head _)))
        have inR : ∀ p ∈ nf, p ∈ nf' := fun p hp => inE p (.tail _ (.tail _ (.tail _ hp))) (hoff' p hp).1 (hoff' p hp).2
        refine ⟨uvs.length - (j + 1), by omega, j + 1, _, _, _, o', ps, g r, l3, [.ref x] ++ rvs, 0, nf', oI', rfl, hjl, rfl, F9, rfl, hm3, hm4, NE, SoE, offE, fun p hp hne => inR p (hkeep' p hp hne), hpd', hWP', by omega, hIt', inR _ hrw', inE _ (.head _) lpt lI, lnz, by simp only [List.length_append, List.length_cons, List.length_nil]; omega, (hH.row (hRow.more (fun p hp => (mem_without.mp hp).1) fun _ q => q)).more (fun p hp => mem_without.mpr ⟨inR p hp, lnf p hp⟩) fun _ q => q, hU'.more inR (fun _ q => q), ?_⟩
        rw [heq, hdu, List.foldl_cons]
        show List.foldl stp (wrapM mm (g r)) _ = _
        rw [wrapM, if_neg hgt]
  · intro p hp
    rcases List.mem_cons.mp hp with rfl | hp
    · exact N4 _ (.tail _ (.head _))
    · rcases List.mem_cons.mp hp with rfl | hp
      · exact N4 _ (.head _)
      · exact N4 p (.tail _ (.tail _ hp))
  · intro q hq hx
    have hq' : q ∈ (pt, o') :: nr := by
      rcases List.mem_cons.mp hq with rfl | hq
      · exact .head _
      · rcases List.mem_cons.mp hq with rfl | hq
        · exact absurd hx.soft (hard_seq (.inr (.inr (.inr (.inl rfl)))))
        · exact .tail _ hq
    obtain ⟨vs, h1, h2, h3⟩ := So q hq' hx
    refine ⟨vs, h1, h2, h3.imp id ?_⟩
    rintro ⟨T, oT, ts, a, b, c, d, e⟩
    refine ⟨T, oT, ts, a, ?_, c, d, e⟩
    rcases List.mem_cons.mp b with b | b
    · rw [b]; exact .head _
    · exact .tail _ (.tail _ b)
end Mine
namespace Mine
open PySem PySem.W PySem.Calls PyProof.Rows
theorem pure_back {h₀ h h' : Heap} {L : Addr} {m : Str → Option Value} {X new : Ledger} {oL : Obj} (F : Fr h₀ L h m) (N : News h₀ L h X) (ho : h.get? L = some oL) (hd : ∃ es ep, oL.data = .dict es ep) (D : Led h₀ h' (new ++ (L, oL) :: X)) (So : SoftOK (new ++ (L, oL) :: X)) (f : ∀ p ∈ new, ∀ q ∈ (L, oL) :: X, q.1 ≠ p.1) :
    Fr h₀ L h' m ∧ News h₀ L h' (new ++ X) ∧ SoftOK (new ++ X) := by
  have hL := (D.at_ (L, oL) (List.mem_append.mpr (.inr (.head _)))).1
  refine ⟨⟨ns_slots (sl := oL.slots) F.ns ho hL, D.keep, F.above⟩, fun p hp => ?_, softOK_drop D So (List.mem_append.mpr (.inr (.head _))) hd (fun p hp => ?_) fun p hp hne => ?_⟩
  · rcases List.mem_append.mp hp with hp | hp
    · exact ⟨(D.at_ p (List.mem_append.mpr (.inl hp))).1, fun q => f p hp (L, oL) (.head _) q.symm, (D.at_ p (List.mem_append.mpr (.inl hp))).2⟩
    · exact ⟨(D.at_ p (List.mem_append.mpr (.inr (.tail _ hp)))).1, (N p hp).2.1, (N p hp).2.2⟩
  · exact List.mem_append.mpr ((List.mem_append.mp hp).imp id fun q => .tail _ q)
  · rcases List.mem_append.mp hp with hp | hp
    · exact List.mem_append.mpr (.inl hp)
    · rcases List.mem_cons.mp hp with rfl | hp
      · exact absurd rfl hne
      · exact List.mem_append.mpr (.inr hp)
theorem UnitsAt.reverse {nz : Ledger} {lg : Addr} {ds : List (Int × Int × Addr)} {ps : List (Str × Addr)} {ms : List Int} {vs : List Value} {us : List (Int × (Row → Row))} (h : UnitsAt nz lg ds ps ms vs us) : UnitsAt nz lg ds ps ms vs.reverse us.reverse := by
  induction h with
  | nil => exact .nil
  | cons h1 _ ih =>
    rw [List.reverse_cons, List.reverse_cons]
    exact ih.append (.cons h1 .nil)
theorem foldU_rev (us : List (Int × (Row → Row))) : foldU us = us.reverse.foldl stp .nil := by
  rw [List.foldl_reverse]
  induction us with
  | nil => rfl
  | cons u us ih => rw [foldU, List.foldr_cons, ← ih]; rfl
theorem whileLoop_T {w : World} {A : Around} {s : Shared} {R : Result → Shared → Prop} {test : Expr} {body orelse : List Stmt} {env : Env} (I : Nat → Shared → Prop)
    (turn : ∀ n s, I n s →
      wpAny (model pg w) A (isTrue test env (eval test env)) (fun b s₂ =>
        if b then wpAny (model pg w) A (execs body env) (fun f s₃ => match f with
            | .next | .cont => Turn n I s₃
            | .brk => R (.ok .next) s₃
            | .ret v => R (.ok (.ret v)) s₃) (notedBy (model pg w) A env fun e s' => R (.error e) s') s₂
        else wpAny (model pg w) A (execs orelse env) (fun f s₃ => R (.ok f) s₃) (notedBy (model pg w) A env fun e s' => R (.error e) s') s₂)
        (notedBy (model pg w) A env fun e s' => R (.error e) s') s)
    (n : Nat) (h : I n s) : codeAny (model pg w) A (.whileLoop test body orelse env) R s := codeAny_whileLoop I turn n h
def Tst (c : Bool) (s : Shared) (h : Heap) (b : Bool) (s' : Shared) : Prop := b = c ∧ ∃ tk, s' = { s with heap := h, toks := tk }
theorem pairs_f1 {d : Int × Int} {ds : List (Int × Int)} {m : Int} {ms : List Int} (h : m ≠ 1) : pairs (d :: ds) (m :: ms) = false := by cases ds <;> simp [pairs, h]
theorem pairs_f2 {d : Int × Int} {ds : List (Int × Int)} {m : Int} {ms : List Int} (h : ¬ d.2 < 4) : pairs (d :: ds) (m :: ms) = false := by cases ds <;> simp [pairs, h]
theorem pairs_f3 {d : Int × Int} {m : Int} {ms : List Int} : pairs [d] (m :: ms) = false := rfl
theorem pairs_v {d e : Int × Int} {ds : List (Int × Int)} {m : Int} {ms : List Int} (h1 : m = 1) (h2 : d.2 < 4) : pairs (d :: e :: ds) (m :: ms) = decide (e.2 < 4) := by simp [pairs, h1, h2]
local macro_rules | `(tactic| walk_at "call ref") => `(tactic| refine Stop.of ?_)
local macro_rules | `(tactic| walk_at "exec While") => `(tactic| refine Stop.of ?_)
local macro_rules | `(tactic| walk_at "exec While Compare") => `(tactic| refine Stop.of ?_)
local macro_rules | `(tactic| walk_at "exec For Tuple Name") => `(tactic| refine Stop.of ?_)
local macro_rules | `(tactic| walk_at "exec For") => `(tactic| refine Stop.of ?_)
local macro_rules | `(tactic| walk_at "exec If") => `(tactic| refine Stop.of ?_)
local macro_rules | `(tactic| walk_at "call builtin:list.append") => `(tactic| refine Stop.of ?_)
local macro_rules | `(tactic| walk_at "call builtin:list.reverse") => `(tactic| refine Stop.of ?_)
local macro_rules | `(tactic| walk_at "binaryOp Add ref ref") => `(tactic| refine Stop.of ?_)
local macro_rules | `(tactic| walk_at "assign Tuple") => `(tactic| refine Stop.of ?_)
local macro_rules | `(tactic| walk_at "call builtin:len") => `(tactic| refine Stop.of ?_)
local macro_rules | `(tactic| walk_at "subscriptTail Name BinOp ref int") => `(tactic| refine Stop.of ?_)
local macro_rules | `(tactic| walk_at "subscriptTail Name Name ref int") => `(tactic| refine Stop.of ?_)
local macro_rules | `(tactic| k_mem) => `(tactic| assumption)
theorem kfillj3 : (PySem.Challenge.rw_fe0222_01, hd.heap_39) = (PySem.Challenge.rw_fe0222_01, hd.heap_39) := by
  k_fill
  rfl
theorem fold_con {w : World} {h₀ : Heap} {mean : ExcName → Option Value} {mg mb : Str → Option Value} (X : (hd.heap_39 w.params).In h₀) (T : TopH mean mg mb h₀) {A : Around} {s : Shared} {nz : Ledger} {outer : List Env} {R : Result → Shared → Prop} {lg dl mk pt : Addr} {o : Obj} {ds : List (Int × Int × Addr)} {ms : List Int} {nd : Nat}
    (D : Led h₀ s.heap nz) (So : SoftOK nz) (S : Stand A nz outer 10 90) (hh : A.handled = none) (hdl : (dl, listOf (ds.map fun p => Value.ref p.2.2).toArray nd) ∈ nz) (hmk : MarksAt nz mk ms) (hlen : ms.length = ds.length) (hl : ds.length ≤ 14)
    (hdeed : ∀ p ∈ ds, DeedAt nz p.2.2 p.1 p.2.1 ∧ 0 ≤ p.1 ∧ p.1 ≤ 100) (hlg : ∃ o, (lg, o) ∈ nz)
    (hpt : (pt, o) ∈ nz) (hpd : o.IsDictOf (strKind pg w) (kvsP [])) (low : (pt == sysModules) = false) (hptf : pt ∉ outer.filterMap (·.frame)) (hpl : pt ≠ dl) (hpm : pt ≠ mk)
    (hR : ∀ rl vs ps o' n h' tk' nz', Led h₀ h' nz' → SoftOK nz' → Same pt nz nz' → (pt, o') ∈ nz' → o'.IsDictOf (strKind pg w) (kvsP ps) → WordsP ps → ps.length ≤ 30 → (rl, listOf (List.toArray vs) n) ∈ nz' → vs.length ≤ 14 → (∀ p ∈ nz, p.1 ≠ rl) → RowAt (without (without nz' pt) rl) lg ds ps vs (foldU (units (ds.map fun p => (p.1, p.2.1)) ms)) → R (.ok (.ret (.ref rl))) { s with heap := h', toks := tk' }) :
    codeAny (model pg w) A (.call (.ref 154) ⟨[.ref dl, .ref mk, .ref pt], []⟩) R s := by
  obtain ⟨oF, hoF⟩ : ∃ oF, oF = oF ∧ (hd.heap_39 w.params).lookup 154 = some oF := ⟨_, rfl, by k_is⟩
  obtain ⟨-, hoF⟩ := hoF
  have hoF2 := hoF
  have h3F := Option.some.inj (hoF.symm.trans (by k_is))
  subst h3F
  refine enter_L (d := 9) (u := 87) (binds := [(Str.ofString "deeds", .ref dl), (Str.ofString "marks", .ref mk), (Str.ofString "parts", .ref pt)]) D X T.nolimit S (by k_is) (by k_is) (BindsTo.of_eq rfl) (locs rfl) ?_ rfl rfl rfl (by decide)
  intro L h₁ tk₁ F N lt hfr' hdp hun
  k_steps
  rename_i rw hA1 l1 Dt hB1 F1 N1 l2
  refine unpackItemsN_ F1 N1 (News.isTup N1 (.head _)) hh rfl fun h3 F3 N3 => ?_
  have N4 : News h₀ L h3 ((rw, listOf ([] : List Value).toArray 0) :: nz) := fun p hp => N3 p (.tail _ hp)
  clear F1 N1 N3
  have D4 := led_of F3 N4
  have l4 := l1
  k_steps
  refine Stop.go ?_
  refine wpAny_While ?_
  with_reducible rename Fr _ _ _ _ => F5
  with_reducible rename News _ _ _ _ => N5
  have hprw : pt ≠ rw := Nat.ne_of_lt (l4 _ hpt)
  have hdrw : dl ≠ rw := Nat.ne_of_lt (l4 _ hdl)
  obtain ⟨mt, nm, hmt, hms⟩ := hmk
  have hmrw : mk ≠ rw := Nat.ne_of_lt (l4 _ hmt)
  have hmtl : mt.length = ds.length := by rw [← hlen, ← hms, List.length_map]
  have hz30 : (30 : Nat) ≤ sizeLine := by decide
  refine whileLoop_T (fun n s' => ∃ (k : Nat) (h' : Heap) (tk tkk : Tok) (nr : Ledger) (o' : Obj) (ps : List (Str × Addr)) (uvs : List Value) (us : List (Int × (Row → Row))) (nu : Nat),
    n = ds.length - k ∧ k ≤ ds.length ∧ s' = { s with heap := h', toks := tk } ∧ Fr h₀ L h' (fun y => if y = Str.ofString "at" then some (.int (k : Int) tkk) else if y = Str.ofString "row" then some (.ref rw) else List.lookup y [(Str.ofString "deeds", Value.ref dl), (Str.ofString "marks", Value.ref mk), (Str.ofString "parts", Value.ref pt)].reverse) ∧
    News h₀ L h' ((pt, o') :: (rw, listOf uvs.toArray nu) :: nr) ∧ SoftOK ((pt, o') :: (rw, listOf uvs.toArray nu) :: nr) ∧ (∀ p ∈ nr, p.1 ≠ pt ∧ p.1 ≠ rw) ∧ (∀ p ∈ nz, p.1 ≠ pt → p ∈ nr) ∧ o'.IsDictOf (strKind pg w) (kvsP ps) ∧ WordsP ps ∧ ps.length ≤ k ∧ UnitsAt nr lg ds ps ms uvs us ∧
    us.length ≤ k ∧ units (ds.map fun p => (p.1, p.2.1)) ms = us ++ units ((ds.drop k).map fun p => (p.1, p.2.1)) (ms.drop k)) ?_ ds.length ⟨0, _, _, tk₁, without nz pt, o, [], [], [], 0, rfl, Nat.zero_le _, rfl, fr_fun F5 ?_, ?_, ?_, ?_, fun p hp hne => mem_without.mpr ⟨hp, hne⟩, hpd, rfl, Nat.zero_le _, .nil, Nat.zero_le _, rfl⟩
  · rintro n s' ⟨k, h', tk, tkk, nr, o', ps, uvs, us, nu, rfl, hk, rfl, F, N, So', hoff, hkeep, hpd', hWP, hpl', hU, hul, heq⟩
    have hdl' := hkeep _ hdl hpl.symm
    have hmt' := hkeep _ hmt hpm.symm
    have hfd : (((ds.map fun p => Value.ref p.2.2).toArray.size : Nat) : Int) < 2 ^ 63 := by simp; omega
    have hnd : (ds.map fun p => Value.ref p.2.2).toArray.size = ds.length := by simp
    k_steps
    refine Stop.go ?_
    refine len_list ⟨_, (N _ (.tail _ (.tail _ hdl'))).1, rfl, nd, rfl⟩ hfd ?_
    rw [hnd]
    k_steps
    · refine Stop.go ?_
      have hkl : k < ds.length := by omega
      obtain ⟨p, hp⟩ : ∃ p, ds[k]? = some p := ⟨_, List.getElem?_eq_getElem hkl⟩
      obtain ⟨q, hq⟩ : ∃ q, mt[k]? = some q := ⟨_, List.getElem?_eq_getElem (hmtl ▸ hkl)⟩
      have hdk : ds.drop k = p :: ds.drop (k + 1) := by
        rw [List.getElem?_eq_getElem hkl, Option.some.injEq] at hp
        rw [← hp]; exact List.drop_eq_getElem_cons hkl
      have hmk2 : ms.drop k = q.1 :: ms.drop (k + 1) := by
        have hkm : k < ms.length := hlen ▸ hkl
        have : ms[k]? = some q.1 := by rw [← hms, List.getElem?_map, hq]; rfl
        rw [List.getElem?_eq_getElem hkm, Option.some.injEq] at this
        rw [← this]; exact List.drop_eq_getElem_cons hkm
      obtain ⟨⟨td, ud, n3, hdd⟩, hb1, hb2⟩ := hdeed p (List.mem_of_getElem? hp)
      have hpd0 : p.2.2 ≠ pt := fun e => by
        have h1 := one_obj' D4 (.tail _ hpt) (show (pt, tupOf #[.int p.1 td, .int p.2.1 ud] n3) ∈ (rw, _) :: nz from e ▸ .tail _ hdd)
        obtain ⟨es, ep, hex, hdat, _⟩ := hpd
        rw [h1] at hdat; cases hdat
      have hdd' := hkeep _ hdd hpd0
      refine wpAny_If ?_
      refine wpAny_mono (Q := Tst (pairs ((ds.drop k).map fun p => (p.1, p.2.1)) (ms.drop k)) s h') ?_ (fun b s' hb => ?_) fun _ _ e => e
      · have hdu := hdd'
        unfold tupOf at hdu
        k_steps
        refine Stop.go ?_
        refine item_list ⟨_, (N _ (.tail _ (.tail _ hmt'))).1, rfl, nm, rfl⟩ (by omega) (by omega) (x := .int q.1 q.2) (by simp [hq]) ?_
        rw [hdk, hmk2, List.map_cons]
        k_steps
        · refine Stop.go ?_
          refine item_list ⟨_, (N _ (.tail _ (.tail _ hdl'))).1, rfl, nd, rfl⟩ (by omega) (by omega) (x := .ref p.2.2) (by simp [hp]) ?_
          k_steps
          · refine Stop.go ?_
            refine len_list ⟨_, (N _ (.tail _ (.tail _ hdl'))).1, rfl, nd, rfl⟩ hfd ?_
            rw [hnd]
            k_steps
            · have hkl2 : k + 1 < ds.length := by omega
              obtain ⟨p2, hp2⟩ : ∃ p, ds[k + 1]? = some p := ⟨_, List.getElem?_eq_getElem hkl2⟩
              have hdk2 : ds.drop (k + 1) = p2 :: ds.drop (k + 1 + 1) := by
                rw [List.getElem?_eq_getElem hkl2, Option.some.injEq] at hp2
                rw [← hp2]; exact List.drop_eq_getElem_cons hkl2
              obtain ⟨⟨te, ue, n4, hde⟩, hb3, hb4⟩ := hdeed p2 (List.mem_of_getElem? hp2)
              have hpd2 : p2.2.2 ≠ pt := fun e => by
                have h1 := one_obj' D4 (.tail _ hpt) (show (pt, tupOf #[.int p2.1 te, .int p2.2.1 ue] n4) ∈ (rw, _) :: nz from e ▸ .tail _ hde)
                obtain ⟨es, ep, hex, hdat, _⟩ := hpd
                rw [h1] at hdat; cases hdat
              have hde' := hkeep _ hde hpd2
              unfold tupOf at hde'
              refine Stop.go ?_
              refine item_list ⟨_, (N _ (.tail _ (.tail _ hdl'))).1, rfl, nd, rfl⟩ (by omega) (by omega) (x := .ref p2.2.2) (by
                have : ((k : Int) + 1).toNat = k + 1 := by omega
                rw [this]; simp [hp2]) ?_
              k_steps
              · exact ⟨by rw [hdk2, List.map_cons, pairs_v (by assumption) (by assumption)]; exact (decide_eq_true (by assumption)).symm, _, rfl⟩
              · exact ⟨by rw [hdk2, List.map_cons, pairs_v (by assumption) (by assumption)]; exact (decide_eq_false (by assumption)).symm, _, rfl⟩
            · exact ⟨by
                have : ds.drop (k + 1) = [] := List.drop_eq_nil_of_le (by omega)
                rw [this]; rfl, _, rfl⟩
          · exact ⟨(pairs_f2 (by assumption)).symm, _, rfl⟩
        · exact ⟨(pairs_f1 (by assumption)).symm, _, rfl⟩
      · obtain ⟨rfl, tk5, rfl⟩ := hb
        by_cases hpr : pairs ((ds.drop k).map fun p => (p.1, p.2.1)) (ms.drop k) = true
        · rw [if_pos hpr]
          have hkl2 : k + 1 < ds.length := by
            rcases Nat.lt_or_ge (k + 1) ds.length with q | q
            · exact q
            · rw [hdk, hmk2, List.drop_eq_nil_of_le q] at hpr
              simp [pairs] at hpr
          obtain ⟨p2, hp2⟩ : ∃ p, ds[k + 1]? = some p := ⟨_, List.getElem?_eq_getElem hkl2⟩
          have hdk2 : ds.drop (k + 1) = p2 :: ds.drop (k + 2) := by
            rw [List.getElem?_eq_getElem hkl2, Option.some.injEq] at hp2
            rw [← hp2]; exact List.drop_eq_getElem_cons hkl2
          obtain ⟨⟨te, ue, n4, hde⟩, hb3, hb4⟩ := hdeed p2 (List.mem_of_getElem? hp2)
          have hpd2 : p2.2.2 ≠ pt := fun e => by
            have h1 := one_obj' D4 (.tail _ hpt) (show (pt, tupOf #[.int p2.1 te, .int p2.2.1 ue] n4) ∈ (rw, _) :: nz from e ▸ .tail _ hde)
            obtain ⟨es, ep, hex, hdat, _⟩ := hpd
            rw [h1] at hdat; cases hdat
          have hde' := hkeep _ hde hpd2
          k_steps
          refine Stop.go ?_
          refine item_list ⟨_, (N _ (.tail _ (.tail _ hdl'))).1, rfl, nd, rfl⟩ (by omega) (by omega) (x := .ref p.2.2) (by simp [hp]) ?_
          k_steps
          refine Stop.go ?_
          obtain ⟨oL, hdL, hoL, DL⟩ := led_all F N
          refine wpAny_call (single_con (outer := _ :: outer) (me := p.1) (kind := p.2.1) (dd := p.2.2) X T DL ⟨hfr', frames_cons ((frames_same S.fs hkeep hptf).mono fun _ q => .tail _ (.tail _ q)) hdL rfl rfl, by omega, by omega⟩ hh (So'.frame hdL) ⟨td, ud, n3, .tail _ (.tail _ (.tail _ hdd'))⟩ hb1 hb2 fun x1 h6 tk6 new D6 So6 SA6 f6 => ?_)
          obtain ⟨F6, N6, So6'⟩ := pure_back F N hoL hdL D6 So6 f6
          clear F N
          have sub6 : ∀ p ∈ nr, p ∈ new ++ (pt, o') :: (rw, listOf uvs.toArray nu) :: nr := fun p hp => List.mem_append.mpr (.inr (.tail _ (.tail _ hp)))
          k_steps
          refine Stop.go ?_
          refine item_list ⟨_, (N6 _ (sub6 _ hdl')).1, rfl, nd, rfl⟩ (by omega) (by omega) (x := .ref p2.2.2) (by
            have : ((k : Int) + 1).toNat = k + 1 := by omega
            rw [this]; simp [hp2]) ?_
          k_steps
          refine Stop.go ?_
          obtain ⟨oL7, hdL7, hoL7, DL7⟩ := led_all F6 N6
          refine wpAny_call (single_con (outer := _ :: outer) (me := p2.1) (kind := p2.2.1) (dd := p2.2.2) X T DL7 ⟨hfr', frames_cons ((frames_same S.fs hkeep hptf).mono sub6) hdL7 rfl rfl, by omega, by omega⟩ hh (So6'.frame hdL7) ⟨te, ue, n4, .tail _ (sub6 _ hde')⟩ hb3 hb4 fun x2 h8 tk8 new2 D8 So8 SA8 f8 => ?_)
          obtain ⟨F8, N8, So8'⟩ := pure_back F6 N6 hoL7 hdL7 D8 So8 f8
          clear F6 N6
          k_steps
          refine Stop.go ?_
          with_reducible rename Fr _ _ _ _ => F9
          with_reducible rename News _ _ _ _ => N9
          rename_i l2x _ lx
          have So9 : SoftOK ((l2x, listOf [Value.ref x1, Value.ref x2].toArray 0) :: (new2 ++ (new ++ (pt, o') :: (rw, listOf uvs.toArray nu) :: nr))) := So8'.hard hard_list
          have sub9 : ∀ p ∈ new ++ (pt, o') :: (rw, listOf uvs.toArray nu) :: nr, p ∈ (l2x, listOf [Value.ref x1, Value.ref x2].toArray 0) :: (new2 ++ (new ++ (pt, o') :: (rw, listOf uvs.toArray nu) :: nr)) := fun p hp => .tail _ (List.mem_append.mpr (.inr hp))
          have mpt : (pt, o') ∈ new ++ (pt, o') :: (rw, listOf uvs.toArray nu) :: nr := List.mem_append.mpr (.inr (.head _))
          have mrw : (rw, listOf uvs.toArray nu) ∈ new ++ (pt, o') :: (rw, listOf uvs.toArray nu) :: nr := List.mem_append.mpr (.inr (.tail _ (.head _)))
          obtain ⟨oL9, hdL9, hoL9, DL9⟩ := led_all F9 N9
          have hptL : pt ≠ L := (N9 _ (sub9 _ mpt)).2.1
          refine wpAny_call (folded_con (outer := _ :: outer) (ws := [.ref x1, .ref x2]) (ps := ps) (o := o') X T DL9 (So9.frame hdL9) ⟨hfr', frames_cons (((frames_same S.fs hkeep hptf).mono sub6).mono sub9) hdL9 rfl rfl, by omega, by omega⟩ hh (.tail _ (.head _)) (.tail _ (sub9 _ mpt)) hpd' low (by omega) (by simp) (wordsP_new hWP (by omega)) (show pt ∉ L :: outer.filterMap (·.frame) from fun q => (List.mem_cons.mp q).elim hptL hptf) fun rl il x at_ o2 n5 n6 hA tkA nzA DA SoA SmA hptA hpdA hilA filA IA AA fatA hrlA frlA _ _ => ?_)
          obtain ⟨FA, NA, SoA'⟩ := same_back F9 hoL9 hdL9 DA SoA SmA hptL.symm
          have inA : ∀ p ∈ nzA, p.1 ≠ L → p ∈ without nzA L := fun p hp hne => mem_without.mpr ⟨hp, hne⟩
          have nL9 : ∀ p ∈ (l2x, listOf [Value.ref x1, Value.ref x2].toArray 0) :: (new2 ++ (new ++ (pt, o') :: (rw, listOf uvs.toArray nu) :: nr)), p.1 ≠ L := fun p hp => (N9 p hp).2.1
          have hlg9 : ∃ o, (lg, o) ∈ (l2x, listOf [Value.ref x1, Value.ref x2].toArray 0) :: (new2 ++ (new ++ (pt, o') :: (rw, listOf uvs.toArray nu) :: nr)) := by
            obtain ⟨ol, hl⟩ := hlg
            by_cases e : lg = pt
            · exact ⟨o', e ▸ sub9 _ mpt⟩
            · exact ⟨ol, sub9 _ (sub6 _ (hkeep _ hl e))⟩
          clear N9 F9
          have toA : ∀ p ∈ (l2x, listOf [Value.ref x1, Value.ref x2].toArray 0) :: (new2 ++ (new ++ (pt, o') :: (rw, listOf uvs.toArray nu) :: nr)), p.1 ≠ pt → p ∈ without nzA L := fun p hp a => inA p (SmA p (.tail _ hp) a) (nL9 p hp)
          have mrwA := toA _ (sub9 _ mrw) hprw.symm
          k_steps
          refine Stop.go ?_
          with_reducible rename Fr _ _ _ _ => FB
          with_reducible rename News _ _ _ _ => NB
          rename_i t _ lt
          refine append_L FB NB (.tail _ mrwA) (fun hC nC FC NC => ?_) (by rw [hU.length]; omega)
          have SoC : SoftOK ((rw, listOf (uvs ++ [Value.ref t]).toArray nC) :: without ((t, tupOf #[.int (k : Int) tkk, .ref rl] 0) :: without nzA L) rw) := softOK_turn NB (SoA'.hard hard_tup) (.tail _ mrwA) hard_list hard_list
          clear FB NB
          k_steps
          with_reducible rename Fr _ _ _ _ => FD
          with_reducible rename News _ _ _ _ => ND
          have mptA : (pt, o2) ∈ without nzA L := inA _ hptA hptL
          obtain ⟨nr', NE, SoE, offE, inE⟩ := norm_end FD ND SoC (o := o2) (ol := listOf (uvs ++ [Value.ref t]).toArray nC) (.tail _ (mem_without.mpr ⟨.tail _ mptA, hprw⟩)) (.head _)
          have inF : ∀ p ∈ without nzA L, p.1 ≠ pt → p.1 ≠ rw → p ∈ nr' := fun p hp a b => inE p (.tail _ (mem_without.mpr ⟨.tail _ hp, b⟩)) a b
          have inG : ∀ p ∈ (l2x, listOf [Value.ref x1, Value.ref x2].toArray 0) :: (new2 ++ (new ++ (pt, o') :: (rw, listOf uvs.toArray nu) :: nr)), p.1 ≠ pt → p.1 ≠ rw → p ∈ nr' := fun p hp a b => inF p (toA p hp a) a b
          have inR : ∀ p ∈ nr, p ∈ nr' := fun p hp => inG p (sub9 _ (sub6 _ hp)) (hoff p hp).1 (hoff p hp).2
          have inN1 : ∀ p ∈ new, p ∈ nr' := fun p hp => inG p (sub9 _ (List.mem_append.mpr (.inl hp))) (fun q => f6 p hp (pt, o') (.tail _ (.head _)) q.symm) (fun q => f6 p hp (rw, _) (.tail _ (.tail _ (.head _))) q.symm)
          have inN2 : ∀ p ∈ new2, p ∈ nr' := fun p hp => inG p (.tail _ (List.mem_append.mpr (.inl hp))) (fun q => f8 p hp (pt, o') (.tail _ mpt) q.symm) (fun q => f8 p hp (rw, _) (.tail _ mrw) q.symm)
          have inFr : ∀ p ∈ nzA, (∀ q ∈ (L, oL9) :: (l2x, listOf [Value.ref x1, Value.ref x2].toArray 0) :: (new2 ++ (new ++ (pt, o') :: (rw, listOf uvs.toArray nu) :: nr)), q.1 ≠ p.1) → p ∈ nr' := fun p hp h => inF p (inA p hp fun q => h (L, oL9) (.head _) q.symm) (fun q => h (pt, o') (.tail _ (sub9 _ mpt)) q.symm) (fun q => h (rw, _) (.tail _ (sub9 _ mrw)) q.symm)
          obtain ⟨nwI, IA1, IA2⟩ := IA
          have hrow2 : RowAt nr' lg ds (ps ++ [(pword ps.length, il)]) [.ref x1, .ref x2] (.one p.1 p.2.1 (.one p2.1 p2.2.1 .nil)) :=
            .one (SA6.step (Step.sub inN1 : Step [] [] new nr') (MutSeq.nil _) fun _ q => nomatch q) (List.mem_of_getElem? hp) (.one (SA8.step (Step.sub inN2 : Step [] [] new2 nr') (MutSeq.nil _) fun _ q => nomatch q) (List.mem_of_getElem? hp2) .nil)
          have hil' := inFr _ hilA filA
          have hAA : ArgsAt nr' at_ [wLog, Str.ofString "errs", wDeeds, wParts, pword ps.length] := by
            obtain ⟨ts, k5, g1, g2⟩ := AA
            exact ⟨ts, k5, inFr _ g1 fatA, g2⟩
          have hilg : il ≠ lg := fun q => by
            obtain ⟨ol, hl⟩ := hlg9
            exact filA _ (.tail _ hl) q.symm
          have htn : t ≠ pt ∧ t ≠ rw := ⟨Nat.ne_of_gt (lt _ mptA), Nat.ne_of_gt (lt _ mrwA)⟩
          have hhead : HeadAt nr' lg ds (ps ++ [(pword ps.length, il)]) x (Row.part (.one p.1 p.2.1 (.one p2.1 p2.2.1 .nil))) :=
            .part (IA1.mono fun p hp => inFr p (IA2 p hp).1 (IA2 p hp).2.1) hAA (List.mem_append.mpr (.inr (.head _))) hilg hil' hrow2
          have hpr2 : pairs ((ds.drop k).map fun p => (p.1, p.2.1)) (ms.drop k) = true := hpr
          obtain ⟨d1, d2, ds', m1, m2, ms', e1, e2, e3⟩ := units_pair hpr2 (by simp; omega)
          rw [hdk, hdk2, List.map_cons, List.map_cons] at e1
          have e4 : ms.drop (k + 1) = m2 :: ms' := by rw [hmk2] at e2; exact (List.cons.inj e2).2
          have e5 : q.1 = m1 := by rw [hmk2] at e2; exact (List.cons.inj e2).1
          obtain ⟨rfl, e6⟩ := List.cons.inj e1
          obtain ⟨rfl, rfl⟩ := List.cons.inj e6
          have e7 : ms.drop (k + 2) = ms' := by
            have : ms.drop (k + 2) = (ms.drop (k + 1)).drop 1 := by rw [List.drop_drop]
            rw [this, e4]; rfl
          obtain ⟨tkn, FZ⟩ : ∃ tkn, Fr h₀ L _ (fun y => if y = Str.ofString "at" then some (.int ((k + 2 : Nat) : Int) tkn) else if y = Str.ofString "row" then some (.ref rw) else List.lookup y [(Str.ofString "deeds", Value.ref dl), (Str.ofString "marks", Value.ref mk), (Str.ofString "parts", Value.ref pt)].reverse) := ⟨_, fr_fun FD store_again⟩
          refine ⟨ds.length - (k + 2), by omega, k + 2, _, _, tkn, nr', o2, ps ++ [(pword ps.length, il)], uvs ++ [.ref t], us ++ [(q.1, Row.part (.one p.1 p.2.1 (.one p2.1 p2.2.1 .nil)))], nC, rfl, by omega, rfl, FZ, NE, SoE, offE, fun p hp hne => inR p (hkeep p hp hne), hpdA, wordsP_snoc hWP il, by rw [List.length_append, List.length_singleton]; omega, (hU.more inR fun _ q => List.mem_append.mpr (.inl q)).append (.cons (.mk (inE _ (.tail _ (mem_without.mpr ⟨.head _, htn.2⟩)) htn.1 htn.2) (inFr _ hrlA frlA) hhead (by rw [← hms, List.getElem?_map, hq]; rfl)) .nil), by rw [List.length_append, List.length_singleton]; omega, ?_⟩
          rw [heq, e3, ← e5, List.append_assoc, e7]; rfl
        · rw [if_neg hpr]
          k_steps
          refine Stop.go ?_
          refine item_list ⟨_, (N _ (.tail _ (.tail _ hdl'))).1, rfl, nd, rfl⟩ (by omega) (by omega) (x := .ref p.2.2) (by simp [hp]) ?_
          k_steps
          refine Stop.go ?_
          obtain ⟨oL, hdL, hoL, DL⟩ := led_all F N
          refine wpAny_call (single_con (outer := _ :: outer) (me := p.1) (kind := p.2.1) (dd := p.2.2) X T DL ⟨hfr', frames_cons ((frames_same S.fs hkeep hptf).mono fun _ q => .tail _ (.tail _ q)) hdL rfl rfl, by omega, by omega⟩ hh (So'.frame hdL) ⟨td, ud, n3, .tail _ (.tail _ (.tail _ hdd'))⟩ hb1 hb2 fun x h6 tk6 new D6 So6 SA6 f6 => ?_)
          obtain ⟨F6, N6, So6'⟩ := pure_back F N hoL hdL D6 So6 f6
          clear F N
          k_steps
          refine Stop.go ?_
          with_reducible rename Fr _ _ _ _ => F8
          with_reducible rename News _ _ _ _ => N8
          rename_i sl _ l7 t _ l8
          obtain ⟨l8a, l8b⟩ := l8
          have l8c := allLt_at l8b
          have So8 : SoftOK ((t, tupOf #[.int (k : Int) tkk, .ref sl] 0) :: (sl, listOf [Value.ref x].toArray 0) :: (new ++ (pt, o') :: (rw, listOf uvs.toArray nu) :: nr)) := (So6'.hard hard_list).hard hard_tup
          have mrw : (rw, listOf uvs.toArray nu) ∈ (t, tupOf #[.int (k : Int) tkk, .ref sl] 0) :: (sl, listOf [Value.ref x].toArray 0) :: (new ++ (pt, o') :: (rw, listOf uvs.toArray nu) :: nr) := .tail _ (.tail _ (List.mem_append.mpr (.inr (.tail _ (.head _)))))
          refine append_L F8 N8 mrw (fun h9 n9 F9 N9 => ?_) (by rw [hU.length]; omega)
          have So9 : SoftOK ((rw, listOf (uvs ++ [Value.ref t]).toArray n9) :: without ((t, tupOf #[.int (k : Int) tkk, .ref sl] 0) :: (sl, listOf [Value.ref x].toArray 0) :: (new ++ (pt, o') :: (rw, listOf uvs.toArray nu) :: nr)) rw) := softOK_turn N8 So8 mrw hard_list hard_list
          clear F8 N8
          k_steps
          with_reducible rename Fr _ _ _ _ => FA
          with_reducible rename News _ _ _ _ => NA
          have ptl : pt < sl := l7 (pt, o') (List.mem_append.mpr (.inr (.head _)))
          have rwl : rw < sl := l7 (rw, listOf uvs.toArray nu) (List.mem_append.mpr (.inr (.tail _ (.head _))))
          have tnr : t ≠ rw := Nat.ne_of_gt (Nat.lt_trans rwl l8a)
          obtain ⟨nr', NB, SoB, offB, inB⟩ := norm_end FA NA So9 (o := o') (ol := listOf (uvs ++ [Value.ref t]).toArray n9) (.tail _ (mem_without.mpr ⟨.tail _ (.tail _ (List.mem_append.mpr (.inr (.head _)))), hprw⟩)) (.head _)
          have inC : ∀ p ∈ (t, tupOf #[.int (k : Int) tkk, .ref sl] 0) :: (sl, listOf [Value.ref x].toArray 0) :: (new ++ (pt, o') :: (rw, listOf uvs.toArray nu) :: nr), p.1 ≠ pt → p.1 ≠ rw → p ∈ nr' := fun p hp a b => inB p (.tail _ (mem_without.mpr ⟨hp, b⟩)) a b
          have inR : ∀ p ∈ nr, p ∈ nr' := fun p hp => inC p (.tail _ (.tail _ (List.mem_append.mpr (.inr (.tail _ (.tail _ hp)))))) (hoff p hp).1 (hoff p hp).2
          have inN : ∀ p ∈ new, p ∈ nr' := fun p hp => inC p (.tail _ (.tail _ (List.mem_append.mpr (.inl hp)))) (fun q => f6 p hp (pt, o') (.tail _ (.head _)) q.symm) (fun q => f6 p hp (rw, _) (.tail _ (.tail _ (.head _))) q.symm)
          have hprf : pairs ((p.1, p.2.1) :: (ds.drop (k + 1)).map fun p => (p.1, p.2.1)) (q.1 :: ms.drop (k + 1)) = false := by
            rw [hdk, hmk2, List.map_cons] at hpr; exact Bool.eq_false_iff.mpr hpr
          obtain ⟨tkn, FZ⟩ : ∃ tkn, Fr h₀ L _ (fun y => if y = Str.ofString "at" then some (.int ((k + 1 : Nat) : Int) tkn) else if y = Str.ofString "row" then some (.ref rw) else List.lookup y [(Str.ofString "deeds", Value.ref dl), (Str.ofString "marks", Value.ref mk), (Str.ofString "parts", Value.ref pt)].reverse) := ⟨_, fr_fun FA store_again⟩
          refine ⟨ds.length - (k + 1), by omega, k + 1, _, _, tkn, nr', o', ps, uvs ++ [.ref t], us ++ [(q.1, Row.one p.1 p.2.1)], n9, rfl, hkl, rfl, FZ, NB, SoB, offB, fun p hp hne => inR p (hkeep p hp hne), hpd', hWP, by omega, (hU.more inR fun _ q => q).append (.cons (.mk (inC _ (.head _) (Nat.ne_of_gt (Nat.lt_trans ptl l8a)) tnr) (inC _ (.tail _ (.head _)) (Nat.ne_of_gt ptl) (Nat.ne_of_gt rwl)) (.one (SA6.step (Step.sub inN : Step [] [] new nr') (MutSeq.nil _) fun _ q => nomatch q) (List.mem_of_getElem? hp)) (by rw [← hms, List.getElem?_map, hq]; rfl)) .nil), by rw [List.length_append, List.length_singleton]; omega, ?_⟩
          rw [heq, hdk, hmk2, List.map_cons, units_one hprf (by simp; omega), List.append_assoc]; rfl
    · have hke : k = ds.length := by omega
      refine Stop.go ?_
      with_reducible rename Fr _ _ _ _ => F1
      with_reducible rename News _ _ _ _ => N1
      obtain ⟨rs, F0, N0, lrs1, lrs2, lrs3⟩ : ∃ rs, Fr h₀ L _ (fun y => if y = Str.ofString "rest" then some (Value.ref rs) else if y = Str.ofString "at" then some (.int (k : Int) tkk) else if y = Str.ofString "row" then some (.ref rw) else List.lookup y [(Str.ofString "deeds", Value.ref dl), (Str.ofString "marks", Value.ref mk), (Str.ofString "parts", Value.ref pt)].reverse) ∧
          News h₀ L _ ((rs, listOf ([] : List Value).toArray 0) :: (pt, o') :: (rw, listOf uvs.toArray nu) :: nr) ∧ pt < rs ∧ rw < rs ∧ AllLt rs nr := ⟨_, F1, N1, by assumption⟩
      have lrs4 := allLt_at lrs3
      have N2 : News h₀ L _ ((rw, listOf uvs.toArray nu) :: (rs, listOf ([] : List Value).toArray 0) :: (pt, o') :: nr) := fun p hp => by
        rcases List.mem_cons.mp hp with rfl | hp
        · exact N0 _ (.tail _ (.tail _ (.head _)))
        · rcases List.mem_cons.mp hp with rfl | hp
          · exact N0 _ (.head _)
          · rcases List.mem_cons.mp hp with rfl | hp
            · exact N0 _ (.tail _ (.head _))
            · exact N0 p (.tail _ (.tail _ (.tail _ hp)))
      have hrsrw : rs ≠ rw := Nat.ne_of_gt lrs2
      have hrspt : rs ≠ pt := Nat.ne_of_gt lrs1
      clear F1 N1 N0
      dsimp only
      refine reverse_head F0 N2 (fun p hp => ?_) (fun h3 F3 N3 => ?_) (by simp only [List.size_toArray]; rw [hU.length]; omega)
      · rcases List.mem_cons.mp hp with rfl | hp
        · exact hrsrw
        · rcases List.mem_cons.mp hp with rfl | hp
          · exact hprw
          · exact (hoff p hp).2
      clear F0 N2
      have hN3 : News h₀ L h3 ((rw, listOf uvs.reverse.toArray nu) :: (rs, listOf ([] : List Value).toArray 0) :: (pt, o') :: nr) := N3
      clear N3
      have SoT : SoftOK ((pt, o') :: (rw, listOf uvs.reverse.toArray nu) :: (rs, listOf ([] : List Value).toArray 0) :: nr) := fun q hq hx => by
        have hq' : q ∈ (pt, o') :: (rw, listOf uvs.toArray nu) :: nr := by
          rcases List.mem_cons.mp hq with rfl | hq
          · exact .head _
          · rcases List.mem_cons.mp hq with rfl | hq
            · exact absurd hx.soft hard_list
            · rcases List.mem_cons.mp hq with rfl | hq
              · exact absurd hx.soft hard_list
              · exact .tail _ (.tail _ hq)
        obtain ⟨vs, h1, h2, h3⟩ := So' q hq' hx
        refine ⟨vs, h1, h2, h3.imp id ?_⟩
        rintro ⟨T, oT, ts, a, b, c, d, e⟩
        refine ⟨T, oT, ts, a, ?_, c, d, e⟩
        rcases List.mem_cons.mp b with b | b
        · rw [b]; exact .head _
        · rcases List.mem_cons.mp b with b | b
          · cases b; exact absurd (.inl c) hard_list
          · exact .tail _ (.tail _ (.tail _ b))
      have NT : News h₀ L h3 ((pt, o') :: (rw, listOf uvs.reverse.toArray nu) :: (rs, listOf ([] : List Value).toArray 0) :: nr) := fun p hp => by
        rcases List.mem_cons.mp hp with rfl | hp
        · exact hN3 _ (.tail _ (.tail _ (.head _)))
        · rcases List.mem_cons.mp hp with rfl | hp
          · exact hN3 _ (.head _)
          · rcases List.mem_cons.mp hp with rfl | hp
            · exact hN3 _ (.tail _ (.head _))
            · exact hN3 p (.tail _ (.tail _ (.tail _ hp)))
      clear hN3
      refine fold_tail (nr := (rw, listOf uvs.reverse.toArray nu) :: (rs, listOf ([] : List Value).toArray 0) :: nr) (nz := nz) (o' := o') (rs := rs) (rw := rw) (us := us.reverse) X T hoF2 hfr' S.fs (by omega) (by omega) hh F3 NT SoT (fun p hp => ?_) (fun p hp hne => .tail _ (.tail _ (hkeep p hp hne))) rfl rfl rfl rfl ⟨mt, nm, hmt, hms⟩ hpm (.head _) (.tail _ (.head _)) (fun p hp => ?_) hpd' low hptf hWP (by omega) (by rw [List.length_reverse, hU.length]; omega) (by omega) hlg ⟨_, hpt⟩ ((hU.more (fun _ q => .tail _ (.tail _ q)) fun _ q => q).reverse) ?_
      · rcases List.mem_cons.mp hp with rfl | hp
        · exact hprw.symm
        · rcases List.mem_cons.mp hp with rfl | hp
          · exact hrspt
          · exact (hoff p hp).1
      · by_cases q : p.1 = pt
        · rw [q]; exact hrspt.symm
        · exact Nat.ne_of_lt (lrs4 p (hkeep p hp q))
      · intro rl vs ps5 o5 n5 h5 tk5 nz5 D5 So5 Sm5 hpt5 hpd5 hWP5 hpl5 hrl5 hvl5 frl5 hRow5
        refine hR rl vs ps5 o5 n5 h5 tk5 nz5 D5 So5 Sm5 hpt5 hpd5 hWP5 hpl5 hrl5 hvl5 frl5 ?_
        have e1 : units (ds.map fun p => (p.1, p.2.1)) ms = us := by
          rw [heq, hke, List.drop_length, List.map_nil]
          simp [units]
        rw [e1, foldU_rev]
        exact hRow5
  · intro y
    by_cases q : y = Str.ofString "row"
    · subst q; rfl
    · simp only [if_neg q]; rfl
  · intro p hp
    rcases List.mem_cons.mp hp with rfl | hp
    · exact N5 _ (.tail _ hpt)
    · rcases List.mem_cons.mp hp with rfl | hp
      · exact N5 _ (.head _)
      · exact N5 p (.tail _ (mem_without.mp hp).1)
  · intro q hq hx
    have hq' : q ∈ nz := by
      rcases List.mem_cons.mp hq with rfl | hq
      · exact hpt
      · rcases List.mem_cons.mp hq with rfl | hq
        · exact absurd hx.soft hard_list
        · exact (mem_without.mp hq).1
    obtain ⟨vs, h1, h2, h3⟩ := So q hq' hx
    refine ⟨vs, h1, h2, h3.imp id ?_⟩
    rintro ⟨T, oT, ts, a, b, c, d, e⟩
    refine ⟨T, oT, ts, a, ?_, c, d, e⟩
    by_cases z : T = pt
    · subst z
      have := one_obj' D b hpt
      subst this
      exact .head _
    · exact .tail _ (.tail _ (mem_without.mpr ⟨b, z⟩))
  · exact fun p hp => ⟨(mem_without.mp hp).2, Nat.ne_of_lt (l4 p (mem_without.mp hp).1)⟩
end Mine
namespace Mine
open PySem PySem.W PySem.Calls PyProof.Rows
local macro_rules | `(tactic| walk_at "exec Try") => `(tactic| refine Stop.of ?_)
local macro_rules | `(tactic| walk_at "exec Assign cons ListComp") => `(tactic| refine Stop.of ?_)
local macro_rules | `(tactic| walk_at "exec Raise") => `(tactic| refine Stop.of ?_)
local macro_rules | `(tactic| walk_at "call ref") => `(tactic| refine Stop.of ?_)
local macro_rules | `(tactic| walk_at "call builtin:list.append") => `(tactic| refine Stop.of ?_)
local macro_rules | `(tactic| k_mem) => `(tactic| assumption)
local macro_rules | `(tactic| walk_at "eval Name") => `(tactic| (k_here; k_dflt (refine' ldE ?k1 ?k2 ?_ rfl rfl (by decide); (case k1 => k_asm); (case k2 => first | exact rfl | assumption); k_whole)))
local macro_rules | `(tactic| walk_at "getAttr ref") => `(tactic| (k_dflt (refine' get_slot ?k1 ?k2 ?k3 ?k4 ?k5 ?k6 ?k7 ?k8 ?k9 ?k10 ?k11 ?_; (case k1 => k_asm); (case k2 => k_asm); (case k3 => (refine' InstAt.of_news ?N ?h1 ?h2; (case N => k_asm); (case h1 => k_mem); (case h2 => k_mem))); (case k4 => k_is); (case k5 => k_is); (case k6 => k_is); (case k7 => k_is); (case k8 => k_is); (case k9 => k_is); (case k10 => assumption); (case k11 => k_handed); k_whole)))
local macro_rules | `(tactic| walk_at "truthy ref") => `(tactic| (k_dflt (refine' truthy_tupE ?N ?m ?_; (case N => k_asm); (case m => k_mem); k_whole)))
local macro_rules | `(tactic| walk_at "eval Call Attribute") => `(tactic| ((with_reducible show wpAny _ _ (eval (Expr.Call (Expr.Attribute _ _ _) [Expr.Starred _ _] [] _) _) _ _ _); refine starCall_E ?_))
theorem kfillhe : (PySem.Challenge.rw_fe0222_01, hd.heap_39) = (PySem.Challenge.rw_fe0222_01, hd.heap_39) := by
  k_fill
  rfl
theorem turn_wrap {w : World} {h₀ : Heap} {mean : ExcName → Option Value} {mg mb : Str → Option Value} (X : (hd.heap_39 w.params).In h₀) (T : TopH mean mg mb h₀) {o39 : Obj} (ho : (hd.heap_39 w.params).lookup 39 = some o39)
    {A : Around} {s : Shared} {nz : Ledger} {outer : List Env} {Q : Flow → Shared → Prop} {E : Value → Shared → Prop} {L lg er dl pt tb rs td x dd : Addr} {me kind : Int} {m : Str → Option Value} {oc : Obj} {tab : List (Int × Addr)} {ds : List (Int × Int × Addr)} {ps : List (Str × Addr)} {ls : List Dat} {tvs : List Value} {n1 n2 : Nat} {B : Addr → Prop} (hB : ∀ a, B a → ∃ o, (a, o) ∈ nz) (hBr : B rs) (hBt : B td)
    (F : Fr h₀ L s.heap m) (N : News h₀ L s.heap nz) (So : SoftOK nz) (hA : A.frames = some (envAt o39.data L 39 :: outer)) (Fs : FramesIn nz outer) (hdep : A.depth + 8 < recursionLimit) (hun : A.units + 80 < cLine) (hh : A.handled = none)
    (W : Wd w nz lg er dl pt tab ds ps) (TB : TableAt w nz tb lg er dl pt ds ps) (hf1 : er ∉ outer.filterMap (·.frame)) (LG : LogAt B nz lg .none ls) (hls : ls.length + 1 ≤ sizeLine)
    (hcA : (L + 1, oc) ∈ nz) (hoc : oc.data = .cell (some (.ref tb))) (hrs : (rs, listOf ([] : List Value).toArray n1) ∈ nz) (htd : (td, listOf tvs.toArray n2) ∈ nz) (hd1 : rs ≠ td) (hd2 : rs ≠ lg) (hd3 : td ≠ lg) (htz : tvs.length ≤ 100) (M : McM m rs td)
    (hx : m (Str.ofString "hook_impl") = some (.ref x)) (SA : SingleAt nz x me kind) (hds : (me, kind, dd) ∈ ds) (hk : 3 < kind)
    (TP : TurnPost w B Q E s h₀ L rs td lg er tab ds (outer.filterMap (·.frame)) nz ls tvs (oneP me kind)) :
    wpAny (model pg w) A (execs (mcLoop o39) (envAt o39.data L 39)) Q E s := by
  have h3 := Option.some.inj (ho.symm.trans (by k_is))
  subst h3
  clear ho
  dsimp only [mcLoop, bodyOf, tryOf, forOf, envAt, List.getElem?_cons_zero, List.getElem?_cons_succ] at hA ⊢
  obtain ⟨at_, ⟨dx, od, sl, kt, nk, hi1, hi2, hi3, hi4, hs0, hs1, hs3, hs10⟩, ts, nt, hat, hts⟩ := SA
  rw [decide_eq_true hk] at hs10
  rw [if_pos hk] at hs1
  obtain ⟨ot, kvs, ht1, ht2, ht3, ht4, ht5, ht6, ht7, ht8, ht9⟩ := TB.at_
  have hz2 : tvs.length ≤ sizeLine := Nat.le_trans htz (by decide)
  have Mlg : MutSeq [lg] nz := by
    obtain ⟨vs, n, g, _⟩ := LG
    exact mutSeq_one (led_of F N) g ⟨_, _, rfl⟩
  have hmr := M.rs
  have hmt := M.td
  have hmf := M.fi
  unfold hookO at hi1
  unfold tupOf at hi4
  k_steps
  refine Stop.go ?_
  refine wpAny_Try_except ?_
  k_steps
  refine Stop.go ?_
  refine args_L (fenv := envOfC _ _ L 39 _) (outer := outer) (ts := ts) (nt := nt) hh (by with_unfolding_all rfl) (fun _ => rfl) (by with_unfolding_all rfl) (by decide) rfl (by decide) rfl rfl rfl (by decide) (by decide) rfl rfl rfl rfl rfl (by intro q; cases q) hA Fs F N So hcA hoc hat ?_ ht1 ht2 TB.low ?_ ?_ ?_
  · have := congrArg List.length hts
    simp only [List.length_map, List.length_cons, List.length_nil] at this
    omega
  · intro Q E hq
    k_steps
    exact hq _
  · intro h1 tk1 D1 nD vs hvs F1 N1 fD
    obtain ⟨a, b, c, rfl, ha, hb, hc⟩ := map_three hts
    have hk3 : kind ≠ 3 := by omega
    have hvs3 : vs = [.ref lg, .ref er, .ref dd] := by
      have hn : wErrs kind = Str.ofString "errs" := if_neg hk3
      rw [List.map_cons, List.map_cons, List.map_cons, List.map_nil, ha, hb, hc, hn, ht3, ht4, ht8 _ hds] at hvs
      obtain ⟨v1, v2, v3, rfl, q1, q2, q3⟩ := map_three hvs.symm
      cases q1; cases q2; cases q3; rfl
    subst hvs3
    k_steps
    refine Stop.go ?_
    with_reducible rename Fr _ _ _ _ => F4
    with_reducible rename News _ _ _ _ => N4
    obtain ⟨oL, hdL, hoL, DL⟩ := led_all F4 N4
    have sub : ∀ p ∈ nz, p ∈ (L, oL) :: (D1, listOf [Value.ref lg, Value.ref er, Value.ref dd].toArray nD) :: nz := fun p hp => .tail _ (.tail _ hp)
    have herL : er ≠ L := fun q => by obtain ⟨o, h1, _⟩ := W.err.dict; exact (N4 _ (.tail _ h1)).2.1 q
    have hfr2 : er ∉ L :: outer.filterMap (·.frame) := fun q => (List.mem_cons.mp q).elim herL hf1
    have hlgL : lg ≠ L := fun q => by obtain ⟨vs, n, h1, _⟩ := LG; exact (N4 _ (.tail _ h1)).2.1 q
    have hlgL : L ≠ lg := hlgL.symm
    refine wpAny_call (wrap_con (B := B) (me := me) (kind := kind) (outer := _ :: outer) X T (fun a ha => let ⟨o, ho⟩ := hB a ha; ⟨o, sub _ ho⟩) DL ((So.hard hard_list).frame hdL) ⟨hA, frames_cons (Fs.mono fun _ q => .tail _ q) hdL rfl rfl, by omega, by omega⟩ hh (W.sub sub).err hfr2 (LG.sub sub) hls ((W.sub sub).deed _ hds).1 (W.deed _ hds).2.2.1 ?_ ?_)
    · intro hk8 v h5 tk5 nz5 D5 St5 So5 LG5 fv5 hv5
      have St5 : Step [lg] (L :: outer.filterMap (·.frame)) ((L, oL) :: (D1, listOf [Value.ref lg, Value.ref er, Value.ref dd].toArray nD) :: nz) nz5 := St5
      have BK := call_back (fr := outer.filterMap (·.frame)) (Mut := [lg]) F4 N4 hoL hdL D5 St5 So5 (by simpa using hlgL)
      have F5 := BK.fr
      have N5 := BK.nw
      have St15 : Step [lg] (outer.filterMap (·.frame)) nz (without nz5 L) := (push_step _ _).trans BK.st
      have So5' := BK.so
      have S5 := seq_without D5 (St5.dict (.head _) (by simpa using hlgL) hdL).choose_spec hdL
      have LG5' : LogAt B (without nz5 L) lg .none (ls ++ [inD me]) := by
        obtain ⟨vs, n, h1, h2⟩ := LG5
        exact ⟨vs, n, S5 _ h1 ⟨_, _, rfl⟩, h2.mono fun a o hq q => ⟨S5 _ q.1 hq, q.2⟩⟩
      have htd5 := St15.keeps htd (by simpa using hd3) (fun _ q => by cases q) (fun _ _ q => by cases q)
      clear BK F4 N4
      rcases hv5 with ⟨hk9, rfl⟩ | ⟨hk9, a, rfl, TA⟩
      · k_steps
        refine Stop.go ?_
        with_reducible rename Fr _ _ _ _ => F6
        with_reducible rename News _ _ _ _ => N6
        obtain ⟨oL6, hdL6, hoL6, DL6⟩ := led_all F6 N6
        have Fs5 : FramesIn (without nz5 L) outer := Fs.mut St15 Mlg
        refine wpAny_call (wrapfail_con (outer := _ :: outer) X T DL6 (So5'.frame hdL6) ⟨hA, frames_cons Fs5 hdL6 rfl rfl, by omega, by omega⟩ hh fun e h7 tk7 nz7 D7 St7 So7 EC7 nt7 => ?_)
        have St7 : Step [] (L :: outer.filterMap (·.frame)) ((L, oL6) :: without nz5 L) nz7 := St7
        have BK := call_back (fr := outer.filterMap (·.frame)) (Mut := []) F6 N6 hoL6 hdL6 D7 St7 So7 (by simp)
        have dL := (St7.dict (.head _) (by simp) hdL6).choose_spec
        refine TP.err e (-2) [inD me] _ _ _ _ (fun q => ?_) BK.fr BK.nw ⟨M.rs, M.ex, M.td, M.fi⟩ (St15.trans (BK.st.weaken (fun _ q => nomatch q) fun _ q => q)) BK.so ?_ (LG5'.step BK.st (by simp) (fun _ q => nomatch q) fun _ q => nomatch q) (noted_drop D7 nt7 dL hdL6)
        · simp only [oneP]
          rw [if_neg hk3, if_neg (show ¬ (kind = 2 ∨ kind = 8) by omega), if_pos hk9]
          rfl
        · cases EC7 ([] : List (Int × Addr)) with
          | own h => nomatch h
          | wrap g1 g2 g3 g4 => exact .wrap (without_mem g1 fun q => by subst q; have := one_obj' D7 g1 dL; subst this; obtain ⟨_, _, z⟩ := hdL6; obtain ⟨_, z2⟩ := g2.2; rw [z2] at z; cases z) g2 g3 g4
      · have TA' : TearAt (without nz5 L) a lg dd er := by
          obtain ⟨n, h⟩ := TA
          exact ⟨n, S5 _ h ⟨_, _, rfl⟩⟩
        have hso9 : ∀ n9, SoftOK ((td, listOf (tvs ++ [Value.ref a]).toArray n9) :: without (without nz5 L) td) := fun n9 => softOK_turn N5 So5' htd5 hard_list hard_list
        k_steps
        refine Stop.go ?_
        with_reducible rename Fr _ _ _ _ => F6
        with_reducible rename News _ _ _ _ => N6
        refine append_L F6 N6 htd5 (fun h9 n9 F9 N9 => ?_) hz2
        clear F6
        k_steps
        have St9 := step_of_news N9
        have hatd : a ≠ td := fun q => fv5 a rfl (td, _) (sub _ htd) q.symm
        refine TP.tear me kind dd a [inD me] _ _ _ _ n9 (fun q => ?_) hds F9 N9 ⟨M.rs, M.ex, M.td, M.fi⟩ ((St15.weaken (fun _ q => mem_one q ▸ .head _) fun _ q => q).trans (St9.weaken (fun _ q => .tail _ q) fun _ q => nomatch q)) (hso9 n9)
          (LG5'.step St9 (by simpa using hd3.symm) (fun a ha => .inr (by rw [mem_one ha]; exact hBt)) fun _ q => nomatch q) ?_ (.head _)
        · simp only [oneP]
          rw [if_neg hk3, if_neg (show ¬ (kind = 2 ∨ kind = 8) by omega), if_neg hk9, if_neg (show ¬ kind = 1 by omega), if_pos hk]
        · obtain ⟨n, h⟩ := TA'
          exact ⟨n, .tail _ (without_mem h hatd)⟩
    · intro hk2 e h5 tk5 nz5 he D5 St5 So5 LG5 nt
      have St5 : Step [lg] (L :: outer.filterMap (·.frame)) ((L, oL) :: (D1, listOf [Value.ref lg, Value.ref er, Value.ref dd].toArray nD) :: nz) nz5 := St5
      have BK := call_back (fr := outer.filterMap (·.frame)) (Mut := [lg]) F4 N4 hoL hdL D5 St5 So5 (by simpa using hlgL)
      have S5 := seq_without D5 (St5.dict (.head _) (by simpa using hlgL) hdL).choose_spec hdL
      have LG5' : LogAt B (without nz5 L) lg .none (ls ++ [inD me]) := by
        obtain ⟨vs, n, h1, h2⟩ := LG5
        exact ⟨vs, n, S5 _ h1 ⟨_, _, rfl⟩, h2.mono fun a o hq q => ⟨S5 _ q.1 hq, q.2⟩⟩
      refine TP.err e me [inD me] _ _ _ _ (fun q => ?_) BK.fr BK.nw ⟨M.rs, M.ex, M.td, M.fi⟩ ((push_step _ _).trans BK.st) BK.so (.own he) LG5' ?_
      · simp only [oneP]
        rw [if_neg hk3, if_pos (.inr hk2)]
        rfl
      · exact noted_drop D5 nt (St5.dict (.head _) (by simpa using hlgL) hdL).choose_spec hdL
  · intro e oe h1 tk1 nz1 hmiss F1 N1 St1 So1 he hx hc hcls nt
    exfalso
    obtain ⟨a, b, c, rfl, ha, hb, hc'⟩ := map_three hts
    have hn : wErrs kind = Str.ofString "errs" := if_neg (by omega)
    obtain ⟨p, hp, hv⟩ := hmiss
    rw [hn] at hb
    simp only [List.mem_cons, List.not_mem_nil, or_false] at hp
    rcases hp with rfl | rfl | rfl
    · rw [ha, ht3] at hv; cases hv
    · rw [hb, ht4] at hv; cases hv
    · rw [hc', ht8 _ hds] at hv; cases hv
end Mine
namespace Mine
open PySem PySem.W PySem.Calls PyProof.Rows
def CallC (w : World) (h₀ : Heap) (row : Row) (d u : Nat) (f : Addr) (args : Addr → Addr → Addr → Addr → Addr → Addr → List Value) : Prop :=
  ∀ {A : Around} {s : Shared} {nz : Ledger} {outer : List Env} {R : Result → Shared → Prop} {B : Addr → Prop} {lg er dl pt tb il : Addr} {tab : List (Int × Addr)} {ds : List (Int × Int × Addr)} {ps : List (Str × Addr)} {ls : List Dat} {vs : List Value} {n : Nat},
  (∀ a, B a → ∃ o, (a, o) ∈ nz) → Led h₀ s.heap nz → SoftOK nz → Stand A nz outer (d + 4 * dep row) (u + 20 * dep row) → A.handled = none → er ∉ outer.filterMap (·.frame) → pt ∉ outer.filterMap (·.frame) → tb ∉ outer.filterMap (·.frame) →
  Wd w nz lg er dl pt tab ds ps → (f = 39 → TableAt w nz tb lg er dl pt ds ps) → WordsOK ds ps → ds.length ≤ 100 → ps.length ≤ 100 → (il, listOf vs.reverse.toArray n) ∈ nz → il ≠ lg → RowAt nz lg ds ps vs row → LogAt B nz lg .none ls → ls.length + 2 * cnt row ≤ 1000 → cnt row ≤ 30 →
  (∀ v d h' tk' nz', (run row).1 = .ok d → Led h₀ h' nz' → Step [lg] (outer.filterMap (·.frame)) nz nz' → SoftOK nz' → Res B nz' lg v d → LogAt B nz' lg v (ls ++ (run row).2) → FreshV nz v → R (.ok (.ret v)) { s with heap := h', toks := tk' }) →
  (∀ e c h' tk' nz', (run row).1 = .err c → Led h₀ h' nz' → Step [lg] (outer.filterMap (·.frame)) nz nz' → SoftOK nz' → ECode nz' tab e c → LogAt B nz' lg .none (ls ++ (run row).2) → Noted nz' e → R (.error (.ref e)) { s with heap := h', toks := tk' }) →
  codeAny (model pg w) A (.call (.ref f) ⟨args lg er dl pt tb il, []⟩) R s
def MultiC (w : World) (h₀ : Heap) (row : Row) : Prop := ∀ (nm : Str) (t : Tok), CallC w h₀ row 100 610 39 fun _ _ _ _ tb il => [.str nm t, .ref il, .ref tb, .bool true]
def PartC (w : World) (h₀ : Heap) (row : Row) : Prop := CallC w h₀ row 102 620 126 fun lg er dl pt _ il => [.ref lg, .ref er, .ref dl, .ref pt, .ref il]
theorem frame_ne {nz : Ledger} {outer : List Env} {a : Addr} (Fs : FramesIn nz outer) (h : ∀ q ∈ nz, q.1 ≠ a) : a ∉ outer.filterMap (·.frame) := fun q => by
  obtain ⟨env, he, hf⟩ := List.mem_filterMap.mp q
  obtain ⟨_, L, o, h1, h2, _⟩ := Fs env he
  rw [h1] at hf
  cases hf
  exact h _ h2 rfl
theorem log_drop {B : Addr → Prop} {h₀ h : Heap} {nz : Ledger} {lg L : Addr} {v : Value} {ls : List Dat} {oL : Obj} (D : Led h₀ h nz) (hL : (L, oL) ∈ nz) (hd : ∃ es ep, oL.data = .dict es ep) (LG : LogAt B nz lg v ls) : LogAt B (without nz L) lg v ls := by
  obtain ⟨vs, n, h1, h2⟩ := LG
  have S := seq_without D hL hd
  exact ⟨vs, n, S _ h1 ⟨_, _, rfl⟩, h2.mono fun a o hq q => ⟨S _ q.1 hq, q.2⟩⟩
theorem ecode_drop {h₀ h : Heap} {nz : Ledger} {L e : Addr} {c : Int} {tab : List (Int × Addr)} {oL : Obj} (D : Led h₀ h nz) (hL : (L, oL) ∈ nz) (hd : ∃ es ep, oL.data = .dict es ep) (C : ECode nz tab e c) : ECode (without nz L) tab e c := by
  have ne : ∀ o, (e, o) ∈ nz → IsExc o → e ≠ L := fun o h1 hx q => by
    subst q
    have := one_obj' D h1 hL
    subst this
    obtain ⟨_, _, z⟩ := hd
    obtain ⟨_, z2⟩ := hx.2
    rw [z2] at z; cases z
  cases C with
  | own h => exact .own h
  | hook h1 h2 h3 => exact .hook (without_mem h1 (ne _ h1 h2)) h2 h3
  | wrap h1 h2 h3 h4 => exact .wrap (without_mem h1 (ne _ h1 h2)) h2 h3 h4
theorem TableAt.sub {w : World} {nz nz' : Ledger} {tb lg er dl pt : Addr} {ds : List (Int × Int × Addr)} {ps : List (Str × Addr)} (T : TableAt w nz tb lg er dl pt ds ps) (s : ∀ p ∈ nz, p ∈ nz') : TableAt w nz' tb lg er dl pt ds ps := by
  obtain ⟨o, kvs, h1, h2, r⟩ := T.at_
  exact ⟨T.low, o, kvs, s _ h1, h2, r⟩
local macro_rules | `(tactic| walk_at "call ref") => `(tactic| refine Stop.of ?_)
theorem kfillhf : (PySem.Challenge.rw_fe0222_01, hd.heap_39) = (PySem.Challenge.rw_fe0222_01, hd.heap_39) := by
  k_fill
  rfl
theorem part_con {w : World} {h₀ : Heap} {mean : ExcName → Option Value} {mg mb : Str → Option Value} (X : (hd.heap_39 w.params).In h₀) (T : TopH mean mg mb h₀) {inner : Row} (MC : MultiC w h₀ inner) : PartC w h₀ inner := by
  intro A s nz outer R B lg er dl pt tb₀ il tab ds ps ls vs n hB D So S hh hf1 hf2 _ W _ WO hl1 hl2 hil hne RA LG hz1 hz2 hR hE
  refine enter_L (d := 101 + 4 * dep inner) (u := 617 + 20 * dep inner) (binds := [(Str.ofString "log", .ref lg), (Str.ofString "errs", .ref er), (Str.ofString "deeds", .ref dl), (Str.ofString "parts", .ref pt), (Str.ofString "impls", .ref il)]) D X T.nolimit ⟨S.fr, S.fs, by have := S.dep; omega, by have := S.un; omega⟩ (by k_is) (by k_is) (BindsTo.of_eq rfl) (locs rfl) ?_ rfl rfl rfl (by decide)
  intro L h₁ tk₁ F N lt hfr' hdp hun
  k_steps
  refine Stop.go ?_
  with_reducible rename Fr _ _ _ _ => F4
  with_reducible rename News _ _ _ _ => N4
  obtain ⟨oL, hdL, hoL, DL⟩ := led_all F4 N4
  have sub : ∀ p ∈ nz, p ∈ (L, oL) :: nz := fun p hp => .tail _ hp
  refine wpAny_call (table_con (outer := _ :: outer) X T DL (So.frame hdL) ⟨hfr', frames_cons S.fs hdL rfl rfl, by omega, by omega⟩ hh (W.sub sub) WO hl1 hl2 fun tb h5 tk5 new D5 So5 T5 f5 => ?_)
  have St5 : Step [] (L :: outer.filterMap (·.frame)) ((L, oL) :: nz) (new ++ (L, oL) :: nz) := Step.sub fun p hp => List.mem_append.mpr (.inr hp)
  have BK := call_back (fr := outer.filterMap (·.frame)) (Mut := []) F4 N4 hoL hdL D5 St5 So5 (by simp)
  have F5 := BK.fr
  have N5 := BK.nw
  clear BK F4 N4
  have neL : ∀ p ∈ nz, p.1 ≠ L := fun p hp => Nat.ne_of_lt (lt p hp)
  have sub5 : ∀ p ∈ nz, p ∈ new ++ (L, oL) :: nz := fun p hp => List.mem_append.mpr (.inr (.tail _ hp))
  k_steps
  refine Stop.go ?_
  with_reducible rename Fr _ _ _ _ => F6
  have hfr2 : ∀ a, (∃ o, (a, o) ∈ nz) → a ∉ outer.filterMap (·.frame) → a ∉ L :: outer.filterMap (·.frame) := fun a ⟨o, ho⟩ h q => (List.mem_cons.mp q).elim (neL _ ho) h
  have htb : tb ∉ L :: outer.filterMap (·.frame) := fun q => by
    obtain ⟨o, kvs, ht, _⟩ := T5.at_
    rcases List.mem_cons.mp q with q | q
    · exact f5 _ ht (L, oL) (.head _) q.symm
    · exact frame_ne S.fs (fun p hp => f5 _ ht p (.tail _ hp)) q
  obtain ⟨oer, her, _⟩ := W.err.dict
  obtain ⟨opt, hpt, _⟩ := W.pdict
  refine wpAny_call (MC _ _ (outer := _ :: outer) (B := B) (fun a ha => let ⟨o, ho⟩ := hB a ha; ⟨o, sub5 _ ho⟩) D5 So5 ⟨hfr', (frames_cons S.fs hdL rfl rfl).mono fun p hp => List.mem_append.mpr (.inr hp), by omega, by omega⟩ hh (hfr2 er ⟨_, her⟩ hf1) (hfr2 pt ⟨_, hpt⟩ hf2) htb (W.sub sub5) (fun _ => T5.sub fun p hp => List.mem_append.mpr (.inl hp)) WO hl1 hl2 (sub5 _ hil) hne (RA.mono sub5) (LG.sub sub5) hz1 hz2 (fun v d h7 tk7 nz7 hrun D7 St7 So7 R7 LG7 fv7 => ?_) fun e c h7 tk7 nz7 hrun D7 St7 So7 E7 LG7 nt7 => ?_)
  · have St7 : Step [lg] (L :: outer.filterMap (·.frame)) (new ++ (L, oL) :: nz) nz7 := St7
    have hlL : L ∉ [lg] := fun q => by
      obtain ⟨us, k, g, _⟩ := LG
      exact neL _ g (mem_uno q).symm
    have dL := (St7.dict (List.mem_append.mpr (.inr (.head _))) hlL hdL).choose_spec
    have S7 := seq_without D7 dL hdL
    have St : Step [lg] (outer.filterMap (·.frame)) nz (without nz7 L) := fun p hp hm => by
      obtain ⟨o', g1, g2, g3⟩ := St7 p (sub5 p hp) hm
      exact ⟨o', without_mem g1 (neL p hp), g2, fun q => g3 fun z => (List.mem_cons.mp z).elim (neL p hp) q⟩
    have fv : FreshV nz v := fun a q p hp => fv7 a q p (sub5 p hp)
    have D8 : Led h₀ h7 (without nz7 L) := D7.sub fun p hp => (mem_without.mp hp).1
    have So8 := softOK_drop (nz' := without nz7 L) D7 So7 dL hdL (fun p hp => (mem_without.mp hp).1) fun p hp hne => mem_without.mpr ⟨hp, hne⟩
    have hfin : ∀ tk, R (.ok (.ret v)) { s with heap := h7, toks := tk } := fun tk => hR v d h7 tk _ hrun D8 St So8 (R7.map S7) (log_drop D7 dL hdL LG7) fv
    k_steps
    exact hfin _
  · have St7 : Step [lg] (L :: outer.filterMap (·.frame)) (new ++ (L, oL) :: nz) nz7 := St7
    have hlL : L ∉ [lg] := fun q => by
      obtain ⟨us, k, g, _⟩ := LG
      exact neL _ g (mem_uno q).symm
    have dL := (St7.dict (List.mem_append.mpr (.inr (.head _))) hlL hdL).choose_spec
    have F8 : Fr h₀ L h7 _ := ⟨ns_slots F6.ns (D5.at_ (L, oL) (List.mem_append.mpr (.inr (.head _)))).1 (D7.at_ _ dL).1, D7.keep, F6.above⟩
    have N8 : News h₀ L h7 (without nz7 L) := fun p hp => by
      obtain ⟨g1, g2⟩ := mem_without.mp hp
      exact ⟨(D7.at_ p g1).1, g2, (D7.at_ p g1).2⟩
    have St : Step [lg] (outer.filterMap (·.frame)) nz (without nz7 L) := fun p hp hm => by
      obtain ⟨o', g1, g2, g3⟩ := St7 p (sub5 p hp) hm
      exact ⟨o', without_mem g1 (neL p hp), g2, fun q => g3 fun z => (List.mem_cons.mp z).elim (neL p hp) q⟩
    have So8 := softOK_drop (nz' := without nz7 L) D7 So7 dL hdL (fun p hp => (mem_without.mp hp).1) fun p hp hne => mem_without.mpr ⟨hp, hne⟩
    have Mlg : MutSeq [lg] nz := by
      obtain ⟨us, k, g, _⟩ := LG
      exact mutSeq_one D g ⟨_, _, rfl⟩
    obtain ⟨oe, he, hx, tb8⟩ := noted_drop D7 nt7 dL hdL
    refine raisesTo_of F8 N8 So8 he hx (S.fs.mut St Mlg) fun h9 nz9 D9 St9 So9 nt9 => ?_
    exact hE e c h9 _ nz9 hrun D9 (St.trans (St9.weaken (fun _ q => nomatch q) fun _ q => q)) So9 ((ecode_drop D7 dL hdL E7).step St9 (MutSeq.nil _)) ((log_drop D7 dL hdL LG7).step St9 (by simp) (fun _ q => nomatch q) fun _ q => nomatch q) nt9
end Mine
namespace Mine
open PySem PySem.W PySem.Calls PyProof.Rows
local macro_rules | `(tactic| walk_at "exec Try") => `(tactic| refine Stop.of ?_)
local macro_rules | `(tactic| walk_at "exec Assign cons ListComp") => `(tactic| refine Stop.of ?_)
local macro_rules | `(tactic| walk_at "exec Raise") => `(tactic| refine Stop.of ?_)
local macro_rules | `(tactic| walk_at "call ref") => `(tactic| refine Stop.of ?_)
local macro_rules | `(tactic| walk_at "call builtin:list.append") => `(tactic| refine Stop.of ?_)
local macro_rules | `(tactic| k_mem) => `(tactic| assumption)
local macro_rules | `(tactic| walk_at "eval Name") => `(tactic| (k_here; k_dflt (refine' ldE ?k1 ?k2 ?_ rfl rfl (by decide); (case k1 => k_asm); (case k2 => first | exact rfl | assumption); k_whole)))
local macro_rules | `(tactic| walk_at "getAttr ref") => `(tactic| (k_dflt (refine' get_slot ?k1 ?k2 ?k3 ?k4 ?k5 ?k6 ?k7 ?k8 ?k9 ?k10 ?k11 ?_; (case k1 => k_asm); (case k2 => k_asm); (case k3 => (refine' InstAt.of_news ?N ?h1 ?h2; (case N => k_asm); (case h1 => k_mem); (case h2 => k_mem))); (case k4 => k_is); (case k5 => k_is); (case k6 => k_is); (case k7 => k_is); (case k8 => k_is); (case k9 => k_is); (case k10 => assumption); (case k11 => k_handed); k_whole)))
local macro_rules | `(tactic| walk_at "truthy ref") => `(tactic| (k_dflt (refine' truthy_tupE ?N ?m ?_; (case N => k_asm); (case m => k_mem); k_whole)))
local macro_rules | `(tactic| walk_at "eval Call Attribute") => `(tactic| ((with_reducible show wpAny _ _ (eval (Expr.Call (Expr.Attribute _ _ _) [Expr.Starred _ _] [] _) _) _ _ _); refine starCall_E ?_))
theorem kfillhg : (PySem.Challenge.rw_fe0222_01, hd.heap_39) = (PySem.Challenge.rw_fe0222_01, hd.heap_39) := by
  k_fill
  rfl
theorem turn_part {w : World} {h₀ : Heap} {mean : ExcName → Option Value} {mg mb : Str → Option Value} (X : (hd.heap_39 w.params).In h₀) (T : TopH mean mg mb h₀) {o39 : Obj} (ho : (hd.heap_39 w.params).lookup 39 = some o39)
    {A : Around} {s : Shared} {nz : Ledger} {outer : List Env} {Q : Flow → Shared → Prop} {E : Value → Shared → Prop} {L lg er dl pt tb rs td x at_ il : Addr} {word : Str} {inner : Row} {ws : List Value} {ni : Nat} {m : Str → Option Value} {oc : Obj} {tab : List (Int × Addr)} {ds : List (Int × Int × Addr)} {ps : List (Str × Addr)} {ls : List Dat} {tvs : List Value} {n1 n2 : Nat} {B : Addr → Prop} (hB : ∀ a, B a → ∃ o, (a, o) ∈ nz) (hBr : B rs) (hBt : B td)
    (F : Fr h₀ L s.heap m) (N : News h₀ L s.heap nz) (So : SoftOK nz) (hA : A.frames = some (envAt o39.data L 39 :: outer)) (Fs : FramesIn nz outer) (hdep : A.depth + (102 + 4 * dep inner) < recursionLimit) (hun : A.units + (620 + 20 * dep inner) < cLine) (hh : A.handled = none)
    (W : Wd w nz lg er dl pt tab ds ps) (TB : TableAt w nz tb lg er dl pt ds ps) (hf1 : er ∉ outer.filterMap (·.frame)) (LG : LogAt B nz lg .none ls)
    (hcA : (L + 1, oc) ∈ nz) (hoc : oc.data = .cell (some (.ref tb))) (hrs : (rs, listOf ([] : List Value).toArray n1) ∈ nz) (htd : (td, listOf tvs.toArray n2) ∈ nz) (hd1 : rs ≠ td) (hd2 : rs ≠ lg) (hd3 : td ≠ lg) (M : McM m rs td)
    (hx : m (Str.ofString "hook_impl") = some (.ref x)) (IA : ImplAt nz x 126 at_ false) (AA : ArgsAt nz at_ [wLog, Str.ofString "errs", wDeeds, wParts, word]) (hps : (word, il) ∈ ps) (hne : il ≠ lg) (hil : (il, listOf ws.reverse.toArray ni) ∈ nz) (RA : RowAt nz lg ds ps ws inner) (PC : PartC w h₀ inner) (WO : WordsOK ds ps) (hl1 : ds.length ≤ 100) (hl2 : ps.length ≤ 100) (hz1 : ls.length + 2 * cnt inner ≤ 1000) (hz2 : cnt inner ≤ 30) (hf2 : pt ∉ outer.filterMap (·.frame))
    (TP : TurnPost w B Q E s h₀ L rs td lg er tab ds (outer.filterMap (·.frame)) nz ls tvs (goOn (run inner))) :
    wpAny (model pg w) A (execs (mcLoop o39) (envAt o39.data L 39)) Q E s := by
  have h3 := Option.some.inj (ho.symm.trans (by k_is))
  subst h3
  clear ho
  dsimp only [mcLoop, bodyOf, tryOf, forOf, envAt, List.getElem?_cons_zero, List.getElem?_cons_succ] at hA ⊢
  obtain ⟨dx, od, sl, kt, nk, hi1, hi2, hi3, hi4, hs0, hs1, hs3, hs10⟩ := IA
  obtain ⟨ts, nt, hat, hts⟩ := AA
  obtain ⟨ot, kvs, ht1, ht2, ht3, ht4, ht5, ht6, ht7, ht8, ht9⟩ := TB.at_
  have hmr := M.rs
  have hmt := M.td
  have hmf := M.fi
  unfold hookO at hi1
  unfold tupOf at hi4
  k_steps
  refine Stop.go ?_
  refine wpAny_Try_except ?_
  k_steps
  refine Stop.go ?_
  refine args_L (fenv := envOfC _ _ L 39 _) (outer := outer) (ts := ts) (nt := nt) hh (by with_unfolding_all rfl) (fun _ => rfl) (by with_unfolding_all rfl) (by decide) rfl (by decide) rfl rfl rfl (by decide) (by decide) rfl rfl rfl rfl rfl (by intro q; cases q) hA Fs F N So hcA hoc hat ?_ ht1 ht2 TB.low ?_ ?_ ?_
  · have := congrArg List.length hts
    simp only [List.length_map, List.length_cons, List.length_nil] at this
    omega
  · intro Q E hq
    k_steps
    exact hq _
  · intro h1 tk1 D1 nD vs hvs F1 N1 fD
    have hvs5 : vs = [.ref lg, .ref er, .ref dl, .ref pt, .ref il] := by
      have e : ts.map (fun p => valueAt kvs p.1) = (ts.map (·.1)).map (valueAt kvs) := by rw [List.map_map]; rfl
      rw [e, hts] at hvs
      simp only [List.map_cons, List.map_nil] at hvs
      rw [ht3, ht4, ht6, ht7, ht9 _ hps] at hvs
      have : [Value.ref lg, .ref er, .ref dl, .ref pt, .ref il].map some = vs.map some := hvs
      exact ((List.map_inj_right (fun a b h => Option.some.inj h)).mp this).symm
    subst hvs5
    k_steps
    refine Stop.go ?_
    with_reducible rename Fr _ _ _ _ => F4
    with_reducible rename News _ _ _ _ => N4
    obtain ⟨oL, hdL, hoL, DL⟩ := led_all F4 N4
    have sub : ∀ p ∈ nz, p ∈ (L, oL) :: (D1, listOf [Value.ref lg, Value.ref er, Value.ref dl, Value.ref pt, Value.ref il].toArray nD) :: nz := fun p hp => .tail _ (.tail _ hp)
    have neL : ∀ p ∈ nz, p.1 ≠ L := fun p hp => (N4 _ (.tail _ hp)).2.1
    have hfr2 : ∀ a, (∃ o, (a, o) ∈ nz) → a ∉ outer.filterMap (·.frame) → a ∉ L :: outer.filterMap (·.frame) := fun a ⟨o, ho⟩ h q => (List.mem_cons.mp q).elim (neL _ ho) h
    obtain ⟨oer, her, _⟩ := W.err.dict
    obtain ⟨opt, hpt, _⟩ := W.pdict
    have hlgL : lg ≠ L := fun q => by obtain ⟨vs, n, h1, _⟩ := LG; exact (N4 _ (.tail _ h1)).2.1 q
    have hlgL : L ≠ lg := hlgL.symm
    have htbf : dl ∉ L :: outer.filterMap (·.frame) := fun q => by
      obtain ⟨nl, hdl⟩ := W.dlist
      rcases List.mem_cons.mp q with q | q
      · exact neL _ hdl q
      · obtain ⟨env, he, hf⟩ := List.mem_filterMap.mp q
        obtain ⟨_, L', o', g1, g2, es, ep, g3⟩ := Fs env he
        rw [g1] at hf
        cases hf
        have := one_obj' (led_of F4 N4) (List.Mem.tail _ g2) (List.Mem.tail _ hdl)
        subst this
        cases g3
    refine wpAny_call (PC (B := B) (outer := _ :: outer) (tb := dl) (fun a ha => let ⟨o, ho⟩ := hB a ha; ⟨o, sub _ ho⟩) DL ((So.hard hard_list).frame hdL) ⟨hA, frames_cons (Fs.mono fun _ q => .tail _ q) hdL rfl rfl, by omega, by omega⟩ hh (hfr2 er ⟨_, her⟩ hf1) (hfr2 pt ⟨_, hpt⟩ hf2) htbf (W.sub sub) (fun q => absurd q (by decide)) WO hl1 hl2 (sub _ hil) hne (RA.mono sub) (LG.sub sub) hz1 hz2 ?_ ?_)
    · intro v d h5 tk5 nz5 hrun D5 St5 So5 R5 LG5 fv5
      have St5 : Step [lg] (L :: outer.filterMap (·.frame)) ((L, oL) :: (D1, listOf [Value.ref lg, Value.ref er, Value.ref dl, Value.ref pt, Value.ref il].toArray nD) :: nz) nz5 := St5
      have BK := call_back (fr := outer.filterMap (·.frame)) (Mut := [lg]) F4 N4 hoL hdL D5 St5 So5 (by simpa using hlgL)
      have F5 := BK.fr
      have N5 := BK.nw
      have St15 : Step [lg] (outer.filterMap (·.frame)) nz (without nz5 L) := (push_step _ _).trans BK.st
      have So5' := BK.so
      have dL := (St5.dict (.head _) (by simpa using hlgL) hdL).choose_spec
      have LG5' := log_drop D5 dL hdL LG5
      have R5' := R5.map (seq_without D5 dL hdL)
      have fv : FreshV nz v := fun a q p hp => fv5 a q p (sub p hp)
      have hrs5 := St15.keeps hrs (by simpa using hd2) (fun _ q => by cases q) (fun _ _ q => by cases q)
      clear BK F4 N4
      have hcase := R5'.shape
      have hsome : v ≠ .none → d ≠ .none := fun hv hd => by
        cases R5' <;> first | exact hv rfl | (cases hd)
      have hfin : ∀ h9 tk9 m9 n9, v ≠ .none → Fr h₀ L h9 m9 → News h₀ L h9 ((rs, listOf ([] ++ [v]).toArray n9) :: without (without nz5 L) rs) → McM m9 rs td → Q .brk { s with heap := h9, toks := tk9 } := by
        intro h9 tk9 m9 n9 hvn F9 N9 M9
        have hdn := hsome hvn
        have St9 := step_of_news N9
        refine TP.brk v d (run inner).2 h9 tk9 m9 _ n9 (fun q => ?_) F9 N9 M9 ((St15.weaken (fun _ q => mem_one q ▸ .head _) fun _ q => q).trans (St9.weaken (fun _ q => .tail _ q) fun _ q => nomatch q)) (softOK_turn N5 So5' hrs5 hard_list hard_list) (R5'.step St9 fun a ha => .inr (by rw [mem_one ha]; exact hBr))
          (LG5'.step St9 (by simpa using hd2.symm) (fun a ha => .inr (by rw [mem_one ha]; exact hBr)) fun _ q _ => q) fv (.head _)
        unfold goOn
        rw [hrun]
        split
        · rename_i z; cases z; exact absurd rfl hdn
        · rw [← hrun]
      rcases hcase with rfl | ⟨i, t, rfl⟩ | ⟨y, t, rfl⟩ | ⟨a, rfl⟩
      · have hd0 : d = .none := by cases R5'; rfl
        subst hd0
        k_steps
        with_reducible rename Fr _ _ _ _ => F9
        with_reducible rename News _ _ _ _ => N9
        refine TP.nxt (run inner).2 _ _ _ _ (fun q => ?_) F9 N9 ⟨M.rs, M.ex, M.td, M.fi⟩ St15 So5' LG5'
        unfold goOn
        rw [hrun]
      · k_steps
        refine Stop.go ?_
        with_reducible rename Fr _ _ _ _ => F6
        with_reducible rename News _ _ _ _ => N6
        refine append_L F6 N6 hrs5 (fun h9 n9 F9 N9 => ?_) (Nat.zero_le _)
        clear F6
        k_steps
        exact hfin _ _ _ n9 (by simp) F9 N9 ⟨M.rs, M.ex, M.td, M.fi⟩
      · k_steps
        refine Stop.go ?_
        with_reducible rename Fr _ _ _ _ => F6
        with_reducible rename News _ _ _ _ => N6
        refine append_L F6 N6 hrs5 (fun h9 n9 F9 N9 => ?_) (Nat.zero_le _)
        clear F6
        k_steps
        exact hfin _ _ _ n9 (by simp) F9 N9 ⟨M.rs, M.ex, M.td, M.fi⟩
      · k_steps
        refine Stop.go ?_
        with_reducible rename Fr _ _ _ _ => F6
        with_reducible rename News _ _ _ _ => N6
        refine append_L F6 N6 hrs5 (fun h9 n9 F9 N9 => ?_) (Nat.zero_le _)
        clear F6
        k_steps
        exact hfin _ _ _ n9 (by simp) F9 N9 ⟨M.rs, M.ex, M.td, M.fi⟩
    · intro e c h5 tk5 nz5 hrun D5 St5 So5 E5 LG5 nt
      have St5 : Step [lg] (L :: outer.filterMap (·.frame)) ((L, oL) :: (D1, listOf [Value.ref lg, Value.ref er, Value.ref dl, Value.ref pt, Value.ref il].toArray nD) :: nz) nz5 := St5
      have BK := call_back (fr := outer.filterMap (·.frame)) (Mut := [lg]) F4 N4 hoL hdL D5 St5 So5 (by simpa using hlgL)
      have dL := (St5.dict (.head _) (by simpa using hlgL) hdL).choose_spec
      refine TP.err e c (run inner).2 _ _ _ _ (fun q => ?_) BK.fr BK.nw ⟨M.rs, M.ex, M.td, M.fi⟩ ((push_step _ _).trans BK.st) BK.so (ecode_drop D5 dL hdL E5) (log_drop D5 dL hdL LG5) (noted_drop D5 nt dL hdL)
      unfold goOn
      rw [hrun]
      show run inner = _
      rw [← hrun]
  · intro e oe h1 tk1 nz1 hmiss F1 N1 St1 So1 he hx hc hcls nt
    exfalso
    obtain ⟨p, hp, hv⟩ := hmiss
    have hp' : p.1 ∈ ts.map (·.1) := List.mem_map.mpr ⟨p, hp, rfl⟩
    rw [hts] at hp'
    simp only [List.mem_cons, List.not_mem_nil, or_false] at hp'
    rcases hp' with q | q | q | q | q <;> rw [q] at hv
    · rw [ht3] at hv; cases hv
    · rw [ht4] at hv; cases hv
    · rw [ht6] at hv; cases hv
    · rw [ht7] at hv; cases hv
    · rw [ht9 _ hps] at hv; cases hv
end Mine
namespace Mine
local macro_rules | `(tactic| walk_at "pad") => `(tactic| skip)
open PySem PySem.W PySem.Calls PyProof.Rows
local macro_rules | `(tactic| walk_at "exec Try") => `(tactic| refine Stop.of ?_)
local macro_rules | `(tactic| walk_at "exec Assign cons ListComp") => `(tactic| refine Stop.of ?_)
local macro_rules | `(tactic| walk_at "exec Raise") => `(tactic| refine Stop.of ?_)
local macro_rules | `(tactic| walk_at "call ref") => `(tactic| refine Stop.of ?_)
local macro_rules | `(tactic| walk_at "call builtin:list.append") => `(tactic| refine Stop.of ?_)
local macro_rules | `(tactic| k_mem) => `(tactic| assumption)
local macro_rules | `(tactic| walk_at "eval Name") => `(tactic| (k_here; k_dflt (refine' ldE ?k1 ?k2 ?_ rfl rfl (by decide); (case k1 => k_asm); (case k2 => first | exact rfl | assumption); k_whole)))
local macro_rules | `(tactic| walk_at "getAttr ref") => `(tactic| (k_dflt (refine' get_slot ?k1 ?k2 ?k3 ?k4 ?k5 ?k6 ?k7 ?k8 ?k9 ?k10 ?k11 ?_; (case k1 => k_asm); (case k2 => k_asm); (case k3 => (refine' InstAt.of_news ?N ?h1 ?h2; (case N => k_asm); (case h1 => k_mem); (case h2 => k_mem))); (case k4 => k_is); (case k5 => k_is); (case k6 => k_is); (case k7 => k_is); (case k8 => k_is); (case k9 => k_is); (case k10 => assumption); (case k11 => k_handed); k_whole)))
local macro_rules | `(tactic| walk_at "truthy ref") => `(tactic| (k_dflt (refine' truthy_tupE ?N ?m ?_; (case N => k_asm); (case m => k_mem); k_whole)))
local macro_rules | `(tactic| walk_at "eval Call Attribute") => `(tactic| ((with_reducible show wpAny _ _ (eval (Expr.Call (Expr.Attribute _ _ _) [Expr.Starred _ _] [] _) _) _ _ _); refine starCall_E ?_))
theorem kfillhi : (PySem.Challenge.rw_fe0222_01, hd.heap_39) = (PySem.Challenge.rw_fe0222_01, hd.heap_39) := by
  k_fill
  rfl
/-- the body of the loop over the wrappers' rests -/
def mcTear (o : Obj) : List Stmt := forOf (tryOf (bodyOf o.data) 3).2.2 1
inductive TState (B : Addr → Prop) (nz : Ledger) (lg : Addr) (tab : List (Int × Addr)) (nz0 : Ledger) : Out → List Dat → Value → Value → Prop
  | ok {d : Dat} {ls : List Dat} {v : Value} : Res B nz lg v d → LogAt B nz lg v ls → FreshV nz0 v → TState B nz lg tab nz0 (.ok d) ls v .none
  | err {c : Int} {e : Addr} {ls : List Dat} {v : Value} : ECode nz tab e c → LogAt B nz lg .none ls → TState B nz lg tab nz0 (.err c) ls v (.ref e)
theorem tear_turn {w : World} {h₀ : Heap} {mean : ExcName → Option Value} {mg mb : Str → Option Value} (X : (hd.heap_39 w.params).In h₀) (T : TopH mean mg mb h₀) {o39 : Obj} (ho : (hd.heap_39 w.params).lookup 39 = some o39)
    {A : Around} {s : Shared} {nz nz0 : Ledger} {outer : List Env} {Q : Flow → Shared → Prop} {E : Value → Shared → Prop} {L lg er dl pt a dd : Addr} {me kind : Int} {m : Str → Option Value} {tab : List (Int × Addr)} {ds : List (Int × Int × Addr)} {ps : List (Str × Addr)} {ls : List Dat} {v x : Value} {o : Out} {B : Addr → Prop} (hB : ∀ a, B a → ∃ o, (a, o) ∈ nz)
    (F : Fr h₀ L s.heap m) (N : News h₀ L s.heap nz) (So : SoftOK nz) (hA : A.frames = some (envAt o39.data L 39 :: outer)) (Fs : FramesIn nz outer) (hdep : A.depth + 70 < recursionLimit) (hun : A.units + 300 < cLine) (hh : A.handled = none)
    (W : Wd w nz lg er dl pt tab ds ps) (hf1 : er ∉ outer.filterMap (·.frame)) (hls : ls.length + 1 ≤ sizeLine) (h0 : ∀ p ∈ nz0, ∃ o, (p.1, o) ∈ nz)
    (hx : m (Str.ofString "teardown") = some (.ref a)) (hr : m (Str.ofString "result") = some v) (he : m (Str.ofString "exception") = some x) (TA : TearAt nz a lg dd er) (hds : (me, kind, dd) ∈ ds) (TS : TState B nz lg tab nz0 o ls v x) (hok : ∀ d, o = .ok d → ldOk 60 d = true)
    (hQ : ∀ v' x' M h' tk m' nz', Fr h₀ L h' m' → News h₀ L h' nz' → m' (Str.ofString "result") = some v' → m' (Str.ofString "exception") = some x' → Step M (outer.filterMap (·.frame)) nz nz' → MutSeq M nz → (∀ b ∈ M, ∀ o, (b, o) ∈ nz → o.cls = .type "list") → (∀ b ∈ M, b = lg ∨ ((∀ p ∈ nz0, p.1 ≠ b) ∧ ¬ B b)) → SoftOK nz' →
      TState B nz' lg tab nz0 (postO me kind o) (ls ++ [postL me o]) v' x' → Q .cont { s with heap := h', toks := tk }) :
    wpAny (model pg w) A (execs (mcTear o39) (envAt o39.data L 39)) Q E s := by
  have h3 := Option.some.inj (ho.symm.trans (by k_is))
  subst h3
  clear ho
  dsimp only [mcTear, bodyOf, tryOf, forOf, envAt, List.getElem?_cons_zero, List.getElem?_cons_succ] at hA ⊢
  obtain ⟨nta, hta⟩ := id TA
  unfold tupOf at hta
  k_steps
  refine Stop.go ?_
  refine wpAny_Try_except ?_
  k_steps
  refine Stop.go ?_
  with_reducible rename Fr _ _ _ _ => F4
  with_reducible rename News _ _ _ _ => N4
  obtain ⟨oL, hdL, hoL, DL⟩ := led_all F4 N4
  have neL : ∀ p ∈ nz, p.1 ≠ L := fun p hp => (N4 _ hp).2.1
  have sub : ∀ p ∈ nz, p ∈ (L, oL) :: nz := fun p hp => .tail _ hp
  obtain ⟨oer, her, _⟩ := W.err.dict
  have hfr2 : er ∉ L :: outer.filterMap (·.frame) := fun q => (List.mem_cons.mp q).elim (neL _ her) hf1
  have TA' : TearAt ((L, oL) :: nz) a lg dd er := let ⟨n, h⟩ := TA; ⟨n, sub _ h⟩
  cases TS with
  | @ok d _ _ R LG fv =>
    have hlL : L ∉ mutOf lg v := by
      obtain ⟨us, k, g, _⟩ := LG
      cases R with
      | list g1 _ _ _ =>
        intro q
        simp only [mutOf, List.mem_cons, List.not_mem_nil, or_false] at q
        rcases q with q | q
        · exact neL _ g q.symm
        · exact neL _ g1 q.symm
      | _ => intro q; exact neL _ g (mem_one q).symm
    have MM : MutSeq (mutOf lg v) nz := by
      obtain ⟨us, k, g, _⟩ := LG
      cases R with
      | list g1 _ _ _ =>
        intro b hb ob hob
        simp only [mutOf, List.mem_cons, List.not_mem_nil, or_false] at hb
        rcases hb with rfl | rfl
        · exact one_obj' DL (sub _ g) (sub _ hob) ▸ ⟨_, _, rfl⟩
        · exact one_obj' DL (sub _ g1) (sub _ hob) ▸ ⟨_, _, rfl⟩
      | _ => exact mutSeq_one (led_of F4 N4) g ⟨_, _, rfl⟩
    have MC : ∀ b ∈ mutOf lg v, ∀ o, (b, o) ∈ nz → o.cls = .type "list" := by
      obtain ⟨us, k, g, _⟩ := LG
      cases R with
      | list g1 _ _ _ =>
        intro b hb ob hob
        simp only [mutOf, List.mem_cons, List.not_mem_nil, or_false] at hb
        rcases hb with rfl | rfl
        · exact one_obj' DL (sub _ g) (sub _ hob) ▸ rfl
        · exact one_obj' DL (sub _ g1) (sub _ hob) ▸ rfl
      | _ => exact fun b hb ob hob => by rw [mem_one hb] at hob; exact one_obj' DL (sub _ g) (sub _ hob) ▸ rfl
    have MF : ∀ b ∈ mutOf lg v, b = lg ∨ ((∀ p ∈ nz0, p.1 ≠ b) ∧ ¬ B b) := by
      cases R with
      | list g1 _ g4 _ =>
        intro b hb
        simp only [mutOf, List.mem_cons, List.not_mem_nil, or_false] at hb
        rcases hb with rfl | rfl
        · exact .inl rfl
        · exact .inr ⟨fun p hp => fv _ rfl p hp, g4⟩
      | _ => exact fun b hb => .inl (mem_one hb)
    have hB2 : ∀ a, B a → ∃ o, (a, o) ∈ (L, oL) :: nz := fun a ha => let ⟨o, ho⟩ := hB a ha; ⟨o, sub _ ho⟩
    have LG2 : LogAt B ((L, oL) :: nz) lg v ls := LG.sub sub
    have R2 : Res B ((L, oL) :: nz) lg v d := R.map fun p hp _ => sub p hp
    refine wpAny_call (post_ok X T 60 hB2 (outer := _ :: outer) (me := me) (kind := kind) DL (So.frame hdL) ⟨hA, frames_cons Fs hdL rfl rfl, by omega, by omega⟩ hh (W.sub sub).err hfr2 TA' ((W.sub sub).deed _ hds).1 (W.deed _ hds).2.2.1 LG2 hls R2 (hok d rfl) ?_ ?_)
    · intro v' d' h5 tk5 nz5 hpost D5 St5 So5 R5 LG5 fv5
      have St5 : Step (mutOf lg v) (L :: outer.filterMap (·.frame)) ((L, oL) :: nz) nz5 := St5
      have BK := call_back (fr := outer.filterMap (·.frame)) F4 N4 hoL hdL D5 St5 So5 hlL
      have F5 := BK.fr
      have N5 := BK.nw
      have St15 := BK.st
      have So5' := BK.so
      have dL := (St5.dict (.head _) hlL hdL).choose_spec
      have LG5' := log_drop D5 dL hdL LG5
      have R5' := R5.map (seq_without D5 dL hdL)
      have fv' : FreshV nz0 v' := by
        rcases fv5 with rfl | q
        · exact fv
        · intro b e p hp
          obtain ⟨o', ho'⟩ := h0 p hp
          exact q b e (p.1, o') (sub _ ho')
      clear BK F4 N4
      k_steps
      with_reducible rename Fr _ _ _ _ => F9
      with_reducible rename News _ _ _ _ => N9
      refine hQ v' .none _ _ _ _ _ F9 N9 rfl rfl St15 MM MC MF So5' ?_
      rw [hpost]
      exact .ok R5' LG5' fv'
    · intro e c h5 tk5 nz5 hpost D5 St5 So5 EC LG5 nt5
      have St5 : Step (mutOf lg v) (L :: outer.filterMap (·.frame)) ((L, oL) :: nz) nz5 := St5
      have BK := call_back (fr := outer.filterMap (·.frame)) F4 N4 hoL hdL D5 St5 So5 hlL
      have F5 := BK.fr
      have N5 := BK.nw
      have St15 := BK.st
      have So5' := BK.so
      have dL := (St5.dict (.head _) hlL hdL).choose_spec
      have LG5' := log_drop D5 dL hdL LG5
      have EC5 := ecode_drop D5 dL hdL EC
      have Fs5 := Fs.mut St15 MM
      clear BK F4 N4
      obtain ⟨oe, hem, hxe, _⟩ := noted_drop D5 nt5 dL hdL
      show wpAny _ A (noteFrame (.ref e) _) _ _ _
      refine note_L (outer := outer) F5 N5 So5' hem hxe hA Fs5 rfl (by intro q; cases q) fun h6 nz6 A6 nt6 => ?_
      obtain ⟨o6, he6, hx6, tb6⟩ := nt6
      refine flight_L (s := { s with heap := h6, toks := _ }) A6.fr A6.nw A6.ok he6 hx6 fun h7 nz7 A7 ke7 => ?_
      have F7 := A7.fr
      have N7 := A7.nw
      have So7 := A7.ok
      have St57 : Step [] (outer.filterMap (·.frame)) (without nz5 L) nz7 := A6.st.trans (A7.st.weaken (fun _ q => q) fun _ q => nomatch q)
      clear A6 A7 F5 N5
      refine handle_as_L (T := "BaseException") (s := { s with heap := h7, toks := _ }) (by rw [isSubtype_type]; kernel_rfl) (by rw [isSubtype_type]; kernel_rfl) (sub_exc (X.keeps F7.keep) hx6.1) F7 N7 So7 ke7 hx6 rfl rfl rfl ?_ ?_
      · intro Q E hq
        exact nameX_B F7 X (topRead_of T) (by k_is) (v := .type "BaseException") (by decide +kernel) (by decide) hq
      · intro h8 nz8 E' F8 N8 St8 So8 ke8
        clear F7 N7
        have St58 := St57.trans (St8.weaken (fun _ q => q) fun _ q => nomatch q)
        walk1
        walk1
        walk1
        walk1
        walk1
        walk1
        with_reducible rename Fr _ _ _ _ => F9
        with_reducible rename News _ _ _ _ => N9
        refine ⟨_, _, F9, N9, fun h10 v10 F10 N10 => ?_⟩
        refine hQ v (.ref e) _ h10 _ _ nz8 F10 N10 hr rfl (St15.trans (St58.weaken (fun _ q => nomatch q) fun _ q => q)) MM MC MF So8 ?_
        rw [hpost]
        exact .err (EC5.step St58 (MutSeq.nil _)) (LG5'.step St58 (by simp) (fun _ q => nomatch q) fun _ q => nomatch q)
  | @err c₀ e₀ _ _ EC0 LG =>
    have hlL : L ∉ [lg] := by
      obtain ⟨us, k, g, _⟩ := LG
      intro q; exact neL _ g (mem_one q).symm
    have MM : MutSeq [lg] nz := by
      obtain ⟨us, k, g, _⟩ := LG
      exact mutSeq_one (led_of F4 N4) g ⟨_, _, rfl⟩
    have MC : ∀ b ∈ [lg], ∀ o, (b, o) ∈ nz → o.cls = .type "list" := by
      obtain ⟨us, k, g, _⟩ := LG
      exact fun b hb ob hob => by rw [mem_one hb] at hob; exact one_obj' DL (sub _ g) (sub _ hob) ▸ rfl
    have MF : ∀ b ∈ [lg], b = lg ∨ ((∀ p ∈ nz0, p.1 ≠ b) ∧ ¬ B b) := fun b hb => .inl (mem_one hb)
    have hB2 : ∀ a, B a → ∃ o, (a, o) ∈ (L, oL) :: nz := fun a ha => let ⟨o, ho⟩ := hB a ha; ⟨o, sub _ ho⟩
    have LG2 : LogAt B ((L, oL) :: nz) lg .none ls := LG.sub sub
    have EC2 : ECode ((L, oL) :: nz) tab e₀ c₀ := EC0.step (Step.sub sub : Step [] [] nz _) (MutSeq.nil _)
    refine wpAny_call (post_err X T hB2 (outer := _ :: outer) (me := me) (kind := kind) DL (So.frame hdL) ⟨hA, frames_cons Fs hdL rfl rfl, by omega, by omega⟩ hh (W.sub sub).err hfr2 TA' ((W.sub sub).deed _ hds).1 (W.deed _ hds).2.2.1 LG2 hls EC2 ?_ ?_)
    · intro v' d' h5 tk5 nz5 hpost D5 St5 So5 R5 LG5 fv5
      have St5 : Step [lg] (L :: outer.filterMap (·.frame)) ((L, oL) :: nz) nz5 := St5
      have BK := call_back (fr := outer.filterMap (·.frame)) F4 N4 hoL hdL D5 St5 So5 hlL
      have F5 := BK.fr
      have N5 := BK.nw
      have St15 := BK.st
      have So5' := BK.so
      have dL := (St5.dict (.head _) hlL hdL).choose_spec
      have LG5' := log_drop D5 dL hdL LG5
      have R5' := R5.map (seq_without D5 dL hdL)
      have fv' : FreshV nz0 v' := by
        intro b e p hp
        obtain ⟨o', ho'⟩ := h0 p hp
        exact fv5 b e (p.1, o') (sub _ ho')
      clear BK F4 N4
      k_steps
      with_reducible rename Fr _ _ _ _ => F9
      with_reducible rename News _ _ _ _ => N9
      refine hQ v' .none _ _ _ _ _ F9 N9 rfl rfl St15 MM MC MF So5' ?_
      rw [hpost]
      exact .ok R5' LG5' fv'
    · intro e c h5 tk5 nz5 hpost D5 St5 So5 EC LG5 nt5
      have St5 : Step [lg] (L :: outer.filterMap (·.frame)) ((L, oL) :: nz) nz5 := St5
      have BK := call_back (fr := outer.filterMap (·.frame)) F4 N4 hoL hdL D5 St5 So5 hlL
      have F5 := BK.fr
      have N5 := BK.nw
      have St15 := BK.st
      have So5' := BK.so
      have dL := (St5.dict (.head _) hlL hdL).choose_spec
      have LG5' := log_drop D5 dL hdL LG5
      have EC5 := ecode_drop D5 dL hdL EC
      have Fs5 := Fs.mut St15 MM
      clear BK F4 N4
      obtain ⟨oe, hem, hxe, _⟩ := noted_drop D5 nt5 dL hdL
      show wpAny _ A (noteFrame (.ref e) _) _ _ _
      refine note_L (outer := outer) F5 N5 So5' hem hxe hA Fs5 rfl (by intro q; cases q) fun h6 nz6 A6 nt6 => ?_
      obtain ⟨o6, he6, hx6, tb6⟩ := nt6
      refine flight_L (s := { s with heap := h6, toks := _ }) A6.fr A6.nw A6.ok he6 hx6 fun h7 nz7 A7 ke7 => ?_
      have F7 := A7.fr
      have N7 := A7.nw
      have So7 := A7.ok
      have St57 : Step [] (outer.filterMap (·.frame)) (without nz5 L) nz7 := A6.st.trans (A7.st.weaken (fun _ q => q) fun _ q => nomatch q)
      clear A6 A7 F5 N5
      refine handle_as_L (T := "BaseException") (s := { s with heap := h7, toks := _ }) (by rw [isSubtype_type]; kernel_rfl) (by rw [isSubtype_type]; kernel_rfl) (sub_exc (X.keeps F7.keep) hx6.1) F7 N7 So7 ke7 hx6 rfl rfl rfl ?_ ?_
      · intro Q E hq
        exact nameX_B F7 X (topRead_of T) (by k_is) (v := .type "BaseException") (by decide +kernel) (by decide) hq
      · intro h8 nz8 E' F8 N8 St8 So8 ke8
        clear F7 N7
        have St58 := St57.trans (St8.weaken (fun _ q => q) fun _ q => nomatch q)
        walk1
        walk1
        walk1
        walk1
        walk1
        walk1
        with_reducible rename Fr _ _ _ _ => F9
        with_reducible rename News _ _ _ _ => N9
        refine ⟨_, _, F9, N9, fun h10 v10 F10 N10 => ?_⟩
        refine hQ v (.ref e) _ h10 _ _ nz8 F10 N10 hr rfl (St15.trans (St58.weaken (fun _ q => nomatch q) fun _ q => q)) MM MC MF So8 ?_
        rw [hpost]
        exact .err (EC5.step St58 (MutSeq.nil _)) (LG5'.step St58 (by simp) (fun _ q => nomatch q) fun _ q => nomatch q)
end Mine
namespace Mine
open PySem PySem.W PySem.Calls PyProof.Rows
local macro_rules | `(tactic| walk_at "eval IfExp") => `(tactic| refine Stop.of ?_)
local macro_rules | `(tactic| walk_at "exec For") => `(tactic| refine Stop.of ?_)
local macro_rules | `(tactic| walk_at "call type:reversed") => `(tactic| refine Stop.of ?_)
local macro_rules | `(tactic| walk_at "exec Try") => `(tactic| refine Stop.of ?_)
local macro_rules | `(tactic| walk_at "exec Assign cons ListComp") => `(tactic| refine Stop.of ?_)
local macro_rules | `(tactic| walk_at "exec Raise") => `(tactic| refine Stop.of ?_)
local macro_rules | `(tactic| walk_at "call ref") => `(tactic| refine Stop.of ?_)
local macro_rules | `(tactic| walk_at "call builtin:list.append") => `(tactic| refine Stop.of ?_)
local macro_rules | `(tactic| k_mem) => `(tactic| assumption)
local macro_rules | `(tactic| walk_at "eval Name") => `(tactic| (k_here; k_dflt (refine' ldE ?k1 ?k2 ?_ rfl rfl (by decide); (case k1 => k_asm); (case k2 => first | exact rfl | assumption); k_whole)))
local macro_rules | `(tactic| walk_at "getAttr ref") => `(tactic| (k_dflt (refine' get_slot ?k1 ?k2 ?k3 ?k4 ?k5 ?k6 ?k7 ?k8 ?k9 ?k10 ?k11 ?_; (case k1 => k_asm); (case k2 => k_asm); (case k3 => (refine' InstAt.of_news ?N ?h1 ?h2; (case N => k_asm); (case h1 => k_mem); (case h2 => k_mem))); (case k4 => k_is); (case k5 => k_is); (case k6 => k_is); (case k7 => k_is); (case k8 => k_is); (case k9 => k_is); (case k10 => assumption); (case k11 => k_handed); k_whole)))
local macro_rules | `(tactic| walk_at "truthy ref") => `(tactic| refine Stop.of ?_)
local macro_rules | `(tactic| walk_at "eval Call Attribute") => `(tactic| ((with_reducible show wpAny _ _ (eval (Expr.Call (Expr.Attribute _ _ _) [Expr.Starred _ _] [] _) _) _ _ _); refine starCall_E ?_))
theorem kfillhj : (PySem.Challenge.rw_fe0222_01, hd.heap_39) = (PySem.Challenge.rw_fe0222_01, hd.heap_39) := by
  k_fill
  rfl
def mcFinal (o : Obj) : List Stmt := (tryOf (bodyOf o.data) 3).2.2
inductive Tears (nz : Ledger) (lg er : Addr) (ds : List (Int × Int × Addr)) : List Value → List (Int × Int) → Prop
  | nil : Tears nz lg er ds [] []
  | cons {a dd : Addr} {me kind : Int} {vs : List Value} {st : List (Int × Int)} : TearAt nz a lg dd er → (me, kind, dd) ∈ ds → Tears nz lg er ds vs st → Tears nz lg er ds (.ref a :: vs) ((me, kind) :: st)
theorem tear_step {nz nz' : Ledger} {a lg dd er : Addr} {M fr : List Addr} (h : TearAt nz a lg dd er) (S : Step M fr nz nz') (hm : ∀ b ∈ M, ∀ o, (b, o) ∈ nz → o.cls ≠ .type "tuple") : TearAt nz' a lg dd er := by
  obtain ⟨n, h⟩ := h
  exact ⟨n, S.keeps h (fun q => hm _ q _ h rfl) (fun _ q => by cases q) fun _ _ q => by cases q⟩
theorem Tears.step {nz nz' : Ledger} {lg er : Addr} {ds : List (Int × Int × Addr)} {vs : List Value} {st : List (Int × Int)} {M fr : List Addr} (h : Tears nz lg er ds vs st) (S : Step M fr nz nz') (hm : ∀ b ∈ M, ∀ o, (b, o) ∈ nz → o.cls ≠ .type "tuple") : Tears nz' lg er ds vs st := by
  induction h with
  | nil => exact .nil
  | cons h1 h2 _ ih => exact .cons (tear_step h1 S hm) h2 ih
theorem Tears.length {nz : Ledger} {lg er : Addr} {ds : List (Int × Int × Addr)} {vs : List Value} {st : List (Int × Int)} (h : Tears nz lg er ds vs st) : vs.length = st.length := by
  induction h with
  | nil => rfl
  | cons _ _ _ ih => rw [List.length_cons, List.length_cons, ih]
theorem Res.bad {B B' : Addr → Prop} {nz : Ledger} {lg : Addr} {v : Value} {d : Dat} (h : Res B nz lg v d) (hb : ∀ a o, (a, o) ∈ nz → B' a → B a) : Res B' nz lg v d := by
  cases h with
  | none => exact .none
  | int i t => exact .int i t
  | str x t => exact .str x t
  | list h1 h2 h4 h3 => exact .list h1 h2 (fun q => h4 (hb _ _ h1 q)) (h3.mono fun a o _ q => ⟨q.1, fun z => q.2 (z.imp id fun z => z.imp id (hb a o q.1))⟩)
theorem TState.bad {B B' : Addr → Prop} {nz nz0 : Ledger} {lg : Addr} {tab : List (Int × Addr)} {o : Out} {ls : List Dat} {v x : Value} (h : TState B nz lg tab nz0 o ls v x) (hb : ∀ a o, (a, o) ∈ nz → B' a → B a) : TState B' nz lg tab nz0 o ls v x := by
  cases h with
  | ok h1 h2 h3 => exact .ok (h1.bad hb) (h2.bad fun a o ho q => .inr (.inr (hb a o ho q))) h3
  | err h1 h2 => exact .err h1 (h2.bad fun a o ho q => .inr (.inr (hb a o ho q)))
theorem TState.step {B : Addr → Prop} {nz nz' nz0 : Ledger} {lg : Addr} {tab : List (Int × Addr)} {o : Out} {ls : List Dat} {v x : Value} {M fr : List Addr} (h : TState B nz lg tab nz0 o ls v x) (S : Step M fr nz nz') (hl : lg ∉ M) (hb : ∀ a ∈ M, B a) (hm : ∀ a ∈ M, ∀ o, (a, o) ∈ nz → ¬ IsExc o) (hn : ∀ a, (∃ o, (a, o) ∈ nz') → True) : TState B nz' lg tab nz0 o ls v x := by
  have he : ∀ {e : Addr} {c : Int}, ECode nz tab e c → ECode nz' tab e c := fun {e c} C => by
    cases C with
    | own h => exact .own h
    | hook h1 h2 h3 =>
      obtain ⟨o', g1, g2, g3, g4⟩ := S.exc h1 (fun q => hm _ q _ h1 h2) h2
      exact .hook g1 g2 (g3.trans h3)
    | wrap h1 h2 h3 h4 =>
      obtain ⟨o', g1, g2, g3, g4⟩ := S.exc h1 (fun q => hm _ q _ h1 h2) h2
      exact .wrap g1 g2 (h3.step g4 h2) (g3.trans h4)
  cases h with
  | ok h1 h2 h3 => exact .ok (h1.step S fun a ha => .inr (hb a ha)) (h2.step S hl (fun a ha => .inr (hb a ha)) fun _ q _ => q) h3
  | err h1 h2 => exact .err (he h1) (h2.step S hl (fun a ha => .inr (hb a ha)) fun _ q _ => q)
theorem TState.log {B : Addr → Prop} {nz nz0 : Ledger} {lg : Addr} {tab : List (Int × Addr)} {o : Out} {ls : List Dat} {v x : Value} (h : TState B nz lg tab nz0 o ls v x) : ∃ o, (lg, o) ∈ nz := by
  cases h with
  | ok _ h _ => obtain ⟨us, k, g, _⟩ := h; exact ⟨_, g⟩
  | err _ h => obtain ⟨us, k, g, _⟩ := h; exact ⟨_, g⟩
theorem rev_at {o : Obj} {td : Addr} {i j : Int} (h : o.data = .fields #[.ref td, rawInt i]) (e : i = j) : o.data = .fields #[.ref td, rawInt j] := e ▸ h
theorem post_size {me kind : Int} {o : Out} {d : Dat} {c : Nat} (h : postO me kind o = .ok d) (hs : ∀ d, o = .ok d → sizeOk c d) (hc : c ≤ 1000) : sizeOk (c + 1) d := by
  have hz : (1010 : Nat) ≤ sizeLine := by decide
  cases o with
  | ok d₀ =>
    have h0 := hs d₀ rfl
    simp only [postO] at h
    split at h
    · cases h
    · split at h
      · cases h
        refine ⟨?_, fun ds e => by cases e; simp⟩
        simp only [ldOk, List.all_cons, List.all_nil, h0.1, Bool.and_eq_true, decide_eq_true_eq, and_true, true_and, List.length_cons, List.length_nil]
        omega
      · split at h
        · cases h
          cases d₀ with
          | list ds =>
            have h1 := h0.1
            have h2 := h0.2 ds rfl
            simp only [addTo]
            refine ⟨?_, fun ds' e => by cases e; simp; omega⟩
            simp only [ldOk, Bool.and_eq_true, List.all_eq_true, decide_eq_true_eq] at h1 ⊢
            refine ⟨fun x hx => ?_, by simp; omega⟩
            rcases List.mem_append.mp hx with hx | hx
            · exact ldOk_mono (h1.1 x hx)
            · rw [mem_one hx]; rfl
          | _ => exact h0.mono (Nat.le_succ _)
        · cases h; exact h0.mono (Nat.le_succ _)
  | err c₀ =>
    simp only [postO] at h
    split at h
    · cases h
    · split at h
      · cases h
        exact ⟨by simp [ldOk]; omega, fun ds e => by cases e; simp⟩
      · cases h
theorem final_con {w : World} {h₀ : Heap} {mean : ExcName → Option Value} {mg mb : Str → Option Value} (X : (hd.heap_39 w.params).In h₀) (T : TopH mean mg mb h₀) {o39 : Obj} (ho : (hd.heap_39 w.params).lookup 39 = some o39)
    {A : Around} {s : Shared} {nz nz0 : Ledger} {outer : List Env} {Q : Flow → Shared → Prop} {E : Value → Shared → Prop} {L lg er dl pt rs td : Addr} {m : Str → Option Value} {tab : List (Int × Addr)} {ds : List (Int × Int × Addr)} {ps : List (Str × Addr)} {ls : List Dat} {v x : Value} {o : Out} {B : Addr → Prop} {rvs tvs : List Value} {n1 n2 c : Nat} {st : List (Int × Int)} (hB : ∀ a, B a → ∃ o, (a, o) ∈ nz)
    (F : Fr h₀ L s.heap m) (N : News h₀ L s.heap nz) (So : SoftOK nz) (hA : A.frames = some (envAt o39.data L 39 :: outer)) (Fs : FramesIn nz outer) (hdep : A.depth + 70 < recursionLimit) (hun : A.units + 300 < cLine) (hh : A.handled = none)
    (W0 : Wd w nz0 lg er dl pt tab ds ps) (St0 : Step [lg] (outer.filterMap (·.frame)) nz0 nz) (Mlg : MutSeq [lg] nz0) (hlgl : ∃ o, (lg, o) ∈ nz) (Fs0 : FramesIn nz0 outer) (hf1 : er ∉ outer.filterMap (·.frame)) (hf2 : pt ∉ outer.filterMap (·.frame)) (hz : ls.length + st.length ≤ 1100) (hc : c + st.length ≤ 50)
    (hmr : m (Str.ofString "results") = some (.ref rs)) (hmt : m (Str.ofString "teardowns") = some (.ref td)) (hmf : m (Str.ofString "firstresult") = some (.bool true)) (hme : m (Str.ofString "exception") = some x)
    (hrs : (rs, listOf rvs.toArray n1) ∈ nz) (htd : (td, listOf tvs.toArray n2) ∈ nz) (hBt : B td) (hlt : lg ≠ td) (hv : rvs = [] ∧ v = .none ∨ rvs = [v]) (TE : Tears nz lg er ds tvs.reverse st) (TS : TState B nz lg tab nz0 o ls v x) (hs : ∀ d, o = .ok d → sizeOk c d)
    (hQ : ∀ o' ls' v' x' h' tk m' nz', unw st (o, ls) = (o', ls') → Fr h₀ L h' m' → News h₀ L h' nz' → m' (Str.ofString "result") = some v' → m' (Str.ofString "exception") = some x' → Step [lg] (outer.filterMap (·.frame)) nz0 nz' → SoftOK nz' → TState B nz' lg tab nz0 o' ls' v' x' → Q .next { s with heap := h', toks := tk }) :
    wpAny (model pg w) A (execs (mcFinal o39) (envAt o39.data L 39)) Q E s := by
  have h3 := Option.some.inj (ho.symm.trans (by k_is))
  have ho' := ho
  subst h3
  clear ho
  dsimp only [mcFinal, bodyOf, tryOf, forOf, envAt, List.getElem?_cons_zero, List.getElem?_cons_succ] at hA ⊢
  k_steps
  refine Stop.go ?_
  refine wpAny_mono (Q := fun r s' => r = v ∧ ∃ tk, s' = { s with toks := tk }) ?_ (fun r s' hr => ?_) fun _ _ e => e
  · refine wpAny_IfExp ?_
    k_steps
    refine Stop.go ?_
    rcases hv with ⟨rfl, rfl⟩ | rfl
    · refine wpAny_truthy_list ⟨_, (N _ hrs).1, rfl, n1, rfl⟩ (by decide) ?_
      rw [if_neg (by decide)]
      walk1
      exact ⟨rfl, _, rfl⟩
    · refine wpAny_truthy_list ⟨_, (N _ hrs).1, rfl, n1, rfl⟩ (by simp) ?_
      rw [if_pos (by simp)]
      walk1
      walk1
      walk1
      refine item_list ⟨_, (N _ hrs).1, rfl, n1, rfl⟩ (by omega) (by omega) rfl ?_
      exact ⟨rfl, _, rfl⟩
  · obtain ⟨rfl, tk, rfl⟩ := hr
    k_steps
    refine Stop.go ?_
    with_reducible rename Fr _ _ _ _ => F1
    with_reducible rename News _ _ _ _ => N1
    refine wpAny_For ?_
    k_steps
    refine Stop.go ?_
    refine krv_reversed F1 N1 ⟨_, (N1 _ htd).1, rfl, n2, rfl⟩ fun I h2 F2 N2 ltI => ?_
    have hll : (lg ≠ I) := fun q => by obtain ⟨o, ho⟩ := hlgl; exact Nat.lt_irrefl _ (q ▸ ltI _ ho)
    have hI0 : ∀ p ∈ nz, p.1 ≠ I := fun p hp => Nat.ne_of_lt (ltI p hp)
    have hI00 : ∀ p ∈ nz0, p.1 ≠ I := fun p hp => by
      by_cases q : p.1 = lg
      · rw [q]; exact hll
      · obtain ⟨o', h', _⟩ := St0 p hp (fun z => q (mem_one z))
        exact hI0 (p.1, o') h'
    clear F1 N1
    refine wpAny_pyIter_revIter ⟨_, (N2 _ (.head _)).1, rfl, rfl⟩ ?_
    refine forLoop_T (fun n s' => ∃ (k : Nat) (h' : Heap) (tk : Tok) (m' : Str → Option Value) (nw : Ledger) (oI : Obj) (st' : List (Int × Int)) (o' : Out) (ls' : List Dat) (v' x' : Value) (c' : Nat),
      n = tvs.length - k ∧ k ≤ tvs.length ∧ s' = { s with heap := h', toks := tk } ∧ Fr h₀ L h' m' ∧ m' (Str.ofString "result") = some v' ∧ m' (Str.ofString "exception") = some x' ∧ News h₀ L h' nw ∧ (I, oI) ∈ nw ∧ (oI.cls = .type "list_reverseiterator" ∧ oI.data = .fields #[.ref td, rawInt ((tvs.length : Int) - 1 - k)]) ∧
      (td, listOf tvs.toArray n2) ∈ nw ∧ Step [lg] (outer.filterMap (·.frame)) nz0 nw ∧ SoftOK nw ∧ Tears nw lg er ds (tvs.reverse.drop k) st' ∧ unw st (o, ls) = unw st' (o', ls') ∧ TState (fun b => B b ∨ b = I) nw lg tab nz0 o' ls' v' x' ∧ (∀ d, o' = .ok d → sizeOk c' d) ∧ c' + st'.length ≤ 50 ∧ ls'.length + st'.length ≤ 1100 ∧ (∀ a, B a → ∃ o, (a, o) ∈ nw))
      ?_ tvs.length ⟨0, _, _, _, _, revObj td ((tvs.length : Int) - 1), st, o, ls, _, x, c, rfl, Nat.zero_le _, rfl, F2, rfl, hme, N2, .head _, ⟨rfl, by simp [revObj]⟩, .tail _ htd, St0.thru (push_step [] []) (fun _ q => nomatch q) (fun _ q => nomatch q), So.hard ?_, TE.step (push_step [] []) (fun _ q => nomatch q), rfl, ?_, hs, hc, hz, fun a ha => let ⟨o, ho⟩ := hB a ha; ⟨o, .tail _ ho⟩⟩
    · rintro n s' ⟨k, h', tk', m', nw, oI, st', o', ls', v', x', c', rfl, hk', rfl, F, hr', hx', N, hI, ⟨hIc, hId⟩, htd', St, So', TE', hun', TS', hs', hc', hz', hB'⟩
      have hIt : IsSoft oI → False := fun q => by
        rcases q with q | q | q | q | q <;> (rw [hIc] at q; revert q; decide)
      have hIx : ∀ (ob : Obj), (I, ob) ∈ nw → ¬ IsExc ob := fun ob hob hx => by
        have := one_obj' (led_of F N) hob hI
        subst this
        exact hIt hx.soft
      have hIu : ∀ b ∈ [I], ∀ (ob : Obj), (b, ob) ∈ nw → ob.cls ≠ .type "tuple" := fun b hb ob hob q => by
        rw [mem_one hb] at hob
        have := one_obj' (led_of F N) hob hI
        subst this
        rw [hIc] at q; revert q; decide
      have hlist : h'.IsList td tvs.toArray := ⟨_, (N _ htd').1, rfl, n2, rfl⟩
      cases hv : tvs.reverse[k]? with
      | none =>
        have hke : k = tvs.length := Nat.le_antisymm hk' (by simpa using hv)
        have hst : st' = [] := by
          have h1 := TE'.length
          rw [hke] at h1
          simp at h1
          exact List.eq_nil_of_length_eq_zero h1.symm
        subst hst
        refine wpAny_pyNext_rev_end hh (l := td) ⟨oI, (N _ hI).1, hIc, rev_at hId (by omega)⟩ fun h3 hs3 => ?_
        obtain ⟨F3, N3⟩ := ext_fr F N (N _ hI).2.1 (N _ hI).2.2 hs3
        have St3 : Step [I] [] nw (without nw I) := without_step' _ _ (.head _)
        have TS3 := TS'.step St3 (fun q => hll (mem_one q)) (fun a ha => .inr (mem_one ha)) (fun a ha ob hob => hIx ob (mem_one ha ▸ hob)) (fun _ _ => trivial)
        have So3 : SoftOK (without nw I) := softOK_without N So' hI hIt
        clear F N
        k_steps
        with_reducible rename Fr _ _ _ _ => F9
        with_reducible rename News _ _ _ _ => N9
        exact hQ o' ls' v' x' _ _ _ _ hun' F9 N9 hr' hx' (St.thru St3 (fun z hz => .inr (by rw [mem_one hz]; exact hI00)) fun _ q => nomatch q) So3 (TS3.bad fun a ob _ q => .inl q)
      | some y =>
        have hkl : k < tvs.length := by
          rcases Nat.lt_or_ge k tvs.length with q | q
          · exact q
          · rw [List.getElem?_eq_none (by simpa using q)] at hv; cases hv
        have hdrop : tvs.reverse.drop k = y :: tvs.reverse.drop (k + 1) := by
          rw [List.getElem?_eq_getElem (by simpa using hkl), Option.some.injEq] at hv
          rw [← hv]
          exact (List.drop_eq_getElem_cons (by simpa using hkl))
        rw [hdrop] at TE'
        cases TE' with
        | @cons a dd me kind _ st'' TA hds TE'' =>
        have hidx : tvs.toArray[tvs.length - 1 - k]? = some (.ref a) := by
          rw [List.getElem?_toArray, ← hv, List.getElem?_reverse hkl]
        refine wpAny_pyNext_rev_item (l := td) (i := tvs.length - 1 - k) ⟨oI, (N _ hI).1, hIc, rev_at hId (by omega)⟩ hlist hidx fun h3 hit3 hs3 => ?_
        obtain ⟨oI', hoI', hIc', hId'⟩ := hit3
        obtain ⟨F3, N3⟩ := same_fr F N hI hs3 hoI'
        have St3 : Step [I] [] nw ((I, oI') :: without nw I) := without_step _ _ (.head _)
        have St03 := St.thru St3 (fun z hz => .inr (by rw [mem_one hz]; exact hI00)) fun _ q => nomatch q
        have TS3 := TS'.step St3 (fun q => hll (mem_one q)) (fun a ha => .inr (mem_one ha)) (fun a ha ob hob => hIx ob (mem_one ha ▸ hob)) (fun _ _ => trivial)
        have So3 : SoftOK ((I, oI') :: without nw I) := softOK_turn N So' hI hIt fun q => by
          rcases q with q | q | q | q | q <;> (rw [hIc'] at q; revert q; decide)
        have hItd : td ≠ I := hI0 _ htd
        have htd3 : (td, listOf tvs.toArray n2) ∈ (I, oI') :: without nw I := .tail _ (without_mem htd' hItd)
        have TA3 := tear_step TA St3 hIu
        have TE3 := TE''.step St3 hIu
        refine wpAny_assign_Name ?_
        refine stLocN F3 N3 (fun h4 F4 N4 => ?_) rfl rfl
        have hB3 : ∀ a, (B a ∨ a = I) → ∃ o, (a, o) ∈ (I, oI') :: without nw I := fun a ha => by
          by_cases q : a = I
          · exact ⟨oI', q ▸ .head _⟩
          · obtain ⟨o, ho⟩ := hB' a (ha.resolve_right q)
            exact ⟨o, .tail _ (without_mem ho q)⟩
        have hlg3 := TS3.log
        clear F N F3 N3
        simp only [List.length_cons] at hc' hz'
        have hsl : (1100 : Nat) ≤ sizeLine := by decide
        refine tear_turn X T ho' (B := fun b => B b ∨ b = I) (nz0 := nz0) (me := me) (kind := kind) (a := a) (dd := dd) (pt := pt) hB3 F4 N4 So3 hA (Fs0.mut St03 Mlg) hdep hun hh (W0.step St03 Mlg hf1 hf2) hf1 (by omega) (fun p hp => ?_) rfl hr' hx' TA3 hds TS3 (fun d hd => ?_) fun v5 x5 M h5 tk5 m5 nz5 F5 N5 hr5 he5 St5 MM MC MF So5 TS5 => ?_
        · by_cases q : p.1 = lg
          · rw [q]; exact hlg3
          · obtain ⟨o5, h5, _⟩ := St03 p hp (fun z => q (mem_one z))
            exact ⟨o5, h5⟩
        · have h1 := (hs' d hd).mono (show c' ≤ 58 by omega)
          exact h1.1
        · have hM : ∀ z, (B z ∨ z = I) → z ≠ lg → z ∉ M := fun z hz hne q => (MF z q).elim hne fun h => h.2 hz
          refine ⟨tvs.length - (k + 1), by omega, k + 1, h5, tk5, m5, nz5, oI', st'', postO me kind o', ls' ++ [postL me o'], v5, x5, c' + 1, rfl, hkl, rfl, F5, hr5, he5, N5, ?_, ⟨hIc', ?_⟩, ?_, St03.thru St5 (fun z hz => (MF z hz).elim (fun q => .inl (q ▸ .head _)) fun q => .inr q.1) (fun z hz => .inl hz), So5, TE3.step St5 fun b hb ob hob q => ?_, hun'.trans rfl, TS5, fun d hd => post_size hd hs' (by omega), by omega, by rw [List.length_append, List.length_singleton]; omega, fun a ha => ?_⟩
          · exact St5.keepsR (.head _) (hM I (.inr rfl) hll.symm) (fun q => by rcases q with q | q | q | q | q <;> (rw [hIc'] at q; revert q; decide)) ⟨_, hId'⟩
          · exact rev_at hId' (by omega)
          · exact St5.keeps htd3 (hM td (.inl hBt) hlt.symm) (fun _ q => by cases q) (fun _ _ q => by cases q)
          · have := MC b hb ob hob
            rw [q] at this; revert this; decide
          · by_cases q : a = lg
            · rw [q]; exact TS5.log
            · obtain ⟨o3, h3⟩ := hB3 a (.inl ha)
              obtain ⟨o4, h4, _⟩ := St5 _ h3 (hM a (.inl ha) q)
              exact ⟨o4, h4⟩
    · rintro (q | q | q | q | q) <;> (revert q; show Value.type "list_reverseiterator" = _ → False; decide)
    · exact (TS.bad (B' := fun b => B b ∨ b = I) fun a ob hob q => q.elim id fun q => absurd q (hI0 _ hob)).step (push_step [] []) (by simp) (fun _ q => nomatch q) (fun _ q => nomatch q) (fun _ _ => trivial)
end Mine
namespace Mine
local macro_rules | `(tactic| walk_at "pad") => `(tactic| skip)
open PySem PySem.W PySem.Calls PyProof.Rows
local macro_rules | `(tactic| walk_at "eval IfExp") => `(tactic| refine Stop.of ?_)
local macro_rules | `(tactic| walk_at "exec For") => `(tactic| refine Stop.of ?_)
local macro_rules | `(tactic| walk_at "call type:reversed") => `(tactic| refine Stop.of ?_)
local macro_rules | `(tactic| walk_at "exec Try") => `(tactic| refine Stop.of ?_)
local macro_rules | `(tactic| walk_at "exec Assign cons ListComp") => `(tactic| refine Stop.of ?_)
local macro_rules | `(tactic| walk_at "exec Raise") => `(tactic| refine Stop.of ?_)
local macro_rules | `(tactic| walk_at "call ref") => `(tactic| refine Stop.of ?_)
local macro_rules | `(tactic| walk_at "call builtin:list.append") => `(tactic| refine Stop.of ?_)
local macro_rules | `(tactic| k_mem) => `(tactic| assumption)
local macro_rules | `(tactic| walk_at "eval Name") => `(tactic| (k_here; k_dflt (refine' ldE ?k1 ?k2 ?_ rfl rfl (by decide); (case k1 => k_asm); (case k2 => first | exact rfl | assumption); k_whole)))
local macro_rules | `(tactic| walk_at "getAttr ref") => `(tactic| (k_dflt (refine' get_slot ?k1 ?k2 ?k3 ?k4 ?k5 ?k6 ?k7 ?k8 ?k9 ?k10 ?k11 ?_; (case k1 => k_asm); (case k2 => k_asm); (case k3 => (refine' InstAt.of_news ?N ?h1 ?h2; (case N => k_asm); (case h1 => k_mem); (case h2 => k_mem))); (case k4 => k_is); (case k5 => k_is); (case k6 => k_is); (case k7 => k_is); (case k8 => k_is); (case k9 => k_is); (case k10 => assumption); (case k11 => k_handed); k_whole)))
local macro_rules | `(tactic| walk_at "truthy ref") => `(tactic| refine Stop.of ?_)
local macro_rules | `(tactic| walk_at "eval Call Attribute") => `(tactic| ((with_reducible show wpAny _ _ (eval (Expr.Call (Expr.Attribute _ _ _) [Expr.Starred _ _] [] _) _) _ _ _); refine starCall_E ?_))
theorem kfillhk : (PySem.Challenge.rw_fe0222_01, hd.heap_39) = (PySem.Challenge.rw_fe0222_01, hd.heap_39) := by
  k_fill
  rfl
theorem run_size : ∀ (r : Row) (d : Dat), cnt r ≤ 1000 → (run r).1 = .ok d → sizeOk (cnt r) d
  | .nil, d, _, h => by
    simp only [run] at h
    cases h
    exact ⟨rfl, fun ds e => by cases e⟩
  | .one me kind r, d, hc, h => by
    simp only [cnt] at hc
    have ih := fun d => run_size r d (by omega)
    have hz : (1010 : Nat) ≤ sizeLine := by decide
    simp only [run, oneP] at h
    split at h
    · cases h
    · simp only [pre] at h
      split at h
      · cases h
      · split at h
        · cases h
        · split at h
          · exact (ih d h).mono (Nat.le_succ _)
          · split at h
            · simp only [postP] at h
              exact post_size h ih (by omega)
            · cases h
              unfold valueD
              split
              · exact ⟨rfl, fun ds e => by cases e⟩
              · split
                · exact ⟨by simp [ldOk], fun ds e => by cases e; simp⟩
                · split
                  · exact ⟨rfl, fun ds e => by cases e⟩
                  · exact ⟨by simp [ldOk]; omega, fun ds e => by cases e; simp⟩
  | .part i r, d, hc, h => by
    simp only [cnt] at hc
    have h1 := fun d => run_size i d (by omega)
    have h2 := fun d => run_size r d (by omega)
    simp only [run, goOn] at h
    split at h
    · exact (h2 d h).mono (by simp only [cnt]; omega)
    · exact (h1 d h).mono (by simp only [cnt]; omega)
def PartsC (w : World) (h₀ : Heap) : Row → Prop
  | .nil => True
  | .one _ _ r => PartsC w h₀ r
  | .part i r => PartC w h₀ i ∧ PartsC w h₀ r
inductive ItemC (w : World) (h₀ : Heap) (nz : Ledger) (lg : Addr) (ds : List (Int × Int × Addr)) (ps : List (Str × Addr)) (x : Addr) (dm : Nat) : Nat → (OL → OL) → Prop
  | one {me kind : Int} {dd : Addr} : SingleAt nz x me kind → (me, kind, dd) ∈ ds → ItemC w h₀ nz lg ds ps x dm 1 (oneP me kind)
  | part {at_ il : Addr} {word : Str} {n : Nat} {ws : List Value} {inner : Row} : ImplAt nz x 126 at_ false → ArgsAt nz at_ [wLog, Str.ofString "errs", wDeeds, wParts, word] → (word, il) ∈ ps → il ≠ lg → (il, listOf ws.reverse.toArray n) ∈ nz →
      RowAt nz lg ds ps ws inner → PartC w h₀ inner → dep inner + 1 ≤ dm → ItemC w h₀ nz lg ds ps x dm (cnt inner) (goOn (run inner))
theorem ItemC.step {w : World} {h₀ : Heap} {nz nz' : Ledger} {lg : Addr} {ds : List (Int × Int × Addr)} {ps : List (Str × Addr)} {x : Addr} {dm c : Nat} {f : OL → OL} {fr : List Addr} (h : ItemC w h₀ nz lg ds ps x dm c f) (S : Step [lg] fr nz nz') (M : MutSeq [lg] nz) (hm : ∀ a ∈ [lg], ∀ o, (a, o) ∈ nz → o.cls = .type "list") : ItemC w h₀ nz' lg ds ps x dm c f := by
  cases h with
  | one h1 h2 => exact .one (h1.step S M hm) h2
  | part h1 h2 h3 h4 h5 h6 h7 h8 => exact .part (h1.step S M hm) (h2.step S hm) h3 h4 (S.keeps h5 (by simpa using h4) (fun _ q => by cases q) fun _ _ q => by cases q) (h6.step S M hm) h7 h8
theorem item_len {w : World} {h₀ : Heap} {nz : Ledger} {lg : Addr} {ds : List (Int × Int × Addr)} {ps : List (Str × Addr)} {x : Addr} {dm c : Nat} {f : OL → OL} (h : ItemC w h₀ nz lg ds ps x dm c f) (q : OL) : (f q).2.length ≤ 2 * c + q.2.length := by
  cases h with
  | one _ _ =>
    simp only [oneP]
    split
    · simp
    · simp only [pre]
      split
      · simp; omega
      · split
        · simp; omega
        · split
          · simp; omega
          · split
            · simp [postP]; omega
            · simp; omega
  | @part _ _ _ _ _ inner _ _ _ _ _ _ _ _ =>
    have := run_len inner
    simp only [goOn]
    split
    · simp [pre]; omega
    · omega
theorem RowAt.item {w : World} {h₀ : Heap} {nz : Ledger} {lg : Addr} {ds : List (Int × Int × Addr)} {ps : List (Str × Addr)} {y : Value} {vs : List Value} {row : Row} (h : RowAt nz lg ds ps (y :: vs) row) (P : PartsC w h₀ row) :
    ∃ x f row' c, y = .ref x ∧ ItemC w h₀ nz lg ds ps x (dep row) c f ∧ RowAt nz lg ds ps vs row' ∧ PartsC w h₀ row' ∧ run row = f (run row') ∧ cnt row = c + cnt row' ∧ dep row' ≤ dep row := by
  cases h with
  | @one x me kind dd _ rest h1 h2 h3 => exact ⟨x, _, rest, 1, rfl, .one h1 h2, h3, P, rfl, by simp only [cnt]; omega, by simp only [dep]; exact Nat.le_refl _⟩
  | @part x at_ il word n _ ws inner rest h1 h2 h3 h4 h5 h6 h7 => exact ⟨x, _, rest, cnt inner, rfl, .part h1 h2 h3 h4 h5 h6 P.1 (by simp only [dep]; omega), h7, P.2, rfl, rfl, by simp only [dep]; omega⟩
theorem turn_item {w : World} {h₀ : Heap} {mean : ExcName → Option Value} {mg mb : Str → Option Value} (X : (hd.heap_39 w.params).In h₀) (T : TopH mean mg mb h₀) {o39 : Obj} (ho : (hd.heap_39 w.params).lookup 39 = some o39)
    {A : Around} {s : Shared} {nz : Ledger} {outer : List Env} {Q : Flow → Shared → Prop} {E : Value → Shared → Prop} {L lg er dl pt tb rs td x : Addr} {m : Str → Option Value} {oc : Obj} {tab : List (Int × Addr)} {ds : List (Int × Int × Addr)} {ps : List (Str × Addr)} {ls : List Dat} {tvs : List Value} {n1 n2 dm c : Nat} {f : OL → OL} {B : Addr → Prop} (hB : ∀ a, B a → ∃ o, (a, o) ∈ nz) (hBr : B rs) (hBt : B td)
    (F : Fr h₀ L s.heap m) (N : News h₀ L s.heap nz) (So : SoftOK nz) (hA : A.frames = some (envAt o39.data L 39 :: outer)) (Fs : FramesIn nz outer) (hdep : A.depth + (98 + 4 * dm) < recursionLimit) (hun : A.units + (600 + 20 * dm) < cLine) (hh : A.handled = none)
    (W : Wd w nz lg er dl pt tab ds ps) (TB : TableAt w nz tb lg er dl pt ds ps) (hf1 : er ∉ outer.filterMap (·.frame)) (hf2 : pt ∉ outer.filterMap (·.frame)) (LG : LogAt B nz lg .none ls) (hls : ls.length + 2 * c ≤ 1000) (hc : c ≤ 30)
    (hcA : (L + 1, oc) ∈ nz) (hoc : oc.data = .cell (some (.ref tb))) (hrs : (rs, listOf ([] : List Value).toArray n1) ∈ nz) (htd : (td, listOf tvs.toArray n2) ∈ nz) (hd1 : rs ≠ td) (hd2 : rs ≠ lg) (hd3 : td ≠ lg) (htz : tvs.length ≤ 100) (M : McM m rs td) (WO : WordsOK ds ps) (hl1 : ds.length ≤ 100) (hl2 : ps.length ≤ 100)
    (hx : m (Str.ofString "hook_impl") = some (.ref x)) (IC : ItemC w h₀ nz lg ds ps x dm c f)
    (TP : TurnPost w B Q E s h₀ L rs td lg er tab ds (outer.filterMap (·.frame)) nz ls tvs f) :
    wpAny (model pg w) A (execs (mcLoop o39) (envAt o39.data L 39)) Q E s := by
  have hz : (1001 : Nat) ≤ sizeLine := by decide
  cases IC with
  | @one me kind dd SA hds =>
    by_cases hk : 3 < kind
    · exact turn_wrap X T ho hB hBr hBt F N So hA Fs (by omega) (by omega) hh W TB hf1 LG (by omega) hcA hoc hrs htd hd1 hd2 hd3 htz M hx SA hds hk TP
    · exact turn_plain X T ho hB hBr hBt F N So hA Fs (by omega) (by omega) hh W TB hf1 LG (by omega) hcA hoc hrs htd hd1 hd2 hd3 M hx SA hds (by omega) TP
  | @part at_ il word n ws inner h1 h2 h3 h4 h5 h6 h7 h8 =>
    exact turn_part X T ho hB hBr hBt F N So hA Fs (by omega) (by omega) hh W TB hf1 LG hcA hoc hrs htd hd1 hd2 hd3 M hx h1 h2 h3 h4 h5 h6 h7 WO hl1 hl2 hls hc hf2 TP
end Mine
namespace Mine
local macro_rules | `(tactic| walk_at "pad") => `(tactic| skip)
open PySem PySem.W PySem.Calls PyProof.Rows
local macro_rules | `(tactic| walk_at "exec For") => `(tactic| refine Stop.of ?_)
local macro_rules | `(tactic| walk_at "call type:reversed") => `(tactic| refine Stop.of ?_)
local macro_rules | `(tactic| walk_at "exec For Name Call cons nil") => `(tactic| refine Stop.of ?_)
local macro_rules | `(tactic| walk_at "exec Try cons cons nil cons") => `(tactic| refine Stop.of ?_)
local macro_rules | `(tactic| walk_at "exec Try") => `(tactic| refine Stop.of ?_)
local macro_rules | `(tactic| walk_at "exec Assign cons ListComp") => `(tactic| refine Stop.of ?_)
local macro_rules | `(tactic| walk_at "exec Raise") => `(tactic| refine Stop.of ?_)
local macro_rules | `(tactic| walk_at "call ref") => `(tactic| refine Stop.of ?_)
local macro_rules | `(tactic| walk_at "call builtin:list.append") => `(tactic| refine Stop.of ?_)
local macro_rules | `(tactic| k_mem) => `(tactic| assumption)
local macro_rules | `(tactic| walk_at "eval Name") => `(tactic| (k_here; k_dflt (refine' ldE ?k1 ?k2 ?_ rfl rfl (by decide); (case k1 => k_asm); (case k2 => first | exact rfl | assumption); k_whole)))
local macro_rules | `(tactic| walk_at "getAttr ref") => `(tactic| (k_dflt (refine' get_slot ?k1 ?k2 ?k3 ?k4 ?k5 ?k6 ?k7 ?k8 ?k9 ?k10 ?k11 ?_; (case k1 => k_asm); (case k2 => k_asm); (case k3 => (refine' InstAt.of_news ?N ?h1 ?h2; (case N => k_asm); (case h1 => k_mem); (case h2 => k_mem))); (case k4 => k_is); (case k5 => k_is); (case k6 => k_is); (case k7 => k_is); (case k8 => k_is); (case k9 => k_is); (case k10 => assumption); (case k11 => k_handed); k_whole)))
local macro_rules | `(tactic| walk_at "truthy ref") => `(tactic| refine Stop.of ?_)
local macro_rules | `(tactic| walk_at "eval Call Attribute") => `(tactic| ((with_reducible show wpAny _ _ (eval (Expr.Call (Expr.Attribute _ _ _) [Expr.Starred _ _] [] _) _) _ _ _); refine starCall_E ?_))
theorem kfillhl : (PySem.Challenge.rw_fe0222_01, hd.heap_39) = (PySem.Challenge.rw_fe0222_01, hd.heap_39) := by
  k_fill
  rfl
def mcRest (o : Obj) : List Stmt := (bodyOf o.data).drop 4
theorem two_mem {α : Type} {a b x : α} (h : x ∈ [a, b]) : x = a ∨ x = b := by
  simp only [List.mem_cons, List.not_mem_nil, or_false] at h
  exact h
theorem fv0 {nz nz' : Ledger} {lg : Addr} {fr : List Addr} {v : Value} (S : Step [lg] fr nz nz') (hl : ∃ o, (lg, o) ∈ nz') (h : FreshV nz' v) : FreshV nz v := fun a q p hp z => by
  by_cases e : p.1 = lg
  · obtain ⟨o, ho⟩ := hl
    exact h a q _ ho (e.symm.trans z)
  · obtain ⟨o', ho', _⟩ := S p hp fun w => e ((List.mem_cons.mp w).elim id fun w => nomatch w)
    exact h a q _ ho' z
theorem unw_split {st : List (Int × Int)} {o o' : Out} {l0 l ls' : List Dat} {p : OL} (h : unw st (o, l0 ++ l) = (o', ls')) (hp : p = pre l (unw st (o, []))) : ∃ lx, p = (o', lx) ∧ ls' = l0 ++ lx := by
  have e : (o, l0 ++ l) = pre (l0 ++ l) ((o, []) : OL) := by simp [pre]
  rw [e, unw_pre] at h
  obtain ⟨h1, h2⟩ := Prod.mk.inj h
  refine ⟨l ++ (unw st (o, [])).2, by rw [hp, ← h1]; rfl, by rw [← h2, List.append_assoc]⟩
theorem multi_con {w : World} {h₀ : Heap} {mean : ExcName → Option Value} {mg mb : Str → Option Value} (X : (hd.heap_39 w.params).In h₀) (T : TopH mean mg mb h₀) {row : Row} (PC : PartsC w h₀ row) : MultiC w h₀ row := by
  intro nm t A s nz outer R B lg er dl pt tb il tab ds ps ls vs n hB D So S hh hf1 hf2 hf3 W TB WO hl1 hl2 hil hne RA LG hz1 hz2 hR hE
  obtain ⟨o39, ho⟩ : ∃ o39, o39 = o39 ∧ (hd.heap_39 w.params).lookup 39 = some o39 := ⟨_, rfl, by k_is⟩
  obtain ⟨-, ho⟩ := ho
  have ho2 := ho
  have h3 := Option.some.inj (ho.symm.trans (by k_is))
  subst h3
  have TB := TB rfl
  have Mlg : MutSeq [lg] nz := by
    obtain ⟨us, k, g, _⟩ := LG
    exact mutSeq_one D g ⟨_, _, rfl⟩
  have MClg : ∀ a ∈ [lg], ∀ o, (a, o) ∈ nz → o.cls = .type "list" := by
    obtain ⟨us, k, g, _⟩ := LG
    exact fun b hb ob hob => by rw [mem_one hb] at hob; exact one_obj' D g hob ▸ rfl
  refine enter_LC (d := 99 + 4 * dep row) (u := 607 + 20 * dep row) (binds := [(Str.ofString "hook_name", .str nm t), (Str.ofString "hook_impls", .ref il), (Str.ofString "caller_kwargs", .ref tb), (Str.ofString "firstresult", .bool true)]) (cn := Str.ofString "caller_kwargs") D X T.nolimit ⟨S.fr, S.fs, by have := S.dep; omega, by have := S.un; omega⟩ (by k_is) (by k_is) (BindsTo.of_eq rfl) rfl (by decide +kernel) (fun L => rfl) ?_ rfl rfl rfl
  intro L h₁ tk₁ oc F N hoc lt hfr' hdp hun
  k_steps
  refine Stop.go ?_
  rename_i rs hAA l1a hBB tkA hCC td hDD l1b hEE F1 N1
  refine wpAny_mono (Q := fun f s' => f = .next ∧ ∃ (o' : Out) (ls' : List Dat) (v' x' : Value) (h' : Heap) (tk : Tok) (m' : Str → Option Value) (nz' : Ledger), run row = (o', ls') ∧ s' = { s with heap := h', toks := tk } ∧ Fr h₀ L h' m' ∧ News h₀ L h' nz' ∧ m' (Str.ofString "result") = some v' ∧ m' (Str.ofString "exception") = some x' ∧
      Step [lg] (outer.filterMap (·.frame)) nz nz' ∧ SoftOK nz' ∧ TState B nz' lg tab nz o' (ls ++ ls') v' x') (E := fun _ _ => False) ?_ (fun f s' hf => ?_) fun _ _ e => e.elim
  · have ltd : ∀ p ∈ nz, p.1 < td := fun p hp => allLt_at l1b.2.2 p hp
    have lrs : ∀ p ∈ nz, p.1 < rs := fun p hp => allLt_at l1a.2 p hp
    have hrt : rs ≠ td := Nat.ne_of_lt l1b.1
    obtain ⟨uslg, klg, hlg, hVlg⟩ := id LG
    have hrl : rs ≠ lg := Nat.ne_of_gt (lrs _ hlg)
    have htl : td ≠ lg := Nat.ne_of_gt (ltd _ hlg)
    refine wpAny_Try_except_finally ?_
    k_steps
    refine Stop.go ?_
    refine wpAny_For ?_
    k_steps
    refine Stop.go ?_
    refine krv_reversed F1 N1 ⟨_, (N1 _ (.tail _ (.tail _ (.tail _ hil)))).1, rfl, n, rfl⟩ fun I h2 F2 N2 ltI => ?_
    clear F1 N1
    have hI0 : ∀ p ∈ nz, p.1 ≠ I := fun p hp => Nat.ne_of_lt (ltI p (.tail _ (.tail _ (.tail _ hp))))
    have hIr : rs ≠ I := Nat.ne_of_lt (ltI _ (.tail _ (.head _)))
    have hIt : td ≠ I := Nat.ne_of_lt (ltI _ (.head _))
    have hIc : L + 1 ≠ I := Nat.ne_of_lt (ltI (L + 1, oc) (.tail _ (.tail _ (.head _))))
    refine wpAny_pyIter_revIter ⟨_, (N2 _ (.head _)).1, rfl, rfl⟩ ?_
    refine forLoop_T (fun j s' => ∃ (k : Nat) (h' : Heap) (tk : Tok) (m' : Str → Option Value) (nw : Ledger) (oI : Obj) (st : List (Int × Int)) (tvs : List Value) (n2 : Nat) (done : List Dat) (row' : Row),
      j = vs.length - k ∧ k ≤ vs.length ∧ s' = { s with heap := h', toks := tk } ∧ Fr h₀ L h' m' ∧ McM m' rs td ∧ News h₀ L h' nw ∧ (I, oI) ∈ nw ∧ (oI.cls = .type "list_reverseiterator" ∧ oI.data = .fields #[.ref il, rawInt ((vs.length : Int) - 1 - k)]) ∧
      (L + 1, oc) ∈ nw ∧ (rs, listOf ([] : List Value).toArray 0) ∈ nw ∧ (td, listOf tvs.toArray n2) ∈ nw ∧ Step [lg] (outer.filterMap (·.frame)) nz nw ∧ SoftOK nw ∧ Tears nw lg er ds tvs.reverse st ∧ LogAt (fun b => B b ∨ b = rs ∨ b = td ∨ b = I) nw lg .none (ls ++ done) ∧
      RowAt nz lg ds ps (vs.drop k) row' ∧ PartsC w h₀ row' ∧ run row = pre done (unw st (run row')) ∧ done.length + st.length + 2 * cnt row' ≤ 2 * cnt row ∧ st.length + cnt row' ≤ cnt row ∧ dep row' ≤ dep row)
      ?_ vs.length ⟨0, _, _, _, _, revObj il (((vs.reverse).length : Int) - 1), [], [], 0, [], row, rfl, Nat.zero_le _, rfl, F2, ⟨rfl, rfl, rfl, rfl⟩, N2, .head _, ⟨rfl, by simp [revObj]⟩, .tail _ (.tail _ (.tail _ (.head _))), .tail _ (.tail _ (.head _)), .tail _ (.head _), Step.sub (fun p hp => .tail _ (.tail _ (.tail _ (.tail _ hp)))), ?_, .nil, ?_, RA, PC, rfl, by simp, by simp, Nat.le_refl _⟩
    · rintro j s' ⟨k, h', tk', m', nw, oI, st, tvs, n2, done, row', rfl, hk', rfl, F, M, N, hI, ⟨hIcl, hId⟩, hcell, hrs, htd, St, So', TE, LG', RA', PC', hrun, hb1, hb2, hb3⟩
      have hBn : ∀ a, (B a ∨ a = rs ∨ a = td ∨ a = I) → ∃ o, (a, o) ∈ nw := fun a ha => by
        rcases ha with ha | ha | ha | ha
        · obtain ⟨o, ho'⟩ := hB a ha
          by_cases q : a = lg
          · obtain ⟨us, k, g, _⟩ := LG'
            exact ⟨_, q ▸ g⟩
          · obtain ⟨o2, h2, _⟩ := St _ ho' fun z => q (mem_one z)
            exact ⟨o2, h2⟩
        · exact ⟨_, ha ▸ hrs⟩
        · exact ⟨_, ha ▸ htd⟩
        · exact ⟨_, ha ▸ hI⟩
      have hIs : IsSoft oI → False := fun q => by
        rcases q with q | q | q | q | q <;> (rw [hIcl] at q; revert q; decide)
      have hIx : ∀ (ob : Obj), (I, ob) ∈ nw → ¬ IsExc ob := fun ob hob hx => by
        have := one_obj' (led_of F N) hob hI
        subst this
        exact hIs hx.soft
      have hIu : ∀ b ∈ [I], ∀ (ob : Obj), (b, ob) ∈ nw → ob.cls ≠ .type "tuple" := fun b hb ob hob q => by
        rw [mem_one hb] at hob
        have := one_obj' (led_of F N) hob hI
        subst this
        rw [hIcl] at q; revert q; decide
      have hil' : (il, listOf vs.reverse.toArray n) ∈ nw := St.keeps hil (by simpa using hne) (fun _ q => by cases q) (fun _ _ q => by cases q)
      have hlist : h'.IsList il vs.reverse.toArray := ⟨_, (N _ hil').1, rfl, n, rfl⟩
      cases hv : vs[k]? with
      | none =>
        have hke : k = vs.length := Nat.le_antisymm hk' (by simpa using hv)
        have hrow : row' = .nil := by
          rw [hke, List.drop_length] at RA'
          cases RA'; rfl
        subst hrow
        refine wpAny_pyNext_rev_end hh (l := il) ⟨oI, (N _ hI).1, hIcl, rev_at hId (by omega)⟩ fun h3 hs3 => ?_
        obtain ⟨F3, N3⟩ := ext_fr F N (N _ hI).2.1 (N _ hI).2.2 hs3
        have St3 : Step [I] [] nw (without nw I) := without_step' _ _ (.head _)
        have So3 : SoftOK (without nw I) := softOK_without N So' hI hIs
        clear F N
        have St03 := St.thru St3 (fun z hz => .inr (by rw [mem_one hz]; exact hI0)) fun _ q => nomatch q
        have LG3 := LG'.step (v' := .none) St3 (fun q => absurd (mem_one q) (hI0 _ hlg)) (fun a ha => .inr (.inr (.inr (.inr (mem_one ha))))) fun _ q => nomatch q
        have hB3 : ∀ a, (B a ∨ a = rs ∨ a = td) → ∃ o, (a, o) ∈ without nw I := fun a ha => by
          obtain ⟨o, ho'⟩ := hBn a (ha.imp id fun q => q.imp id .inl)
          refine ⟨o, without_mem ho' fun q => ?_⟩
          rcases ha with ha | ha | ha
          · obtain ⟨o2, h2⟩ := hB a ha
            exact hI0 _ h2 q
          · exact hIr (ha ▸ q)
          · exact hIt (ha ▸ q)
        obtain ⟨us3, k3, hlg3, _⟩ := id LG3
        walk1
        walk1
        walk1
        refine final_con X T ho2 (nz0 := nz) (B := fun b => B b ∨ b = rs ∨ b = td) hB3 F3 N3 So3 hfr' (S.fs.mut St03 Mlg) (by omega) (by omega) hh W St03 Mlg ⟨_, hlg3⟩ S.fs hf1 hf2 (ls := ls ++ done) (c := 0) (by rw [List.length_append]; omega) (by omega) M.rs M.td M.fi M.ex (without_mem hrs hIr) (without_mem htd hIt) (.inr (.inr rfl)) htl.symm (.inl ⟨rfl, rfl⟩) (TE.step St3 hIu) (.ok .none (LG3.bad fun a ob _ q => .inr (.inr (q.imp id fun q => q.imp id .inl))) fun _ q => by cases q) (fun d hd => by cases hd; exact ⟨rfl, fun ds e => by cases e⟩) fun o' ls' v' x' h9 tk9 m9 nz9 hunw F9 N9 hr9 hx9 St9 So9 TS9 => ?_
        obtain ⟨lx, hlx, rfl⟩ := unw_split hunw (hrun.trans rfl)
        exact ⟨rfl, o', lx, v', x', h9, tk9, m9, nz9, hlx, rfl, F9, N9, hr9, hx9, St9, So9, TS9.bad fun a ob _ q => .inl q⟩
      | some y =>
        have hkl : k < vs.length := by
          rcases Nat.lt_or_ge k vs.length with q | q
          · exact q
          · rw [List.getElem?_eq_none q] at hv; cases hv
        have hdrop : vs.drop k = y :: vs.drop (k + 1) := by
          rw [List.getElem?_eq_getElem hkl, Option.some.injEq] at hv
          rw [← hv]
          exact (List.drop_eq_getElem_cons hkl)
        rw [hdrop] at RA'
        obtain ⟨x, f, row'', c, rfl, IC, RA'', PC'', hrun', hcnt, hdp'⟩ := RA'.item PC'
        have hidx : vs.reverse.toArray[vs.length - 1 - k]? = some (.ref x) := by
          rw [List.getElem?_toArray, List.getElem?_reverse (by omega), ← hv]
          congr 1; omega
        refine wpAny_pyNext_rev_item (l := il) (i := vs.length - 1 - k) ⟨oI, (N _ hI).1, hIcl, rev_at hId (by omega)⟩ hlist hidx fun h3 hit3 hs3 => ?_
        obtain ⟨oI', hoI', hIcl', hId'⟩ := hit3
        obtain ⟨F3, N3⟩ := same_fr F N hI hs3 hoI'
        have St3 : Step [I] [] nw ((I, oI') :: without nw I) := without_step _ _ (.head _)
        have St03 := St.thru St3 (fun z hz => .inr (by rw [mem_one hz]; exact hI0)) fun _ q => nomatch q
        have hIs' : ¬ IsSoft oI' := fun q => by
          rcases q with q | q | q | q | q <;> (rw [hIcl'] at q; revert q; decide)
        have So3 : SoftOK ((I, oI') :: without nw I) := softOK_turn N So' hI hIs hIs'
        have LG3 := LG'.step (v' := .none) St3 (fun q => absurd (mem_one q) (hI0 _ hlg)) (fun a ha => .inr (.inr (.inr (.inr (mem_one ha))))) fun _ q => nomatch q
        have hB3 : ∀ a, (B a ∨ a = rs ∨ a = td ∨ a = I) → ∃ o, (a, o) ∈ (I, oI') :: without nw I := fun a ha => by
          by_cases q : a = I
          · exact ⟨oI', q ▸ .head _⟩
          · obtain ⟨o, ho'⟩ := hBn a ha
            exact ⟨o, .tail _ (without_mem ho' q)⟩
        have hrs3 : (rs, listOf ([] : List Value).toArray 0) ∈ (I, oI') :: without nw I := .tail _ (without_mem hrs hIr)
        have htd3 : (td, listOf tvs.toArray n2) ∈ (I, oI') :: without nw I := .tail _ (without_mem htd hIt)
        have hcell3 : (L + 1, oc) ∈ (I, oI') :: without nw I := .tail _ (without_mem hcell hIc)
        have TE3 := TE.step St3 hIu
        have hlen := TE.length
        rw [List.length_reverse] at hlen
        have hcl : ∀ b, (b = lg ∨ b = td ∨ b = rs) → ∀ (ob : Obj), (b, ob) ∈ (I, oI') :: without nw I → ob.cls ≠ .type "tuple" := fun b hb ob hob => by
          have D3 := led_of F3 N3
          obtain ⟨us3, k3, g3, _⟩ := LG3
          have : ob.cls = .type "list" := by
            rcases hb with rfl | rfl | rfl
            · exact one_obj' D3 g3 hob ▸ rfl
            · exact one_obj' D3 htd3 hob ▸ rfl
            · exact one_obj' D3 hrs3 hob ▸ rfl
          rw [this]; decide
        have hcl1 : L + 1 ≠ lg := fun q => by
          have h1 : lg < L := lt _ hlg
          rw [← q] at h1
          exact Nat.not_succ_lt_self h1
        have hcl2 : L + 1 ≠ td := Nat.ne_of_lt l1b.2.1
        refine wpAny_assign_Name ?_
        refine stLocN F3 N3 (fun h4 F4 N4 => ?_) rfl rfl
        clear F N F3 N3
        refine turn_item X T ho2 (B := fun b => B b ∨ b = rs ∨ b = td ∨ b = I) hB3 (.inr (.inl rfl)) (.inr (.inr (.inl rfl))) F4 N4 So3 hfr' (S.fs.mut St03 Mlg) (dm := dep row') (by omega) (by omega) hh (W.step St03 Mlg hf1 hf2) (TB.step St03 Mlg hf3) hf1 hf2 LG3 (c := c) (by rw [List.length_append]; omega) (by omega) hcell3 hoc hrs3 htd3 hrt hrl htl (by omega) ⟨M.rs, M.ex, M.td, M.fi⟩ WO hl1 hl2 rfl (IC.step St03 Mlg MClg) ⟨?_, ?_, ?_, ?_⟩
        · intro e c1 ls1 h5 tk5 m5 nz5 hf F5 N5 M5 St5 So5 E5 LG5 nt5
          have St05 := St03.thru St5 (fun z hz => .inl hz) (fun z hz => .inl hz)
          have Fs5 : FramesIn nz5 outer := S.fs.mut St05 Mlg
          obtain ⟨oe5, he5, hx5, _⟩ := nt5
          show wpAny _ _ (noteFrame (.ref e) _) _ _ _
          refine note_L (outer := outer) F5 N5 So5 he5 hx5 hfr' Fs5 rfl (by intro q; cases q) fun h6 nz6 A6 nt6 => ?_
          obtain ⟨oe6, he6, hx6, tb6⟩ := nt6
          show cameBackBy _ _ _ _ _ _
          refine cameBack_L A6.fr A6.nw A6.ok he6 hx6 tb6 fun h7 nz7 A7 ke7 => ?_
          have Fs7 : FramesIn nz7 outer := (Fs5.step A6.st fun _ q => nomatch q).step A7.st fun _ q => nomatch q
          show wpAny _ _ (noteFrame (.ref e) _) _ _ _
          refine note_L (outer := outer) A7.fr A7.nw A7.ok ke7 hx6 hfr' Fs7 rfl (by intro q; cases q) fun h8 nz8 A8 nt8 => ?_
          obtain ⟨oe8, he8, hx8, tb8⟩ := nt8
          refine flight_L A8.fr A8.nw A8.ok he8 hx8 fun hA nzA A9 ke9 => ?_
          have St59 : Step [] (outer.filterMap (·.frame)) nz5 nzA := (A6.st.trans (A7.st.weaken (fun _ q => q) fun _ q => nomatch q)).trans (A8.st.trans (A9.st.weaken (fun _ q => q) fun _ q => nomatch q))
          have FA := A9.fr
          have NA := A9.nw
          have SoA := A9.ok
          clear A6 A7 A8 A9 F5 N5
          refine handle_as_L (T := "BaseException") (by rw [isSubtype_type]; kernel_rfl) (by rw [isSubtype_type]; kernel_rfl) (sub_exc (X.keeps FA.keep) hx8.1) FA NA SoA ke9 hx8 rfl rfl rfl ?_ ?_
          · intro Q E hq
            exact nameX_B FA X (topRead_of T) (by k_is) (v := .type "BaseException") (by decide +kernel) (by decide) hq
          · intro hB' nzB E' FB NB StB SoB keB
            have St5B := St59.trans (StB.weaken (fun _ q => q) fun _ q => nomatch q)
            have St0B := St05.trans (St5B.weaken (fun _ q => nomatch q) fun _ q => q)
            clear FA NA
            have hrsB := St5B.keeps (St5.keeps hrs3 (fun q => hrl (mem_one q)) (fun _ q => by cases q) (fun _ _ q => by cases q)) (by simp) (fun _ q => by cases q) (fun _ _ q => by cases q)
            have htdB := St5B.keeps (St5.keeps htd3 (fun q => htl (mem_one q)) (fun _ q => by cases q) (fun _ _ q => by cases q)) (by simp) (fun _ q => by cases q) (fun _ _ q => by cases q)
            have LGB := LG5.step (v' := .none) St5B (by simp) (fun _ q => nomatch q) fun _ q => nomatch q
            have hlgB : ∃ o, (lg, o) ∈ nzB := by obtain ⟨us, k, g, _⟩ := LGB; exact ⟨_, g⟩
            have hlg5 : ∃ o, (lg, o) ∈ nz5 := by obtain ⟨us, k, g, _⟩ := LG5; exact ⟨_, g⟩
            have hBB : ∀ a, (B a ∨ a = rs ∨ a = td) → ∃ o, (a, o) ∈ nzB := fun a ha => hB_step (hB_step hB3 St5 (fun z hz => by rw [mem_one hz]; exact hlg5)) St5B (fun _ q => nomatch q) a (ha.imp id fun q => q.imp id .inl)
            have TEB := (TE3.step St5 (fun b hb ob hob => hcl b (.inl (mem_one hb)) ob hob)).step St5B (fun _ q => nomatch q)
            have EB := E5.step St5B (MutSeq.nil _)
            have hrunB : run row = pre (done ++ ls1) (unw st (.err c1, [])) := by
              have e : ((.err c1, ls1) : OL) = pre ls1 (.err c1, []) := by simp [pre]
              rw [hrun, hrun', hf, e, unw_pre, pre_pre]
            have hl1' := item_len IC (.ok .none, [])
            rw [hf] at hl1'
            simp only [List.length_nil, Nat.add_zero] at hl1'
            walk1
            walk1
            walk1
            walk1
            walk1
            with_reducible rename Fr _ _ _ _ => FC
            with_reducible rename News _ _ _ _ => NC
            refine ⟨_, _, FC, NC, fun hD vD FD ND => ?_⟩
            refine final_con X T ho2 (nz0 := nz) (B := fun b => B b ∨ b = rs ∨ b = td) hBB FD ND SoB hfr' (S.fs.mut St0B Mlg) (by omega) (by omega) hh W St0B Mlg hlgB S.fs hf1 hf2 (ls := ls ++ done ++ ls1) (c := 0) (by simp only [List.length_append] at *; omega) (by omega) M5.rs M5.td M5.fi rfl hrsB htdB (.inr (.inr rfl)) htl.symm (.inl ⟨rfl, rfl⟩) TEB (.err EB (LGB.bad fun a ob _ q => .inr (.inr (q.imp id fun q => q.imp id .inl)))) (fun d1 hd => by cases hd) fun o' ls' v' x' h9 tk9 m9 nz9 hunw F9 N9 hr9 hx9 St9 So9 TS9 => ?_
            obtain ⟨lx, hlx, rfl⟩ := unw_split (l0 := ls) (l := done ++ ls1) (show unw st (Out.err c1, ls ++ (done ++ ls1)) = (o', ls') from by rw [← List.append_assoc]; exact hunw) hrunB
            exact ⟨rfl, o', lx, v', x', h9, tk9, m9, nz9, hlx, rfl, F9, N9, hr9, hx9, St9, So9, TS9.bad fun a ob _ q => .inl q⟩
        · intro v d ls1 h5 tk5 m5 nz5 n5 hf F5 N5 M5 St5 So5 R5 LG5 fv5 hrs5
          have St05 := St03.thru St5 (fun z hz => (two_mem hz).elim (fun q => .inl (by rw [q]; exact .head _)) fun q => .inr (by rw [q]; exact fun p hp => Nat.ne_of_lt (lrs p hp))) (fun z hz => .inl hz)
          have hlg5 : ∃ o, (lg, o) ∈ nz5 := by obtain ⟨us, k, g, _⟩ := LG5; exact ⟨_, g⟩
          have hB5 : ∀ a, (B a ∨ a = rs ∨ a = td) → ∃ o, (a, o) ∈ nz5 := fun a ha => hB_step hB3 St5 (fun z hz => (two_mem hz).elim (fun q => q ▸ hlg5) fun q => ⟨_, q ▸ hrs5⟩) a (ha.imp id fun q => q.imp id .inl)
          have htd5 := St5.keeps htd3 (fun q => (two_mem q).elim htl hrt.symm) (fun _ q => by cases q) (fun _ _ q => by cases q)
          have hrunB : run row = pre (done ++ ls1) (unw st (.ok d, [])) := by
            have e : ((.ok d, ls1) : OL) = pre ls1 (.ok d, []) := by simp [pre]
            rw [hrun, hrun', hf, e, unw_pre, pre_pre]
          walk1
          walk1
          refine final_con X T ho2 (nz0 := nz) (B := fun b => B b ∨ b = rs ∨ b = td) hB5 F5 N5 So5 hfr' (S.fs.mut St05 Mlg) (by omega) (by omega) hh W St05 Mlg hlg5 S.fs hf1 hf2 (ls := ls ++ done ++ ls1) (c := cnt row') (by have := (hf (.ok .none, [])) ▸ item_len IC (.ok .none, []); simp only [List.length_append, List.length_nil, Nat.add_zero] at *; omega) (by omega) M5.rs M5.td M5.fi M5.ex hrs5 htd5 (.inr (.inr rfl)) htl.symm (.inr rfl) (TE3.step St5 (fun b hb ob hob => (two_mem hb).elim (fun q => hcl b (.inl q) ob hob) fun q => hcl b (.inr (.inr q)) ob hob)) (.ok (R5.bad fun a ob _ q => q.imp id fun q => q.imp id .inl) (LG5.bad fun a ob _ q => .inr (.inr (q.imp id fun q => q.imp id .inl))) (fv0 St03 (let ⟨_, _, g, _⟩ := LG3; ⟨_, g⟩) fv5)) (fun d1 hd => by cases hd; exact run_size row' d (by omega) (by rw [hrun', hf])) fun o' ls' v' x' h9 tk9 m9 nz9 hunw F9 N9 hr9 hx9 St9 So9 TS9 => ?_
          obtain ⟨lx, hlx, rfl⟩ := unw_split (l0 := ls) (l := done ++ ls1) (show unw st (Out.ok d, ls ++ (done ++ ls1)) = (o', ls') from by rw [← List.append_assoc]; exact hunw) hrunB
          exact ⟨rfl, o', lx, v', x', h9, tk9, m9, nz9, hlx, rfl, F9, N9, hr9, hx9, St9, So9, TS9.bad fun a ob _ q => .inl q⟩
        · intro ls1 h5 tk5 m5 nz5 hf F5 N5 M5 St5 So5 LG5
          have St05 := St03.thru St5 (fun z hz => .inl hz) (fun z hz => .inl hz)
          have hl1' := item_len IC (.ok .none, [])
          rw [hf] at hl1'
          simp only [pre, List.length_append, List.length_nil, Nat.add_zero] at hl1'
          refine ⟨vs.length - (k + 1), by omega, k + 1, h5, tk5, m5, nz5, oI', st, tvs, n2, done ++ ls1, row'', rfl, hkl, rfl, F5, M5, N5, ?_, ⟨hIcl', rev_at hId' (by omega)⟩, ?_, ?_, ?_, St05, So5, TE3.step St5 (fun b hb ob hob => hcl b (.inl (mem_one hb)) ob hob), by rw [← List.append_assoc]; exact LG5, RA'', PC'', ?_, ?_, by omega, by omega⟩
          · exact St5.keepsR (.head _) (fun q => hI0 _ hlg (mem_one q).symm) hIs' ⟨_, hId'⟩
          · exact St5.keeps hcell3 (fun q => hcl1 (mem_one q)) (fun _ q => by rw [hoc] at q; cases q) (fun _ _ q => by rw [hoc] at q; cases q)
          · exact St5.keeps hrs3 (fun q => hrl (mem_one q)) (fun _ q => by cases q) (fun _ _ q => by cases q)
          · exact St5.keeps htd3 (fun q => htl (mem_one q)) (fun _ q => by cases q) (fun _ _ q => by cases q)
          · rw [hrun, hrun', hf, unw_pre, pre_pre]
          · rw [List.length_append]; omega
        · intro me kind dd a ls1 h5 tk5 m5 nz5 n5 hf hds F5 N5 M5 St5 So5 LG5 TA5 htd5
          have St05 := St03.thru St5 (fun z hz => (two_mem hz).elim (fun q => .inl (by rw [q]; exact .head _)) fun q => .inr (by rw [q]; exact fun p hp => Nat.ne_of_lt (ltd p hp))) (fun z hz => .inl hz)
          have hl1' := item_len IC (.ok .none, [])
          rw [hf] at hl1'
          simp only [pre, postP, List.length_append, List.length_nil, List.length_singleton, Nat.add_zero, Nat.zero_add] at hl1'
          refine ⟨vs.length - (k + 1), by omega, k + 1, h5, tk5, m5, nz5, oI', (me, kind) :: st, tvs ++ [.ref a], n5, done ++ ls1, row'', rfl, hkl, rfl, F5, M5, N5, ?_, ⟨hIcl', rev_at hId' (by omega)⟩, ?_, ?_, htd5, St05, So5, ?_, by rw [← List.append_assoc]; exact LG5, RA'', PC'', ?_, ?_, by rw [List.length_cons]; omega, by omega⟩
          · exact St5.keepsR (.head _) (fun q => (two_mem q).elim (fun q => hI0 _ hlg q.symm) fun q => hIt q.symm) hIs' ⟨_, hId'⟩
          · exact St5.keeps hcell3 (fun q => (two_mem q).elim hcl1 hcl2) (fun _ q => by rw [hoc] at q; cases q) (fun _ _ q => by rw [hoc] at q; cases q)
          · exact St5.keeps hrs3 (fun q => (two_mem q).elim hrl hrt) (fun _ q => by cases q) (fun _ _ q => by cases q)
          · rw [List.reverse_append]
            exact .cons TA5 hds (TE3.step St5 (fun b hb ob hob => (two_mem hb).elim (fun q => hcl b (.inl q) ob hob) fun q => hcl b (.inr (.inl q)) ob hob))
          · rw [hrun, hrun', hf, unw_pre, pre_pre]; rfl
          · rw [List.length_append, List.length_cons]; omega
    · rw [show (il : Addr) = il from rfl]
      refine (((So.cons (fun x => by obtain ⟨_, _, z⟩ := x; rw [hoc] at z; cases z)).hard hard_list).hard hard_list).hard fun q => ?_
      rcases q with q | q | q | q | q <;> (revert q; show Value.type "list_reverseiterator" = _ → False; decide)
    · rw [List.append_nil]
      exact (LG.bad (B' := fun b => B b ∨ b = rs ∨ b = td ∨ b = I) fun a o ho' q => by
        rcases q with q | q | q | q
        · exact .inr (.inr q)
        · exact absurd (q ▸ lrs _ ho') (Nat.lt_irrefl _)
        · exact absurd (q ▸ ltd _ ho') (Nat.lt_irrefl _)
        · exact absurd q (hI0 _ ho')).sub fun p hp => .tail _ (.tail _ (.tail _ (.tail _ hp)))
  · obtain ⟨rfl, o', ls', v', x', h', tk, m', nz', hrun, rfl, F', N', hr', hx', St', So', TS'⟩ := hf
    cases TS' with
    | @ok d _ _ R LG' fv =>
      k_steps
      exact hR v' d _ _ nz' (congrArg Prod.fst hrun) (led_of F' N') St' So' R ((congrArg Prod.snd hrun) ▸ LG') fv
    | @err c e _ _ EC LG' =>
      k_steps
      refine Stop.go ?_
      have W' := W.step St' Mlg hf1 hf2
      obtain ⟨oe, heN, hxe⟩ := EC.at W'.err
      refine execRaise_R (L := L) (outer := outer) X hh ?_
      walk1
      exact ⟨e, oe, _, _, rfl, F', N', So', heN, hxe, S.fs.mut St' Mlg, fun h9 nz9 D9 St9 So9 nt9 =>
        hE e c h9 _ nz9 (congrArg Prod.fst hrun) D9 (St'.trans (St9.weaken (fun _ q => nomatch q) fun _ q => q)) So9 (EC.step St9 (MutSeq.nil _)) ((congrArg Prod.snd hrun) ▸ LG'.step St9 (by simp) (fun _ q => nomatch q) fun _ q => nomatch q) nt9⟩
end Mine
namespace Mine
local macro_rules | `(tactic| walk_at "pad") => `(tactic| skip)
open PySem PySem.W PySem.Calls PyProof.Rows
theorem multi_all {w : World} {h₀ : Heap} {mean : ExcName → Option Value} {mg mb : Str → Option Value} (X : (hd.heap_39 w.params).In h₀) (T : TopH mean mg mb h₀) : ∀ row : Row, PartsC w h₀ row
  | .nil => trivial
  | .one _ _ r => multi_all X T r
  | .part i r => ⟨part_con X T (multi_con X T (multi_all X T i)), multi_all X T r⟩
theorem multicall {w : World} {h₀ : Heap} {mean : ExcName → Option Value} {mg mb : Str → Option Value} (X : (hd.heap_39 w.params).In h₀) (T : TopH mean mg mb h₀) (row : Row) : MultiC w h₀ row := multi_con X T (multi_all X T row)
end Mine
namespace Mine
open PySem PySem.F
open Sem (wp)
theorem ke_entry : entryFor table "LookupError.__new__" = some Builtin.«BaseException.__new__» := entryFor_alias (id' := "BaseException.__new__") (by rw [fastTable_eq_tree]; kernel_rfl) (by first | rfl | decide +kernel) (by decide +kernel) (by rw [fastTable_eq_tree]; kernel_rfl)
theorem ke_initEntry : entryFor table "KeyError.__init__" = some Builtin.«BaseException.__init__» := entryFor_alias (id' := "BaseException.__init__") (by rw [fastTable_eq_tree]; kernel_rfl) (by first | rfl | decide +kernel) (by decide +kernel) (by rw [fastTable_eq_tree]; kernel_rfl)
theorem ke_init : Slot "KeyError" "__init__" "KeyError.__init__" := .of (owner := "KeyError") (n := "__init__") (by rw [typeLookup_type, builtinLookup_eq_fast]; kernel_rfl) (by decide +kernel) (by decide +kernel) (by decide +kernel)
    (by first | exact .inl (by decide +kernel) | exact .inr (by decide +kernel)) (by rw [isSubtype_type]; kernel_rfl)
theorem ke_sub : isSubtype (.type "KeyError") (.type "KeyError") = pure true := by rw [isSubtype_type]; kernel_rfl
theorem ke_subL : isSubtype (.type "KeyError") (.type "LookupError") = pure true := by rw [isSubtype_type]; kernel_rfl
theorem ke_na : isSubtype (.type "KeyError") (.type "AttributeError") = pure false := by rw [isSubtype_type]; kernel_rfl
theorem ke_nn : isSubtype (.type "KeyError") (.type "NameError") = pure false := by rw [isSubtype_type]; kernel_rfl
theorem ke_made : Bind.madeHere "BaseException.__new__" (.type "KeyError") = pure () := by kernel_rfl
theorem ke_madeBy : Bind.madeBy (.type "KeyError") = pure (some "LookupError.__new__") := by kernel_rfl
theorem ke_initSplit : splitId "KeyError.__init__" = some ("KeyError", "__init__") := by kernel_rfl
theorem ke_initKind : builtinKind "KeyError.__init__" = some .slot := by kernel_rfl
theorem ke_initRow : Manifest.signature? "KeyError.__init__" = some ⟨.positional, "*", "KeyError", .self, [⟨"args", .varPos, false⟩]⟩ := by kernel_rfl
section
variable {prog : Program} {w : World} {A : Around} {R : Result → Shared → Prop}
theorem ke_new {rest : List Value} {hp : Heap} {g : Array GenState} {d : Drawn} {tk : Nat} {os : OsState}
    (h : R (.ok (.ret (.ref (hp.objs.size + 1)))) ⟨(hp.push { cls := .type "tuple", data := .seq rest.toArray }).push
      { cls := .type "KeyError", data := .fields #[.ref hp.objs.size, .none, .none, .none, .bool false, .none] }, g, d, tk, os⟩)
    (hrest : rest.length ≤ sizeLine := by size_fits) :
    codeAny (model prog w) A (.builtin "LookupError.__new__" ⟨.type "KeyError" :: rest, []⟩) R ⟨hp, g, d, tk, os⟩ := by
  have hna := ke_na
  have hnn := ke_nn
  have hmade := ke_made
  have hsub := ke_subL
  have hends : "LookupError.__new__".endsWith ".__new__" = true := by decide +kernel
  have howner : "LookupError.__new__".dropRight 8 = "LookupError" := by decide +kernel
  refine codeAny_builtinAt ke_entry ?_
  unfold Builtin.«BaseException.__new__»
  refine wpAt_bind ?_
  show wpAt _ _ _ (stack >>= _) _ _ _
  refine wpAt_bind (wpAt_stack fun p below => wpAt_of_wpAny ?_)
  wp_walk
  refine wpAt_of_wpAny ?_
  rw [howner]
  wp_walk
  show R _ _
  rw [Heap.size_push]
  exact h
theorem ke_check {M : Model} {self : Value} {rest : List Value} {E : Value → Shared → Prop} {Q : Unit → Shared → Prop}
    {hp : Heap} {g : Array GenState} {d : Drawn} {tk : Nat} {os : OsState} (hT : Shared.TypeIs ⟨hp, g, d, tk, os⟩ self "KeyError") (h : Q () ⟨hp, g, d, tk, os⟩) :
    wpAny M A (checkBuiltinCall "KeyError.__init__" ⟨self :: rest, []⟩) Q E ⟨hp, g, d, tk, os⟩ := by
  have hsub := ke_sub
  have hshort : ("KeyError" != "*") = true := by decide
  simp only [checkBuiltinCall, ke_initKind, ke_initSplit, ke_initRow]
  wp_walk
  refine wpAny_onRaise ?_
  rw [show ∀ (a b : String) (n : Nat), Bind.check ⟨.positional, "*", "KeyError", .self, [⟨"args", .varPos, false⟩]⟩ a b n (List.map (fun x => x.fst) ({ pos := self :: rest } : Args).kw) = pure () from
    fun a b n => check_star_args _ _ _ _ _ _]
  exact wpAny_pure h
theorem ke_type_call {rest : List Value} {E : Value → Shared → Prop} {Q : Fin → Shared → Prop}
    {hp : Heap} {g : Array GenState} {d : Drawn} {tk : Nat} {os : OsState}
    (h : ∀ h' e, Heap.MadeExc hp h' e "KeyError" rest → Q (.done (.ret (.ref e))) ⟨h', g, d, tk, os⟩) (hrest : rest.length ≤ sizeLine := by size_fits) :
    wpAny (model prog w) A (Builtin.«type.__call__» ⟨.type "KeyError" :: rest, []⟩) Q E ⟨hp, g, d, tk, os⟩ := by
  have hnt : (Value.type "KeyError" == Value.type "type") = false := by decide +kernel
  have hcan : ((Manifest.find? "KeyError").bind fun x => List.findSome? (fun t => (Manifest.find? t).bind fun b =>
    if b.noNew = true then some true else if (b.attrs.any fun x => x.fst == "__new__") = true then some false else none) x.mro).getD false = false := by kernel_rfl
  have hchk : checkTypeCall "KeyError" ⟨rest, []⟩ = pure () := by kernel_rfl
  obtain ⟨m, hmro, hne⟩ : ∃ m, mroOf (.type "KeyError") = pure m ∧ m.isEmpty = false := ⟨[.type "KeyError", .type "LookupError", .type "Exception", .type "BaseException", .type "object"], by rw [mroOf_type]; kernel_rfl, rfl⟩
  have hmade := ke_madeBy
  have hnewOk : checkBuiltinCall "LookupError.__new__" ⟨.type "KeyError" :: rest, []⟩ = pure () := by kernel_rfl
  have hq : "LookupError.__new__".startsWith "lifetime." = false := by decide +kernel
  wp_walk
  refine codeAny_call_builtin_code (Code.quiet_builtin _ hq) (wpAny_of_eq hnewOk ?_)
  refine ke_new ?_ hrest
  show wpAny _ _ _ _ _ _
  have hget : ((hp.push { cls := .type "tuple", data := .seq rest.toArray }).push
      { cls := .type "KeyError", data := .fields #[.ref hp.objs.size, .none, .none, .none, .bool false, .none] }).get? (hp.objs.size + 1) = some
      { cls := .type "KeyError", data := .fields #[.ref hp.objs.size, .none, .none, .none, .bool false, .none] } := by heap_get
  refine wpAny_bind (wpAny_isInstance ⟨_, hget, rfl⟩ ke_sub ?_)
  wp_step
  refine wpAny_bind (wpAny_holding (wpAny_callSpecial?_slot ⟨_, hget, rfl⟩ ke_init (wpAny_call (codeAny_call_builtin ke_init.plain ke_initEntry (ke_check ⟨_, hget, rfl⟩ ?_)))))
  wp_walk
  refine h _ _ ⟨fun b o hb => ?_, Heap.get?_none_of_le (Nat.le_succ _), hp.objs.size + 2, ?_, Heap.get?_none_of_le (by omega), ?_⟩
  · rw [Heap.get?_update_other _ _ (Nat.ne_of_gt (Nat.lt_succ_of_lt (Heap.lt_size hb)))]
    exact Heap.get?_push_of_some _ (Heap.get?_push_of_some _ (Heap.get?_push_of_some _ hb))
  · rw [Heap.get?_update_self _ (Heap.get?_push_of_some _ hget) rfl]
    simp only [Heap.size_push]
    rfl
  · rw [Heap.get?_update_other _ _ (show hp.objs.size + 1 ≠ hp.objs.size + 2 by omega)]
    exact Heap.get?_push_at (by simp only [Heap.size_push]) rfl
theorem ke_call {rest : List Value} {E : Value → Shared → Prop} {Q : Value → Shared → Prop} {s : Shared}
    (h : ∀ h' e, Heap.MadeExc s.heap h' e "KeyError" rest → Q (.ref e) { s with heap := h' }) (hrest : rest.length ≤ sizeLine := by size_fits) :
    wpAny (model prog w) A (call (.type "KeyError") rest) Q E s := by
  obtain ⟨hp, g, d, tk, os⟩ := s
  refine wpAny_call (codeAny_of_tree ?_)
  show wpAny _ _ (again (.builtin "type.__call__" ⟨.type "KeyError" :: rest, []⟩)) _ _ _
  exact wpAny_pure ⟨Code.quiet_builtin _ (by decide +kernel), codeAny_builtin entry_typeCall (ke_type_call (fun h' e hm => h h' e hm) hrest)⟩
end
end Mine
namespace Mine
local macro_rules | `(tactic| walk_at "pad") => `(tactic| skip)
open PySem PySem.W PySem.Calls PyProof.Rows
local macro_rules | `(tactic| walk_at "eval IfExp") => `(tactic| refine Stop.of ?_)
local macro_rules | `(tactic| walk_at "call type:KeyError") => `(tactic| refine Stop.of ?_)
local macro_rules | `(tactic| walk_at "call type:ValueError") => `(tactic| refine Stop.of ?_)
local macro_rules | `(tactic| walk_at "call ref") => `(tactic| refine Stop.of ?_)
local macro_rules | `(tactic| walk_at "exec For") => `(tactic| refine Stop.of ?_)
local macro_rules | `(tactic| walk_at "exec For Tuple Name") => `(tactic| refine Stop.of ?_)
local macro_rules | `(tactic| walk_at "Exists") => `(tactic| refine Stop.of ?_)
local macro_rules | `(tactic| walk_at "exec Try") => `(tactic| refine Stop.of ?_)
local macro_rules | `(tactic| walk_at "setItem ref") => `(tactic| refine Stop.of ?_)
local macro_rules | `(tactic| walk_at "setItem ref int") => `(tactic| refine Stop.of ?_)
local macro_rules | `(tactic| walk_at "setItem ref int ref") => `(tactic| refine Stop.of ?_)
local macro_rules | `(tactic| walk_at "assign Tuple") => `(tactic| refine Stop.of ?_)
local macro_rules | `(tactic| walk_at "call builtin:list.reverse") => `(tactic| refine Stop.of ?_)
local macro_rules | `(tactic| walk_at "eval Name") => `(tactic| (k_here; k_dflt (refine' ldE ?k1 ?k2 ?_ rfl rfl (by decide); (case k1 => k_asm); (case k2 => first | exact rfl | assumption); k_whole)))
local macro_rules | `(tactic| k_mem) => `(tactic| assumption)
theorem kfillk1 : (PySem.Challenge.rw_fe0222_01, hd.heap_39) = (PySem.Challenge.rw_fe0222_01, hd.heap_39) := by
  k_fill
  rfl
def gotD : Out → Dat
  | .ok d => .tuple [.int 0, d]
  | .err c => .tuple [.int 1, .int c]
def runD (p : OL) : Dat := .tuple [gotD p.1, .list p.2]
def TryEnd (h₀ : Heap) (L lg : Addr) (fr : List Addr) (nz : Ledger) (s : Shared) (gd : Dat) (ls : List Dat) (f : Flow) (s' : Shared) : Prop :=
  f = .next ∧ ∃ (g : Addr) (h' : Heap) (tk : Tok) (m' : Str → Option Value) (nz' : Ledger), s' = { s with heap := h', toks := tk } ∧ Fr h₀ L h' m' ∧ News h₀ L h' nz' ∧ m' (Str.ofString "got") = some (.ref g) ∧ m' (Str.ofString "log") = some (.ref lg) ∧ Step [] fr nz nz' ∧ SoftOK nz' ∧ VD (inL nz') (.ref g) gd ∧ VD (inL nz') (.ref lg) (.list ls)
theorem sub_exc2 {w : World} {h : Heap} {M : Model} (X : KIn w h) {c : Value} (hc : ExcCls c) : Looks M h (isSubtype c (.type "Exception")) true := by
  rcases hc with e | e | e | e <;> subst e
  · exact Looks.of_pure (by rw [isSubtype_type]; kernel_rfl)
  · exact Looks.of_pure (by rw [isSubtype_type]; kernel_rfl)
  · exact Looks.of_pure (by rw [isSubtype_type]; kernel_rfl)
  · exact looks_subIn X (show subIn (hd.heap_39 w.params) (.ref 24) (.type "Exception") = some true from by kernel_rfl)
theorem ImplAt.redict {nz nz' : Ledger} {x f at_ L : Addr} {b : Bool} {oL' : Obj} (h : ImplAt nz x f at_ b) (s : ∀ p ∈ nz, p.1 ≠ L → p ∈ nz') (hL : ∀ o, (L, o) ∈ nz → ∃ es ep, o.data = .dict es ep) (hL' : (L, oL') ∈ nz') (hd' : ∃ es ep, oL'.data = .dict es ep) : ImplAt nz' x f at_ b := by
  obtain ⟨dx, od, sl, kt, n, h1, h2, h3, h4, r⟩ := h
  have hx : x ≠ L := fun q => by subst q; obtain ⟨_, _, z⟩ := hL _ h1; cases z
  have hk : kt ≠ L := fun q => by subst q; obtain ⟨_, _, z⟩ := hL _ h4; cases z
  by_cases q : dx = L
  · subst q
    exact ⟨dx, oL', sl, kt, n, s _ h1 hx, hL', hd', s _ h4 hk, r⟩
  · exact ⟨dx, od, sl, kt, n, s _ h1 hx, s _ h2 q, h3, s _ h4 hk, r⟩
theorem ArgsAt.redict {nz nz' : Ledger} {a L : Addr} {ws : List Str} (h : ArgsAt nz a ws) (s : ∀ p ∈ nz, p.1 ≠ L → p ∈ nz') (hL : ∀ o, (L, o) ∈ nz → ∃ es ep, o.data = .dict es ep) : ArgsAt nz' a ws := by
  obtain ⟨ts, n, h1, h2⟩ := h
  exact ⟨ts, n, s _ h1 (fun q => by have q' : a = L := q; subst q'; obtain ⟨_, _, z⟩ := hL _ h1; cases z), h2⟩
theorem RowAt.redict {nz nz' : Ledger} {lg L : Addr} {ds : List (Int × Int × Addr)} {ps : List (Str × Addr)} {vs : List Value} {r : Row} {oL' : Obj} (h : RowAt nz lg ds ps vs r) (s : ∀ p ∈ nz, p.1 ≠ L → p ∈ nz') (hL : ∀ o, (L, o) ∈ nz → ∃ es ep, o.data = .dict es ep) (hL' : (L, oL') ∈ nz') (hd' : ∃ es ep, oL'.data = .dict es ep) : RowAt nz' lg ds ps vs r := by
  induction h with
  | nil => exact .nil
  | one h1 h2 _ ih =>
    obtain ⟨a, g1, g2⟩ := h1
    exact .one ⟨a, g1.redict s hL hL' hd', g2.redict s hL⟩ h2 ih
  | @part x at_ il word n vs ws inner rest h1 h2 h3 h4 h5 _ _ ih1 ih2 =>
    exact .part (h1.redict s hL hL' hd') (h2.redict s hL) h3 h4 (s _ h5 (fun q => by have q' : il = L := q; subst q'; obtain ⟨_, _, z⟩ := hL _ h5; cases z)) ih1 ih2
theorem run_con {w : World} {h₀ : Heap} {mean : ExcName → Option Value} {mg mb : Str → Option Value} (X : (hd.heap_39 w.params).In h₀) (T : TopH mean mg mb h₀) {A : Around} {s : Shared} {nz : Ledger} {outer : List Env} {R : Result → Shared → Prop} {dl mk : Addr} {ds : List (Int × Int × Addr)} {ms : List Int} {nd : Nat}
    (D : Led h₀ s.heap nz) (So : SoftOK nz) (S : Stand A nz outer 300 2000) (hh : A.handled = none) (hdl : (dl, listOf (ds.map fun p => Value.ref p.2.2).toArray nd) ∈ nz) (hmk : MarksAt nz mk ms) (hlen : ms.length = ds.length) (hl : ds.length ≤ 14)
    (hdeed : ∀ p ∈ ds, DeedAt nz p.2.2 p.1 p.2.1 ∧ 0 ≤ p.1 ∧ p.1 ≤ 100) (hnd : (ds.map (·.1)).Nodup) (hW : ∀ ps, WordsP ps → ps.length ≤ 30 → WordsOK ds ps)
    (hcnt : cnt (foldU (units (ds.map fun p => (p.1, p.2.1)) ms)) ≤ 30) (hdp : dep (foldU (units (ds.map fun p => (p.1, p.2.1)) ms)) ≤ 30)
    (hR : ∀ t h' tk' nz', Led h₀ h' nz' → Step [] (outer.filterMap (·.frame)) nz nz' → SoftOK nz' → VD (inL nz') (.ref t) (runD (run (foldU (units (ds.map fun p => (p.1, p.2.1)) ms)))) → R (.ok (.ret (.ref t))) { s with heap := h', toks := tk' }) :
    codeAny (model pg w) A (.call (.ref 161) ⟨[.ref dl, .ref mk], []⟩) R s := by
  refine enter_L (d := 299) (u := 1997) (binds := [(Str.ofString "deeds", .ref dl), (Str.ofString "marks", .ref mk)]) D X T.nolimit S (by k_is) (by k_is) (BindsTo.of_eq rfl) (locs rfl) ?_ rfl rfl rfl (by decide)
  intro L h₁ tk₁ F N lt hfr' hdp hun
  k_steps
  rename_i lg hAA l1 er hBB oe lowe hs1 fs1 hi1 fi1 l2 pt hCC op lowp hs2 fs2 hi2 fi2 l3 Dt hDD F1 N1 l4
  clear fs1 fi1 fs2 fi2 hs1 hi2
  have lnz := allLt_at l3.2.2
  refine unpackItemsN_ F1 N1 (News.isTup N1 (.head _)) hh rfl fun h3 F3 N3 => ?_
  have N4 : News h₀ L h3 ((pt, op) :: (er, oe) :: (lg, listOf ([] : List Value).toArray 0) :: nz) := fun p hp => N3 p (.tail _ hp)
  clear F1 N1 N3
  k_steps
  refine Stop.go ?_
  refine wpAny_For ?_
  walk1
  with_reducible rename Fr _ _ _ _ => F5
  with_reducible rename News _ _ _ _ => N5
  refine wpAny_pyIter_list ⟨_, (N5 _ (.tail _ (.tail _ (.tail _ hdl)))).1, rfl, nd, rfl⟩ ?_
  have F6 := F5.push { cls := .type "list_iterator", data := .fields #[.ref dl, .int 0 0] }
  have N6 := News.push F5 N5 { cls := .type "list_iterator", data := .fields #[.ref dl, .int 0 0] }
  have hfI := fresh_at N5
  clear F5 N5
  rename Heap => h5
  generalize h5.objs.size = I at *
  have hIpt : pt ≠ I := hfI (pt, op) (.head _)
  have hIer : er ≠ I := hfI (er, oe) (.tail _ (.head _))
  have hIlg : lg ≠ I := hfI (lg, _) (.tail _ (.tail _ (.head _)))
  have hInz : ∀ p ∈ nz, p.1 ≠ I := fun p hp => hfI p (.tail _ (.tail _ (.tail _ hp)))
  have hernz : ∀ p ∈ nz, p.1 ≠ er := fun p hp => Nat.ne_of_lt (allLt_at l2.2 p hp)
  have hlgnz : ∀ p ∈ nz, p.1 ≠ lg := fun p hp => Nat.ne_of_lt (l1 p hp)
  have hptnz : ∀ p ∈ nz, p.1 ≠ pt := fun p hp => Nat.ne_of_lt (lnz p hp)
  have hlger : lg ≠ er := Nat.ne_of_lt l2.1
  have herpt : er ≠ pt := Nat.ne_of_lt l3.1
  have hlgpt : lg ≠ pt := Nat.ne_of_lt l3.2.1
  refine forAny_T (fun n s' => ∃ (j : Nat) (h' : Heap) (tk : Tok) (oe' oI : Obj) (tab : List (Int × Addr)) (nf : Ledger) (vm vk : Option Value),
    n = ds.length - j ∧ j ≤ ds.length ∧ s' = { s with heap := h', toks := tk } ∧ Fr h₀ L h' (fun y => if y = Str.ofString "kind" then vk else if y = Str.ofString "me" then vm else if y = Str.ofString "log" then some (.ref lg) else if y = Str.ofString "errs" then some (.ref er) else if y = Str.ofString "parts" then some (.ref pt) else List.lookup y [(Str.ofString "deeds", Value.ref dl), (Str.ofString "marks", Value.ref mk)].reverse) ∧
    News h₀ L h' ((er, oe') :: (I, oI) :: nf) ∧ SoftOK ((er, oe') :: (I, oI) :: nf) ∧ (∀ p ∈ nf, p.1 ≠ er ∧ p.1 ≠ I) ∧ (∀ p ∈ nz, p ∈ nf) ∧ (lg, listOf ([] : List Value).toArray 0) ∈ nf ∧ (pt, op) ∈ nf ∧ oe'.IsDictOf (intKind pg w) (tab.map fun p => (p.1, Value.ref p.2)) ∧ ItAt oI dl j ∧ tab.map (·.1) = (ds.take j).map (·.1) ∧
    (∀ p ∈ tab, ∃ ox, (p.2, ox) ∈ nf ∧ IsExc ox ∧ CtxNone ox ∧ (ox.cls = .type "KeyError" ∨ ox.cls = .type "ValueError")) ∧ (tab.map (·.2)).Nodup) ?_ ds.length
    ⟨0, _, _, oe, { cls := .type "list_iterator", data := .fields #[.ref dl, .int (0 : Nat) 0] }, [], (pt, op) :: (lg, listOf ([] : List Value).toArray 0) :: nz, none, none, rfl, Nat.zero_le _, rfl, fr_fun F6 ?_, ?_, ?_, ?_, fun p hp => .tail _ (.tail _ hp), .tail _ (.head _), .head _, hi1, ⟨rfl, rfl⟩, rfl, (fun _ q => nomatch q), List.nodup_nil⟩
  · rintro n s' ⟨j, h', tk, oe', oI, tab, nf, vm, vk, rfl, hj, rfl, F, N, So', hoff, hkeep, hlgf, hptf, hd', hIt, htab, hexc, hinj⟩
    have hdl' := hkeep _ hdl
    cases hv : ds[j]? with
    | none =>
      have hje : j = ds.length := Nat.le_antisymm hj (by simpa using hv)
      refine next_end hh F N (.tail _ (.head _)) hIt (.tail _ (.tail _ hdl')) rfl rfl (by simpa using hv) fun h'' F3 N3 => ?_
      have SoE : SoftOK (without ((er, oe') :: (I, oI) :: nf) I) := softOK_without N So' (.tail _ (.head _)) hIt.hard
      obtain ⟨mt, nm, hmt, hms⟩ := hmk
      rw [hje, List.take_length] at htab
      clear F N
      -- the ledger behind the loop
      have inX : ∀ p ∈ nf, p ∈ without ((er, oe') :: (I, oI) :: nf) I := fun p hp => mem_without.mpr ⟨.tail _ (.tail _ hp), (hoff p hp).2⟩
      have herX : (er, oe') ∈ without ((er, oe') :: (I, oI) :: nf) I := mem_without.mpr ⟨.head _, hIer⟩
      have hinz : ∀ p ∈ nz, p ∈ without ((er, oe') :: (I, oI) :: nf) I := fun p hp => inX p (hkeep p hp)
      have hlgX := inX _ hlgf
      have hptX := inX _ hptf
      have hexcX : ∀ p ∈ tab, ∃ ox, (p.2, ox) ∈ without ((er, oe') :: (I, oI) :: nf) I ∧ IsExc ox ∧ CtxNone ox ∧ (ox.cls = .type "KeyError" ∨ ox.cls = .type "ValueError") := fun p hp => let ⟨ox, g1, g2⟩ := hexc p hp; ⟨ox, inX _ g1, g2⟩
      generalize without ((er, oe') :: (I, oI) :: nf) I = Y at *
      have hptfr : pt ∉ outer.filterMap (·.frame) := frame_ne S.fs hptnz
      have herfr : er ∉ outer.filterMap (·.frame) := frame_ne S.fs hernz
      k_steps
      refine Stop.go ?_
      obtain ⟨oL, hdL, hoL, DL⟩ := led_all F3 N3
      have hptL : pt ≠ L := (N3 _ hptX).2.1
      refine wpAny_call (fold_con (outer := _ :: outer) (lg := lg) (ds := ds) (ms := ms) (o := op) X T DL (SoE.frame hdL) ⟨hfr', frames_cons (S.fs.mono hinz) hdL rfl rfl, by omega, by omega⟩ hh (.tail _ (hinz _ hdl)) ⟨mt, nm, .tail _ (hinz _ hmt), hms⟩ hlen hl (fun p hp => ?_) ⟨_, .tail _ hlgX⟩ (.tail _ hptX) hs2 lowp (show pt ∉ L :: outer.filterMap (·.frame) from fun q => (List.mem_cons.mp q).elim hptL hptfr) (hptnz _ hdl).symm (hptnz _ hmt).symm fun rl vs ps o5 n5 h5 tk5 nz5 D5 So5 Sm5 hpt5 hpd5 hWP5 hpl5 hrl5 hvl5 frl5 hRow5 => ?_)
      · obtain ⟨⟨a, b, c, d⟩, e⟩ := hdeed p hp
        exact ⟨⟨a, b, c, .tail _ (hinz _ d)⟩, e⟩
      obtain ⟨F6, N6, So6⟩ := same_back F3 hoL hdL D5 So5 Sm5 hptL.symm
      have inY : ∀ p ∈ Y, p.1 ≠ pt → p ∈ without nz5 L := fun p hp a => mem_without.mpr ⟨Sm5 p (.tail _ hp) a, (N3 p hp).2.1⟩
      have inZ : ∀ p ∈ nz, p ∈ without nz5 L := fun p hp => inY p (hinz p hp) (hptnz p hp)
      have hnL : ∀ p ∈ nz, p.1 ≠ L := fun p hp => Nat.ne_of_lt (lt p hp)
      have hrlX : (rl, listOf vs.toArray n5) ∈ without nz5 L := mem_without.mpr ⟨hrl5, (frl5 (L, oL) (.head _)).symm⟩
      clear F3 N3
      k_steps
      refine Stop.go ?_
      with_reducible rename Fr _ _ _ _ => F7
      with_reducible rename News _ _ _ _ => N7
      have So8 : SoftOK ((rl, listOf vs.reverse.toArray n5) :: without (without nz5 L) rl) := softOK_turn N7 So6 hrlX hard_list hard_list
      have hz20 : (20 : Nat) ≤ sizeLine := by decide
      have hrlpt : pt ≠ rl := frl5 (pt, op) (.tail _ hptX)
      have N7' : News h₀ L _ ((rl, listOf vs.toArray n5) :: without (without nz5 L) rl) := fun p hp => by
        rcases List.mem_cons.mp hp with rfl | hp
        · exact N7 _ hrlX
        · exact N7 p (mem_without.mp hp).1
      dsimp only
      refine reverse_head F7 N7' (fun p hp => (mem_without.mp hp).2) (fun h8 F8 N8 => ?_) (by simp only [List.size_toArray]; omega)
      replace N8 : News h₀ L h8 ((rl, listOf vs.reverse.toArray n5) :: without (without nz5 L) rl) := N8
      clear F7 N7 N7'
      have inW : ∀ p ∈ Y, p.1 ≠ pt → p ∈ (rl, listOf vs.reverse.toArray n5) :: without (without nz5 L) rl := fun p hp a => .tail _ (mem_without.mpr ⟨inY p hp a, frl5 p (.tail _ hp)⟩)
      have hptW : (pt, o5) ∈ (rl, listOf vs.reverse.toArray n5) :: without (without nz5 L) rl := .tail _ (mem_without.mpr ⟨mem_without.mpr ⟨hpt5, hptL⟩, hrlpt⟩)
      have hLd : ∀ o, (L, o) ∈ without (without nz5 pt) rl → ∃ es ep, o.data = .dict es ep := fun o ho => by
        have := one_obj' D5 (Sm5 (L, oL) (.head _) hptL.symm) (mem_without.mp (mem_without.mp ho).1).1
        subst this
        exact hdL
      have toW : ∀ p ∈ without (without nz5 pt) rl, p.1 ≠ L → p ∈ (rl, listOf vs.reverse.toArray n5) :: without (without nz5 L) rl := fun p hp a => .tail _ (mem_without.mpr ⟨mem_without.mpr ⟨(mem_without.mp (mem_without.mp hp).1).1, a⟩, (mem_without.mp hp).2⟩)
      have hrlW : (rl, listOf vs.reverse.toArray n5) ∈ (rl, listOf vs.reverse.toArray n5) :: without (without nz5 L) rl := .head _
      generalize (rl, listOf vs.reverse.toArray n5) :: without (without nz5 L) rl = W8 at *
      have inWz : ∀ p ∈ nz, p ∈ W8 := fun p hp => inW p (hinz p hp) (hptnz p hp)
      k_steps
      refine Stop.go ?_
      obtain ⟨oR, lsR, hrunE⟩ : ∃ o l, run (foldU (units (ds.map fun p => (p.1, p.2.1)) ms)) = (o, l) := ⟨_, _, rfl⟩
      refine wpAny_mono (Q := TryEnd h₀ L lg (outer.filterMap (·.frame)) nz s (gotD oR) lsR) (E := fun _ _ => False) ?_ (fun f s' hf => ?_) fun _ _ e => e.elim
      · refine wpAny_Try_except ?_
        k_steps
        refine Stop.go ?_
        with_reducible rename Fr _ _ _ _ => FT
        with_reducible rename News _ _ _ _ => NT
        obtain ⟨oT, hdT, hoT, DT⟩ := led_all FT NT
        have WO := hW ps hWP5 hpl5
        have htabE : ∀ p ∈ ds, ∃ e, (p.1, e) ∈ tab := fun p hp => by
          have h1 : p.1 ∈ tab.map (·.1) := by rw [htab]; exact List.mem_map.mpr ⟨p, hp, rfl⟩
          obtain ⟨z, hz, e1⟩ := List.mem_map.mp h1
          exact ⟨z.2, e1 ▸ hz⟩
        have WD : Wd w W8 lg er dl pt tab ds ps := by
          refine ⟨⟨lowe, ⟨oe', inW _ herX herpt, hd'⟩, fun p hp => ?_, hinj⟩, ⟨nd, inWz _ hdl⟩, hlgnz _ hdl, fun p hp => ?_, lowp, ⟨o5, hptW, hpd5⟩⟩
          · obtain ⟨ox, g1, g2, g3⟩ := hexcX p hp
            refine ⟨ox, inW _ g1 fun q => ?_, g2, g3⟩
            have q' : p.2 = pt := q
            rw [q'] at g1
            have := one_obj' DL (.tail _ g1) (.tail _ hptX)
            subst this
            exact IsDictOf.hard hs2 g2.soft
          · obtain ⟨⟨a, b, c, d⟩, e1, e2⟩ := hdeed p hp
            exact ⟨⟨a, b, c, inWz _ d⟩, hlgnz _ d, htabE p hp, e1, e2⟩
        have subT : ∀ p ∈ W8, p ∈ (L, oT) :: W8 := fun p hp => .tail _ hp
        refine wpAny_call (table_con (outer := _ :: outer) X T DT (So8.frame hdT) ⟨hfr', frames_cons (S.fs.mono inWz) hdT rfl rfl, by omega, by omega⟩ hh (WD.sub subT) WO (by omega) (by omega) fun tb hA tkA new DA SoA TA fA => ?_)
        obtain ⟨FB, NB, SoB⟩ := pure_back FT NT hoT hdT DA SoA fA
        clear FT NT
        k_steps
        refine Stop.go ?_
        with_reducible rename Fr _ _ _ _ => FC
        with_reducible rename News _ _ _ _ => NC
        obtain ⟨oC, hdC, hoC, DC⟩ := led_all FC NC
        have subC : ∀ p ∈ W8, p ∈ (L, oC) :: (new ++ W8) := fun p hp => .tail _ (List.mem_append.mpr (.inr hp))
        have herL : er ≠ L := (NC _ (List.mem_append.mpr (.inr (inW _ herX herpt)))).2.1
        have htbf : tb ∉ L :: outer.filterMap (·.frame) := fun q => by
          obtain ⟨o, kvs, ht, _⟩ := TA.at_
          rcases List.mem_cons.mp q with q | q
          · exact fA _ ht (L, oT) (.head _) q.symm
          · exact frame_ne S.fs (fun p hp => fA _ ht p (.tail _ (inWz p hp))) q
        have mlgW := inW _ hlgX hlgpt
        have hrll : rl ≠ lg := (frl5 (lg, _) (.tail _ hlgX)).symm
        have hLlg : L ∉ [lg] := fun q => (NC _ (List.mem_append.mpr (.inr mlgW))).2.1 (mem_one q).symm
        refine wpAny_call (multicall X T (foldU (units (ds.map fun p => (p.1, p.2.1)) ms)) _ _ (outer := _ :: outer) (B := fun _ => False) (ls := []) (fun _ q => q.elim) DC (SoB.frame hdC) ⟨hfr', frames_cons (S.fs.mono fun p hp => List.mem_append.mpr (.inr (inWz p hp))) hdC rfl rfl, by omega, by omega⟩ hh (show er ∉ L :: outer.filterMap (·.frame) from fun q => (List.mem_cons.mp q).elim herL herfr) (show pt ∉ L :: outer.filterMap (·.frame) from fun q => (List.mem_cons.mp q).elim hptL hptfr) htbf (WD.sub subC) (fun _ => TA.sub fun p hp => .tail _ (List.mem_append.mpr (.inl hp))) WO (by omega) (by omega) (subC _ hrlW) hrll (hRow5.redict (fun p hp a => subC p (toW p hp a)) hLd (.head _) hdC) ⟨[], 0, subC _ mlgW, .nil⟩ (by simp; omega) hcnt ?_ ?_)
        · intro v d h7 tk7 nz7 hrun D7 St7 So7 R7 LG7 fv7
          have St7 : Step [lg] (L :: outer.filterMap (·.frame)) ((L, oC) :: (new ++ W8)) nz7 := St7
          have BK := call_back (fr := outer.filterMap (·.frame)) (Mut := [lg]) FC NC hoC hdC D7 St7 So7 hLlg
          have dL := (St7.dict (.head _) hLlg hdC).choose_spec
          have S7 := seq_without D7 dL hdC
          have F9 := BK.fr
          have N9 := BK.nw
          have So9 := BK.so
          have St9 : Step [] (outer.filterMap (·.frame)) nz (without nz7 L) := fun p hp _ => BK.st p (List.mem_append.mpr (.inr (inWz p hp))) (fun q => hlgnz p hp (mem_one q))
          have ho : oR = .ok d := by rw [hrunE] at hrun; exact hrun
          have hl : (run (foldU (units (ds.map fun p => (p.1, p.2.1)) ms))).2 = lsR := by rw [hrunE]
          rw [hl, List.nil_append] at LG7
          have VV : VD (inL (without nz7 L)) v d := R7.vd.mono fun a o hq q => S7 _ q.1 hq
          have VL : VD (inL (without nz7 L)) (.ref lg) (.list lsR) := by
            obtain ⟨us, k, g1, g2⟩ := LG7
            exact .list (S7 _ g1 ⟨_, _, rfl⟩) (g2.mono fun a o hq q => S7 _ q.1 hq)
          clear BK FC NC
          generalize without nz7 L = Z at *
          k_steps
          with_reducible rename Fr _ _ _ _ => FE
          with_reducible rename News _ _ _ _ => NE
          subst ho
          exact ⟨rfl, _, _, _, _, _, rfl, FE, NE, rfl, rfl, St9.trans (push_step _ _), So9.hard hard_tup, .tuple (vs := [.int 0 _, v]) (.head _) (.cons (.int _ _) (.one (VV.mono fun a o _ q => .tail _ q))), VL.mono fun a o _ q => .tail _ q⟩
        · intro e c h7 tk7 nz7 hrun D7 St7 So7 E7 LG7 nt7
          have St7 : Step [lg] (L :: outer.filterMap (·.frame)) ((L, oC) :: (new ++ W8)) nz7 := St7
          have BK := call_back (fr := outer.filterMap (·.frame)) (Mut := [lg]) FC NC hoC hdC D7 St7 So7 hLlg
          have dL := (St7.dict (.head _) hLlg hdC).choose_spec
          have Mlg : MutSeq [lg] (new ++ W8) := mutSeq_one (led_of FC NC) (List.mem_append.mpr (.inr mlgW)) ⟨_, _, rfl⟩
          have WZ := ((WD.sub fun p hp => List.mem_append.mpr (.inr hp) : Wd w (new ++ W8) lg er dl pt tab ds ps)).step BK.st Mlg herfr hptfr
          have Fs9 : FramesIn (without nz7 L) outer := (S.fs.mono fun p hp => List.mem_append.mpr (.inr (inWz p hp)) : FramesIn (new ++ W8) outer).mut BK.st Mlg
          have EC := ecode_drop D7 dL hdC E7
          have LGz := log_drop D7 dL hdC LG7
          obtain ⟨oe, hem, hxe, tbe⟩ := noted_drop D7 nt7 dL hdC
          have F9 := BK.fr
          have N9 := BK.nw
          have So9 := BK.so
          have St9 : Step [] (outer.filterMap (·.frame)) nz (without nz7 L) := fun p hp _ => BK.st p (List.mem_append.mpr (.inr (inWz p hp))) (fun q => hlgnz p hp (mem_one q))
          have ho : oR = .err c := by rw [hrunE] at hrun; exact hrun
          have hl : (run (foldU (units (ds.map fun p => (p.1, p.2.1)) ms))).2 = lsR := by rw [hrunE]
          rw [hl, List.nil_append] at LGz
          subst ho
          clear BK FC NC
          generalize without nz7 L = Z at *
          show wpAny _ _ (noteFrame (.ref e) _) _ _ _
          refine note_L (outer := outer) F9 N9 So9 hem hxe hfr' Fs9 rfl (by intro q; cases q) fun hA1 nzA1 A1 ntA => ?_
          obtain ⟨oe1, he1, hx1, tb1⟩ := ntA
          refine flight_L A1.fr A1.nw A1.ok he1 hx1 fun hA2 nzA2 A2 ke2 => ?_
          have St12 : Step [] (outer.filterMap (·.frame)) Z nzA2 := A1.st.trans (A2.st.weaken (fun _ q => q) fun _ q => nomatch q)
          have FA := A2.fr
          have NA := A2.nw
          have SoA := A2.ok
          clear A1 A2 F9 N9
          refine handle_as_L (T := "Exception") (by rw [isSubtype_type]; kernel_rfl) (by rw [isSubtype_type]; kernel_rfl) (sub_exc2 (X.keeps FA.keep) hx1.1) FA NA SoA ke2 hx1 rfl rfl rfl ?_ ?_
          · intro Q E hq
            walk1
            exact hq
          · intro h8 nz8 E' F8 N8 St8 So8 ke8
            clear FA NA
            have St18 : Step [] (outer.filterMap (·.frame)) Z nz8 := St12.trans (St8.weaken (fun _ q => q) fun _ q => nomatch q)
            have ET8 := WZ.err.step St18 (MutSeq.nil _) herfr
            have EC8 := EC.step St18 (MutSeq.nil _)
            have Fs8 : FramesIn nz8 outer := Fs9.step St18 fun _ q => nomatch q
            have LG8 := LGz.step (v' := .none) St18 (by simp) (fun _ q => nomatch q) fun _ q => nomatch q
            have hd2 := Nat.lt_of_le_of_lt (Nat.add_le_add_left (show 2 ≤ 299 by omega) _) hdp
            have hu2 := Nat.lt_of_le_of_lt (Nat.add_le_add_left (show 70 ≤ 1997 by omega) _) hun
            k_steps
            refine Stop.go ?_
            with_reducible rename Fr _ _ _ _ => FG
            with_reducible rename News _ _ _ _ => NG
            obtain ⟨oG, hdG, hoG, DG⟩ := led_all FG NG
            have subG : ∀ p ∈ nz8, p ∈ (L, oG) :: nz8 := fun p hp => .tail _ hp
            have ETG := ET8.step (Step.sub subG : Step [] [] nz8 _) (MutSeq.nil _) (by simp)
            have ECG := EC8.step (Step.sub subG : Step [] [] nz8 _) (MutSeq.nil _)
            refine wpAny_call (which_con X T (outer := _ :: outer) DG ⟨hfr', frames_cons Fs8 hdG rfl rfl, hd2, hu2⟩ (fun hno => ?_) ETG ECG fun hB tkB tcB DB => ?_)
            · cases ECG with
              | own h =>
                obtain ⟨ox, g1, _, g3, _⟩ := ETG.exc _ h
                exact .inr ⟨e, ox, rfl, g1, g3⟩
              | hook h1 h2 h3 => exact absurd h3 (hno _ h1)
              | wrap h1 h2 h3 h4 => exact .inr ⟨e, _, rfl, h1, h3⟩
            · have BK2 := call_back (fr := []) (Mut := []) FG NG hoG hdG DB (Step.refl _ _ _) (So8.frame hdG) (by simp)
              have FH := BK2.fr
              have NH : News h₀ L hB nz8 := fun p hp => BK2.nw p (mem_without.mpr ⟨.tail _ hp, (NG p hp).2.1⟩)
              clear BK2 FG NG
              k_steps
              refine Stop.go ?_
              with_reducible rename Fr _ _ _ _ => FI
              with_reducible rename News _ _ _ _ => NI
              refine ⟨_, _, FI, NI, fun h10 v10 F10 N10 => ?_⟩
              refine ⟨rfl, _, _, _, _, _, rfl, F10, N10, rfl, rfl, (St9.trans St18).trans (push_step _ _), So8.hard hard_tup, .tuple (vs := [.int 1 _, .int c _]) (.head _) (.cons (.int _ _) (.one (.int _ _))), ?_⟩
              obtain ⟨us, k, g1, g2⟩ := LG8
              exact .list (.tail _ g1) (g2.mono fun a o hq q => .tail _ q.1)
      · obtain ⟨rfl, g, h9, tk9, m9, nz9, rfl, F9, N9, hg, hlgm, St9, So9, VG, VL⟩ := hf
        k_steps
        with_reducible rename Fr _ _ _ _ => FE
        with_reducible rename News _ _ _ _ => NE
        refine hR _ _ _ _ (led_of FE NE) (St9.trans (push_step _ _)) (So9.hard hard_tup) ?_
        rw [hrunE]
        exact .tuple (vs := [.ref g, .ref lg]) (.head _) (.cons (VG.mono fun a o _ q => .tail _ q) (.one (VL.mono fun a o _ q => .tail _ q)))
    | some p =>
      refine next_item F N (.tail _ (.head _)) hIt (.tail _ (.tail _ hdl')) rfl rfl (x := .ref p.2.2) (by simp [hv]) fun h'' oI' hIt' F3 N3 => ?_
      have N5 : News h₀ L h'' ((er, oe') :: (I, oI') :: nf) := fun q hq => by
        rcases List.mem_cons.mp hq with rfl | hq
        · exact N3 _ (.tail _ (without_mem (.head _) hIer))
        · rcases List.mem_cons.mp hq with rfl | hq
          · exact N3 _ (.head _)
          · exact N3 q (.tail _ (mem_without.mpr ⟨.tail _ (.tail _ hq), (hoff q hq).2⟩))
      obtain ⟨⟨td, ud, n3, hdd⟩, hb1, hb2⟩ := hdeed p (List.mem_of_getElem? hv)
      have hdd' := hkeep _ hdd
      refine wpAny_letOwnedTupleGo_listiter (l := dl) (i := j + 1) ⟨oI', (N5 _ (.tail _ (.head _))).1, hIt'.1, hIt'.2⟩ ?_
      have So5 : SoftOK ((er, oe') :: (I, oI') :: nf) := softOK_next N So' (.tail _ (.head _)) hIt.hard (fun p hp => by
        rcases List.mem_cons.mp hp with rfl | hp
        · exact .inl (.head _)
        · rcases List.mem_cons.mp hp with rfl | hp
          · exact .inr fun q => hIt'.hard q.soft
          · exact .inl (.tail _ (.tail _ hp))) fun p hp hne => by
        rcases List.mem_cons.mp hp with rfl | hp
        · exact .head _
        · rcases List.mem_cons.mp hp with rfl | hp
          · exact absurd rfl hne
          · exact .tail _ (.tail _ hp)
      have hjl : j < ds.length := by
        rcases Nat.lt_or_ge j ds.length with q | q
        · exact q
        · rw [List.getElem?_eq_none q] at hv; cases hv
      have htl : tab.length = j := by
        have := congrArg List.length htab
        simp only [List.length_map, List.length_take] at this
        omega
      have hz20 : (20 : Nat) ≤ sizeLine := by decide
      have hkey : p.1 ∉ (tab.map fun p => (p.1, Value.ref p.2)).map (·.1) := by
        have e1 : (tab.map fun p => (p.1, Value.ref p.2)).map (·.1) = tab.map (·.1) := by simp [Function.comp_def]
        rw [e1, htab]
        have e : ds = ds.take j ++ p :: ds.drop (j + 1) := by
          rw [List.getElem?_eq_getElem hjl, Option.some.injEq] at hv
          rw [← hv, ← List.drop_eq_getElem_cons hjl, List.take_append_drop]
        have h2 := hnd
        rw [e, List.map_append, List.map_cons] at h2
        exact nodup_next h2
      clear F N N3
      refine unpackN_ F3 N5 (News.isTup N5 (.tail _ (.tail _ hdd'))) hh rfl rfl fun h6 F6 N6 => ?_
      clear F3 N5
      k_steps
      refine Stop.go ?_
      refine wpAny_IfExp ?_
      k_steps
      · refine Stop.go ?_
        with_reducible rename Fr _ _ _ _ => F7
        with_reducible rename News _ _ _ _ => N7
        refine ke_call fun h7 e hm => ?_
        obtain ⟨t7, het, htn, htt⟩ := hm.there
        obtain ⟨F8, N8, fe8⟩ := new_fr F7 N7 hm.keeps hm.new het
        have nx : NewX ({ cls := .type "KeyError", data := .fields #[.ref t7, .none, .none, .none, .bool false, .none] } : Obj) (.type "KeyError") := ⟨rfl, _, rfl⟩
        have So8 := softOK_new (e := e) So5 nx
        have her : e ≠ er := fun q => fe8 (er, oe') (.head _) q.symm
        have heI : e ≠ I := fun q => fe8 (I, oI') (.tail _ (.head _)) q.symm
        clear F7 N7
        k_steps
        refine Stop.go ?_
        with_reducible rename Fr _ _ _ _ => F9
        with_reducible rename News _ _ _ _ => N9
        refine setItem_L (knd := intKind pg w) (k := p.1) F9 N9 (.tail _ (.head _)) hd' (intKind_is _ _ _ _) hkey (by rw [List.length_map]; omega) fun hA oe2 FA NA hdA => ?_
        have SoA : SoftOK ((er, oe2) :: without ((e, _) :: (er, oe') :: (I, oI') :: nf) er) := softOK_turn N9 So8 (.tail _ (.head _)) (IsDictOf.hard hd') (IsDictOf.hard hdA)
        clear F9
        k_steps
        with_reducible rename Fr _ _ _ _ => FB
        with_reducible rename News _ _ _ _ => NB
        obtain ⟨nf', NC, SoC, offC, inC⟩ := norm_end FB NB SoA (o := oe2) (ol := oI') (.head _) (.tail _ (mem_without.mpr ⟨.tail _ (.tail _ (.head _)), hIer.symm⟩))
        have inR : ∀ p ∈ nf, p ∈ nf' := fun p hp => inC p (.tail _ (mem_without.mpr ⟨.tail _ (.tail _ (.tail _ hp)), (hoff p hp).1⟩)) (hoff p hp).1 (hoff p hp).2
        have inE := inC (e, _) (.tail _ (mem_without.mpr ⟨.head _, her⟩)) her heI
        refine ⟨ds.length - (j + 1), by omega, j + 1, _, _, oe2, oI', tab ++ [(p.1, e)], nf', some (.int p.1 td), some (.int p.2.1 ud), rfl, hjl, rfl, fr_fun FB ?_, NC, SoC, offC, fun p hp => inR p (hkeep p hp), inR _ hlgf, inR _ hptf, by rw [List.map_append]; exact hdA, hIt', ?_, ?_, ?_⟩
        · intro y
          by_cases q1 : y = Str.ofString "kind"
          · subst q1; rfl
          · by_cases q2 : y = Str.ofString "me"
            · subst q2; rfl
            · simp only [if_neg q1, if_neg q2]
        · rw [List.map_append, htab, List.take_add_one, hv, List.map_append]; rfl
        · intro p' hp'
          rcases List.mem_append.mp hp' with hp' | hp'
          · obtain ⟨ox, g1, g2⟩ := hexc p' hp'
            exact ⟨ox, inR _ g1, g2⟩
          · rw [mem_one hp']
            exact ⟨_, inE, nx.exc (.inl rfl), nx.ctx, .inl rfl⟩
        · rw [List.map_append, List.nodup_append]
          refine ⟨hinj, by simp, fun a ha b hb q => ?_⟩
          have hb' : b = e := by simpa using hb
          obtain ⟨z, hz, hza⟩ := List.mem_map.mp ha
          obtain ⟨ox, g1, _⟩ := hexc z hz
          exact fe8 _ (.tail _ (.tail _ g1)) (hza.trans (q.trans hb'))
      · refine Stop.go ?_
        with_reducible rename Fr _ _ _ _ => F7
        with_reducible rename News _ _ _ _ => N7
        refine wpAny_call_exc PySem.F.excCall_ValueError fun h7 e hm => ?_
        obtain ⟨t7, het, htn, htt⟩ := hm.there
        obtain ⟨F8, N8, fe8⟩ := new_fr F7 N7 hm.keeps hm.new het
        have nx : NewX ({ cls := .type "ValueError", data := .fields #[.ref t7, .none, .none, .none, .bool false, .none] } : Obj) (.type "ValueError") := ⟨rfl, _, rfl⟩
        have So8 := softOK_new (e := e) So5 nx
        have her : e ≠ er := fun q => fe8 (er, oe') (.head _) q.symm
        have heI : e ≠ I := fun q => fe8 (I, oI') (.tail _ (.head _)) q.symm
        clear F7 N7
        k_steps
        refine Stop.go ?_
        with_reducible rename Fr _ _ _ _ => F9
        with_reducible rename News _ _ _ _ => N9
        refine setItem_L (knd := intKind pg w) (k := p.1) F9 N9 (.tail _ (.head _)) hd' (intKind_is _ _ _ _) hkey (by rw [List.length_map]; omega) fun hA oe2 FA NA hdA => ?_
        have SoA : SoftOK ((er, oe2) :: without ((e, _) :: (er, oe') :: (I, oI') :: nf) er) := softOK_turn N9 So8 (.tail _ (.head _)) (IsDictOf.hard hd') (IsDictOf.hard hdA)
        clear F9
        k_steps
        with_reducible rename Fr _ _ _ _ => FB
        with_reducible rename News _ _ _ _ => NB
        obtain ⟨nf', NC, SoC, offC, inC⟩ := norm_end FB NB SoA (o := oe2) (ol := oI') (.head _) (.tail _ (mem_without.mpr ⟨.tail _ (.tail _ (.head _)), hIer.symm⟩))
        have inR : ∀ p ∈ nf, p ∈ nf' := fun p hp => inC p (.tail _ (mem_without.mpr ⟨.tail _ (.tail _ (.tail _ hp)), (hoff p hp).1⟩)) (hoff p hp).1 (hoff p hp).2
        have inE := inC (e, _) (.tail _ (mem_without.mpr ⟨.head _, her⟩)) her heI
        refine ⟨ds.length - (j + 1), by omega, j + 1, _, _, oe2, oI', tab ++ [(p.1, e)], nf', some (.int p.1 td), some (.int p.2.1 ud), rfl, hjl, rfl, fr_fun FB ?_, NC, SoC, offC, fun p hp => inR p (hkeep p hp), inR _ hlgf, inR _ hptf, by rw [List.map_append]; exact hdA, hIt', ?_, ?_, ?_⟩
        · intro y
          by_cases q1 : y = Str.ofString "kind"
          · subst q1; rfl
          · by_cases q2 : y = Str.ofString "me"
            · subst q2; rfl
            · simp only [if_neg q1, if_neg q2]
        · rw [List.map_append, htab, List.take_add_one, hv, List.map_append]; rfl
        · intro p' hp'
          rcases List.mem_append.mp hp' with hp' | hp'
          · obtain ⟨ox, g1, g2⟩ := hexc p' hp'
            exact ⟨ox, inR _ g1, g2⟩
          · rw [mem_one hp']
            exact ⟨_, inE, nx.exc (.inr (.inl rfl)), nx.ctx, .inr rfl⟩
        · rw [List.map_append, List.nodup_append]
          refine ⟨hinj, by simp, fun a ha b hb q => ?_⟩
          have hb' : b = e := by simpa using hb
          obtain ⟨z, hz, hza⟩ := List.mem_map.mp ha
          obtain ⟨ox, g1, _⟩ := hexc z hz
          exact fe8 _ (.tail _ (.tail _ g1)) (hza.trans (q.trans hb'))
  · intro y
    by_cases q1 : y = Str.ofString "kind"
    · subst q1; rfl
    · by_cases q2 : y = Str.ofString "me"
      · subst q2; rfl
      · simp only [if_neg q1, if_neg q2]
  · intro p hp
    rcases List.mem_cons.mp hp with rfl | hp
    · exact N6 _ (.tail _ (.tail _ (.head _)))
    · rcases List.mem_cons.mp hp with rfl | hp
      · exact N6 _ (.head _)
      · rcases List.mem_cons.mp hp with rfl | hp
        · exact N6 _ (.tail _ (.head _))
        · rcases List.mem_cons.mp hp with rfl | hp
          · exact N6 _ (.tail _ (.tail _ (.tail _ (.head _))))
          · exact N6 p (.tail _ (.tail _ (.tail _ (.tail _ hp))))
  · exact ((((So.hard hard_list).hard (IsDictOf.hard hs2)).hard (hard_seq (.inr (.inr (.inr (.inl rfl)))))).hard (IsDictOf.hard hi1))
  · intro p hp
    rcases List.mem_cons.mp hp with rfl | hp
    · exact ⟨herpt.symm, hIpt⟩
    · rcases List.mem_cons.mp hp with rfl | hp
      · exact ⟨hlger, hIlg⟩
      · exact ⟨hernz p hp, hInz p hp⟩
end Mine
namespace Mine
open PySem PySem.W PySem.Calls PyProof.Rows
theorem dw_inj : ∀ i j : Fin 20, dword (10 + (i.val : Int)) = dword (10 + (j.val : Int)) → i = j := by decide +kernel
theorem dw_pw : ∀ (i : Fin 20) (j : Fin 40), dword (10 + (i.val : Int)) ≠ pword j.val := by decide +kernel
theorem off_dw : ∀ x ∈ [wLog, Str.ofString "errs", wDeeds, wParts, Str.ofString "nowhere"], ∀ i : Fin 20, x ≠ dword (10 + (i.val : Int)) := by decide +kernel
theorem off_pw : ∀ x ∈ [wLog, Str.ofString "errs", wDeeds, wParts, Str.ofString "nowhere"], ∀ i : Fin 40, x ≠ pword i.val := by decide +kernel
theorem nodup_range {α : Type} (f : Nat → α) (n : Nat) (h : ∀ i j, i < n → j < n → f i = f j → i = j) : ((List.range n).map f).Nodup := by
  induction n with
  | zero => simp
  | succ n ih =>
    rw [List.range_succ, List.map_append, List.nodup_append]
    refine ⟨ih fun i j hi hj => h i j (by omega) (by omega), by simp, fun a ha b hb q => ?_⟩
    obtain ⟨i, hi, rfl⟩ := List.mem_map.mp ha
    have hb' : b = f n := by simpa using hb
    have := h i n (by have := List.mem_range.mp hi; omega) (by omega) (q.trans hb')
    have := List.mem_range.mp hi
    omega
def Tens (ds : List (Int × Int × Addr)) : Prop := ds.map (·.1) = (List.range ds.length).map fun (i : Nat) => 10 + (i : Int)
theorem tens_snoc {ds : List (Int × Int × Addr)} (h : Tens ds) (k : Int) (d : Addr) : Tens (ds ++ [(10 + (ds.length : Int), k, d)]) := by
  unfold Tens at *
  rw [List.map_append, h, List.length_append, List.length_singleton, List.range_succ, List.map_append]
  rfl
theorem tens_nodup {ds : List (Int × Int × Addr)} (h : Tens ds) : (ds.map (·.1)).Nodup := by
  rw [h]
  exact nodup_range _ _ fun i j _ _ e => by omega
theorem wordsOK_of {ds : List (Int × Int × Addr)} {ps : List (Str × Addr)} (h : Tens ds) (hl : ds.length ≤ 14) (hp : WordsP ps) (hpl : ps.length ≤ 30) : WordsOK ds ps := by
  have e1 : ds.map (fun p => dword p.1) = (List.range ds.length).map fun (i : Nat) => dword (10 + (i : Int)) := by
    have : ds.map (fun p => dword p.1) = (ds.map (·.1)).map dword := by rw [List.map_map]; rfl
    rw [this, h, List.map_map]; rfl
  refine ⟨?_, fun x hx q => ?_⟩
  · rw [e1, hp, List.nodup_append]
    refine ⟨nodup_range _ _ fun i j hi hj e => ?_, nodup_range _ _ fun i j hi hj e => ?_, fun a ha b hb q => ?_⟩
    · have := dw_inj ⟨i, by omega⟩ ⟨j, by omega⟩ e
      simpa using this
    · have := pword_inj ⟨i, by omega⟩ ⟨j, by omega⟩ e
      simpa using this
    · obtain ⟨i, hi, rfl⟩ := List.mem_map.mp ha
      obtain ⟨j, hj, rfl⟩ := List.mem_map.mp hb
      exact dw_pw ⟨i, by have := List.mem_range.mp hi; omega⟩ ⟨j, by have := List.mem_range.mp hj; omega⟩ q
  · rw [e1, hp] at q
    rcases List.mem_append.mp q with q | q
    · obtain ⟨i, hi, e⟩ := List.mem_map.mp q
      exact off_dw x hx ⟨i, by have := List.mem_range.mp hi; omega⟩ e.symm
    · obtain ⟨j, hj, e⟩ := List.mem_map.mp q
      exact off_pw x hx ⟨j, by have := List.mem_range.mp hj; omega⟩ e.symm
end Mine
namespace Mine
open PySem PySem.W PySem.Calls PyProof.Rows
local macro_rules | `(tactic| walk_at "call builtin:list.append") => `(tactic| refine Stop.of ?_)
local macro_rules | `(tactic| walk_at "exec For") => `(tactic| refine Stop.of ?_)
local macro_rules | `(tactic| walk_at "exec For Name Call cons nil") => `(tactic| refine Stop.of ?_)
local macro_rules | `(tactic| walk_at "subscriptTail Name Name ref int") => `(tactic| refine Stop.of ?_)
local macro_rules | `(tactic| walk_at "subscriptTail Name BinOp ref int") => `(tactic| refine Stop.of ?_)
local macro_rules | `(tactic| walk_at "eval Name") => `(tactic| (k_here; k_dflt (refine' ldE ?k1 ?k2 ?_ rfl rfl (by decide); (case k1 => k_asm); (case k2 => first | exact rfl | assumption); k_whole)))
local macro_rules | `(tactic| k_mem) => `(tactic| assumption)
theorem kfilll0 : (PySem.Challenge.rw_fe0222_01, hd.heap_39) = (PySem.Challenge.rw_fe0222_01, hd.heap_39) := by
  k_fill
  rfl
def envG (d : Data) (L f : Addr) (cd : Value) : Env := match d with
  | .func fd => envOf fd.qualname fd.scope L f cd
  | _ => envOf (Str.ofString "") noScope L f cd
def HardAll (nz : Ledger) : Prop := ∀ p ∈ nz, ¬ IsSoft p.2
theorem HardAll.ok {nz : Ledger} (h : HardAll nz) : SoftOK nz := fun p hp hx => absurd hx.soft (h p hp)
theorem HardAll.turn {nz : Ledger} {a b : Addr} {o : Obj} (h : HardAll nz) (ho : ¬ IsSoft o) : HardAll ((a, o) :: without nz b) := fun p hp => by
  rcases List.mem_cons.mp hp with rfl | hp
  · exact ho
  · exact h p (mem_without.mp hp).1
theorem HardAll.push {nz : Ledger} {a : Addr} {o : Obj} (h : HardAll nz) (ho : ¬ IsSoft o) : HardAll ((a, o) :: nz) := fun p hp => by
  rcases List.mem_cons.mp hp with rfl | hp
  · exact ho
  · exact h p hp
def rngIt (x left : Int) : Obj := { cls := .type "range_iterator", data := .fields #[rawInt x, rawInt left, rawInt 1] }
theorem hard_rng {x y : Int} : ¬ IsSoft (rngIt x y) := by
  rintro (q | q | q | q | q) <;> (rw [show (rngIt x y).cls = Value.type "range_iterator" from rfl] at q; revert q; decide)
theorem hard_cls {o : Obj} {c : Value} (e : o.cls = c) (h : ¬ (c = .type "traceback" ∨ ExcCls c)) : ¬ IsSoft o := fun q => h (by rw [← e]; exact q)
theorem small_upto : ∀ n : Fin 13, Builtin.Range.small 0 (n.val : Int) 1 = true ∧ Builtin.Range.rangeSize 0 (n.val : Int) 1 = (n.val : Int) := by decide +kernel
theorem deedAt_turn {h₀ h : Heap} {L : Addr} {nz : Ledger} (N : News h₀ L h nz) {dd a : Addr} {me kind : Int} {o o' : Obj} (ha : (a, o) ∈ nz) (hc : o.cls ≠ .type "tuple") (h1 : DeedAt nz dd me kind) : DeedAt ((a, o') :: without nz a) dd me kind := by
  obtain ⟨t, u, n, h2⟩ := h1
  refine ⟨t, u, n, .tail _ (mem_without.mpr ⟨h2, fun q => ?_⟩)⟩
  have q' : dd = a := q
  subst q'
  have := Option.some.inj ((N _ h2).1.symm.trans (N _ ha).1)
  exact hc (congrArg Obj.cls this).symm
def intsOnly : List Value → Bool
  | [] => true
  | .int _ _ :: vs => intsOnly vs
  | _ => false
def kindsOK (o : Option Obj) : Bool := match o with
  | some ⟨.type c, _, .seq items _, _⟩ => c == "tuple" && items.toList.length == 20 && intsOnly items.toList
  | _ => false
theorem intsOnly_at : ∀ {vs : List Value}, intsOnly vs = true → ∀ i : Nat, i < vs.length → ∃ k t, vs[i]? = some (.int k t)
  | [], _, i, hi => by simp at hi
  | v :: vs, h, i, hi => by
    unfold intsOnly at h
    split at h
    · rename_i q; cases q
    · rename_i k t us q
      obtain ⟨rfl, rfl⟩ := List.cons.inj q
      cases i with
      | zero => exact ⟨k, t, rfl⟩
      | succ i => exact intsOnly_at h i (by simpa using hi)
    · cases h
theorem kinds_ok {w : World} : kindsOK ((hd.heap_39 w.params).lookup 72) = true := by kernel_rfl
theorem kinds_at {w : World} {h : Heap} (X : (hd.heap_39 w.params).In h) : ∃ items : Array Value, IsTup h 72 items ∧ items.size = 20 ∧ ∀ i : Nat, i < 20 → ∃ k t, items[i]? = some (.int k t) := by
  have h1 := kinds_ok (w := w)
  unfold kindsOK at h1
  split at h1
  · rename_i c d items n sl h2
    simp only [Bool.and_eq_true, beq_iff_eq] at h1
    obtain ⟨⟨rfl, h3⟩, h4⟩ := h1
    refine ⟨items, ⟨_, X 72 _ h2, rfl, n, rfl⟩, by simpa using h3, fun i hi => ?_⟩
    obtain ⟨k, t, e⟩ := intsOnly_at h4 i (by omega)
    exact ⟨k, t, by simpa using e⟩
  · cases h1
theorem seqIndex_nonneg {k : Int} {n : Nat} (h0 : 0 ≤ k) (h1 : k < n) : seqIndex? k n = some k.toNat := by
  unfold seqIndex?
  simp only [show ¬ k < 0 by omega, if_false, h0, h1, decide_true, Bool.and_self, if_true]
theorem law_loop {w : World} {h₀ : Heap} {mean : ExcName → Option Value} {mg mb : Str → Option Value} (X : (hd.heap_39 w.params).In h₀) (T : TopH mean mg mb h₀) {oF : Obj} (ho : (hd.heap_39 w.params).lookup 168 = some oF) {A : Around} {s : Shared} {nz : Ledger} {Q : Flow → Shared → Prop} {E : Value → Shared → Prop} {L f sl dl mk D0 : Addr} {cd : Value} {m : Str → Option Value} {ws : List Value} {ns : List Int} {n0 n1 n2 n3 : Nat} {t0 t1 t2 : Tok}
    (hdep : A.depth + 9 < recursionLimit) (hun : A.units + 87 < cLine) (hh : A.handled = none) (F : Fr h₀ L s.heap m) (N : News h₀ L s.heap nz) (So : HardAll nz)
    (hm1 : m (Str.ofString "script") = some (.ref sl)) (hm2 : m (Str.ofString "deeds") = some (.ref dl)) (hm3 : m (Str.ofString "marks") = some (.ref mk))
    (hI : IntsAre ws ns) (hl : ns.length ≤ 12) (hsl : (sl, listOf ws.toArray n0) ∈ nz) (hdl : (dl, listOf #[.ref D0] n1) ∈ nz) (hmk : (mk, listOf #[.int 0 t0] n2) ∈ nz) (hD0 : (D0, tupOf #[.int 10 t1, .int 4 t2] n3) ∈ nz)
    (hsd : sl ≠ dl) (hsm : sl ≠ mk) (hdm : dl ≠ mk)
    (hQ : ∀ h' tk' m' nz' (ds : List (Int × Int × Addr)) (mt : List (Int × Tok)) n1 n2, Fr h₀ L h' m' → News h₀ L h' nz' → HardAll nz' → m' (Str.ofString "script") = some (.ref sl) → m' (Str.ofString "deeds") = some (.ref dl) → m' (Str.ofString "marks") = some (.ref mk) →
      (sl, listOf ws.toArray n0) ∈ nz' → (dl, listOf (ds.map fun (p : Int × Int × Addr) => Value.ref p.2.2).toArray n1) ∈ nz' → (mk, listOf (mt.map fun (p : Int × Tok) => Value.int p.1 p.2).toArray n2) ∈ nz' → ds.length = ns.length + 1 → mt.length = ns.length + 1 → Tens ds → (∀ p ∈ ds, DeedAt nz' p.2.2 p.1 p.2.1) →
      Q .next { s with heap := h', toks := tk' }) :
    wpAny (model pg w) A (exec ((bodyOf oF.data)[2]?.getD (.Pass ⟨0, 0, 0, 0⟩)) (envG oF.data L f cd)) Q E s := by
  have h3 := Option.some.inj (ho.symm.trans (by k_is))
  subst h3
  clear ho
  dsimp only [bodyOf, envG, List.getElem?_cons_succ, List.getElem?_cons_zero, Option.getD_some]
  have hz30 : (40 : Nat) ≤ sizeLine := by decide
  have hIg := fun i n => IntsAre.get hI i n
  refine wpAny_For ?_
  k_steps
  have hwl : ws.length = ns.length := hI.length
  refine len_list ⟨_, (N _ hsl).1, rfl, n0, rfl⟩ (by simp only [List.size_toArray]; omega) ?_
  k_steps
  rename_i _ h1 tk1 ta tb tc hr F1 N1 _
  have sm := small_upto ⟨ns.length, by omega⟩
  dsimp only at sm
  refine wpAny_pyIter_range hr sm.1 ?_
  rw [sm.2]
  have F2 := F1.push (rngIt 0 ns.length)
  have N2 := News.push F1 N1 (rngIt 0 ns.length)
  have hfI := fresh_at N1
  clear F1 N1 hr
  dsimp only at F2 N2 ⊢
  generalize h1.objs.size = I at *
  have hIs : sl ≠ I := hfI _ hsl
  have hId : dl ≠ I := hfI _ hdl
  have hIm : mk ≠ I := hfI _ hmk
  refine forLoop_T (fun n s' => ∃ (j : Nat) (h' : Heap) (tk : Tok) (m' : Str → Option Value) (ds : List (Int × Int × Addr)) (mt : List (Int × Tok)) (n1 n2 : Nat) (nf : Ledger),
    n = ns.length - j ∧ j ≤ ns.length ∧ s' = { s with heap := h', toks := tk } ∧ Fr h₀ L h' m' ∧ News h₀ L h' nf ∧ HardAll nf ∧ m' (Str.ofString "script") = some (.ref sl) ∧ m' (Str.ofString "deeds") = some (.ref dl) ∧ m' (Str.ofString "marks") = some (.ref mk) ∧
    (I, rngIt (j : Int) ((ns.length : Int) - (j : Int))) ∈ nf ∧ (sl, listOf ws.toArray n0) ∈ nf ∧ (dl, listOf (ds.map fun (p : Int × Int × Addr) => Value.ref p.2.2).toArray n1) ∈ nf ∧ (mk, listOf (mt.map fun (p : Int × Tok) => Value.int p.1 p.2).toArray n2) ∈ nf ∧ ds.length = j + 1 ∧ mt.length = j + 1 ∧ Tens ds ∧ (∀ p ∈ ds, DeedAt nf p.2.2 p.1 p.2.1)) ?_ ns.length
    ⟨0, _, _, m, [(10, 4, D0)], [(0, t0)], n1, n2, _, rfl, Nat.zero_le _, rfl, F2, N2, So.push hard_rng, hm1, hm2, hm3, by simpa using List.mem_cons_self, .tail _ hsl, .tail _ hdl, .tail _ hmk, rfl, rfl, rfl, fun p hp => ?_⟩ (fun _ => rfl)
  · rintro n s' ⟨j, h', tk, m', ds, mt, n1', n2', nf, rfl, hj, rfl, F, N, So', hm1', hm2', hm3', hIt, hsl', hdl', hmk', hds, hmt, hT, hD⟩
    have hitR : IsRangeIter h' I (j : Int) ((ns.length : Int) - (j : Int)) 1 := (N _ hIt).1
    rcases Nat.lt_or_ge j ns.length with hlt | hge
    · refine wpAny_pyNext_range_item hitR (by omega) fun h2 hit2 hs2 => ?_
      obtain ⟨F3, N3⟩ := same_fr F N hIt hs2 (o' := rngIt ((j + 1 : Nat) : Int) ((ns.length : Int) - ((j + 1 : Nat) : Int))) (by
        have e1 : ((j + 1 : Nat) : Int) = (j : Int) + 1 := by push_cast; rfl
        have e2 : (ns.length : Int) - ((j + 1 : Nat) : Int) = (ns.length : Int) - (j : Int) - 1 := by push_cast; omega
        rw [e2, e1]; exact hit2)
      have So3 : HardAll ((I, rngIt ((j + 1 : Nat) : Int) ((ns.length : Int) - ((j + 1 : Nat) : Int))) :: without nf I) := So'.turn hard_rng
      have hD3 : ∀ p ∈ ds, DeedAt ((I, rngIt ((j + 1 : Nat) : Int) ((ns.length : Int) - ((j + 1 : Nat) : Int))) :: without nf I) p.2.2 p.1 p.2.1 := fun p hp => deedAt_turn N hIt (show Value.type "range_iterator" ≠ Value.type "tuple" by decide) (hD p hp)
      have hsl3 := without_mem hsl' hIs
      have hdl3 := without_mem hdl' hId
      have hmk3 := without_mem hmk' hIm
      clear F N hitR hit2 hs2
      generalize without nf I = Y at *
      obtain ⟨tn, hv⟩ := hIg j (ns[j]'hlt) (List.getElem?_eq_getElem hlt)
      k_steps
      refine Stop.go ?_
      with_reducible rename Fr _ _ _ _ => F4
      with_reducible rename News _ _ _ _ => N4
      generalize ns[j]'hlt = z at hv
      refine item_list ⟨_, (N4 _ (.tail _ hsl3)).1, rfl, n0, rfl⟩ (by omega) (by omega) (x := .int z tn) (by simpa using hv) ?_
      k_steps
      refine Stop.go ?_
      with_reducible rename Fr _ _ _ _ => F5
      with_reducible rename News _ _ _ _ => N5
      obtain ⟨its, hts, htz, hta⟩ := kinds_at (X.keeps F5.keep)
      have hk0 := Int.fmod_nonneg_of_pos (z + 7 * (j : Int)) (b := 20) (by omega)
      have hk1 := Int.fmod_lt_of_pos (z + 7 * (j : Int)) (b := 20) (by omega)
      obtain ⟨kind, tkd, hkd⟩ := hta ((z + 7 * (j : Int)).fmod 20).toNat (by omega)
      refine item_tuple hts (by omega) (by omega) (by rw [htz]; exact seqIndex_nonneg hk0 (by omega)) hkd ?_
      k_steps
      refine Stop.go ?_
      with_reducible rename Fr _ _ _ _ => F6
      with_reducible rename News _ _ _ _ => N6
      rename_i D1 h6 l1
      have he : (11 : Int) + (j : Int) = 10 + (ds.length : Int) := by rw [hds]; push_cast; omega
      rw [he] at N6
      obtain ⟨tkx, N6⟩ : ∃ tkx, News h₀ L h6 ((D1, tupOf #[.int (10 + (ds.length : Int)) tkx, .int kind tkd] 0) :: (I, rngIt ((j + 1 : Nat) : Int) ((ns.length : Int) - ((j + 1 : Nat) : Int))) :: Y) := ⟨_, N6⟩
      have hD6 : ∀ p ∈ ds ++ [(10 + (ds.length : Int), kind, D1)], DeedAt ((D1, tupOf #[.int (10 + (ds.length : Int)) tkx, .int kind tkd] 0) :: (I, rngIt ((j + 1 : Nat) : Int) ((ns.length : Int) - ((j + 1 : Nat) : Int))) :: Y) p.2.2 p.1 p.2.1 := fun p hp => by
        rcases List.mem_append.mp hp with hp | hp
        · obtain ⟨a, b, c, d⟩ := hD3 p hp
          exact ⟨a, b, c, .tail _ d⟩
        · rw [mem_one hp]
          exact ⟨_, _, 0, .head _⟩
      have hT6 := tens_snoc hT kind D1
      have hds6 : (ds ++ [(10 + (ds.length : Int), kind, D1)]).length = j + 1 + 1 := by rw [List.length_append, hds]; rfl
      have So6 := So3.push (a := D1) (hard_tup (us := #[.int (10 + (ds.length : Int)) tkx, .int kind tkd]) (k := 0))
      have em : (ds.map fun p : Int × Int × Addr => Value.ref p.2.2) ++ [.ref D1] = (ds ++ [(10 + (ds.length : Int), kind, D1)]).map fun p => Value.ref p.2.2 := by rw [List.map_append]; rfl
      have hI6 : (I, rngIt ((j + 1 : Nat) : Int) ((ns.length : Int) - ((j + 1 : Nat) : Int))) ∈ (D1, tupOf #[.int (10 + (ds.length : Int)) tkx, .int kind tkd] 0) :: (I, rngIt ((j + 1 : Nat) : Int) ((ns.length : Int) - ((j + 1 : Nat) : Int))) :: Y := .tail _ (.head _)
      have hsl6 : (sl, _) ∈ (D1, tupOf #[.int (10 + (ds.length : Int)) tkx, .int kind tkd] 0) :: (I, rngIt ((j + 1 : Nat) : Int) ((ns.length : Int) - ((j + 1 : Nat) : Int))) :: Y := .tail _ (.tail _ hsl3)
      have hmk6 : (mk, _) ∈ (D1, tupOf #[.int (10 + (ds.length : Int)) tkx, .int kind tkd] 0) :: (I, rngIt ((j + 1 : Nat) : Int) ((ns.length : Int) - ((j + 1 : Nat) : Int))) :: Y := .tail _ (.tail _ hmk3)
      have hdl6 : (dl, _) ∈ (D1, tupOf #[.int (10 + (ds.length : Int)) tkx, .int kind tkd] 0) :: (I, rngIt ((j + 1 : Nat) : Int) ((ns.length : Int) - ((j + 1 : Nat) : Int))) :: Y := .tail _ (.tail _ hdl3)
      generalize (D1, tupOf #[.int (10 + (ds.length : Int)) tkx, .int kind tkd] 0) :: (I, rngIt ((j + 1 : Nat) : Int) ((ns.length : Int) - ((j + 1 : Nat) : Int))) :: Y = X6 at *
      refine append_L F6 N6 hdl6 (fun h7 n7 F7 N7 => ?_) (by rw [List.length_map]; omega)
      rw [em] at N7
      generalize ds ++ [(10 + (ds.length : Int), kind, D1)] = d6 at *
      have hD7 : ∀ p ∈ d6, DeedAt ((dl, listOf (d6.map fun p => Value.ref p.2.2).toArray n7) :: without X6 dl) p.2.2 p.1 p.2.1 := fun p hp => deedAt_turn N6 hdl6 (show Value.type "list" ≠ Value.type "tuple" by decide) (hD6 p hp)
      have So7 := So6.turn (a := dl) (b := dl) (hard_list (us := (d6.map fun p => Value.ref p.2.2).toArray) (k := n7))
      have hI7 := without_mem hI6 hId.symm
      have hsl7 := without_mem hsl6 hsd
      have hmk7 := without_mem hmk6 hdm.symm
      clear F6 N6 em he
      generalize without X6 dl = Y7 at *
      k_steps
      refine Stop.go ?_
      with_reducible rename Fr _ _ _ _ => F8
      with_reducible rename News _ _ _ _ => N8
      generalize (((z + 7 * (j : Int)).fdiv 20).fmod 3) = mm
      refine append_L F8 N8 (.tail _ hmk7) (fun h9 n9 F9 N9 => ?_) (by rw [List.length_map]; omega)
      obtain ⟨tky, N9⟩ : ∃ tky, News h₀ L h9 ((mk, listOf ((mt ++ [(mm, tky)]).map fun p : Int × Tok => Value.int p.1 p.2).toArray n9) :: without ((dl, listOf (d6.map fun p => Value.ref p.2.2).toArray n7) :: Y7) mk) := ⟨_, by rw [List.map_append]; exact N9⟩
      have hD9 : ∀ p ∈ d6, DeedAt ((mk, listOf ((mt ++ [(mm, tky)]).map fun p : Int × Tok => Value.int p.1 p.2).toArray n9) :: without ((dl, listOf (d6.map fun p => Value.ref p.2.2).toArray n7) :: Y7) mk) p.2.2 p.1 p.2.1 := fun p hp => deedAt_turn N8 (.tail _ hmk7) (show Value.type "list" ≠ Value.type "tuple" by decide) (hD7 p hp)
      refine wpAny_execs_nil ?_
      exact ⟨ns.length - (j + 1), by omega, j + 1, _, _, _, d6, mt ++ [(mm, tky)], n7, n9, _, rfl, hlt, rfl, F9, N9, So7.turn hard_list, hm1', hm2', hm3', .tail _ (without_mem (.tail _ hI7) hIm.symm), .tail _ (without_mem (.tail _ hsl7) hsm), .tail _ (without_mem (.head _) hdm), .head _, hds6, by rw [List.length_append, hmt]; rfl, hT6, hD9⟩
    · have hje : j = ns.length := Nat.le_antisymm hj hge
      refine wpAny_pyNext_range_end hh hitR (by omega) fun h2 hs2 => ?_
      obtain ⟨F3, N3⟩ := ext_fr F N (N _ hIt).2.1 (N _ hIt).2.2 hs2
      have So3 : HardAll (without nf I) := fun p hp => So' p (mem_without.mp hp).1
      refine wpAny_execs_nil ?_
      refine hQ _ _ m' _ ds mt n1' n2' F3 N3 So3 hm1' hm2' hm3' (mem_without.mpr ⟨hsl', hIs⟩) (mem_without.mpr ⟨hdl', hId⟩) (mem_without.mpr ⟨hmk', hIm⟩) (by omega) (by omega) hT fun p hp => ?_
      obtain ⟨t, u, n, h⟩ := hD p hp
      refine ⟨t, u, n, mem_without.mpr ⟨h, fun q => ?_⟩⟩
      have q' : p.2.2 = I := q
      rw [q'] at h
      have := Option.some.inj ((N _ h).1.symm.trans (N _ hIt).1)
      exact absurd (congrArg Obj.cls this) (show Value.type "tuple" ≠ Value.type "range_iterator" by decide)
  · rw [mem_one hp]
    exact ⟨t1, t2, n3, .tail _ hD0⟩
end Mine
namespace Mine
open PySem PySem.W PySem.Calls PyProof.Rows
theorem kqdOk_mono : ∀ {n : Nat} {d : Dat}, kqdOk n d = true → kqdOk (n + 1) d = true
  | 0, d, h => by cases d <;> first | exact h | (simp [kqdOk] at h) | rfl
  | n + 1, d, h => by
    cases d with
    | list ds =>
      simp only [kqdOk, List.all_eq_true] at h ⊢
      exact fun x hx => kqdOk_mono (h x hx)
    | tuple ds =>
      simp only [kqdOk, List.all_eq_true] at h ⊢
      exact fun x hx => kqdOk_mono (h x hx)
    | str x => simpa [kqdOk] using h
    | bool b => simp [kqdOk] at h
    | bytes b => simp [kqdOk] at h
    | _ => rfl
theorem kqdOk_le {n m : Nat} {d : Dat} (h : kqdOk n d = true) (hn : n ≤ m) : kqdOk m d = true := by
  have : ∀ k, kqdOk (n + k) d = true := fun k => by
    induction k with
    | zero => exact h
    | succ k ih => exact kqdOk_mono ih
  have := this (m - n)
  rwa [show n + (m - n) = m by omega] at this
structure OkOL (n : Nat) (p : OL) : Prop where
  val : ∀ d, p.1 = .ok d → kqdOk (n + 2) d = true
  log : ∀ e ∈ p.2, kqdOk (n + 4) e = true
theorem OkOL.mono {n m : Nat} {p : OL} (h : OkOL n p) (hn : n ≤ m) : OkOL m p := ⟨fun d e => kqdOk_le (h.val d e) (by omega), fun e he => kqdOk_le (h.log e he) (by omega)⟩
theorem str_in : PyData.strOk (Str.ofString "in") = true := by decide +kernel
theorem str_back : PyData.strOk (Str.ofString "back") = true := by decide +kernel
theorem str_hurt : PyData.strOk (Str.ofString "hurt") = true := by decide +kernel
theorem str_empty : PyData.strOk (Str.ofString "") = true := by decide +kernel
theorem int_ok (n : Nat) (i : Int) : kqdOk n (.int i) = true := by cases n <;> rfl
theorem str_ok {x : Str} (h : PyData.strOk x = true) (n : Nat) : kqdOk n (.str x) = true := by cases n <;> simpa [kqdOk] using h
theorem OkOL.pre {n : Nat} {p : OL} (h : OkOL n p) {l : List Dat} (hl : ∀ e ∈ l, kqdOk (n + 4) e = true) : OkOL n (pre l p) :=
  ⟨h.val, fun e he => (List.mem_append.mp he).elim (hl e) (h.log e)⟩
theorem in_ok (n : Nat) (me : Int) : kqdOk (n + 4) (inD me) = true := by
  simp only [inD, kqdOk, List.all_cons, List.all_nil, Bool.and_true, str_in, int_ok, Bool.and_self]
theorem value_ok (n : Nat) (me : Int) : kqdOk (n + 2) (valueD me) = true := by
  unfold valueD
  split
  · rfl
  · split
    · rfl
    · split
      · exact str_ok str_empty _
      · simp only [kqdOk, List.all_cons, List.all_nil, Bool.and_true, int_ok]
theorem OkOL.postP {n : Nat} {p : OL} (h : OkOL n p) (me kind : Int) : OkOL (n + 1) (postP me kind p) := by
  obtain ⟨o, l⟩ := p
  refine ⟨fun d e => ?_, fun e he => ?_⟩
  · simp only [Mine.postP] at e
    cases o with
    | ok x =>
      have hx := h.val x rfl
      simp only [postO] at e
      split at e
      · cases e
      · split at e
        · cases e
          have : kqdOk (n + 2) (.int me) = true := int_ok _ _
          simp only [kqdOk, List.all_cons, List.all_nil, Bool.and_true, this, hx, Bool.and_self]
        · split at e
          · cases e
            cases x with
            | list ds =>
              simp only [addTo, kqdOk, List.all_append, List.all_cons, List.all_nil, Bool.and_true, int_ok]
              have := kqdOk_mono hx
              simpa [kqdOk] using this
            | _ => exact kqdOk_le hx (by omega)
          · cases e
            exact kqdOk_le hx (by omega)
    | err c =>
      simp only [postO] at e
      split at e
      · cases e
      · split at e
        · cases e
          simp only [kqdOk, List.all_cons, List.all_nil, Bool.and_true, int_ok]
        · cases e
  · simp only [Mine.postP] at he
    rcases List.mem_append.mp he with he | he
    · exact kqdOk_le (h.log e he) (by omega)
    · rw [mem_one he]
      cases o with
      | ok x =>
        have hx := kqdOk_le (h.val x rfl) (show n + 2 ≤ n + 1 + 3 by omega)
        simp only [postL, backD, kqdOk, List.all_cons, List.all_nil, Bool.and_true, int_ok, str_back, hx, Bool.and_self]
      | err c =>
        simp only [postL, hurtD, kqdOk, List.all_cons, List.all_nil, Bool.and_true, int_ok, str_hurt, Bool.and_self]
theorem run_ok : ∀ r : Row, OkOL (cnt r) (run r)
  | .nil => ⟨fun d e => (by cases e; rfl), fun e he => (by cases he)⟩
  | .one me kind r => by
    have ih := run_ok r
    simp only [run, oneP, cnt]
    split
    · exact ⟨fun d e => (by cases e), fun e he => (by cases he)⟩
    · refine OkOL.pre ?_ fun e he => by rw [mem_one he]; exact in_ok _ _
      split
      · exact ⟨fun d e => (by cases e), fun e he => (by cases he)⟩
      · split
        · exact ⟨fun d e => (by cases e), fun e he => (by cases he)⟩
        · split
          · exact ih.mono (by omega)
          · split
            · exact ih.postP me kind
            · exact ⟨fun d e => (by cases e; exact value_ok _ _), fun e he => (by cases he)⟩
  | .part i r => by
    have h1 := run_ok i
    have h2 := run_ok r
    simp only [run, goOn, cnt]
    split
    · exact OkOL.pre (h2.mono (by omega)) fun e he => kqdOk_le (h1.log e he) (by omega)
    · exact h1.mono (by omega)
theorem runD_ok {n : Nat} {p : OL} (h : OkOL n p) : kqdOk (n + 6) (runD p) = true := by
  obtain ⟨o, l⟩ := p
  have hl : l.all (kqdOk (n + 4)) = true := List.all_eq_true.mpr h.log
  cases o with
  | ok d =>
    have hd := kqdOk_le (h.val d rfl) (show n + 2 ≤ n + 4 by omega)
    simp only [runD, gotD, kqdOk, List.all_cons, List.all_nil, Bool.and_true, hd, hl, Bool.and_self]
  | err c =>
    simp only [runD, gotD, kqdOk, List.all_cons, List.all_nil, Bool.and_true, int_ok, hl, Bool.and_self]
mutual
theorem vd_in {nz : Ledger} : ∀ {v : Value} {d : Dat}, VD (inL nz) v d → DatIn nz v d
  | _, _, .none => .none
  | _, _, .int i t => .int i t
  | _, _, .str x t => .str x t
  | _, _, .tuple h r => .tuple h (vds_in r)
  | _, _, .list h r => .list h (vds_in r)
theorem vds_in {nz : Ledger} : ∀ {vs : List Value} {ds : List Dat}, VDs (inL nz) vs ds → DatAll nz vs ds
  | _, _, .nil => .nil
  | _, _, .cons h r => .cons (vd_in h) (vds_in r)
end
theorem eq_same {w : World} {A : Around} {E : Value → Shared → Prop} {s : Shared} {h₀ : Heap} {L : Addr} {nz : Ledger} {a b : Value} {d : Dat} {Q : Value → Shared → Prop} (N : News h₀ L s.heap nz) (h1 : VD (inL nz) a d) (h2 : VD (inL nz) b d) (hk : kqdOk 60 d = true) (hu : A.units + 64 < cLine) (h : Q (.bool true) s) : wpAny (model pg w) A (compareOp .Eq a b) Q E s := by
  obtain ⟨as, ra⟩ := kqd_in N 60 (vd_in h1) hk
  obtain ⟨bs, rb⟩ := kqd_in N 60 (vd_in h2) hk
  have l := kqd_lay 60 d hk
  have sh : SeqAt.shaped (kqdP d) = true := by
    unfold SeqAt.shaped; rw [l.1, Bool.true_and]; exact decide_eq_true (Nat.le_trans l.2 (by decide))
  refine eq_dataH ra rb sh sh hu ?_
  rw [(kqd_eqv 60 d d 60 hk hk).mpr rfl]
  exact h
end Mine
namespace Mine
open PySem PySem.W PySem.Calls PyProof.Rows
def flat : List (Int × Int) → Row
  | [] => .nil
  | d :: ds => .one d.1 d.2 (flat ds)
theorem run_wrap (m : Int) (r : Row) : run (wrapM m r) = run r := by
  unfold wrapM
  split
  · simp only [run, goOn]
    split
    · rename_i h
      simp only [pre, List.append_nil]
      rw [← h]
    · rfl
  · rfl
theorem valueD_none (me : Int) : valueD me ≠ .none := by
  unfold valueD
  split
  · simp
  · split
    · simp
    · split <;> simp
theorem goOn_pre (l : List Dat) (p q : OL) : goOn (pre l p) q = pre l (goOn p q) := by
  unfold goOn
  simp only [pre]
  split
  · simp [List.append_assoc]
  · rfl
theorem goOn_err (c : Int) (l : List Dat) (q : OL) : goOn (.err c, l) q = (.err c, l) := rfl
theorem goOn_ok {d : Dat} (h : d ≠ .none) (l : List Dat) (q : OL) : goOn (.ok d, l) q = (.ok d, l) := by
  unfold goOn
  split
  · rename_i e; cases e; exact absurd rfl h
  · rfl
theorem goOn_one {me kind : Int} (hk : kind < 4) (p q : OL) : goOn (oneP me kind p) q = oneP me kind (goOn p q) := by
  unfold oneP
  split
  · rfl
  · rw [goOn_pre]
    congr 1
    split
    · rfl
    · split
      · rfl
      · split
        · rfl
        · split
          · omega
          · exact goOn_ok (valueD_none me) _ _
theorem run_units : ∀ (n : Nat) (ds : List (Int × Int)) (ms : List Int), ds.length = n → ms.length = n → run (foldU (units ds ms)) = run (flat ds) := by
  intro n
  induction n using Nat.strongRecOn with
  | ind n ih =>
    intro ds ms hd hm
    match ds, ms with
    | [], _ => cases ms <;> simp [units, foldU, flat]
    | d :: ds, [] => simp at hd hm; omega
    | d :: ds, m :: ms =>
      simp only [List.length_cons] at hd hm
      by_cases hp : pairs (d :: ds) (m :: ms) = true
      · obtain ⟨d1, d2, ds', m1, m2, ms', e1, e2, e3⟩ := units_pair hp (by simp; omega)
        obtain ⟨rfl, rfl⟩ := List.cons.inj e1
        obtain ⟨rfl, rfl⟩ := List.cons.inj e2
        simp only [List.length_cons] at hd hm
        have hk : d.2 < 4 ∧ d2.2 < 4 := by
          simp only [pairs, decide_eq_true_eq] at hp
          exact ⟨hp.2.1, hp.2.2⟩
        rw [e3, foldU, run_wrap]
        simp only [run, flat]
        rw [goOn_one hk.1, goOn_one hk.2, ih ds'.length (by omega) ds' ms' rfl (by omega)]
        congr 2
      · rw [units_one (Bool.eq_false_iff.mpr hp) (by omega), foldU, run_wrap]
        simp only [run, flat]
        rw [ih ds.length (by omega) ds ms rfl (by omega)]
theorem units_len : ∀ (n : Nat) (ds : List (Int × Int)) (ms : List Int), ds.length = n → ms.length = n → cnt (foldU (units ds ms)) = ds.length ∧ dep (foldU (units ds ms)) ≤ ds.length + 1 := by
  have hw : ∀ m r, cnt (wrapM m r) = cnt r ∧ dep (wrapM m r) ≤ dep r + 1 := fun m r => by
    unfold wrapM
    split
    · simp [cnt, dep]
    · exact ⟨rfl, Nat.le_succ _⟩
  intro n
  induction n using Nat.strongRecOn with
  | ind n ih =>
    intro ds ms hd hm
    match ds, ms with
    | [], _ => cases ms <;> simp [units, foldU, cnt, dep]
    | d :: ds, [] => simp at hd hm; omega
    | d :: ds, m :: ms =>
      simp only [List.length_cons] at hd hm
      by_cases hp : pairs (d :: ds) (m :: ms) = true
      · obtain ⟨d1, d2, ds', m1, m2, ms', e1, e2, e3⟩ := units_pair hp (by simp; omega)
        obtain ⟨rfl, rfl⟩ := List.cons.inj e1
        obtain ⟨rfl, rfl⟩ := List.cons.inj e2
        simp only [List.length_cons] at hd hm
        have h1 := ih ds'.length (by omega) ds' ms' rfl (by omega)
        rw [e3, foldU]
        have h2 := hw m (Row.part (.one d.1 d.2 (.one d2.1 d2.2 .nil)) (foldU (units ds' ms')))
        simp only [cnt, dep] at h2 ⊢
        simp only [List.length_cons]
        omega
      · rw [units_one (Bool.eq_false_iff.mpr hp) (by omega), foldU]
        have h1 := ih ds.length (by omega) ds ms rfl (by omega)
        have h2 := hw m (Row.one d.1 d.2 (foldU (units ds ms)))
        simp only [cnt, dep] at h2 ⊢
        simp only [List.length_cons]
        omega
/-- however it is folded -/
theorem run_fold {ds : List (Int × Int)} {ms ms' : List Int} (h : ms.length = ds.length) (h' : ms'.length = ds.length) : run (foldU (units ds ms)) = run (foldU (units ds ms')) :=
  (run_units _ ds ms rfl h).trans (run_units _ ds ms' rfl h').symm
end Mine
namespace Mine
open PySem PySem.W PySem.Calls PyProof.Rows
theorem rep_marks (c : Int) (t : Tok) : ∀ k : Nat, (List.replicate ((k : Nat) : Int).toNat [Value.int c t]).flatten = (List.replicate k (c, t)).map fun p : Int × Tok => Value.int p.1 p.2 := fun k => by
  rw [Int.toNat_natCast]
  induction k with
  | zero => rfl
  | succ k ih => rw [List.replicate_succ, List.flatten_cons, ih, List.replicate_succ]; rfl
def zipD (ds : List (Int × Int × Addr)) : List (Int × Int) := ds.map fun p => (p.1, p.2.1)
theorem tens_range {ds : List (Int × Int × Addr)} (h : Tens ds) (hl : ds.length ≤ 14) : ∀ p ∈ ds, 0 ≤ p.1 ∧ p.1 ≤ 100 := fun p hp => by
  have h1 : p.1 ∈ ds.map (·.1) := List.mem_map.mpr ⟨p, hp, rfl⟩
  rw [h] at h1
  obtain ⟨i, hi, e⟩ := List.mem_map.mp h1
  have := List.mem_range.mp hi
  omega
theorem vd_step {nz nz' : Ledger} {fr : List Addr} (S : Step [] fr nz nz') {v : Value} {d : Dat} (h : VD (inL nz) v d) : VD (inL nz') v d :=
  h.mono fun a o ⟨vs, n, e⟩ q => S.keeps q (by simp) (fun _ z => by simp only [e] at z; cases z) fun _ _ z => by simp only [e] at z; cases z
theorem run_call {w : World} {h₀ : Heap} {mean : ExcName → Option Value} {mg mb : Str → Option Value} (X : (hd.heap_39 w.params).In h₀) (T : TopH mean mg mb h₀) {A : Around} {s : Shared} {nz : Ledger} {env : Env} {Q : Value → Shared → Prop} {E : Value → Shared → Prop} {L dl mk : Addr} {ds : List (Int × Int × Addr)} {ms : List Int} {nd : Nat} {m : Str → Option Value}
    (hA : A.frames = some [env]) (hf : env.frame = some L) (hk : env.scope.kind = .function) (hdep : A.depth + 300 < recursionLimit) (hun : A.units + 2000 < cLine) (hh : A.handled = none)
    (F : Fr h₀ L s.heap m) (N : News h₀ L s.heap nz) (So : SoftOK nz) (hdl : (dl, listOf (ds.map fun p => Value.ref p.2.2).toArray nd) ∈ nz) (hmk : MarksAt nz mk ms) (hlen : ms.length = ds.length) (hl : ds.length ≤ 14)
    (hT : Tens ds) (hD : ∀ p ∈ ds, DeedAt nz p.2.2 p.1 p.2.1)
    (hQ : ∀ t h' tk' nz', Fr h₀ L h' m → News h₀ L h' nz' → SoftOK nz' → Step [] [] nz nz' → VD (inL nz') (.ref t) (runD (run (foldU (units (zipD ds) ms)))) → Q (.ref t) { s with heap := h', toks := tk' }) :
    wpAny (model pg w) A (call (.ref 161) [.ref dl, .ref mk]) Q E s := by
  obtain ⟨oL, hdL, hoL, DL⟩ := led_all F N
  have hu := units_len ds.length (zipD ds) ms (by simp [zipD]) hlen
  have hzl : (zipD ds).length = ds.length := by simp [zipD]
  obtain ⟨mt, nm, hmt, hms⟩ := hmk
  have tr := tens_range hT hl
  refine wpAny_call (run_con (outer := [env]) X T DL (So.frame hdL) ⟨hA, frames_cons (FramesIn.nil nz) hdL hf hk, hdep, hun⟩ hh (.tail _ hdl) ⟨mt, nm, .tail _ hmt, hms⟩ hlen hl (fun p hp => ?_) (tens_nodup hT) (fun ps h1 h2 => wordsOK_of hT hl h1 h2) ?_ ?_ fun t h5 tk5 nz5 D5 St5 So5 V5 => ?_)
  · obtain ⟨a, b, c, d⟩ := hD p hp
    exact ⟨⟨a, b, c, .tail _ d⟩, tr p hp⟩
  · have := hu.1
    unfold zipD at this hzl
    omega
  · have := hu.2
    unfold zipD at this hzl
    omega
  · have St5 : Step [] [L] ((L, oL) :: nz) nz5 := by
      have e : List.filterMap (·.frame) [env] = [L] := by simp [hf]
      rw [← e]; exact St5
    have BK := call_back (fr := []) (Mut := []) F N hoL hdL D5 St5 So5 (by simp)
    have S5 := seq_without D5 (St5.dict (.head _) (by simp) hdL).choose_spec hdL
    exact hQ t h5 tk5 _ BK.fr BK.nw BK.so BK.st (V5.mono fun a o hq q => S5 _ q hq)
end Mine
namespace Mine
local macro_rules | `(tactic| walk_at "pad") => `(tactic| skip)
open PySem PySem.W PySem.Calls PyProof.Rows
local macro_rules | `(tactic| walk_at "call builtin:list.append") => `(tactic| refine Stop.of ?_)
local macro_rules | `(tactic| walk_at "call builtin:len") => `(tactic| refine Stop.of ?_)
local macro_rules | `(tactic| walk_at "binaryOp Mult ref int") => `(tactic| refine Stop.of ?_)
local macro_rules | `(tactic| walk_at "call ref") => `(tactic| refine Stop.of ?_)
local macro_rules | `(tactic| walk_at "compareOp Eq ref ref") => `(tactic| refine Stop.of ?_)
local macro_rules | `(tactic| walk_at "eval Name") => `(tactic| (k_here; k_dflt (refine' ldE ?k1 ?k2 ?_ rfl rfl (by decide); (case k1 => k_asm); (case k2 => first | exact rfl | assumption); k_whole)))
local macro_rules | `(tactic| k_mem) => `(tactic| assumption)
theorem kfilll3 : (PySem.Challenge.rw_fe0222_01, hd.heap_39) = (PySem.Challenge.rw_fe0222_01, hd.heap_39) := by
  k_fill
  rfl
theorem rep_marks' (c : Int) (t : Tok) {n k : Nat} (h : n = k) : (List.replicate ((n : Nat) : Int).toNat [Value.int c t]).flatten = (List.replicate k (c, t)).map fun p : Int × Tok => Value.int p.1 p.2 := h ▸ rep_marks c t n
theorem marks_rep {nz : Ledger} {Z : Addr} {k n : Nat} {c : Int} {t : Tok} (h : (Z, listOf ((List.replicate k (c, t)).map fun p : Int × Tok => Value.int p.1 p.2).toArray n) ∈ nz) : MarksAt nz Z (List.replicate k c) :=
  ⟨List.replicate k (c, t), n, h, by rw [List.map_replicate]⟩
theorem law_rest {w : World} {h₀ : Heap} {mean : ExcName → Option Value} {mg mb : Str → Option Value} (X : (hd.heap_39 w.params).In h₀) (T : TopH mean mg mb h₀) {oF : Obj} (ho : (hd.heap_39 w.params).lookup 168 = some oF) {A : Around} {s : Shared} {nz : Ledger} {Q : Flow → Shared → Prop} {E : Value → Shared → Prop} {L f sl dl mk : Addr} {cd : Value} {m : Str → Option Value} {ws : List Value} {ds : List (Int × Int × Addr)} {mt : List (Int × Tok)} {n0 n1 n2 : Nat}
    (hA : A.frames = some [envG oF.data L f cd]) (hdep : A.depth + 310 < recursionLimit) (hun : A.units + 2100 < cLine) (hh : A.handled = none) (F : Fr h₀ L s.heap m) (N : News h₀ L s.heap nz) (So : HardAll nz)
    (hm1 : m (Str.ofString "script") = some (.ref sl)) (hm2 : m (Str.ofString "deeds") = some (.ref dl)) (hm3 : m (Str.ofString "marks") = some (.ref mk))
    (hwl : ws.length ≤ 12) (hsl : (sl, listOf ws.toArray n0) ∈ nz) (hdl : (dl, listOf (ds.map fun p => Value.ref p.2.2).toArray n1) ∈ nz) (hmk : (mk, listOf (mt.map fun p => Value.int p.1 p.2).toArray n2) ∈ nz)
    (hdm : dl ≠ mk) (hds : ds.length = ws.length + 1) (hmt : mt.length = ws.length + 1) (hT : Tens ds) (hD : ∀ p ∈ ds, DeedAt nz p.2.2 p.1 p.2.1)
    (hQ : ∀ h' tk' m', Fr h₀ L h' m' → Q (.ret (.bool true)) { s with heap := h', toks := tk' }) :
    wpAny (model pg w) A (execs ((bodyOf oF.data).drop 3) (envG oF.data L f cd)) Q E s := by
  have h3 := Option.some.inj (ho.symm.trans (by k_is))
  subst h3
  clear ho
  dsimp only [bodyOf, envG, List.drop] at hA ⊢
  have hz40 : (40 : Nat) ≤ sizeLine := by decide
  k_steps
  refine Stop.go ?_
  refine len_list ⟨_, (N _ hsl).1, rfl, n0, rfl⟩ (by simp only [List.size_toArray]; omega) ?_
  k_steps
  refine Stop.go ?_
  with_reducible rename Fr _ _ _ _ => F1
  with_reducible rename News _ _ _ _ => N1
  rename_i D1 h1 l1
  have he : (11 : Int) + (ws.toArray.size : Int) = 10 + (ds.length : Int) := by rw [hds, List.size_toArray]; push_cast; omega
  rw [he] at N1
  obtain ⟨tkx, tky, N1⟩ : ∃ tkx tky, News h₀ L h1 ((D1, tupOf #[.int (10 + (ds.length : Int)) tkx, .int 0 tky] 0) :: nz) := ⟨_, _, N1⟩
  have hD1 : ∀ p ∈ ds ++ [(10 + (ds.length : Int), (0 : Int), D1)], DeedAt ((D1, tupOf #[.int (10 + (ds.length : Int)) tkx, .int 0 tky] 0) :: nz) p.2.2 p.1 p.2.1 := fun p hp => by
    rcases List.mem_append.mp hp with hp | hp
    · obtain ⟨a, b, c, d⟩ := hD p hp
      exact ⟨a, b, c, .tail _ d⟩
    · rw [mem_one hp]
      exact ⟨_, _, 0, .head _⟩
  have hT1 := tens_snoc hT 0 D1
  have hds1 : (ds ++ [(10 + (ds.length : Int), (0 : Int), D1)]).length = ws.length + 2 := by rw [List.length_append, hds]; rfl
  have So1 := So.push (a := D1) (hard_tup (us := #[.int (10 + (ds.length : Int)) tkx, .int 0 tky]) (k := 0))
  have em : (ds.map fun p : Int × Int × Addr => Value.ref p.2.2) ++ [.ref D1] = (ds ++ [(10 + (ds.length : Int), (0 : Int), D1)]).map fun p : Int × Int × Addr => Value.ref p.2.2 := by rw [List.map_append]; rfl
  have hmk1 : (mk, _) ∈ (D1, tupOf #[.int (10 + (ds.length : Int)) tkx, .int 0 tky] 0) :: nz := .tail _ hmk
  have hdl1 : (dl, _) ∈ (D1, tupOf #[.int (10 + (ds.length : Int)) tkx, .int 0 tky] 0) :: nz := .tail _ hdl
  generalize (D1, tupOf #[.int (10 + (ds.length : Int)) tkx, .int 0 tky] 0) :: nz = X1 at *
  refine append_L F1 N1 hdl1 (fun h2 k2 F2 N2 => ?_) (by rw [List.length_map]; omega)
  rw [em] at N2
  generalize ds ++ [(10 + (ds.length : Int), (0 : Int), D1)] = d2 at *
  have hD2 : ∀ p ∈ d2, DeedAt ((dl, listOf (d2.map fun p => Value.ref p.2.2).toArray k2) :: without X1 dl) p.2.2 p.1 p.2.1 := fun p hp => deedAt_turn N1 hdl1 (show Value.type "list" ≠ Value.type "tuple" by decide) (hD1 p hp)
  have So2 := So1.turn (a := dl) (b := dl) (hard_list (us := (d2.map fun p => Value.ref p.2.2).toArray) (k := k2))
  have hmk2 := without_mem hmk1 hdm.symm
  clear F1 N1 em he hD1 hD
  generalize without X1 dl = Y2 at *
  k_steps
  refine Stop.go ?_
  with_reducible rename Fr _ _ _ _ => F3
  with_reducible rename News _ _ _ _ => N3
  refine append_L F3 N3 (.tail _ hmk2) (fun h4 k4 F4 N4 => ?_) (by rw [List.length_map]; omega)
  obtain ⟨m4, hm4, N4⟩ : ∃ m4 : List (Int × Tok), m4.length = ws.length + 2 ∧ News h₀ L h4 ((mk, listOf (m4.map fun p : Int × Tok => Value.int p.1 p.2).toArray k4) :: without ((dl, listOf (d2.map fun p => Value.ref p.2.2).toArray k2) :: Y2) mk) := ⟨mt ++ [(2, _)], by rw [List.length_append, hmt]; rfl, by rw [List.map_append]; exact N4⟩
  have hD4 : ∀ p ∈ d2, DeedAt ((mk, listOf (m4.map fun p : Int × Tok => Value.int p.1 p.2).toArray k4) :: without ((dl, listOf (d2.map fun p => Value.ref p.2.2).toArray k2) :: Y2) mk) p.2.2 p.1 p.2.1 := fun p hp => deedAt_turn N3 (.tail _ hmk2) (show Value.type "list" ≠ Value.type "tuple" by decide) (hD2 p hp)
  have So4 := So2.turn (a := mk) (b := mk) (hard_list (us := (m4.map fun p : Int × Tok => Value.int p.1 p.2).toArray) (k := k4))
  have hdl4 : (dl, listOf (d2.map fun p => Value.ref p.2.2).toArray k2) ∈ (mk, listOf (m4.map fun p : Int × Tok => Value.int p.1 p.2).toArray k4) :: without ((dl, listOf (d2.map fun p => Value.ref p.2.2).toArray k2) :: Y2) mk := .tail _ (without_mem (.head _) hdm)
  have hmk4 : (mk, listOf (m4.map fun p : Int × Tok => Value.int p.1 p.2).toArray k4) ∈ (mk, listOf (m4.map fun p : Int × Tok => Value.int p.1 p.2).toArray k4) :: without ((dl, listOf (d2.map fun p => Value.ref p.2.2).toArray k2) :: Y2) mk := .head _
  clear F3 N3 hD2 So2 hmk2 hmk1 hdl1 So1 hmk hdl hsl So
  generalize (mk, listOf (m4.map fun p : Int × Tok => Value.int p.1 p.2).toArray k4) :: without ((dl, listOf (d2.map fun p => Value.ref p.2.2).toArray k2) :: Y2) mk = X4 at *
  k_steps
  refine Stop.go ?_
  with_reducible rename Fr _ _ _ _ => F5
  with_reducible rename News _ _ _ _ => N5
  rename_i Z5 h5 l5
  have hsz : (d2.map fun p : Int × Int × Addr => Value.ref p.2.2).toArray.size = d2.length := by rw [List.size_toArray, List.length_map]
  have hdl5 : (dl, listOf (d2.map fun p => Value.ref p.2.2).toArray k2) ∈ (Z5, listOf #[Value.int 0 (s.toks + 1 + 1 + 1 + 1 + 1 + 1)] 0) :: X4 := .tail _ hdl4
  refine len_list ⟨_, (N5 _ hdl5).1, rfl, k2, rfl⟩ (by rw [hsz]; omega) ?_
  k_steps
  refine Stop.go ?_
  refine KMa.mul F5 N5 (vs := [Value.int 0 (s.toks + 1 + 1 + 1 + 1 + 1 + 1)]) ⟨_, (N5 _ (.head _)).1, rfl, 0, rfl⟩ (by omega) (by rw [hsz]; omega) (by rw [hsz, Int.toNat_natCast]; simp only [List.length_singleton]; omega) (rep_marks' 0 _ hsz) fun M6 h6 F6 N6 l6 => ?_
  clear F5 N5
  k_steps
  refine Stop.go ?_
  have N6' : News h₀ L h6 ((M6, listOf ((List.replicate d2.length ((0 : Int), s.toks + 1 + 1 + 1 + 1 + 1 + 1)).map fun p : Int × Tok => Value.int p.1 p.2).toArray 0) :: X4) := fun p hp => by
    rcases List.mem_cons.mp hp with rfl | hp
    · exact N6 _ (.head _)
    · exact N6 p (.tail _ (.tail _ hp))
  have hl14 : d2.length ≤ 14 := by omega
  refine run_call X T hA rfl rfl (by omega) (by omega) hh F6 N6' ((So4.push hard_list).ok) (.tail _ hdl4) (marks_rep (.head _)) (by rw [List.length_replicate]) hl14 hT1 (fun p hp => let ⟨a, b, c, d⟩ := hD4 p hp; ⟨a, b, c, .tail _ d⟩) fun t7 h7 tk7 nz7 F7 N7 So7 St7 V7 => ?_
  clear F6 N6 N6' l6 hdl5 l5
  have kp : ∀ {p : Addr × Obj}, p ∈ X4 → IsSeq p.2 → p ∈ nz7 := fun {p} hp ⟨vs, n, e⟩ => St7.keeps (.tail _ hp) (by simp) (fun _ z => by rw [e] at z; cases z) fun _ _ z => by rw [e] at z; cases z
  have hdl7 := kp hdl4 ⟨_, _, rfl⟩
  have hmk7 := kp hmk4 ⟨_, _, rfl⟩
  have hD7 : ∀ p ∈ d2, DeedAt nz7 p.2.2 p.1 p.2.1 := fun p hp => let ⟨a, b, c, d⟩ := hD4 p hp; ⟨a, b, c, kp d ⟨_, _, rfl⟩⟩
  clear St7 hdl4 hmk4 hD4 So4 kp
  have hok : kqdOk 60 (runD (run (foldU (units (zipD d2) (List.replicate d2.length 0))))) = true := by
    have e := (units_len d2.length (zipD d2) (List.replicate d2.length 0) (by simp [zipD]) (by simp)).1
    have e2 : (zipD d2).length = d2.length := by simp [zipD]
    exact kqdOk_le (runD_ok (run_ok _)) (by omega)
  have same : ∀ ms : List Int, ms.length = d2.length → runD (run (foldU (units (zipD d2) ms))) = runD (run (foldU (units (zipD d2) (List.replicate d2.length 0)))) := fun ms h => congrArg runD (run_fold (by simp [zipD, h]) (by simp [zipD]))
  generalize runD (run (foldU (units (zipD d2) (List.replicate d2.length 0)))) = W0 at *
  k_steps
  refine Stop.go ?_
  with_reducible rename Fr _ _ _ _ => F8
  with_reducible rename News _ _ _ _ => N8
  have hmlen : (m4.map (·.1)).length = d2.length := by rw [List.length_map]; omega
  refine run_call X T hA rfl rfl (by omega) (by omega) hh F8 N8 So7 hdl7 ⟨m4, k4, hmk7, rfl⟩ hmlen hl14 hT1 hD7 fun t9 h9 tk9 nz9 F9 N9 So9 St9 V9 => ?_
  rw [same _ hmlen] at V9
  clear F8 N8
  have kp : ∀ {p : Addr × Obj}, p ∈ nz7 → IsSeq p.2 → p ∈ nz9 := fun {p} hp ⟨vs, n, e⟩ => St9.keeps hp (by simp) (fun _ z => by rw [e] at z; cases z) fun _ _ z => by rw [e] at z; cases z
  have hdl9 := kp hdl7 ⟨_, _, rfl⟩
  have hD9 : ∀ p ∈ d2, DeedAt nz9 p.2.2 p.1 p.2.1 := fun p hp => let ⟨a, b, c, d⟩ := hD7 p hp; ⟨a, b, c, kp d ⟨_, _, rfl⟩⟩
  have W9 := vd_step St9 V7
  clear kp V7 hD7 hdl7 hmk7 So7 St9
  k_steps
  refine Stop.go ?_
  with_reducible rename Fr _ _ _ _ => F10
  with_reducible rename News _ _ _ _ => N10
  refine eq_same N10 V9 W9 hok (by omega) ?_
  k_steps
  refine Stop.go ?_
  with_reducible rename Fr _ _ _ _ => F11
  with_reducible rename News _ _ _ _ => N11
  rename_i Z11 h11 l11
  have hdl11 : (dl, listOf (d2.map fun p => Value.ref p.2.2).toArray k2) ∈ (Z11, listOf #[Value.int 2 tk9] 0) :: nz9 := .tail _ hdl9
  refine len_list ⟨_, (N11 _ hdl11).1, rfl, k2, rfl⟩ (by rw [hsz]; omega) ?_
  k_steps
  refine Stop.go ?_
  refine KMa.mul F11 N11 (vs := [Value.int 2 tk9]) ⟨_, (N11 _ (.head _)).1, rfl, 0, rfl⟩ (by omega) (by rw [hsz]; omega) (by rw [hsz, Int.toNat_natCast]; simp only [List.length_singleton]; omega) (rep_marks' 2 _ hsz) fun M12 h12 F12 N12 l12 => ?_
  clear F11 N11
  k_steps
  refine Stop.go ?_
  have N12' : News h₀ L h12 ((M12, listOf ((List.replicate d2.length ((2 : Int), tk9)).map fun p : Int × Tok => Value.int p.1 p.2).toArray 0) :: nz9) := fun p hp => by
    rcases List.mem_cons.mp hp with rfl | hp
    · exact N12 _ (.head _)
    · exact N12 p (.tail _ (.tail _ hp))
  have So12 : SoftOK ((M12, listOf ((List.replicate d2.length ((2 : Int), tk9)).map fun p : Int × Tok => Value.int p.1 p.2).toArray 0) :: nz9) := So9.cons fun x => hard_list x.soft
  refine run_call X T hA rfl rfl (by omega) (by omega) hh F12 N12' So12 (.tail _ hdl9) (marks_rep (.head _)) (by rw [List.length_replicate]) hl14 hT1 (fun p hp => let ⟨a, b, c, d⟩ := hD9 p hp; ⟨a, b, c, .tail _ d⟩) fun t13 h13 tk13 nz13 F13 N13 So13 St13 V13 => ?_
  rw [same _ (by rw [List.length_replicate])] at V13
  have W13 := vd_step ((Step.sub fun _ q => .tail _ q).trans St13) W9
  clear F12 N12 N12' So12 hdl11
  k_steps
  refine Stop.go ?_
  with_reducible rename Fr _ _ _ _ => F14
  with_reducible rename News _ _ _ _ => N14
  refine eq_same N14 V13 W13 hok (by omega) ?_
  k_steps
  exact hQ _ _ _ F14
end Mine
namespace Mine
open PySem PySem.W PySem.Calls PyProof.Rows
local macro_rules | `(tactic| walk_at "call ref") => `(tactic| refine Stop.of ?_)
local macro_rules | `(tactic| walk_at "exec For") => `(tactic| refine Stop.of ?_)
local macro_rules | `(tactic| walk_at "exec For Name Call cons nil") => `(tactic| refine Stop.of ?_)
local macro_rules | `(tactic| k_mem) => `(tactic| assumption)
theorem ints12 {ws : List Value} {ns : List Int} (_ : IntsAre ws (List.take 12 ns)) : (List.take 12 ns).length ≤ 12 := Nat.le_trans (Nat.le_of_eq List.length_take) (Nat.min_le_left _ _)
theorem caller_dep (env : Env) : (callerA.deeper env).depth + 310 < recursionLimit := by
  show 1 + claimMargin + 1 + 310 < recursionLimit
  decide
theorem caller_un (env : Env) : (callerA.deeper env).units + 2100 < cLine := by
  show 4 + 3 + 2100 < cLine
  decide
theorem caller_fr (env : Env) : (callerA.deeper env).frames = some [env] := Around.frames_deeper rfl
theorem joined : PySem.Challenge.rw_fe0222_01.Holds := hd (by
  k_go0
  all_goals (try k_fold)
  k_steps
  refine Stop.go ?_
  with_reducible rename Fr _ _ _ _ => F1
  with_reducible rename News _ _ _ _ => N1
  with_reducible rename Top _ _ _ _ _ _ => T1
  with_reducible rename PySem.W.Frag.In _ _ => X1
  with_reducible rename World => w1
  with_reducible rename IntsAre _ (List.take _ _) => hI1
  with_reducible rename _ = #[] => hg1
  rw [loose_is] at T1
  obtain ⟨oF, hoF⟩ : ∃ oF, oF = oF ∧ (hd.heap_39 w1.params).lookup 168 = some oF := ⟨_, rfl, by k_is⟩
  obtain ⟨-, hoF⟩ := hoF
  have h3F := Option.some.inj (hoF.symm.trans (by k_is))
  subst h3F
  have hwl := hI1.length
  have hl12 := ints12 hI1
  refine law_loop X1 T1 hoF (Nat.lt_of_le_of_lt (Nat.add_le_add_left (by decide) _) (caller_dep _)) (Nat.lt_of_le_of_lt (Nat.add_le_add_left (by decide) _) (caller_un _)) rfl F1 N1 ?_ rfl rfl rfl hI1 hl12 (.tail _ (.tail _ (.tail _ (.tail _ (.head _))))) (.tail _ (.tail _ (.head _))) (.tail _ (.head _)) (.tail _ (.tail _ (.tail _ (.head _)))) ?_ ?_ ?_ ?_
  · intro p hp
    rcases List.mem_cons.mp hp with rfl | hp
    · exact hard_tup
    rcases List.mem_cons.mp hp with rfl | hp
    · exact hard_list
    rcases List.mem_cons.mp hp with rfl | hp
    · exact hard_list
    rcases List.mem_cons.mp hp with rfl | hp
    · exact hard_tup
    rcases List.mem_cons.mp hp with rfl | hp
    · exact hard_list
    · cases hp
  · exact Nat.ne_of_lt (by omega)
  · exact Nat.ne_of_lt (by omega)
  · exact Nat.ne_of_lt (by omega)
  · intro h5 tk5 m5 nz5 ds5 mt5 k1 k2 F5 N5 So5 a1 a2 a3 a4 a5 a6 a7 a8 a9 a10
    show wpAny _ _ _ _ _ _
    refine law_rest X1 T1 hoF (caller_fr _) (caller_dep _) (caller_un _) rfl F5 N5 So5 a1 a2 a3 (hwl ▸ hl12) a4 a5 a6 (Nat.ne_of_lt (by omega)) (hwl ▸ a7) (hwl ▸ a8) a9 a10 fun h6 tk6 m6 F6 => ?_
    refine goodW_bool F6 hg1 (raisesW_false ?_) ?_
    · wrow_none_raised
    · wrow_post)
end Mine
theorem PySem.Challenge.cw_fe0222_01_holds : PySem.Challenge.rw_fe0222_01.Holds := by
  exact Mine.joined
