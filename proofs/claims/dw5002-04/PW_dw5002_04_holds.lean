import PyProof.Rows.All
import KE.KItem
import KE.KPar
import Wide.FinOn
import OpenK.AllK
import Wide.All
import PySem.Challenge.RW_dw5002_04
set_option Elab.async false
section
open PySem PySem.W PySem.Calls PyProof.Rows
set_option maxRecDepth 100000
namespace Mine
class Ban where
  no : Addr → Prop
variable [Ban]
set_option linter.unusedSectionVars false
inductive PV where
  | none
  | bool (b : Bool)
  | int (i : Int)
  | str (s : Str)
  | tup (l : List PV)
  | ref (i : Nat)
  | rng (a b c : Int)
  | lit (v : Value)
abbrev Lay := List (Addr × Addr)
def IsT (o : Obj) : Prop := (o.cls = .type "tuple" ∧ ∃ vs n, o.data = .seq vs n) ∨ (o.cls = .type "range" ∧ ∃ vs, o.data = .fields vs)
def IsCd (o : Obj) : Prop := o.cls = .type "code" ∧ ∃ vs, o.data = .fields vs
mutual
def VR (h : Heap) (β : Lay) : PV → Value → Prop
  | .none, v => v = .none
  | .bool b, v => v = .bool b
  | .int i, v => ∃ t, v = .int i t
  | .str s, v => ∃ t, v = .str s t
  | .tup l, v => ∃ a d vs n sl, v = .ref a ∧ h.get? a = some ⟨.type "tuple", d, .seq vs n, sl⟩ ∧ ¬ Ban.no a ∧ VRs h β l vs.toList
  | .ref i, v => ∃ p, β[i]? = some p ∧ v = .ref p.1
  | .rng a b c, v => ∃ r t u w, v = .ref r ∧ IsRange h r a b c t u w
  | .lit u, v => v = u
def VRs (h : Heap) (β : Lay) : List PV → List Value → Prop
  | [], vs => vs = []
  | p :: l, vs => ∃ v r, vs = v :: r ∧ VR h β p v ∧ VRs h β l r
end
inductive PO where
  | list (l : List PV)
  | inst (C : Addr) (fs : List PV)
  | acc (C : Addr) (fs : List PV) (l : List PV)
def FsR (h : Heap) (β : Lay) : List Str → List PV → List DictEntry → Prop
  | _, [], es => es = []
  | [], _ :: _, _ => False
  | x :: ns, p :: fs, es => ∃ e r, es = e :: r ∧ (∃ t, e.key = .str x t) ∧ VR h β p e.val ∧ FsR h β ns fs r
def ObjAt (fl : Addr → List Str) (h : Heap) (β : Lay) (p : Addr × Addr) : PO → Prop
  | .list l => p.2 = p.1 ∧ ∃ vs n, h.get? p.1 = some ⟨.type "list", none, .seq vs n, #[]⟩ ∧ VRs h β l vs.toList
  | .inst C fs => ∃ es n, h.get? p.1 = some ⟨.ref C, some p.2, .plain, #[]⟩ ∧ h.get? p.2 = some (dictOf es n) ∧ FsR h β (fl C) fs es
  | .acc C fs l => ∃ es n vs k, h.get? p.1 = some ⟨.ref C, some p.2, .seq vs k, #[]⟩ ∧ h.get? p.2 = some (dictOf es n) ∧ FsR h β (fl C) fs es ∧ VRs h β l vs.toList
def In (b : Addr) (β : Lay) : Prop := ∃ p ∈ β, b = p.1 ∨ b = p.2
structure TabSpec where
  c : Addr
  P : Addr
  pos : Pos
  qual : Str
structure GC where
  prog : Program
  w : World
  K : Frag
  h₀ : Heap
  tabs : List TabSpec
  mg : Str → Option Value
  mb : Str → Option Value
  flds : Addr → List Str
def GC.TB (G : GC) (b : Addr) : Prop := ∃ t ∈ G.tabs, t.P = b
def TabOk (h₀ h : Heap) (t : TabSpec) : Prop :=
  ∃ ps ps₀ more, h₀.TableAt t.c t.P ps₀ ∧ ps = ps₀ ++ more ∧ h.IsCode t.c t.P ps ∧ h.TableAt t.c t.P ps ∧
    (codeAmong t.pos ps.toList = none ∨ ∃ c', codeAmong t.pos ps.toList = some (.ref c') ∧ h.CodeRec (.ref c') t.qual ∧ ∃ oc, h.get? c' = some oc ∧ IsCd oc)
structure Base (G : GC) (h : Heap) : Prop where
  old : ∀ b o, G.h₀.get? b = some o → ¬ G.TB b → h.get? b = some o
  tab : ∀ t ∈ G.tabs, TabOk G.h₀ h t
  no : ∀ a, Ban.no a → ∃ o, h.get? a = some o ∧ IsT o
structure Rel (G : GC) (h : Heap) (β : Lay) (σ : List PO) : Prop where
  base : Base G h
  len : β.length = σ.length
  at_ : ∀ (i : Nat) p o, β[i]? = some p → σ[i]? = some o → ObjAt G.flds h β p o
  apart : ∀ (i j : Nat) p q, β[i]? = some p → β[j]? = some q → i ≠ j → p.1 ≠ q.1 ∧ p.1 ≠ q.2 ∧ p.2 ≠ q.1 ∧ p.2 ≠ q.2
  fresh : ∀ b, In b β → G.h₀.get? b = none
structure Step (G : GC) (h : Heap) (β : Lay) (h' : Heap) (β' : Lay) : Prop where
  ext : ∃ γ, β' = β ++ γ
  keep : ∀ b o, h.get? b = some o → ¬ In b β → ¬ G.TB b → h'.get? b = some o
  there : ∀ b o, h.get? b = some o → ∃ o', h'.get? b = some o'
  tup : ∀ b o, h.get? b = some o → IsT o → h'.get? b = some o
  new : ∀ b, In b β' → In b β ∨ h.get? b = none
mutual
theorem VR.mono {h h' : Heap} {β β' : Lay} (hb : ∀ (i : Nat) p, β[i]? = some p → β'[i]? = some p) (ht : ∀ b o, h.get? b = some o → IsT o → h'.get? b = some o) :
    ∀ (p : PV) (v : Value), VR h β p v → VR h' β' p v
  | .none, _, e => e
  | .bool _, _, e => e
  | .int _, _, e => e
  | .str _, _, e => e
  | .tup l, _, ⟨a, d, vs, n, sl, e, g, nb, r⟩ => ⟨a, d, vs, n, sl, e, ht _ _ g (.inl ⟨rfl, _, _, rfl⟩), nb, VRs.mono hb ht l _ r⟩
  | .ref _, _, ⟨p, e, r⟩ => ⟨p, hb _ _ e, r⟩
  | .rng _ _ _, _, ⟨r, t, u, w, e, g⟩ => ⟨r, t, u, w, e, ht _ _ g (.inr ⟨rfl, _, rfl⟩)⟩
  | .lit _, _, e => e
theorem VRs.mono {h h' : Heap} {β β' : Lay} (hb : ∀ (i : Nat) p, β[i]? = some p → β'[i]? = some p) (ht : ∀ b o, h.get? b = some o → IsT o → h'.get? b = some o) :
    ∀ (l : List PV) (vs : List Value), VRs h β l vs → VRs h' β' l vs
  | [], _, e => e
  | p :: l, _, ⟨v, r, e, a, b⟩ => ⟨v, r, e, VR.mono hb ht p v a, VRs.mono hb ht l r b⟩
end
theorem FsR.mono {h h' : Heap} {β β' : Lay} (hb : ∀ (i : Nat) p, β[i]? = some p → β'[i]? = some p) (ht : ∀ b o, h.get? b = some o → IsT o → h'.get? b = some o) :
    ∀ (ns : List Str) (l : List PV) (es : List DictEntry), FsR h β ns l es → FsR h' β' ns l es
  | [], [], _, e => e
  | _ :: _, [], _, e => e
  | [], _ :: _, _, e => e
  | _ :: ns, p :: l, _, ⟨e, r, a, b, c, d⟩ => ⟨e, r, a, b, VR.mono hb ht p _ c, FsR.mono hb ht ns l r d⟩
theorem VRs.length {h : Heap} {β : Lay} : ∀ {l : List PV} {vs : List Value}, VRs h β l vs → vs.length = l.length
  | [], _, e => by rw [show _ = [] from e]; rfl
  | _ :: _, _, ⟨v, r, e, _, b⟩ => by rw [e, List.length_cons, List.length_cons, b.length]
theorem VRs.get {h : Heap} {β : Lay} : ∀ {l : List PV} {vs : List Value}, VRs h β l vs → ∀ {i : Nat} {p : PV}, l[i]? = some p → ∃ v, vs[i]? = some v ∧ VR h β p v
  | _ :: _, _, ⟨v, r, e, a, _⟩, 0, p, q => by cases q; exact ⟨v, by rw [e]; rfl, a⟩
  | _ :: l, _, ⟨v, r, e, _, b⟩, i + 1, p, q => by
    obtain ⟨u, hu, hr⟩ := b.get (i := i) (p := p) (by simpa using q)
    exact ⟨u, by rw [e]; simpa using hu, hr⟩
theorem VRs.append {h : Heap} {β : Lay} : ∀ {l l' : List PV} {vs vs' : List Value}, VRs h β l vs → VRs h β l' vs' → VRs h β (l ++ l') (vs ++ vs')
  | [], _, _, _, e, r => by rw [show _ = [] from e]; exact r
  | p :: l, _, _, _, ⟨v, r, e, a, b⟩, q => ⟨v, _, by rw [e]; rfl, a, b.append q⟩
theorem VRs.one {h : Heap} {β : Lay} {p : PV} {v : Value} (r : VR h β p v) : VRs h β [p] [v] := ⟨v, [], rfl, r, rfl⟩
theorem VRs.take {h : Heap} {β : Lay} : ∀ {l : List PV} {vs : List Value}, VRs h β l vs → ∀ k, VRs h β (l.take k) (vs.take k)
  | [], _, e, k => by rw [show _ = [] from e]; simp [VRs]
  | _ :: _, _, _, 0 => by simp [VRs]
  | p :: l, _, ⟨v, r, e, a, b⟩, k + 1 => by rw [e]; exact ⟨v, _, rfl, a, b.take k⟩
theorem VRs.drop {h : Heap} {β : Lay} : ∀ {l : List PV} {vs : List Value}, VRs h β l vs → ∀ k, VRs h β (l.drop k) (vs.drop k)
  | [], _, e, k => by rw [show _ = [] from e]; simp [VRs]
  | p :: l, _, ⟨v, r, e, a, b⟩, 0 => ⟨v, r, e, a, b⟩
  | p :: l, _, ⟨v, r, e, a, b⟩, k + 1 => by rw [e]; exact b.drop k
theorem VRs.set {h : Heap} {β : Lay} {p' : PV} {v' : Value} (q : VR h β p' v') : ∀ {l : List PV} {vs : List Value}, VRs h β l vs → ∀ k, VRs h β (l.set k p') (vs.set k v')
  | [], _, e, k => by rw [show _ = [] from e]; simp [VRs]
  | p :: l, _, ⟨v, r, e, a, b⟩, 0 => by rw [e]; exact ⟨v', r, rfl, q, b⟩
  | p :: l, _, ⟨v, r, e, a, b⟩, k + 1 => by rw [e]; exact ⟨v, _, rfl, a, b.set q k⟩
theorem In.of_get {β : Lay} {i : Nat} {p : Addr × Addr} (e : β[i]? = some p) : In p.1 β ∧ In p.2 β := ⟨⟨p, List.mem_of_getElem? e, .inl rfl⟩, ⟨p, List.mem_of_getElem? e, .inr rfl⟩⟩
theorem ext_get {β γ : Lay} {i : Nat} {p : Addr × Addr} (e : β[i]? = some p) : (β ++ γ)[i]? = some p := by
  rw [List.getElem?_append_left]
  · exact e
  · exact (List.getElem?_eq_some_iff.mp e).1
section
variable {G : GC} {h h' h₁ h₂ : Heap} {β β' β₁ β₂ : Lay} {σ : List PO}
theorem Step.get (S : Step G h β h' β') : ∀ (i : Nat) p, β[i]? = some p → β'[i]? = some p := by
  obtain ⟨γ, rfl⟩ := S.ext
  exact fun i p e => ext_get e
theorem Step.vr (S : Step G h β h' β') {p : PV} {v : Value} (r : VR h β p v) : VR h' β' p v := r.mono S.get S.tup
theorem Step.vrs (S : Step G h β h' β') {p : List PV} {v : List Value} (r : VRs h β p v) : VRs h' β' p v := r.mono S.get S.tup
theorem Step.refl (G : GC) (h : Heap) (β : Lay) : Step G h β h β := ⟨⟨[], by simp⟩, fun _ _ e _ _ => e, fun _ o e => ⟨o, e⟩, fun _ _ e _ => e, fun _ e => .inl e⟩
theorem Step.inl (S : Step G h β h' β') {b : Addr} (i : In b β) : In b β' := by
  obtain ⟨γ, rfl⟩ := S.ext
  obtain ⟨p, hp, e⟩ := i
  exact ⟨p, List.mem_append_left _ hp, e⟩
theorem Step.notIn (S : Step G h β h' β') {b : Addr} {o : Obj} (e : h.get? b = some o) (n : ¬ In b β) : ¬ In b β' := fun i => by
  rcases S.new b i with i | i
  · exact n i
  · rw [e] at i; cases i
theorem Step.trans (S : Step G h β h₁ β₁) (T : Step G h₁ β₁ h₂ β₂) : Step G h β h₂ β₂ := by
  refine ⟨?_, fun b o e n q => T.keep b o (S.keep b o e n q) (S.notIn e n) q, fun b o e => ?_, fun b o e c => T.tup b o (S.tup b o e c) c, fun b i => ?_⟩
  · obtain ⟨γ, rfl⟩ := S.ext
    obtain ⟨δ, rfl⟩ := T.ext
    exact ⟨γ ++ δ, by simp⟩
  · obtain ⟨o', e'⟩ := S.there b o e
    exact T.there b o' e'
  · rcases T.new b i with i | i
    · exact S.new b i
    · right
      cases q : h.get? b with
      | none => rfl
      | some o =>
        obtain ⟨o', e'⟩ := S.there b o q
        rw [e'] at i; cases i
theorem ObjAt.same {p : Addr × Addr} {o : PO} (hb : ∀ (i : Nat) p, β[i]? = some p → β'[i]? = some p) (ht : ∀ b o, h.get? b = some o → IsT o → h'.get? b = some o)
    (h1 : ∀ o, h.get? p.1 = some o → h'.get? p.1 = some o) (h2 : ∀ o, h.get? p.2 = some o → h'.get? p.2 = some o) (x : ObjAt G.flds h β p o) : ObjAt G.flds h' β' p o := by
  cases o with
  | list l =>
    obtain ⟨e, vs, n, a, b⟩ := x
    exact ⟨e, vs, n, h1 _ a, b.mono hb ht⟩
  | inst C fs =>
    obtain ⟨es, n, a, b, c⟩ := x
    exact ⟨es, n, h1 _ a, h2 _ b, c.mono hb ht⟩
  | acc C fs l =>
    obtain ⟨es, n, vs, k, a, b, c, d⟩ := x
    exact ⟨es, n, vs, k, h1 _ a, h2 _ b, c.mono hb ht, d.mono hb ht⟩
def Soft (o : Obj) : Prop := ¬ IsT o ∧ ¬ IsCd o
theorem soft_of {o : Obj} (h1 : (o.cls == .type "tuple") = false) (h2 : (o.cls == .type "range") = false) (h3 : (o.cls == .type "code") = false) : Soft o :=
  ⟨fun z => z.elim (fun q => by rw [q.1] at h1; simp at h1) fun q => by rw [q.1] at h2; simp at h2, fun z => by rw [z.1] at h3; simp at h3⟩
theorem ObjAt.soft {p : Addr × Addr} {o : PO} (x : ObjAt G.flds h β p o) : (∃ o, h.get? p.1 = some o ∧ Soft o) ∧ ∃ o, h.get? p.2 = some o ∧ Soft o := by
  cases o with
  | list l =>
    obtain ⟨e, vs, n, a, b⟩ := x
    have : ∃ o, h.get? p.1 = some o ∧ Soft o := ⟨_, a, soft_of rfl rfl rfl⟩
    exact ⟨this, e ▸ this⟩
  | inst C fs =>
    obtain ⟨es, n, a, b, c⟩ := x
    exact ⟨⟨_, a, soft_of rfl rfl rfl⟩, ⟨_, b, soft_of rfl rfl rfl⟩⟩
  | acc C fs l =>
    obtain ⟨es, n, vs, k, a, b, c, d⟩ := x
    exact ⟨⟨_, a, soft_of rfl rfl rfl⟩, ⟨_, b, soft_of rfl rfl rfl⟩⟩
theorem Rel.soft (R : Rel G h β σ) {b : Addr} (i : In b β) : ∃ o, h.get? b = some o ∧ Soft o := by
  obtain ⟨p, hp, e⟩ := i
  obtain ⟨k, hk, rfl⟩ := List.mem_iff_getElem.mp hp
  have hk' : k < σ.length := R.len ▸ hk
  have x := R.at_ k _ _ (List.getElem?_eq_getElem hk) (List.getElem?_eq_getElem hk')
  rcases e with rfl | rfl
  · exact x.soft.1
  · exact x.soft.2
theorem TabOk.keeps {h₀ : Heap} {t : TabSpec} (x : TabOk h₀ h t) (k : ∀ b o, h.get? b = some o → h'.get? b = some o) : TabOk h₀ h' t := by
  obtain ⟨ps, ps₀, more, a, b, c, d, e⟩ := x
  refine ⟨ps, ps₀, more, a, b, c.keeps k, d.keeps k, e.imp id ?_⟩
  rintro ⟨c', e1, e2, oc, e3, e4⟩
  exact ⟨c', e1, e2.keeps k, oc, k _ _ e3, e4⟩
theorem TabOk.update {h₀ : Heap} {t : TabSpec} {a : Addr} {o : Obj} (x : TabOk h₀ h t) (hs : Heap.SameBut a h h') (hn : h₀.get? a = none) (ho : h.get? a = some o) (so : Soft o) : TabOk h₀ h' t := by
  obtain ⟨ps, ps₀, more, q, b, c, d, e⟩ := x
  have n1 : t.c ≠ a := by
    rintro rfl
    obtain ⟨⟨oo, vs, g, _⟩, _⟩ := q
    rw [hn] at g; cases g
  have n2 : t.P ≠ a := by
    rintro rfl
    have := q.2
    rw [hn] at this; cases this
  refine ⟨ps, ps₀, more, q, b, c.sameBut hs n1 n2, d.sameBut hs n1 n2, e.imp id ?_⟩
  rintro ⟨c', e1, ⟨c'', oo, vs, tt, f1, f2, f3, f4⟩, oc, e3, e4⟩
  cases f1
  have n3 : c' ≠ a := by
    rintro rfl
    rw [e3] at ho; cases ho
    exact so.2 e4
  exact ⟨c', e1, ⟨c', oo, vs, tt, rfl, (hs.2 _ n3).trans f2, f3, f4⟩, oc, (hs.2 _ n3).trans e3, e4⟩
theorem Base.tb_old (B : Base G h) {b : Addr} (t : G.TB b) : ∃ o, G.h₀.get? b = some o := by
  obtain ⟨x, hx, rfl⟩ := t
  obtain ⟨_, _, _, q, _⟩ := B.tab x hx
  exact ⟨_, q.2⟩
theorem Base.keeps (B : Base G h) (k : ∀ b o, h.get? b = some o → h'.get? b = some o) : Base G h' :=
  ⟨fun b o e n => k _ _ (B.old b o e n), fun t ht => (B.tab t ht).keeps k, fun a n => let ⟨o, e, t⟩ := B.no a n; ⟨o, k _ _ e, t⟩⟩
theorem Base.update {a : Addr} {o : Obj} (B : Base G h) (hs : Heap.SameBut a h h') (hn : G.h₀.get? a = none) (ho : h.get? a = some o) (so : Soft o) : Base G h' :=
  ⟨fun b o' e n => (hs.2 b fun z => by rw [z, hn] at e; cases e).trans (B.old b o' e n), fun t ht => (B.tab t ht).update hs hn ho so, fun c n => let ⟨o', e, t⟩ := B.no c n; ⟨o', (hs.2 c fun z => by subst z; rw [ho] at e; cases e; exact so.1 t).trans e, t⟩⟩
theorem Rel.keeps (R : Rel G h β σ) (k : ∀ b o, h.get? b = some o → h'.get? b = some o) : Rel G h' β σ :=
  ⟨R.base.keeps k, R.len, fun i p o e1 e2 => (R.at_ i p o e1 e2).same (fun _ _ e => e) (fun b o e _ => k b o e) (fun o e => k _ o e) fun o e => k _ o e, R.apart, R.fresh⟩
theorem Step.keeps (k : ∀ b o, h.get? b = some o → h'.get? b = some o) : Step G h β h' β := ⟨⟨[], by simp⟩, fun b o e _ _ => k b o e, fun b o e => ⟨o, k b o e⟩, fun b o e _ => k b o e, fun _ i => .inl i⟩
structure Own (G : GC) (h : Heap) (β : Lay) (a : Addr) : Prop where
  notIn : ¬ In a β
  fresh : G.h₀.get? a = none
  soft : ∃ o, h.get? a = some o ∧ Soft o
theorem Own.tb {a : Addr} (O : Own G h β a) (B : Base G h) : ¬ G.TB a := fun t => by
  obtain ⟨o, e⟩ := B.tb_old t
  rw [O.fresh] at e; cases e
theorem Own.step {a : Addr} (O : Own G h β a) (B : Base G h) (S : Step G h β h' β') : Own G h' β' a := by
  obtain ⟨o, e, s⟩ := O.soft
  exact ⟨S.notIn e O.notIn, O.fresh, o, S.keep a o e O.notIn (O.tb B), s⟩
theorem Rel.sameBut {a : Addr} (R : Rel G h β σ) (O : Own G h β a) (hs : Heap.SameBut a h h') : Rel G h' β σ := by
  obtain ⟨o, e, s⟩ := O.soft
  have n : ∀ b, In b β → b ≠ a := fun b i z => O.notIn (z ▸ i)
  refine ⟨R.base.update hs O.fresh e s, R.len, fun i p o e1 e2 => ?_, R.apart, R.fresh⟩
  refine (R.at_ i p o e1 e2).same (fun _ _ e => e) (fun b o' e' c => (hs.2 b fun z => ?_).trans e') (fun o e' => (hs.2 _ (n _ (In.of_get e1).1)).trans e') fun o e' => (hs.2 _ (n _ (In.of_get e1).2)).trans e'
  subst z
  rw [e] at e'; cases e'
  exact s.1 c
theorem Rel.ne {i : Nat} {p : Addr × Addr} (R : Rel G h β σ) (hi : β[i]? = some p) {j : Nat} {q : Addr × Addr} (hj : β[j]? = some q) (n : j ≠ i) : q.1 ≠ p.1 ∧ q.1 ≠ p.2 ∧ q.2 ≠ p.1 ∧ q.2 ≠ p.2 := R.apart j i q p hj hi n
theorem Rel.set {i : Nat} {p : Addr × Addr} {a : Addr} {o' : PO} (R : Rel G h β σ) (hi : β[i]? = some p) (ha : a = p.1 ∨ a = p.2) (hs : Heap.SameBut a h h')
    (hat : (∀ b o, h.get? b = some o → IsT o → h'.get? b = some o) → (∀ b, b ≠ a → h'.get? b = h.get? b) → ObjAt G.flds h' β p o') : Rel G h' β (σ.set i o') := by
  have ia : In a β := by rcases ha with rfl | rfl; exact (In.of_get hi).1; exact (In.of_get hi).2
  obtain ⟨o, e, s⟩ := R.soft ia
  have tp : ∀ b o, h.get? b = some o → IsT o → h'.get? b = some o := fun b o' e' c => (hs.2 b fun z => by subst z; rw [e] at e'; cases e'; exact s.1 c).trans e'
  refine ⟨R.base.update hs (R.fresh a ia) e s, by rw [List.length_set]; exact R.len, fun j q o e1 e2 => ?_, R.apart, R.fresh⟩
  by_cases n : j = i
  · subst n
    rw [hi] at e1; cases e1
    have : o = o' := by
      rw [List.getElem?_set_self (by rw [← R.len]; exact (List.getElem?_eq_some_iff.mp hi).1)] at e2
      exact (Option.some.inj e2).symm
    subst this
    exact hat tp hs.2
  · rw [List.getElem?_set_ne (Ne.symm n)] at e2
    have z := R.ne hi e1 n
    have z1 : q.1 ≠ a := by rcases ha with rfl | rfl; exact z.1; exact z.2.1
    have z2 : q.2 ≠ a := by rcases ha with rfl | rfl; exact z.2.2.1; exact z.2.2.2
    exact (R.at_ j q o e1 e2).same (fun _ _ e => e) tp (fun o e' => (hs.2 _ z1).trans e') fun o e' => (hs.2 _ z2).trans e'
theorem Step.set {a : Addr} (R : Rel G h β σ) (ia : In a β) (hs : Heap.SameBut a h h') (hf : ∃ o, h'.get? a = some o) : Step G h β h' β := by
  obtain ⟨o, e, s⟩ := R.soft ia
  refine ⟨⟨[], by simp⟩, fun b o' e' n _ => (hs.2 b fun z => n (z ▸ ia)).trans e', fun b o' e' => ?_, fun b o' e' c => (hs.2 b fun z => by subst z; rw [e] at e'; cases e'; exact s.1 c).trans e', fun _ i => .inl i⟩
  by_cases z : b = a
  · exact z ▸ hf
  · exact ⟨o', (hs.2 b z).trans e'⟩
theorem Rel.push {p : Addr × Addr} {o : PO} (R : Rel G h β σ) (k : ∀ b o, h.get? b = some o → h'.get? b = some o) (h1 : h.get? p.1 = none) (h2 : h.get? p.2 = none)
    (hat : ObjAt G.flds h' (β ++ [p]) p o) : Rel G h' (β ++ [p]) (σ ++ [o]) := by
  have dead : ∀ b, h.get? b = none → ¬ In b β ∧ (¬ G.TB b → G.h₀.get? b = none) := fun b e => by
    refine ⟨fun i => ?_, fun n => ?_⟩
    · obtain ⟨o, q, _⟩ := R.soft i
      rw [e] at q; cases q
    · cases q : G.h₀.get? b with
      | none => rfl
      | some o =>
        have := R.base.old b o q n
        rw [e] at this; cases this
  have tb : ∀ b, h.get? b = none → ¬ G.TB b := fun b e ⟨t, ht, q⟩ => by
    obtain ⟨_, _, _, _, _, _, d, _⟩ := R.base.tab t ht
    rw [← q, d.2] at e; cases e
  refine ⟨R.base.keeps k, by simp [R.len], fun j q o' e1 e2 => ?_, fun i j q r e1 e2 n => ?_, fun b i => ?_⟩
  · by_cases z : j < β.length
    · rw [List.getElem?_append_left z] at e1
      rw [List.getElem?_append_left (R.len ▸ z)] at e2
      exact (R.at_ j q o' e1 e2).same (fun _ _ e => ext_get e) (fun b o e _ => k b o e) (fun o e => k _ o e) fun o e => k _ o e
    · have zz : j = β.length := by
        have := (List.getElem?_eq_some_iff.mp e1).1
        simp at this; omega
      subst zz
      rw [List.getElem?_append_right (Nat.le_refl _)] at e1
      rw [List.getElem?_append_right (by rw [R.len]; exact Nat.le_refl _)] at e2
      simp at e1
      rw [R.len] at e2
      simp at e2
      subst e1 e2
      exact hat
  · have old : ∀ (i : Nat) q, β[i]? = some q → ∀ x, (x = q.1 ∨ x = q.2) → x ≠ p.1 ∧ x ≠ p.2 := fun i q e x hx => by
      have ix : In x β := by rcases hx with rfl | rfl; exact (In.of_get e).1; exact (In.of_get e).2
      exact ⟨fun z => (dead _ h1).1 (z ▸ ix), fun z => (dead _ h2).1 (z ▸ ix)⟩
    have split : ∀ (i : Nat) q, (β ++ [p])[i]? = some q → (β[i]? = some q) ∨ (i = β.length ∧ q = p) := fun i q e => by
      by_cases z : i < β.length
      · rw [List.getElem?_append_left z] at e; exact .inl e
      · have l := (List.getElem?_eq_some_iff.mp e).1
        simp at l
        have : i = β.length := by omega
        subst this
        rw [List.getElem?_append_right (Nat.le_refl _)] at e
        simp at e
        exact .inr ⟨rfl, e.symm⟩
    rcases split i q e1 with a | ⟨a, rfl⟩ <;> rcases split j r e2 with b | ⟨b, rfl⟩
    · exact R.apart i j q r a b n
    · have y1 := old i q a _ (.inl rfl)
      have y2 := old i q a _ (.inr rfl)
      exact ⟨y1.1, y1.2, y2.1, y2.2⟩
    · have y1 := old j r b _ (.inl rfl)
      have y2 := old j r b _ (.inr rfl)
      exact ⟨Ne.symm y1.1, Ne.symm y2.1, Ne.symm y1.2, Ne.symm y2.2⟩
    · omega
  · obtain ⟨q, hq, e⟩ := i
    rcases List.mem_append.mp hq with hq | hq
    · exact R.fresh b ⟨q, hq, e⟩
    · rw [List.mem_singleton] at hq
      subst hq
      rcases e with rfl | rfl
      · exact (dead _ h1).2 (tb _ h1)
      · exact (dead _ h2).2 (tb _ h2)
theorem Step.push {p : Addr × Addr} (k : ∀ b o, h.get? b = some o → h'.get? b = some o) (h1 : h.get? p.1 = none) (h2 : h.get? p.2 = none) : Step G h β h' (β ++ [p]) :=
  ⟨⟨[p], rfl⟩, fun b o e _ _ => k b o e, fun b o e => ⟨o, k b o e⟩, fun b o e _ => k b o e, fun b i => by
    obtain ⟨q, hq, e⟩ := i
    rcases List.mem_append.mp hq with hq | hq
    · exact .inl ⟨q, hq, e⟩
    · rw [List.mem_singleton] at hq
      subst hq
      rcases e with rfl | rfl <;> right <;> assumption⟩
end
end Mine
end
section
open PySem PySem.W PySem.Calls PyProof.Rows
set_option maxRecDepth 100000
set_option linter.unusedVariables false
namespace Mine
variable [Ban]
set_option linter.unusedSectionVars false
abbrev GC.M (G : GC) : Model := model G.prog G.w
structure GOk (G : GC) : Prop where
  X : G.K.In G.h₀
  ntb : ∀ a o, G.K.lookup a = some o → ¬ G.TB a
  g : G.h₀.Ns mainGlobals G.mg
  b : G.h₀.Ns builtinsNs G.mb
  lim : G.h₀.NoLimit
  n1 : ¬ G.TB mainGlobals
  n2 : ¬ G.TB builtinsNs
  n3 : ¬ G.TB cStatics
  nb : ∀ a, Ban.no a → G.h₀.get? a = none
section
variable {G : GC} {h h' : Heap} {β β' : Lay} {σ : List PO}
theorem Base.K (B : Base G h) (O : GOk G) : G.K.In h := fun a o e => B.old a o (O.X a o e) (O.ntb a o e)
theorem ns_lift {a : Addr} {m : Str → Option Value} (n : G.h₀.Ns a m) (t : ¬ G.TB a) (B : Base G h) : h.Ns a m :=
  let ⟨o, es, ep, e, r⟩ := n; ⟨o, es, ep, B.old a o e t, r⟩
theorem Base.globals (B : Base G h) (O : GOk G) : h.Ns mainGlobals G.mg := ns_lift O.g O.n1 B
theorem Base.builtins (B : Base G h) (O : GOk G) : h.Ns builtinsNs G.mb := ns_lift O.b O.n2 B
theorem Base.nolimit (B : Base G h) (O : GOk G) : h.NoLimit := let ⟨mc, p, q⟩ := O.lim; ⟨mc, ns_lift p O.n3 B, q⟩
end
structure Fit (A : Around) (d : Nat) : Prop where
  depth : A.depth + 3 * d ≤ 900
  units : A.units + 30 * d ≤ 9000
  hand : A.handled = none
theorem Fit.room {A : Around} {d : Nat} (f : Fit A d) : A.depth < recursionLimit := by have := f.depth; show A.depth < 1000; omega
theorem Fit.cl {A : Around} {d : Nat} (f : Fit A (d + 1)) : A.units < cLine := by have := f.units; show A.units < 9900; omega
theorem Fit.le {A : Around} {d d' : Nat} (f : Fit A d) (h : d' ≤ d) : Fit A d' := ⟨by have := f.depth; omega, by have := f.units; omega, f.hand⟩
theorem Fit.deeper {A : Around} {d : Nat} {env : Env} (f : Fit A (d + 1)) : Fit (A.deeper env) d := ⟨by have := f.depth; show A.depth + 1 + _ ≤ _; omega, by have := f.units; show A.units + 3 + _ ≤ _; omega, f.hand⟩
theorem Fit.in1 {A : Around} {d : Nat} (f : Fit A (d + 1)) : Fit A.in1 d := ⟨by have := f.depth; show A.depth + _ ≤ _; omega, by have := f.units; show A.units + 1 + _ ≤ _; omega, f.hand⟩
theorem Fit.mark {A : Around} {d : Nat} (f : Fit A d) : Fit (A.mark none) d := ⟨f.depth, f.units, by show Option.or none A.handled = none; rw [f.hand]; rfl⟩
structure Sh (s s' : Shared) : Prop where
  os : s'.os = s.os
  bare : AllBare s.gens → AllBare s'.gens
  gens : ∀ (i : Nat) x, s.gens[i]? = some x → s'.gens[i]? = some x
theorem Sh.refl (s : Shared) : Sh s s := ⟨rfl, id, fun _ _ e => e⟩
theorem Sh.trans {s s₁ s₂ : Shared} (a : Sh s s₁) (b : Sh s₁ s₂) : Sh s s₂ := ⟨b.os.trans a.os, fun x => b.bare (a.bare x), fun i x e => b.gens i x (a.gens i x e)⟩
theorem Sh.mk' {s : Shared} (h : Heap) (d : Drawn) (t : Nat) : Sh s ⟨h, s.gens, d, t, s.os⟩ := ⟨rfl, id, fun _ _ e => e⟩
structure Frm (G : GC) (h : Heap) (β : Lay) (env : Env) (ρ : List (Option PV)) : Prop where
  kind : env.scope.kind = .function
  glob : env.globals = mainGlobals
  bui : env.builtins = builtinsNs
  ns : ∃ m, h.Ns env.locals m ∧ ∀ (i : Nat) x pv, env.scope.names[i]? = some (x, .local) → ρ[i]? = some (some pv) → ∃ v, m x = some v ∧ VR h β pv v
  cell : ∀ (i : Nat) x pv, env.scope.names[i]? = some (x, .cell) → ρ[i]? = some (some pv) → ∃ c v, env.cells.lookup x = some c ∧ h.IsCell c (some v) ∧ VR h β pv v
  own : Own G h β env.locals
  cown : ∀ x c, env.kindOf x = some .cell → env.cells.lookup x = some c → Own G h β c ∧ c ≠ env.locals ∧ ∃ v, h.IsCell c v
  chas : ∀ x, env.kindOf x = some .cell → ∃ c, env.cells.lookup x = some c
  inj : ∀ x y c, env.kindOf x = some .cell → env.kindOf y = some .cell → env.cells.lookup x = some c → env.cells.lookup y = some c → x = y
section
variable {G : GC} {h h' : Heap} {β β' : Lay} {σ : List PO} {env : Env} {ρ : List (Option PV)}
theorem cell_keeps {c : Addr} {v : Option Value} (B : Base G h) (O : Own G h β c) (S : Step G h β h' β') (x : h.IsCell c v) : h'.IsCell c v := by
  obtain ⟨o, e, d⟩ := x
  exact ⟨o, S.keep c o e O.notIn (O.tb B), d⟩
theorem kind_at {names : List (Str × NameKind)} (hn : (names.map (·.1)).Nodup) : ∀ (i : Nat) x k, names[i]? = some (x, k) → names.lookup x = some k := by
  intro i x k e
  induction names generalizing i with
  | nil => cases e
  | cons p r ih =>
    obtain ⟨y, q⟩ := p
    cases i with
    | zero => simp at e; obtain ⟨rfl, rfl⟩ := e; simp
    | succ i =>
      simp only [List.map_cons, List.nodup_cons] at hn
      have hm : (x, k) ∈ r := List.mem_of_getElem? (by simpa using e)
      have ne : (x == y) = false := by
        rw [beq_eq_false_iff_ne]
        rintro rfl
        exact hn.1 (List.mem_map_of_mem (f := (·.1)) hm)
      rw [List.lookup_cons, ne]
      exact ih hn.2 i (by simpa using e)
theorem Frm.step (F : Frm G h β env ρ) (B : Base G h) (S : Step G h β h' β') (hn : (env.scope.names.map (·.1)).Nodup) : Frm G h' β' env ρ := by
  obtain ⟨m, hns, hm⟩ := F.ns
  obtain ⟨oL, es, ep, hL, r⟩ := hns
  refine ⟨F.kind, F.glob, F.bui, ⟨m, ⟨oL, es, ep, S.keep _ _ hL F.own.notIn (F.own.tb B), r⟩, fun i x pv e1 e2 => ?_⟩, fun i x pv e1 e2 => ?_, F.own.step B S, fun x c e1 e2 => ?_, F.chas, F.inj⟩
  · obtain ⟨v, a, b⟩ := hm i x pv e1 e2
    exact ⟨v, a, S.vr b⟩
  · obtain ⟨c, v, a, b, d⟩ := F.cell i x pv e1 e2
    exact ⟨c, v, a, cell_keeps B (F.cown x c (kind_at hn i x _ e1) a).1 S b, S.vr d⟩
  · obtain ⟨a, b, v, w⟩ := F.cown x c e1 e2
    exact ⟨a.step B S, b, v, cell_keeps B a S w⟩
end
abbrev FE := List (Option PV) → List PO → Option (PV × List PO)
abbrev FB := List (Option PV) → List PO → Option (Bool × List PO)
abbrev FEs := List (Option PV) → List PO → Option (List PV × List PO)
structure ScopeOk (sc : Scope) : Prop where
  nodup : (sc.names.map (·.1)).Nodup
def ST (G : GC) (d : Nat) (sc : Scope) (t : Env → Sem Value) (f : FE) : Prop :=
  ∀ (env : Env) (A : Around) (s : Shared) (β : Lay) (ρ : List (Option PV)) (σ : List PO) (pv : PV) (σ' : List PO), env.scope = sc → Fit A d → Rel G s.heap β σ → Frm G s.heap β env ρ →
    f ρ σ = some (pv, σ') → ∀ (Q : Value → Shared → Prop) (E : Value → Shared → Prop),
    (∀ v s' β', Step G s.heap β s'.heap β' → Rel G s'.heap β' σ' → VR s'.heap β' pv v → Sh s s' → Q v s') → wpAny G.M A (t env) Q E s
abbrev SE (G : GC) (d : Nat) (sc : Scope) (e : Expr) (f : FE) : Prop := ST G d sc (eval e) f
def SB (G : GC) (d : Nat) (sc : Scope) (t : Env → Sem Bool) (f : FB) : Prop :=
  ∀ (env : Env) (A : Around) (s : Shared) (β : Lay) (ρ : List (Option PV)) (σ : List PO) (b : Bool) (σ' : List PO), env.scope = sc → Fit A d → Rel G s.heap β σ → Frm G s.heap β env ρ →
    f ρ σ = some (b, σ') → ∀ (Q : Bool → Shared → Prop) (E : Value → Shared → Prop),
    (∀ s' β', Step G s.heap β s'.heap β' → Rel G s'.heap β' σ' → Sh s s' → Q b s') → wpAny G.M A (t env) Q E s
abbrev SC (G : GC) (d : Nat) (sc : Scope) (e : Expr) (f : FB) : Prop := SB G d sc (fun env => isTrue e env (eval e env)) f
def SEs (G : GC) (d : Nat) (sc : Scope) (t : Env → Sem (List Value)) (f : FEs) : Prop :=
  ∀ (env : Env) (A : Around) (s : Shared) (β : Lay) (ρ : List (Option PV)) (σ : List PO) (l : List PV) (σ' : List PO), env.scope = sc → Fit A d → Rel G s.heap β σ → Frm G s.heap β env ρ →
    f ρ σ = some (l, σ') → ∀ (Q : List Value → Shared → Prop) (E : Value → Shared → Prop),
    (∀ vs s' β', Step G s.heap β s'.heap β' → Rel G s'.heap β' σ' → VRs s'.heap β' l vs → Sh s s' → Q vs s') → wpAny G.M A (t env) Q E s
def SV1 (G : GC) (d : Nat) (t : Value → Sem Value) (g : PV → List PO → Option (PV × List PO)) : Prop :=
  ∀ (A : Around) (s : Shared) (β : Lay) (σ : List PO) (a : PV) (va : Value) (pv : PV) (σ' : List PO), Fit A d → Rel G s.heap β σ → VR s.heap β a va → g a σ = some (pv, σ') → ∀ (Q : Value → Shared → Prop) (E : Value → Shared → Prop),
    (∀ v s' β', Step G s.heap β s'.heap β' → Rel G s'.heap β' σ' → VR s'.heap β' pv v → Sh s s' → Q v s') → wpAny G.M A (t va) Q E s
def SV2 (G : GC) (d : Nat) (t : Value → Value → Sem Value) (g : PV → PV → List PO → Option (PV × List PO)) : Prop :=
  ∀ (A : Around) (s : Shared) (β : Lay) (σ : List PO) (a b : PV) (va vb : Value) (pv : PV) (σ' : List PO), Fit A d → Rel G s.heap β σ → VR s.heap β a va → VR s.heap β b vb → g a b σ = some (pv, σ') →
    ∀ (Q : Value → Shared → Prop) (E : Value → Shared → Prop),
    (∀ v s' β', Step G s.heap β s'.heap β' → Rel G s'.heap β' σ' → VR s'.heap β' pv v → Sh s s' → Q v s') → wpAny G.M A (t va vb) Q E s
def SCall (G : GC) (d : Nat) (f : Value) (Φ : List PV → List PO → Option (PV × List PO)) : Prop :=
  ∀ (A : Around) (s : Shared) (β : Lay) (σ : List PO) (l : List PV) (vs : List Value) (pv : PV) (σ' : List PO), Fit A d → Rel G s.heap β σ → VRs s.heap β l vs → Φ l σ = some (pv, σ') →
    ∀ (Q : Value → Shared → Prop) (E : Value → Shared → Prop),
    (∀ v s' β', Step G s.heap β s'.heap β' → Rel G s'.heap β' σ' → VR s'.heap β' pv v → Sh s s' → Q v s') → wpAny G.M A (call f vs) Q E s
def eVar (i : Nat) : FE := fun ρ σ => match ρ[i]? with
  | some (some p) => some (p, σ)
  | _ => none
def eLit (p : PV) : FE := fun _ σ => some (p, σ)
def eBin (g : PV → PV → List PO → Option (PV × List PO)) (a b : FE) : FE := fun ρ σ => match a ρ σ with
  | some (x, σ₁) => match b ρ σ₁ with
    | some (y, σ₂) => g x y σ₂
    | none => none
  | none => none
def eIf (c : FB) (a b : FE) : FE := fun ρ σ => match c ρ σ with
  | some (true, σ₁) => a ρ σ₁
  | some (false, σ₁) => b ρ σ₁
  | none => none
section
variable {G : GC} {d : Nat} {sc : Scope}
theorem Frm.go {s s' : Shared} {β β' : Lay} {env : Env} {ρ : List (Option PV)} (O : ScopeOk sc) (e : env.scope = sc) (F : Frm G s.heap β env ρ) (B : Base G s.heap) (S : Step G s.heap β s'.heap β') : Frm G s'.heap β' env ρ :=
  F.step B S (e ▸ O.nodup)
theorem ST.bind2 {t : Env → Sem Value} {u : Env → Sem Value} {r : Env → Value → Value → Sem Value} {f g : FE} {k : PV → PV → List PO → Option (PV × List PO)} (O : ScopeOk sc) (a : ST G d sc t f) (b : ST G d sc u g)
    (c : ∀ env, SV2 G d (r env) k) (tree : ∀ (M : Model) (A : Around) (env : Env) (Q : Value → Shared → Prop) (E : Value → Shared → Prop) (s : Shared), wpAny M A (t env) (fun x s₁ => wpAny M A (u env) (fun y s₂ => wpAny M A (r env x y) Q E s₂) E s₁) E s → wpAny M A (w env) Q E s) :
    ST G d sc w (eBin k f g) := by
  intro env A s β ρ σ pv σ' hsc hA R F e Q E h
  unfold eBin at e
  split at e
  · rename_i x σ₁ e1
    split at e
    · rename_i y σ₂ e2
      refine tree G.M A env Q E s (a env A s β ρ σ x σ₁ hsc hA R F e1 _ _ fun vx s₁ β₁ S1 R1 V1 H1 => ?_)
      refine b env A s₁ β₁ ρ σ₁ y σ₂ hsc hA R1 (F.go O hsc R.base S1) e2 _ _ fun vy s₂ β₂ S2 R2 V2 H2 => ?_
      exact c env A s₂ β₂ σ₂ x y vx vy pv σ' hA R2 (S2.vr V1) V2 e _ _ fun v s₃ β₃ S3 R3 V3 H3 => h v s₃ β₃ ((S1.trans S2).trans S3) R3 V3 ((H1.trans H2).trans H3)
    · cases e
  · cases e
theorem SE.bin {l r : Expr} {op : Operator} {p : Pos} {f g : FE} {k : PV → PV → List PO → Option (PV × List PO)} (O : ScopeOk sc) (a : SE G d sc l f) (b : SE G d sc r g) (c : SV2 G d (binaryOp op) k) : SE G d sc (.BinOp l op r p) (eBin k f g) :=
  ST.bind2 O a b (fun _ => c) fun _ _ _ _ _ _ h => wpAny_BinOp h
theorem SE.local_ {i : Nat} {x : Str} {p : Pos} (hi : sc.names[i]? = some (x, .local)) (hl : sc.names.lookup x = some .local) (hd : (x == ("__debug__" : Str)) = false) : SE G d sc (.Name x p) (eVar i) := by
  intro env A s β ρ σ pv σ' hsc hA R F e Q E h
  unfold eVar at e
  split at e
  · rename_i q e1
    cases e
    obtain ⟨m, hns, hm⟩ := F.ns
    obtain ⟨v, hv, r⟩ := hm i x pv (hsc ▸ hi) e1
    exact wpAny_Name (wpAny_loadName_local F.kind (by show env.scope.names.lookup x = _; rw [hsc]; exact hl) hns hv (h v s β (Step.refl ..) R r (Sh.refl s))) hd
  · cases e
theorem SE.cell_ {i : Nat} {x : Str} {p : Pos} (hi : sc.names[i]? = some (x, .cell)) (hl : sc.names.lookup x = some .cell) (hd : (x == ("__debug__" : Str)) = false) : SE G d sc (.Name x p) (eVar i) := by
  intro env A s β ρ σ pv σ' hsc hA R F e Q E h
  unfold eVar at e
  split at e
  · rename_i q e1
    cases e
    obtain ⟨c, v, hc, hv, r⟩ := F.cell i x pv (hsc ▸ hi) e1
    exact wpAny_Name (wpAny_loadName_cell F.kind (by show env.scope.names.lookup x = _; rw [hsc]; exact hl) hc hv (h v s β (Step.refl ..) R r (Sh.refl s))) hd
  · cases e
theorem SE.global_ (O : GOk G) {x : Str} {p : Pos} {v : Value} {pv : PV} (hl : sc.names.lookup x = some .globalImplicit) (hv : G.mg x = some v) (hr : ∀ h β, Base G h → VR h β pv v) (hd : (x == ("__debug__" : Str)) = false) :
    SE G d sc (.Name x p) (eLit pv) := by
  intro env A s β ρ σ pv' σ' hsc hA R F e Q E h
  cases e
  have hk : env.kindOf x = some .globalImplicit := by show env.scope.names.lookup x = _; rw [hsc]; exact hl
  refine wpAny_Name ?_ hd
  rw [loadName_read F.kind hk]
  exact loadGlobal_global (F.glob ▸ R.base.globals O) hv (h v s β (Step.refl ..) R (hr _ _ R.base) (Sh.refl s))
theorem SE.builtin_ (O : GOk G) {x : Str} {p : Pos} {v : Value} (hl : sc.names.lookup x = some .globalImplicit) (hg : G.mg x = none) (hv : G.mb x = some v) (hn : x ≠ "__name__") (hd : (x == ("__debug__" : Str)) = false) :
    SE G d sc (.Name x p) (eLit (.lit v)) := by
  intro env A s β ρ σ pv' σ' hsc hA R F e Q E h
  cases e
  have hk : env.kindOf x = some .globalImplicit := by show env.scope.names.lookup x = _; rw [hsc]; exact hl
  refine wpAny_Name ?_ hd
  rw [loadName_read F.kind hk]
  exact loadGlobal_builtin (F.glob ▸ R.base.globals O) hg (F.bui ▸ R.base.builtins O) hv (h v s β (Step.refl ..) R rfl (Sh.refl s))
theorem SE.int_ {i : Int} {k : Nat} {p : Pos} : SE G d sc (.Constant (.int i) k p) (eLit (.int i)) := by
  intro env A s β ρ σ pv' σ' hsc hA R F e Q E h
  cases e
  exact wpAny_Constant_int (h _ _ β (Step.refl ..) R ⟨_, rfl⟩ (Sh.mk' ..))
end
end Mine
end
section
open PySem PySem.W PySem.Calls PyProof.Rows
set_option maxRecDepth 100000
set_option linter.unusedVariables false
namespace Mine
variable [Ban]
set_option linter.unusedSectionVars false
def SV2b (G : GC) (d : Nat) (t : Value → Value → Sem Value) (g : PV → PV → List PO → Option Bool) : Prop :=
  ∀ (A : Around) (s : Shared) (β : Lay) (σ : List PO) (a b : PV) (va vb : Value) (r : Bool), Fit A d → Rel G s.heap β σ → VR s.heap β a va → VR s.heap β b vb → g a b σ = some r →
    ∀ (Q : Value → Shared → Prop) (E : Value → Shared → Prop),
    (∀ s' β', Step G s.heap β s'.heap β' → Rel G s'.heap β' σ → Sh s s' → Q (.bool r) s') → wpAny G.M A (t va vb) Q E s
def SV1b (G : GC) (d : Nat) (t : Value → Sem Bool) (g : PV → List PO → Option (Bool × List PO)) : Prop :=
  ∀ (A : Around) (s : Shared) (β : Lay) (σ : List PO) (a : PV) (va : Value) (r : Bool) (σ' : List PO), Fit A d → Rel G s.heap β σ → VR s.heap β a va → g a σ = some (r, σ') →
    ∀ (Q : Bool → Shared → Prop) (E : Value → Shared → Prop),
    (∀ s' β', Step G s.heap β s'.heap β' → Rel G s'.heap β' σ' → Sh s s' → Q r s') → wpAny G.M A (t va) Q E s
def eCmp (k : PV → PV → List PO → Option Bool) : PV → PV → List PO → Option (PV × List PO) := fun a b σ => match k a b σ with
  | some r => some (.bool r, σ)
  | none => none
def cCmp (k : PV → PV → List PO → Option Bool) (f g : FE) : FB := fun ρ σ => match f ρ σ with
  | some (x, σ₁) => match g ρ σ₁ with
    | some (y, σ₂) => match k x y σ₂ with
      | some r => some (r, σ₂)
      | none => none
    | none => none
  | none => none
def cCmp2 (k l : PV → PV → List PO → Option Bool) (f g j : FE) : FB := fun ρ σ => match f ρ σ with
  | some (x, σ₁) => match g ρ σ₁ with
    | some (y, σ₂) => match k x y σ₂ with
      | some true => match j ρ σ₂ with
        | some (z, σ₃) => match l y z σ₃ with
          | some r => some (r, σ₃)
          | none => none
        | none => none
      | some false => some (false, σ₂)
      | none => none
    | none => none
  | none => none
def cNot (f : FB) : FB := fun ρ σ => match f ρ σ with
  | some (b, σ₁) => some (!b, σ₁)
  | none => none
def cAnd (f g : FB) : FB := fun ρ σ => match f ρ σ with
  | some (true, σ₁) => g ρ σ₁
  | some (false, σ₁) => some (false, σ₁)
  | none => none
def cOr (f g : FB) : FB := fun ρ σ => match f ρ σ with
  | some (true, σ₁) => some (true, σ₁)
  | some (false, σ₁) => g ρ σ₁
  | none => none
def cVal (k : PV → List PO → Option (Bool × List PO)) (f : FE) : FB := fun ρ σ => match f ρ σ with
  | some (x, σ₁) => k x σ₁
  | none => none
def eUn (g : PV → List PO → Option (PV × List PO)) (a : FE) : FE := fun ρ σ => match a ρ σ with
  | some (x, σ₁) => g x σ₁
  | none => none
section
variable {G : GC} {d : Nat} {sc : Scope}
theorem SV2b.val {t : Value → Value → Sem Value} {k : PV → PV → List PO → Option Bool} (c : SV2b G d t k) : SV2 G d t (eCmp k) := by
  intro A s β σ a b va vb pv σ' hA R Va Vb e Q E h
  unfold eCmp at e
  split at e
  · rename_i r er
    cases e
    exact c A s β _ a b va vb r hA R Va Vb er Q E fun s' β' S R' H => h _ s' β' S R' rfl H
  · cases e
theorem SE.cmp {l r : Expr} {op : CmpOp} {p : Pos} {f g : FE} {k : PV → PV → List PO → Option Bool} (O : ScopeOk sc) (a : SE G d sc l f) (b : SE G d sc r g) (c : SV2b G d (compareOp op) k) (hm : behindInMarks op r = false) :
    SE G d sc (.Compare l [op] [r] p) (eBin (eCmp k) f g) :=
  ST.bind2 O a b (fun _ => c.val) fun _ _ _ _ _ _ h => wpAny_Compare1 h hm
theorem SC.cmp {l r : Expr} {op : CmpOp} {p : Pos} {f g : FE} {k : PV → PV → List PO → Option Bool} (O : ScopeOk sc) (a : SE G d sc l f) (b : SE G d sc r g) (c : SV2b G d (compareOp op) k) (hm : behindInMarks op r = false) :
    SC G d sc (.Compare l [op] [r] p) (cCmp k f g) := by
  intro env A s β ρ σ b' σ' hsc hA R F e Q E h
  unfold cCmp at e
  split at e
  · rename_i x σ₁ e1
    split at e
    · rename_i y σ₂ e2
      split at e
      · rename_i r er
        cases e
        refine wpAny_isTrue_Compare1 ?_ hm
        refine a env A s β ρ σ x σ₁ hsc hA R F e1 _ _ fun vx s₁ β₁ S1 R1 V1 H1 => ?_
        refine b env A s₁ β₁ ρ σ₁ y σ' hsc hA R1 (F.go O hsc R.base S1) e2 _ _ fun vy s₂ β₂ S2 R2 V2 H2 => ?_
        refine c A s₂ β₂ σ' x y vx vy b' hA R2 (S2.vr V1) V2 er _ _ fun s₃ β₃ S3 R3 H3 => ?_
        exact wpAny_truthy_bool (h s₃ β₃ ((S1.trans S2).trans S3) R3 ((H1.trans H2).trans H3))
      · cases e
    · cases e
  · cases e
theorem SC.cmp2 {x y z : Expr} {o1 o2 : CmpOp} {p : Pos} {f g j : FE} {k l : PV → PV → List PO → Option Bool} (O : ScopeOk sc) (a : SE G d sc x f) (b : SE G d sc y g) (c : SE G d sc z j)
    (u : SV2b G d (compareOp o1) k) (v : SV2b G d (compareOp o2) l) (hm : lastMarks [o1, o2] [y, z] = false) :
    SC G d sc (.Compare x [o1, o2] [y, z] p) (cCmp2 k l f g j) := by
  intro env A s β ρ σ b' σ' hsc hA R F e Q E h
  unfold cCmp2 at e
  split at e
  · rename_i x₁ σ₁ e1
    split at e
    · rename_i y₁ σ₂ e2
      refine isTrue_chain ?_ hm
      refine a env A s β ρ σ x₁ σ₁ hsc hA R F e1 _ _ fun vx s₁ β₁ S1 R1 V1 H1 => ?_
      show wpAny G.M A (do
        let rv ← holding [vx] (eval y env)
        standAt p
        let cc ← holding [vx, rv] (compareOp o1 vx rv)
        release [vx, rv] [cc]
        if ← holding [cc, rv] (truthy cc) then testChain p rv [o2] [eval z env] else pure false) Q E s₁
      refine wpAny_bind (wpAny_holding (b env A s₁ β₁ ρ σ₁ y₁ σ₂ hsc hA R1 (F.go O hsc R.base S1) e2 _ _ fun vy s₂ β₂ S2 R2 V2 H2 => ?_))
      refine wpAny_bind (wpAny_standAt (wpAny_bind (wpAny_holding ?_)))
      have F2 := F.go O hsc R.base (S1.trans S2)
      split at e
      · rename_i r1
        refine u A s₂ β₂ σ₂ x₁ y₁ vx vy true hA R2 (S2.vr V1) V2 r1 _ _ fun s₃ β₃ S3 R3 H3 => ?_
        refine wpAny_bind (wpAny_release' (wpAny_bind (wpAny_holding (wpAny_truthy_bool ?_))))
        rw [if_pos rfl]
        show wpAny G.M A (do
          let rv ← holding [vy] (eval z env)
          standAt p
          let cc ← operate [vy, rv] (compareOp o2 vy rv)
          holding [cc] (truthy cc)) Q E s₃
        split at e
        · rename_i z₁ σ₃ e3
          split at e
          · rename_i r2 e4
            cases e
            refine wpAny_bind (wpAny_holding (c env A s₃ β₃ ρ σ₂ z₁ σ' hsc hA R3 (F2.go O hsc R2.base S3) e3 _ _ fun vz s₄ β₄ S4 R4 V4 H4 => ?_))
            refine wpAny_bind (wpAny_standAt (wpAny_bind (wpAny_operate' ?_)))
            refine v A s₄ β₄ σ' y₁ z₁ vy vz b' hA R4 ((S3.trans S4).vr V2) V4 e4 _ _ fun s₅ β₅ S5 R5 H5 => ?_
            exact wpAny_holding (wpAny_truthy_bool (h s₅ β₅ ((((S1.trans S2).trans S3).trans S4).trans S5) R5 ((((H1.trans H2).trans H3).trans H4).trans H5)))
          · cases e
        · cases e
      · rename_i r1
        cases e
        refine u A s₂ β₂ σ' x₁ y₁ vx vy false hA R2 (S2.vr V1) V2 r1 _ _ fun s₃ β₃ S3 R3 H3 => ?_
        refine wpAny_bind (wpAny_release' (wpAny_bind (wpAny_holding (wpAny_truthy_bool ?_))))
        rw [if_neg (by decide)]
        exact wpAny_pure (h s₃ β₃ ((S1.trans S2).trans S3) R3 ((H1.trans H2).trans H3))
      · cases e
    · cases e
  · cases e
theorem SC.not_ {x : Expr} {p : Pos} {f : FB} (a : SC G d sc x f) : SC G d sc (.UnaryOp .Not x p) (cNot f) := by
  intro env A s β ρ σ b σ' hsc hA R F e Q E h
  unfold cNot at e
  split at e
  · rename_i b₁ σ₁ e1
    cases e
    exact isTrue_not (a env A s β ρ σ b₁ σ' hsc hA R F e1 _ _ fun s₁ β₁ S1 R1 H1 => h s₁ β₁ S1 R1 H1)
  · cases e
theorem SC.and2 {x y : Expr} {p : Pos} {f g : FB} (O : ScopeOk sc) (a : SC G d sc x f) (b : SC G d sc y g) : SC G d sc (.BoolOp .And [x, y] p) (cAnd f g) := by
  intro env A s β ρ σ b' σ' hsc hA R F e Q E h
  unfold cAnd at e
  refine isTrue_and ?_
  split at e
  · rename_i σ₁ e1
    refine a env A s β ρ σ true σ₁ hsc hA R F e1 _ _ fun s₁ β₁ S1 R1 H1 => ?_
    rw [if_pos rfl]
    refine isTrue_and (b env A s₁ β₁ ρ σ₁ b' σ' hsc hA R1 (F.go O hsc R.base S1) e _ _ fun s₂ β₂ S2 R2 H2 => ?_)
    cases b' with
    | true => rw [if_pos rfl]; exact isTrue_and_nil (h s₂ β₂ (S1.trans S2) R2 (H1.trans H2))
    | false => rw [if_neg (by decide)]; exact h s₂ β₂ (S1.trans S2) R2 (H1.trans H2)
  · rename_i σ₁ e1
    cases e
    refine a env A s β ρ σ false σ' hsc hA R F e1 _ _ fun s₁ β₁ S1 R1 H1 => ?_
    rw [if_neg (by decide)]
    exact h s₁ β₁ S1 R1 H1
  · cases e
theorem SC.or2 {x y : Expr} {p : Pos} {f g : FB} (O : ScopeOk sc) (a : SC G d sc x f) (b : SC G d sc y g) : SC G d sc (.BoolOp .Or [x, y] p) (cOr f g) := by
  intro env A s β ρ σ b' σ' hsc hA R F e Q E h
  unfold cOr at e
  refine isTrue_or ?_
  split at e
  · rename_i σ₁ e1
    cases e
    refine a env A s β ρ σ true σ' hsc hA R F e1 _ _ fun s₁ β₁ S1 R1 H1 => ?_
    rw [if_pos rfl]
    exact h s₁ β₁ S1 R1 H1
  · rename_i σ₁ e1
    refine a env A s β ρ σ false σ₁ hsc hA R F e1 _ _ fun s₁ β₁ S1 R1 H1 => ?_
    rw [if_neg (by decide)]
    refine isTrue_or (b env A s₁ β₁ ρ σ₁ b' σ' hsc hA R1 (F.go O hsc R.base S1) e _ _ fun s₂ β₂ S2 R2 H2 => ?_)
    cases b' with
    | false => rw [if_neg (by decide)]; exact isTrue_or_nil (h s₂ β₂ (S1.trans S2) R2 (H1.trans H2))
    | true => rw [if_pos rfl]; exact h s₂ β₂ (S1.trans S2) R2 (H1.trans H2)
  · cases e
theorem SC.and3 {x y z : Expr} {p : Pos} {f g j : FB} (O : ScopeOk sc) (a : SC G d sc x f) (b : SC G d sc y g) (c : SC G d sc z j) : SC G d sc (.BoolOp .And [x, y, z] p) (cAnd f (cAnd g j)) := by
  intro env A s β ρ σ b' σ' hsc hA R F e Q E h
  unfold cAnd at e
  refine isTrue_and ?_
  split at e
  · rename_i σ₁ e1
    refine a env A s β ρ σ true σ₁ hsc hA R F e1 _ _ fun s₁ β₁ S1 R1 H1 => ?_
    rw [if_pos rfl]
    exact SC.and2 (p := p) O b c env A s₁ β₁ ρ σ₁ b' σ' hsc hA R1 (F.go O hsc R.base S1) e Q E fun s₂ β₂ S2 R2 H2 => h s₂ β₂ (S1.trans S2) R2 (H1.trans H2)
  · rename_i σ₁ e1
    cases e
    refine a env A s β ρ σ false σ' hsc hA R F e1 _ _ fun s₁ β₁ S1 R1 H1 => ?_
    rw [if_neg (by decide)]
    exact h s₁ β₁ S1 R1 H1
  · cases e
theorem SC.val {x : Expr} {f : FE} {k : PV → List PO → Option (Bool × List PO)} (a : SE G d sc x f) (c : SV1b G d truthy k)
    (he : ∀ env whole, isTrue x env whole = (do let v ← whole; standAt x.pos; holding [v] (truthy v))) : SC G d sc x (cVal k f) := by
  intro env A s β ρ σ b σ' hsc hA R F e Q E h
  unfold cVal at e
  split at e
  · rename_i x₁ σ₁ e1
    refine isTrue_plain ?_ (he _ _)
    refine a env A s β ρ σ x₁ σ₁ hsc hA R F e1 _ _ fun v s₁ β₁ S1 R1 V1 H1 => ?_
    exact c A s₁ β₁ σ₁ x₁ v b σ' hA R1 V1 e _ _ fun s₂ β₂ S2 R2 H2 => h s₂ β₂ (S1.trans S2) R2 (H1.trans H2)
  · cases e
theorem SE.ifexp {t x y : Expr} {p : Pos} {c : FB} {f g : FE} (O : ScopeOk sc) (u : SC G d sc t c) (a : SE G d sc x f) (b : SE G d sc y g) : SE G d sc (.IfExp t x y p) (eIf c f g) := by
  intro env A s β ρ σ pv σ' hsc hA R F e Q E h
  unfold eIf at e
  refine IfExp_ ?_
  split at e
  · rename_i σ₁ e1
    refine u env A s β ρ σ true σ₁ hsc hA R F e1 _ _ fun s₁ β₁ S1 R1 H1 => ?_
    rw [if_pos rfl]
    exact a env A s₁ β₁ ρ σ₁ pv σ' hsc hA R1 (F.go O hsc R.base S1) e _ _ fun v s₂ β₂ S2 R2 V2 H2 => h v s₂ β₂ (S1.trans S2) R2 V2 (H1.trans H2)
  · rename_i σ₁ e1
    refine u env A s β ρ σ false σ₁ hsc hA R F e1 _ _ fun s₁ β₁ S1 R1 H1 => ?_
    rw [if_neg (by decide)]
    exact b env A s₁ β₁ ρ σ₁ pv σ' hsc hA R1 (F.go O hsc R.base S1) e _ _ fun v s₂ β₂ S2 R2 V2 H2 => h v s₂ β₂ (S1.trans S2) R2 V2 (H1.trans H2)
  · cases e
theorem SE.str_ {x : Str} {k : Nat} {p : Pos} : SE G d sc (.Constant (.str x) k p) (eLit (.str x)) := by
  intro env A s β ρ σ pv' σ' hsc hA R F e Q E h
  cases e
  exact wpAny_mkText (h _ _ β (Step.refl ..) R ⟨_, rfl⟩ (Sh.mk' ..))
theorem SE.none_ {k : Nat} {p : Pos} : SE G d sc (.Constant .none k p) (eLit .none) := by
  intro env A s β ρ σ pv' σ' hsc hA R F e Q E h
  cases e
  exact Constant_none (h _ _ β (Step.refl ..) R rfl (Sh.refl _))
theorem SE.bool_ {b : Bool} {k : Nat} {p : Pos} : SE G d sc (.Constant (.bool b) k p) (eLit (.bool b)) := by
  intro env A s β ρ σ pv' σ' hsc hA R F e Q E h
  cases e
  exact Constant_bool (h _ _ β (Step.refl ..) R rfl (Sh.refl _))
theorem SE.un {op : UnaryOp} {x : Expr} {p : Pos} {f : FE} {k : PV → List PO → Option (PV × List PO)} (a : SE G d sc x f) (c : SV1 G d (unaryOp op) k) : SE G d sc (.UnaryOp op x p) (eUn k f) := by
  intro env A s β ρ σ pv σ' hsc hA R F e Q E h
  unfold eUn at e
  split at e
  · rename_i x₁ σ₁ e1
    refine UnaryOp_ (a env A s β ρ σ x₁ σ₁ hsc hA R F e1 _ _ fun v s₁ β₁ S1 R1 V1 H1 => ?_)
    exact c A s₁ β₁ σ₁ x₁ v pv σ' hA R1 V1 e _ _ fun v s₂ β₂ S2 R2 V2 H2 => h v s₂ β₂ (S1.trans S2) R2 V2 (H1.trans H2)
  · cases e
def eNil : FEs := fun _ σ => some ([], σ)
def eCons (f : FE) (g : FEs) : FEs := fun ρ σ => match f ρ σ with
  | some (x, σ₁) => match g ρ σ₁ with
    | some (l, σ₂) => some (x :: l, σ₂)
    | none => none
  | none => none
abbrev SL (G : GC) (d : Nat) (sc : Scope) (es : List Expr) (f : FEs) : Prop := ∀ p : Pos, SEs G d sc (fun env => spliced (backTo p (starEach es env))) f
theorem SL.nil : SL G d sc [] eNil := by
  intro p env A s β ρ σ l σ' hsc hA R F e Q E h
  cases e
  exact spliced_none (h _ _ β (Step.refl ..) R rfl (Sh.refl _))
theorem SL.cons {e : Expr} {rest : List Expr} {f : FE} {g : FEs} (O : ScopeOk sc) (a : SE G d sc e f) (b : SL G d sc rest g) (he : ∀ env, starEach (e :: rest) env = (false, eval e env) :: starEach rest env) : SL G d sc (e :: rest) (eCons f g) := by
  intro p env A s β ρ σ l σ' hsc hA R F q Q E h
  unfold eCons at q
  split at q
  · rename_i x σ₁ e1
    split at q
    · rename_i l' σ₂ e2
      cases q
      refine spliced_more (a env A s β ρ σ x σ₁ hsc hA R F e1 _ _ fun v s₁ β₁ S1 R1 V1 H1 => ?_) (he env)
      exact b p env A s₁ β₁ ρ σ₁ l' _ hsc hA R1 (F.go O hsc R.base S1) e2 _ _ fun vs s₂ β₂ S2 R2 V2 H2 => h (v :: vs) s₂ β₂ (S1.trans S2) R2 ⟨v, vs, rfl, S2.vr V1, V2⟩ (H1.trans H2)
    · cases q
  · cases q
def szOk (n : Nat) : Bool := decide (n ≤ 1000000)
theorem sz_of {n : Nat} (h : szOk n = true) : n ≤ sizeLine := by have := of_decide_eq_true h; show n ≤ 16777216; omega
def eTup (f : FEs) : FE := fun ρ σ => match f ρ σ with
  | some (l, σ₁) => match szOk l.length with
    | true => some (.tup l, σ₁)
    | false => none
  | none => none
def eList (f : FEs) : FE := fun ρ σ => match f ρ σ with
  | some (l, σ₁) => match szOk l.length with
    | true => some (.ref σ₁.length, σ₁ ++ [.list l])
    | false => none
  | none => none
theorem heap_fresh (h : Heap) : h.get? h.objs.size = none := Heap.get?_none_of_le (Nat.le_refl _)
theorem newList_ok {A : Around} {s : Shared} {β : Lay} {σ : List PO} {l : List PV} {vs : List Value} (R : Rel G s.heap β σ) (V : VRs s.heap β l vs) (hz : szOk l.length = true) {Q : Value → Shared → Prop} {E : Value → Shared → Prop}
    (h : ∀ v s' β', Step G s.heap β s'.heap β' → Rel G s'.heap β' (σ ++ [.list l]) → VR s'.heap β' (.ref σ.length) v → Sh s s' → Q v s') : wpAny G.M A (newList vs) Q E s := by
  have k : ∀ b o, s.heap.get? b = some o → (s.heap.push { cls := .type "list", data := .seq vs.toArray }).get? b = some o := fun b o e => Heap.get?_push_of_some _ e
  have S : Step G s.heap β (s.heap.push { cls := .type "list", data := .seq vs.toArray }) (β ++ [(s.heap.objs.size, s.heap.objs.size)]) := Step.push k (heap_fresh _) (heap_fresh _)
  refine wpAny_newList (h _ _ (β ++ [(s.heap.objs.size, s.heap.objs.size)]) S ?_ ?_ (Sh.mk' ..)) (by rw [V.length]; exact sz_of hz)
  · refine R.push k (heap_fresh _) (heap_fresh _) ⟨rfl, vs.toArray, 0, Heap.get?_push_size _ rfl, ?_⟩
    rw [List.toList_toArray]
    exact S.vrs V
  · exact ⟨(s.heap.objs.size, s.heap.objs.size), by rw [← R.len]; simp, rfl⟩
theorem newTuple_ok {A : Around} {s : Shared} {β : Lay} {σ : List PO} {l : List PV} {vs : List Value} (R : Rel G s.heap β σ) (V : VRs s.heap β l vs) (hz : szOk l.length = true) {Q : Value → Shared → Prop} {E : Value → Shared → Prop}
    (h : ∀ v s' β', Step G s.heap β s'.heap β' → Rel G s'.heap β' σ → VR s'.heap β' (.tup l) v → Sh s s' → Q v s') : wpAny G.M A (newTuple vs) Q E s := by
  have k : ∀ b o, s.heap.get? b = some o → (s.heap.push { cls := .type "tuple", data := .seq vs.toArray }).get? b = some o := fun b o e => Heap.get?_push_of_some _ e
  have S : Step G s.heap β (s.heap.push { cls := .type "tuple", data := .seq vs.toArray }) β := Step.keeps k
  refine wpAny_newTuple (h _ _ β S (R.keeps k) ?_ (Sh.mk' ..)) (by rw [V.length]; exact sz_of hz)
  refine ⟨_, _, vs.toArray, _, _, rfl, Heap.get?_push_size _ rfl, fun n => ?_, ?_⟩
  · obtain ⟨o, e, _⟩ := R.base.no _ n
    rw [heap_fresh] at e; cases e
  rw [List.toList_toArray]
  exact S.vrs V
theorem SE.tuple_ {es : List Expr} {k : Nat} {p : Pos} {f : FEs} (a : SL G d sc es f) : SE G d sc (.Tuple es k p) (eTup f) := by
  intro env A s β ρ σ pv σ' hsc hA R F e Q E h
  unfold eTup at e
  split at e
  · rename_i l σ₁ e1
    split at e
    · rename_i hz
      cases e
      refine Tuple_ (a p env A s β ρ σ l σ' hsc hA R F e1 _ _ fun vs s₁ β₁ S1 R1 V1 H1 => ?_)
      exact newTuple_ok R1 V1 hz fun v s₂ β₂ S2 R2 V2 H2 => h v s₂ β₂ (S1.trans S2) R2 V2 (H1.trans H2)
    · cases e
  · cases e
theorem SE.list_ {es : List Expr} {p : Pos} {f : FEs} (a : SL G d sc es f) : SE G d sc (.List es p) (eList f) := by
  intro env A s β ρ σ pv σ' hsc hA R F e Q E h
  unfold eList at e
  split at e
  · rename_i l σ₁ e1
    split at e
    · rename_i hz
      cases e
      refine List_ (a p env A s β ρ σ l σ₁ hsc hA R F e1 _ _ fun vs s₁ β₁ S1 R1 V1 H1 => ?_)
      exact newList_ok R1 V1 hz fun v s₂ β₂ S2 R2 V2 H2 => h v s₂ β₂ (S1.trans S2) R2 V2 (H1.trans H2)
    · cases e
  · cases e
end
end Mine
end
section
open PySem PySem.W PySem.Calls PyProof.Rows
open PySem.SeqAt (EqAt RcAt RcNeAt)
set_option maxRecDepth 100000
set_option linter.unusedVariables false
namespace Mine
variable [Ban]
set_option linter.unusedSectionVars false
def strOk (n : Nat) : Bool := decide (n ≤ 100000)
def addF : PV → PV → List PO → Option (PV × List PO)
  | .int a, .int b, σ => some (.int (a + b), σ)
  | .str a, .str b, σ => match strOk (a.length + b.length) with
    | true => some (.str (a ++ b), σ)
    | false => none
  | _, _, _ => none
def subF : PV → PV → List PO → Option (PV × List PO)
  | .int a, .int b, σ => some (.int (a - b), σ)
  | _, _, _ => none
def modF : PV → PV → List PO → Option (PV × List PO)
  | .int a, .int b, σ => if 0 < b ∧ b < 1000 then some (.int (a % b), σ) else none
  | _, _, _ => none
def divF : PV → PV → List PO → Option (PV × List PO)
  | .int a, .int b, σ => if 0 < b ∧ b < 1000 then some (.int (a / b), σ) else none
  | _, _, _ => none
def mulF : PV → PV → List PO → Option (PV × List PO)
  | .str a, .int n, σ => if 0 ≤ n ∧ n ≤ 1000 ∧ a.length ≤ 1000 then some (.str (Txt.mul a n), σ) else none
  | _, _, _ => none
def negF : PV → List PO → Option (PV × List PO)
  | .int a, σ => some (.int (-a), σ)
  | _, _ => none
mutual
def eqF (n : Nat) (σ : List PO) (a b : PV) : Option Bool := match n, a, b with
  | 0, _, _ => none
  | _ + 1, .int a, .int b => some (a == b)
  | _ + 1, .str a, .str b => some (a == b)
  | _ + 1, .bool a, .bool b => some (a == b)
  | n + 1, .tup l, .tup m => match eqFs n σ l m with
    | some r => some (r && l.length == m.length)
    | none => none
  | n + 1, .ref i, .ref j => match σ[i]?, σ[j]? with
    | some (.list l), some (.list m) => if i = j then none else if l.length = m.length then eqFs n σ l m else some false
    | _, _ => none
  | _ + 1, _, _ => none
termination_by (n, 0)
def eqFs (n : Nat) (σ : List PO) (l m : List PV) : Option Bool := match l, m with
  | [], _ => some true
  | _, [] => some true
  | p :: l, q :: m => match eqF n σ p q, eqFs n σ l m with
    | some b, some r => some (b && r)
    | _, _ => none
termination_by (n, l.length + 1)
end
def eqB (n : Nat) : PV → PV → List PO → Option Bool := fun a b σ => eqF n σ a b
def neB (n : Nat) : PV → PV → List PO → Option Bool := fun a b σ => match eqF n σ a b with
  | some r => some (!r)
  | none => none
def ltB : PV → PV → List PO → Option Bool
  | .int a, .int b, _ => some (decide (a < b))
  | _, _, _ => none
def leB : PV → PV → List PO → Option Bool
  | .int a, .int b, _ => some (decide (a ≤ b))
  | _, _, _ => none
def gtB : PV → PV → List PO → Option Bool
  | .int a, .int b, _ => some (decide (b < a))
  | _, _, _ => none
def geB : PV → PV → List PO → Option Bool
  | .int a, .int b, _ => some (decide (b ≤ a))
  | _, _, _ => none
def anyEq (n : Nat) (σ : List PO) (x : PV) : List PV → Option Bool
  | [] => some false
  | y :: l => match eqF n σ y x, anyEq n σ x l with
    | some b, some r => some (b || r)
    | _, _ => none
def inB (n : Nat) : PV → PV → List PO → Option Bool
  | x, .ref i, σ => match σ[i]? with
    | some (.list l) => anyEq n σ x l
    | _ => none
  | _, _, _ => none
def notInB (n : Nat) : PV → PV → List PO → Option Bool := fun x y σ => match inB n x y σ with
  | some r => some (!r)
  | none => none
def isNoneB : PV → PV → List PO → Option Bool
  | .none, .none, _ => some true
  | .int _, .none, _ => some false
  | .str _, .none, _ => some false
  | .ref _, .none, _ => some false
  | .tup _, .none, _ => some false
  | .bool _, .none, _ => some false
  | _, _, _ => none
def isNotNoneB : PV → PV → List PO → Option Bool := fun x y σ => match isNoneB x y σ with
  | some r => some (!r)
  | none => none
def truthF : PV → List PO → Option (Bool × List PO)
  | .bool b, σ => some (b, σ)
  | .none, σ => some (false, σ)
  | .str x, σ => some (x.length != 0, σ)
  | .ref i, σ => match σ[i]? with
    | some (.list l) => some (!l.isEmpty, σ)
    | _ => none
  | _, _ => none
section
variable {G : GC} {d : Nat}
theorem addF_ok : SV2 G d (binaryOp .Add) addF := by
  intro A s β σ a b va vb pv σ' hA R Va Vb e Q E h
  cases a <;> cases b <;> first | (cases e; done) | skip
  · obtain ⟨t, rfl⟩ := Va
    obtain ⟨u, rfl⟩ := Vb
    cases e
    exact PyProof.Rows.add_int (h _ _ β (Step.refl ..) R ⟨_, rfl⟩ (Sh.mk' ..))
  · obtain ⟨t, rfl⟩ := Va
    obtain ⟨u, rfl⟩ := Vb
    simp only [addF] at e
    split at e
    · rename_i hz
      cases e
      exact PyProof.Rows.add_str (fun t' tk => h _ _ β (Step.refl ..) R ⟨_, rfl⟩ (Sh.mk' ..)) (by have := of_decide_eq_true hz; show _ ≤ 16777216; omega)
    · cases e
theorem subF_ok : SV2 G d (binaryOp .Sub) subF := by
  intro A s β σ a b va vb pv σ' hA R Va Vb e Q E h
  cases a <;> cases b <;> first | (cases e; done) | skip
  obtain ⟨t, rfl⟩ := Va
  obtain ⟨u, rfl⟩ := Vb
  cases e
  exact PyProof.Rows.sub_int (h _ _ β (Step.refl ..) R ⟨_, rfl⟩ (Sh.mk' ..))
theorem modF_ok : SV2 G d (binaryOp .Mod) modF := by
  intro A s β σ a b va vb pv σ' hA R Va Vb e Q E h
  cases a <;> cases b <;> first | (cases e; done) | skip
  rename_i a b
  obtain ⟨t, rfl⟩ := Va
  obtain ⟨u, rfl⟩ := Vb
  simp only [modF] at e
  split at e
  · rename_i hb
    cases e
    refine PyProof.Rows.mod_int' (by omega) ?_
    rw [Int.fmod_eq_emod_of_nonneg _ (by omega)]
    exact h _ _ β (Step.refl ..) R ⟨_, rfl⟩ (Sh.mk' ..)
  · cases e
theorem divF_ok : SV2 G d (binaryOp .FloorDiv) divF := by
  intro A s β σ a b va vb pv σ' hA R Va Vb e Q E h
  cases a <;> cases b <;> first | (cases e; done) | skip
  rename_i a b
  obtain ⟨t, rfl⟩ := Va
  obtain ⟨u, rfl⟩ := Vb
  simp only [divF] at e
  split at e
  · rename_i hb
    cases e
    refine PyProof.Rows.floordiv_int (by omega) ?_ (.inl (PyProof.noPylong_small (by omega)))
    rw [Int.fdiv_eq_ediv_of_nonneg _ (by omega)]
    exact h _ _ β (Step.refl ..) R ⟨_, rfl⟩ (Sh.mk' ..)
  · cases e
theorem mulF_ok : SV2 G d (binaryOp .Mult) mulF := by
  intro A s β σ a b va vb pv σ' hA R Va Vb e Q E h
  cases a <;> cases b <;> first | (cases e; done) | skip
  rename_i x n
  obtain ⟨t, rfl⟩ := Va
  obtain ⟨u, rfl⟩ := Vb
  simp only [mulF] at e
  split at e
  · rename_i hb
    cases e
    obtain ⟨h1, h2, h3⟩ := hb
    refine SB.mul ⟨?_, fun q1 q2 => ?_, fun q1 q2 => ?_⟩ fun t' k => h _ _ β (Step.refl ..) R ⟨_, rfl⟩ (Sh.mk' ..)
    · rw [decide_eq_false (by omega), decide_eq_false (by omega)]; rfl
    · have : (1000 : Int) ≤ (2 ^ 63 - 1) / n := (Int.le_ediv_iff_mul_le (by omega)).mpr (by omega)
      omega
    · show decide (x.length * n.toNat > sizeLine) = false
      have : x.length * n.toNat ≤ 1000 * 1000 := Nat.mul_le_mul h3 (by omega)
      exact decide_eq_false (by show ¬ (_ > 16777216); omega)
  · cases e
theorem negF_ok : SV1 G d (unaryOp .USub) negF := by
  intro A s β σ a va pv σ' hA R Va e Q E h
  cases a <;> first | (cases e; done) | skip
  obtain ⟨t, rfl⟩ := Va
  cases e
  exact neg_int (h _ _ β (Step.refl ..) R ⟨_, rfl⟩ (Sh.mk' ..))
theorem isList_of {β : Lay} {σ : List PO} {h : Heap} (R : Rel G h β σ) {i : Nat} {l : List PV} {v : Value} (V : VR h β (.ref i) v) (e : σ[i]? = some (.list l)) :
    ∃ a vs, v = .ref a ∧ h.IsList a vs ∧ VRs h β l vs.toList ∧ β[i]? = some (a, a) := by
  obtain ⟨p, hp, rfl⟩ := V
  obtain ⟨e1, vs, n, e2, e3⟩ := R.at_ i p _ hp e
  obtain ⟨p1, p2⟩ := p
  dsimp only at e1
  subst e1
  exact ⟨p2, vs, rfl, ⟨_, e2, rfl, n, rfl⟩, e3, hp⟩
mutual
theorem eqF_same {β : Lay} {σ : List PO} {h : Heap} : ∀ (n : Nat) (a b : PV) (v : Value) (r : Bool), VR h β a v → VR h β b v → Rel G h β σ → eqF n σ a b = some r → r = true
  | 0, _, _, _, _, _, _, _, e => by rw [eqF] at e; cases e
  | n + 1, a, b, v, r, Va, Vb, R, e => by
    cases a <;> cases b <;> simp only [eqF] at e <;> first | (cases e; done) | skip
    · have := Va.symm.trans Vb
      cases this; cases e; simp
    · obtain ⟨t, rfl⟩ := Va
      obtain ⟨u, q⟩ := Vb
      cases q; cases e; simp
    · obtain ⟨t, rfl⟩ := Va
      obtain ⟨u, q⟩ := Vb
      cases q; cases e; simp
    · rename_i l m
      obtain ⟨a, d, vs, k, sl, rfl, g1, nb, r1⟩ := Va
      obtain ⟨a', d', vs', k', sl', q, g2, nb2, r2⟩ := Vb
      cases q
      rw [g1] at g2
      cases g2
      split at e
      · rename_i r' e'
        cases e
        rw [eqFs_same n l m _ r' r1 r2 R e', ← r1.length, ← r2.length]
        simp
      · cases e
    · rename_i i j
      obtain ⟨p, hp, rfl⟩ := Va
      obtain ⟨q, hq, e2⟩ := Vb
      split at e
      · split at e
        · cases e
        · rename_i n1
          exact absurd (Value.ref.inj e2) (R.apart i j p q hp hq n1).1
      · cases e
theorem eqFs_same {β : Lay} {σ : List PO} {h : Heap} : ∀ (n : Nat) (l m : List PV) (vs : List Value) (r : Bool), VRs h β l vs → VRs h β m vs → Rel G h β σ → eqFs n σ l m = some r → r = true
  | _, [], _, _, _, _, _, _, e => by rw [eqFs] at e; cases e; rfl
  | _, _ :: _, [], _, _, _, _, _, e => by rw [eqFs] at e; cases e; rfl; (intro h; cases h)
  | n, p :: l, q :: m, vs, r, ⟨v, w, e1, a1, b1⟩, ⟨v', w', e2, a2, b2⟩, R, e => by
    rw [eqFs] at e
    rw [e1] at e2
    cases e2
    split at e
    · rename_i b r' x y
      cases e
      rw [eqF_same n p q v b a1 a2 R x, eqFs_same n l m w r' b1 b2 R y]; rfl
    · cases e
end
theorem eqFs_items {β : Lay} {σ : List PO} {h : Heap} {A : Around} {s : Shared} {n : Nat} (one : ∀ (a b : PV) (va vb : Value) (r : Bool), VR h β a va → VR h β b vb → eqF n σ a b = some r → EqAt A s va vb r) :
    ∀ (l m : List PV) (vs ws : List Value) (r : Bool), VRs h β l vs → VRs h β m ws → eqFs n σ l m = some r →
      ∃ e : Nat → Bool, (∀ j (h1 : j < vs.length) (h2 : j < ws.length), EqAt A s vs[j] ws[j] (e j)) ∧ (List.range (min vs.length ws.length)).all e = r
  | [], _, vs, ws, r, V, W, q => by
    rw [show vs = [] from V]
    rw [eqFs] at q
    cases q
    exact ⟨fun _ => true, fun j h1 => absurd h1 (Nat.not_lt_zero _), by simp⟩
  | _ :: _, [], vs, ws, r, V, W, q => by
    rw [show ws = [] from W]
    rw [eqFs] at q
    · cases q
      exact ⟨fun _ => true, fun j _ h1 => absurd h1 (Nat.not_lt_zero _), by simp⟩
    · intro h; cases h
  | p :: l, x :: m, _, _, r, ⟨v, vs, e1, a1, b1⟩, ⟨w, ws, e2, a2, b2⟩, q => by
    subst e1 e2
    rw [eqFs] at q
    split at q
    · rename_i b r' x1 y1
      cases q
      obtain ⟨e, h1, h2⟩ := eqFs_items one l m vs ws r' b1 b2 y1
      have h0 := one p x v w b a1 a2 x1
      refine ⟨fun j => match j with | 0 => b | j + 1 => e j, fun j q1 q2 => ?_, ?_⟩
      · cases j with
        | zero => exact h0
        | succ j => exact h1 j (by simpa using q1) (by simpa using q2)
      · rw [List.length_cons, List.length_cons, show min (vs.length + 1) (ws.length + 1) = min vs.length ws.length + 1 from by omega, List.range_succ_eq_map, List.all_cons, List.all_map, ← h2]
        rfl
    · cases q
theorem eqF_ok {β : Lay} {σ : List PO} {s : Shared} (R : Rel G s.heap β σ) : ∀ (n : Nat) (A : Around) (a b : PV) (va vb : Value) (r : Bool), A.units + n < cLine → VR s.heap β a va → VR s.heap β b vb → eqF n σ a b = some r →
    EqAt A s va vb r ∧ RcAt A s va vb r ∧ RcNeAt A s va vb (!r)
  | 0, _, _, _, _, _, _, _, _, _, e => by rw [eqF] at e; cases e
  | n + 1, A, a, b, va, vb, r, hu, Va, Vb, e => by
    have e0 := e
    cases a <;> cases b <;> simp only [eqF] at e <;> first | (cases e; done) | skip
    · rw [show va = _ from Va, show vb = _ from Vb]; cases e
      exact ⟨EqAt.bool_bool _ _, RcAt.bool_bool _ _, RcNeAt.bool_bool _ _⟩
    · obtain ⟨t, rfl⟩ := Va
      obtain ⟨u, rfl⟩ := Vb
      cases e
      exact ⟨EqAt.int_int _ _ _ _, RcAt.int_int _ _ _ _, RcNeAt.int_int _ _ _ _⟩
    · obtain ⟨t, rfl⟩ := Va
      obtain ⟨u, rfl⟩ := Vb
      cases e
      exact ⟨EqAt.str_str _ _ _ _, RcAt.str_str _ _ _ _, RcNeAt.str_str _ _ _ _⟩
    · rename_i l m
      have Va' := Va
      have Vb' := Vb
      obtain ⟨a, d, vs, k, sl, rfl, g1, nb, r1⟩ := Va
      obtain ⟨a', d', vs', k', sl', rfl, g2, nb2, r2⟩ := Vb
      split at e
      · rename_i r' e'
        cases e
        obtain ⟨ee, h1, h2⟩ := eqFs_items (A := A.in1) (s := s) (fun a b va vb r x y z => (eqF_ok R n A.in1 a b va vb r (by show A.units + 1 + n < cLine; omega) x y z).1) l m vs.toList vs'.toList r' r1 r2 e'
        have hr : ((List.range (min vs.size vs'.size)).all ee && vs.size == vs'.size) = (r' && l.length == m.length) := by
          rw [← h2, ← r1.length, ← r2.length]; simp
        have T : ∀ j (q1 : j < vs.size) (q2 : j < vs'.size), EqAt A.in1 s vs[j] vs'[j] (ee j) := fun j q1 q2 => by
          have := h1 j (by simpa using q1) (by simpa using q2); simpa using this
        have X : RcAt A s (.ref a) (.ref a') (r' && l.length == m.length) := hr ▸ RcAt.tuples ⟨_, g1, rfl, k, rfl⟩ ⟨_, g2, rfl, k', rfl⟩ (by omega) T
        have Y : RcNeAt A s (.ref a) (.ref a') (!(r' && l.length == m.length)) := hr ▸ RcNeAt.tuples ⟨_, g1, rfl, k, rfl⟩ ⟨_, g2, rfl, k', rfl⟩ (by omega) T
        refine ⟨?_, X, Y⟩
        by_cases ne : a = a'
        · subst ne
          rw [eqF_same (n + 1) _ _ _ _ Va' Vb' R e0]
          exact EqAt.same _
        · exact EqAt.of_refs ne X
      · cases e
    · rename_i i j
      split at e
      · rename_i l m e1 e2
        split at e
        · cases e
        · rename_i ne
          obtain ⟨a, vs, rfl, L1, r1, p1⟩ := isList_of R Va e1
          obtain ⟨a', vs', rfl, L2, r2, p2⟩ := isList_of R Vb e2
          have na : a ≠ a' := (R.apart i j _ _ p1 p2 ne).1
          split at e
          · rename_i hl
            obtain ⟨ee, h1, h2⟩ := eqFs_items (A := A.in1) (s := s) (fun a b va vb r x y z => (eqF_ok R n A.in1 a b va vb r (by show A.units + 1 + n < cLine; omega) x y z).1) l m vs.toList vs'.toList r r1 r2 e
            have hs : vs.size = vs'.size := by rw [← Array.length_toList, ← Array.length_toList, r1.length, r2.length, hl]
            have T : ∀ j (q1 : j < vs.size) (q2 : j < vs'.size), EqAt A.in1 s vs[j] vs'[j] (ee j) := fun j q1 q2 => by
              have := h1 j (by simpa using q1) (by simpa using q2); simpa using this
            have hr : (List.range vs.size).all ee = r := by rw [← h2, Array.length_toList, Array.length_toList, ← hs, Nat.min_self]
            have X := RcAt.lists (A := A) L1 L2 hs (by omega) T
            have Y := RcNeAt.lists (A := A) L1 L2 hs (by omega) T
            rw [hr] at X Y
            exact ⟨EqAt.of_refs na X, X, Y⟩
          · rename_i hl
            cases e
            have hs : (vs.size != vs'.size) = true := by
              rw [bne_iff_ne]
              intro q
              rw [← Array.length_toList, ← Array.length_toList, r1.length, r2.length] at q
              exact hl q
            have X := RcAt.lists_lengths (A := A) L1 L2 hs (by omega)
            exact ⟨EqAt.of_refs na X, X, RcNeAt.lists_lengths L1 L2 hs (by omega)⟩
      · cases e
end
end Mine
end
section
open PySem PySem.W PySem.Calls PyProof.Rows
open PySem.SeqAt (EqAt RcAt RcNeAt)
set_option maxRecDepth 100000
set_option linter.unusedVariables false
namespace Mine
variable [Ban]
set_option linter.unusedSectionVars false
section
variable {G : GC} {d : Nat}
theorem Fit.small {A : Around} {d n : Nat} (f : Fit A d) (h : n ≤ 500) : A.units + n < cLine := by have := f.units; show A.units + n < 9900; omega
theorem eqB_ok {n : Nat} (hn : n ≤ 500) : SV2b G d (compareOp .Eq) (eqB n) := by
  intro A s β σ a b va vb r hA R Va Vb e Q E h
  exact (eqF_ok R n A a b va vb r (hA.small hn) Va Vb e).2.1 _ _ _ _ (h s β (Step.refl ..) R (Sh.refl s))
theorem neB_ok {n : Nat} (hn : n ≤ 500) : SV2b G d (compareOp .NotEq) (neB n) := by
  intro A s β σ a b va vb r hA R Va Vb e Q E h
  unfold neB at e
  split at e
  · rename_i r' e'
    cases e
    exact (eqF_ok R n A a b va vb r' (hA.small hn) Va Vb e').2.2 _ _ _ _ (h s β (Step.refl ..) R (Sh.refl s))
  · cases e
theorem ltB_ok : SV2b G d (compareOp .Lt) ltB := by
  intro A s β σ a b va vb r hA R Va Vb e Q E h
  cases a <;> cases b <;> first | (cases e; done) | skip
  obtain ⟨t, rfl⟩ := Va
  obtain ⟨u, rfl⟩ := Vb
  cases e
  exact PyProof.Rows.lt_int (h s β (Step.refl ..) R (Sh.refl s))
theorem leB_ok : SV2b G d (compareOp .LtE) leB := by
  intro A s β σ a b va vb r hA R Va Vb e Q E h
  cases a <;> cases b <;> first | (cases e; done) | skip
  obtain ⟨t, rfl⟩ := Va
  obtain ⟨u, rfl⟩ := Vb
  cases e
  exact PyProof.Rows.le_int (h s β (Step.refl ..) R (Sh.refl s))
theorem gtB_ok : SV2b G d (compareOp .Gt) gtB := by
  intro A s β σ a b va vb r hA R Va Vb e Q E h
  cases a <;> cases b <;> first | (cases e; done) | skip
  obtain ⟨t, rfl⟩ := Va
  obtain ⟨u, rfl⟩ := Vb
  cases e
  exact PyProof.Rows.gt_int (h s β (Step.refl ..) R (Sh.refl s))
theorem anyEq_ok {β : Lay} {σ : List PO} {s : Shared} {A : Around} {n : Nat} {x : PV} {vx : Value} (one : ∀ (a : PV) (va : Value) (r : Bool), VR s.heap β a va → eqF n σ a x = some r → EqAt A s va vx r) :
    ∀ (l : List PV) (vs : List Value) (r : Bool), VRs s.heap β l vs → anyEq n σ x l = some r → ∃ bs : List Bool, bs.length = vs.length ∧ (∀ j (h1 : j < vs.length) (h2 : j < bs.length), EqAt A s vs[j] vx bs[j]) ∧ bs.any id = r
  | [], vs, r, V, q => by
    rw [show vs = [] from V]
    cases q
    exact ⟨[], rfl, fun j h => absurd h (Nat.not_lt_zero _), rfl⟩
  | y :: l, _, r, ⟨v, w, e1, a1, b1⟩, q => by
    subst e1
    simp only [anyEq] at q
    split at q
    · rename_i b r' x1 y1
      cases q
      obtain ⟨bs, h1, h2, h3⟩ := anyEq_ok one l w r' b1 y1
      refine ⟨b :: bs, by simp [h1], fun j q1 q2 => ?_, by simp [← h3]⟩
      cases j with
      | zero => exact one y v b a1 x1
      | succ j => exact h2 j (by simpa using q1) (by simpa using q2)
    · cases q
theorem pick_fun {s : Shared} {A : Around} {vx : Value} : ∀ (vs : List Value) (bs : List Bool), bs.length = vs.length → (∀ j (h1 : j < vs.length) (h2 : j < bs.length), EqAt A s vs[j] vx bs[j]) →
    (∀ i j (h1 : i < vs.length) (h2 : j < vs.length) (h3 : i < bs.length) (h4 : j < bs.length), vs[i] = vs[j] → bs[i] = bs[j]) →
    ∃ e : Value → Bool, (∀ y ∈ vs, EqAt A s y vx (e y)) ∧ vs.any e = bs.any id
  | vs, bs, hl, h, hf => by
    classical
    let e : Value → Bool := fun y => if h : ∃ i, ∃ (h1 : i < vs.length) (h2 : i < bs.length), vs[i] = y then bs[h.choose]'(h.choose_spec.choose_spec.choose) else false
    have he : ∀ i (h1 : i < vs.length) (h2 : i < bs.length), e vs[i] = bs[i] := fun i h1 h2 => by
      have ex : ∃ k, ∃ (h1 : k < vs.length) (h2 : k < bs.length), vs[k] = vs[i] := ⟨i, h1, h2, rfl⟩
      show (if h : ∃ k, ∃ (h1 : k < vs.length) (h2 : k < bs.length), vs[k] = vs[i] then _ else false) = _
      rw [dif_pos ex]
      exact hf _ _ ex.choose_spec.choose h1 ex.choose_spec.choose_spec.choose h2 ex.choose_spec.choose_spec.choose_spec
    refine ⟨e, fun y hy => ?_, ?_⟩
    · obtain ⟨i, hi, rfl⟩ := List.mem_iff_getElem.mp hy
      rw [he i hi (hl ▸ hi)]
      exact h i hi (hl ▸ hi)
    · rw [Bool.eq_iff_iff, List.any_eq_true, List.any_eq_true]
      constructor
      · rintro ⟨y, hy, q⟩
        obtain ⟨i, hi, rfl⟩ := List.mem_iff_getElem.mp hy
        rw [he i hi (hl ▸ hi)] at q
        exact ⟨_, List.getElem_mem (hl ▸ hi), q⟩
      · rintro ⟨b, hb, q⟩
        obtain ⟨i, hi, rfl⟩ := List.mem_iff_getElem.mp hb
        exact ⟨_, List.getElem_mem (hl ▸ hi : i < vs.length), by rw [he i (hl ▸ hi) hi]; exact q⟩
def Flat : PV → Bool
  | .int _ => true
  | .str _ => true
  | .bool _ => true
  | _ => false
theorem flat_eq {h : Heap} {β : Lay} {v : Value} : ∀ {a b : PV}, Flat a = true → Flat b = true → VR h β a v → VR h β b v → a = b
  | .int _, .int _, _, _, ⟨_, e⟩, ⟨_, q⟩ => by cases e; cases q; rfl
  | .int _, .str _, _, _, ⟨_, e⟩, ⟨_, q⟩ => by cases e; cases q
  | .int _, .bool _, _, _, ⟨_, e⟩, q => by cases e; cases (show _ = _ from q)
  | .str _, .int _, _, _, ⟨_, e⟩, ⟨_, q⟩ => by cases e; cases q
  | .str _, .str _, _, _, ⟨_, e⟩, ⟨_, q⟩ => by cases e; cases q; rfl
  | .str _, .bool _, _, _, ⟨_, e⟩, q => by cases e; cases (show _ = _ from q)
  | .bool _, .int _, _, _, e, ⟨_, q⟩ => by cases q; cases (show _ = _ from e)
  | .bool _, .str _, _, _, e, ⟨_, q⟩ => by cases q; cases (show _ = _ from e)
  | .bool _, .bool _, _, _, e, q => by have := (show v = _ from e).symm.trans (show v = _ from q); cases this; rfl
def inFlat (n : Nat) : PV → PV → List PO → Option Bool
  | x, .ref i, σ => match σ[i]? with
    | some (.list l) => if l.all Flat then anyEq n σ x l else none
    | _ => none
  | _, _, _ => none
def notInFlat (n : Nat) : PV → PV → List PO → Option Bool := fun x y σ => match inFlat n x y σ with
  | some r => some (!r)
  | none => none
theorem anyEq_at {n : Nat} {σ : List PO} {x : PV} : ∀ {l : List PV} {r : Bool}, anyEq n σ x l = some r → ∃ bs : List Bool, bs.length = l.length ∧ (∀ j (h1 : j < l.length) (h2 : j < bs.length), eqF n σ l[j] x = some bs[j]) ∧ bs.any id = r
  | [], r, q => by cases q; exact ⟨[], rfl, fun j h => absurd h (Nat.not_lt_zero _), rfl⟩
  | y :: l, r, q => by
    simp only [anyEq] at q
    split at q
    · rename_i b r' x1 y1
      cases q
      obtain ⟨bs, h1, h2, h3⟩ := anyEq_at y1
      refine ⟨b :: bs, by simp [h1], fun j q1 q2 => ?_, by simp [← h3]⟩
      cases j with
      | zero => exact x1
      | succ j => exact h2 j (by simpa using q1) (by simpa using q2)
    · cases q
theorem inFlat_parts {n : Nat} {A : Around} {s : Shared} {β : Lay} {σ : List PO} {x y : PV} {vx vy : Value} {r : Bool} (hu : A.units + n < cLine) (R : Rel G s.heap β σ) (Vx : VR s.heap β x vx) (Vy : VR s.heap β y vy) (e : inFlat n x y σ = some r) :
    ∃ a vs, vy = .ref a ∧ s.heap.IsList a vs ∧ ∃ f : Value → Bool, (∀ y, y ∈ vs → EqAt A s y vx (f y)) ∧ vs.any f = r := by
  cases y <;> simp only [inFlat] at e <;> first | (cases e; done) | skip
  rename_i i
  split at e
  · rename_i l el
    split at e
    · rename_i hf
      obtain ⟨a, vs, rfl, L, W, _⟩ := isList_of R Vy el
      obtain ⟨bs, b1, b2, b3⟩ := anyEq_at e
      have hl : bs.length = vs.toList.length := by rw [W.length, b1]
      obtain ⟨f, f1, f2⟩ := pick_fun (s := s) (A := A) (vx := vx) vs.toList bs hl (fun j h1 h2 => by
        have hj : j < l.length := by rw [← W.length]; exact h1
        obtain ⟨v, hv, rv⟩ := W.get (List.getElem?_eq_getElem hj)
        rw [List.getElem?_eq_getElem h1] at hv
        cases hv
        exact (eqF_ok R n A _ x _ vx _ hu rv Vx (b2 j hj h2)).1) (fun p q h1 h2 h3 h4 hv => by
        have hp : p < l.length := by rw [← W.length]; exact h1
        have hq : q < l.length := by rw [← W.length]; exact h2
        obtain ⟨v, hv1, rv1⟩ := W.get (List.getElem?_eq_getElem hp)
        obtain ⟨w, hv2, rv2⟩ := W.get (List.getElem?_eq_getElem hq)
        rw [List.getElem?_eq_getElem h1] at hv1
        rw [List.getElem?_eq_getElem h2] at hv2
        cases hv1; cases hv2
        have fa : Flat l[p] = true := List.all_eq_true.mp hf _ (List.getElem_mem hp)
        have fb : Flat l[q] = true := List.all_eq_true.mp hf _ (List.getElem_mem hq)
        have same := flat_eq fa fb rv1 (hv ▸ rv2)
        have := b2 p hp h3
        rw [same, b2 q hq h4] at this
        exact (Option.some.inj this).symm)
      refine ⟨a, vs, rfl, L, f, fun y hy => f1 y (Array.mem_toList_iff.mpr hy), ?_⟩
      rw [← b3, ← f2, Array.any_toList]
    · cases e
  · cases e
theorem inFlat_ok {n : Nat} (hn : n ≤ 400) : SV2b G d (compareOp .In) (inFlat n) := by
  intro A s β σ a b va vb r hA R Va Vb e Q E h
  obtain ⟨l, vs, rfl, L, f, f1, rfl⟩ := inFlat_parts (A := A.in1) (by have := hA.units; show A.units + 1 + n < 9900; omega) R Va Vb e
  exact PySem.SeqAt.in_listAt f L f1 (h s β (Step.refl ..) R (Sh.refl s))
theorem notInFlat_ok {n : Nat} (hn : n ≤ 400) : SV2b G d (compareOp .NotIn) (notInFlat n) := by
  intro A s β σ a b va vb r hA R Va Vb e Q E h
  unfold notInFlat at e
  split at e
  · rename_i r' e'
    cases e
    obtain ⟨l, vs, rfl, L, f, f1, rfl⟩ := inFlat_parts (A := A.in1) (by have := hA.units; show A.units + 1 + n < 9900; omega) R Va Vb e'
    exact PySem.SeqAt.notIn_listAt f L f1 (h s β (Step.refl ..) R (Sh.refl s))
  · cases e
end
end Mine
end
section
open PySem PySem.W PySem.Calls PyProof.Rows
open PySem.SeqAt (EqAt RcAt RcNeAt)
set_option maxRecDepth 100000
set_option linter.unusedVariables false
namespace Mine
variable [Ban]
set_option linter.unusedSectionVars false
def pyAt (l : List PV) (k : Int) : Option PV := if k < -1000000 ∨ 1000000 < k then none else if 0 ≤ k then l[k.toNat]? else if -(l.length : Int) ≤ k then l[(k + l.length).toNat]? else none
def idxF : PV → PV → List PO → Option (PV × List PO)
  | .ref i, .int k, σ => match σ[i]? with
    | some (.list l) => match pyAt l k with
      | some p => some (p, σ)
      | none => none
    | _ => none
  | .tup l, .int k, σ => match pyAt l k with
    | some p => some (p, σ)
    | none => none
  | .str x, .int k, σ => if -(x.length : Int) ≤ k ∧ k < x.length ∧ x.length ≤ 1000000 then some (.str (Txt.item x k), σ) else none
  | _, _, _ => none
inductive PartOf : PV → Option Int → Prop
  | none : PartOf .none none
  | int (i : Int) : PartOf (.int i) (some i)
def partOf : PV → Option (Option Int)
  | .none => some none
  | .int i => some (some i)
  | _ => none
def sliceL (l : List PV) (lo hi : Option Int) : List PV := (l.drop (lo.elim 0 (clipAt l.length))).take (hi.elim l.length (clipAt l.length) - lo.elim 0 (clipAt l.length))
def eSlice (f a b : FE) : FE := fun ρ σ => match f ρ σ with
  | some (.ref i, σ₁) => match a ρ σ₁ with
    | some (x, σ₂) => match b ρ σ₂ with
      | some (y, σ₃) => match partOf x, partOf y, σ₃[i]? with
        | some lo, some hi, some (.list l) => match szOk l.length with
          | true => some (.ref σ₃.length, σ₃ ++ [.list (sliceL l lo hi)])
          | false => none
        | _, _, _ => none
      | none => none
    | none => none
  | _ => none
section
variable {G : GC} {d : Nat} {sc : Scope}
theorem isNoneB_ok : SV2b G d (compareOp .Is) isNoneB := by
  intro A s β σ a b va vb r hA R Va Vb e Q E h
  have hv : vb = .none := by cases a <;> cases b <;> first | (cases e; done) | exact Vb
  subst hv
  refine is_none ?_
  have : (va == .none) = r := by
    cases a <;> cases b <;> first | (cases e; done) | skip
    · cases e; rw [show va = .none from Va]; rfl
    · cases e; rw [show va = .bool _ from Va]; rfl
    · cases e; obtain ⟨t, rfl⟩ := Va; rfl
    · cases e; obtain ⟨t, rfl⟩ := Va; rfl
    · cases e; obtain ⟨_, _, _, _, _, rfl, _⟩ := Va; rfl
    · cases e; obtain ⟨_, _, rfl⟩ := Va; rfl
  rw [this]
  exact h s β (Step.refl ..) R (Sh.refl s)
theorem isNotNoneB_ok : SV2b G d (compareOp .IsNot) isNotNoneB := by
  intro A s β σ a b va vb r hA R Va Vb e Q E h
  unfold isNotNoneB at e
  split at e
  · rename_i r' e'
    have er : (!r') = r := Option.some.inj e
    subst er
    clear e
    have e := e'; clear e'
    have hv : vb = .none := by cases a <;> cases b <;> first | (cases e; done) | exact Vb
    subst hv
    refine isNot_none ?_
    have : (va == .none) = r' := by
      cases a <;> cases b <;> first | (cases e; done) | skip
      · cases e; rw [show va = .none from Va]; rfl
      · cases e; rw [show va = .bool _ from Va]; rfl
      · cases e; obtain ⟨t, rfl⟩ := Va; rfl
      · cases e; obtain ⟨t, rfl⟩ := Va; rfl
      · cases e; obtain ⟨_, _, _, _, _, rfl, _⟩ := Va; rfl
      · cases e; obtain ⟨_, _, rfl⟩ := Va; rfl
    rw [this]
    exact h s β (Step.refl ..) R (Sh.refl s)
  · cases e
def truF : PV → List PO → Option (Bool × List PO)
  | .bool b, σ => some (b, σ)
  | .none, σ => some (false, σ)
  | .str x, σ => if x.length ≤ 1000000 then some (x.length != 0, σ) else none
  | .ref i, σ => match σ[i]? with
    | some (.list l) => match szOk l.length with
      | true => some (!l.isEmpty, σ)
      | false => none
    | _ => none
  | _, _ => none
theorem truF_ok : SV1b G d truthy truF := by
  intro A s β σ a va r σ' hA R Va e Q E h
  cases a <;> simp only [truF] at e <;> first | (cases e; done) | skip
  · cases e
    rw [show va = .none from Va]
    exact truthy_none (h s β (Step.refl ..) R (Sh.refl s))
  · cases e
    rw [show va = .bool _ from Va]
    exact wpAny_truthy_bool (h s β (Step.refl ..) R (Sh.refl s))
  · rename_i x
    split at e
    · rename_i hx
      cases e
      obtain ⟨t, rfl⟩ := Va
      refine P.truthy_str (by omega) ?_
      have : ((x.length : Int) != 0) = (x.length != 0) := by
        rw [Bool.eq_iff_iff, bne_iff_ne, bne_iff_ne]; omega
      rw [this]
      exact h _ β (Step.refl ..) R (Sh.mk' ..)
    · cases e
  · rename_i i
    split at e
    · rename_i l el
      split at e
      · rename_i hz
        cases e
        obtain ⟨a, vs, rfl, L, W, _⟩ := isList_of R Va el
        have hs : vs.size = l.length := by rw [← Array.length_toList, W.length]
        have hb := of_decide_eq_true hz
        refine wpAny_truthy_list L (by omega) ?_
        have : (!vs.isEmpty) = !l.isEmpty := by
          obtain ⟨v⟩ := vs
          cases v <;> cases l <;> first | rfl | (simp at hs; done)
        rw [this]
        exact h _ β (Step.refl ..) R (Sh.mk' ..)
      · cases e
    · cases e
theorem pyAt_get {l : List PV} {k : Int} {p : PV} (e : pyAt l k = some p) : (-1000000 ≤ k ∧ k ≤ 1000000) ∧ ((0 ≤ k ∧ l[k.toNat]? = some p) ∨ (k < 0 ∧ -(l.length : Int) ≤ k ∧ l[(k + l.length).toNat]? = some p)) := by
  unfold pyAt at e
  split at e
  · cases e
  · rename_i hb
    refine ⟨by omega, ?_⟩
    split at e
    · exact .inl ⟨by assumption, e⟩
    · split at e
      · exact .inr ⟨by omega, by assumption, e⟩
      · cases e
theorem idxF_ok {value slice : Expr} (hs : ∀ o i, subscripted slice false o i = operate [o, i] (getItem o i)) : SV2 G d (subscriptTail value slice) idxF := by
  intro A s β σ a b va vb pv σ' hA R Va Vb e Q E h
  cases a <;> cases b <;> simp only [idxF] at e <;> first | (cases e; done) | skip
  · rename_i x k
    obtain ⟨t, rfl⟩ := Va
    obtain ⟨u, rfl⟩ := Vb
    split at e
    · rename_i hb
      cases e
      refine tail_any (typeIs_str s x t) PySem.F.slot_str_getitem.lookup ?_ (hs _ _)
      have hc := charAt_isSome (x := x) hb.1 hb.2.1
      obtain ⟨c, hc⟩ := Option.isSome_iff_exists.mp hc
      refine PyProof.Rows.getItem_str (c := c) (by rw [decide_eq_false (by omega), decide_eq_false (by omega)]; rfl) hc ?_
      have : (⟨#[c]⟩ : Str) = Txt.item x k := by unfold Txt.item; rw [hc]; rfl
      rw [this]
      exact h _ _ β (Step.refl ..) R ⟨_, rfl⟩ (Sh.mk' ..)
    · cases e
  · rename_i l k
    split at e
    · rename_i p ep
      cases e
      obtain ⟨a, dd, vs, n, sl, rfl, g1, nb, r1⟩ := Va
      obtain ⟨u, rfl⟩ := Vb
      obtain ⟨hb, hp⟩ := pyAt_get ep
      have hl : vs.toList.length = l.length := r1.length
      have T : IsTup s.heap a vs.toList.toArray := ⟨_, g1, rfl, n, by simp⟩
      rcases hp with ⟨h0, hp⟩ | ⟨h0, h1, hp⟩
      · obtain ⟨v, hv, rv⟩ := r1.get hp
        have hlt := (List.getElem?_eq_some_iff.mp hv).1
        refine item_tupleT (j := k.toNat) T (by omega) (by omega) ?_ hv (h v s β (Step.refl ..) R rv (Sh.refl s)) (hs _ _)
        exact PySem.seqIndex_of h0 (by omega)
      · obtain ⟨v, hv, rv⟩ := r1.get hp
        refine item_tupleT (j := (k + l.length).toNat) T (by omega) (by omega) ?_ hv (h v s β (Step.refl ..) R rv (Sh.refl s)) (hs _ _)
        rw [hl]
        exact PySem.seqIndex_neg h0 h1
    · cases e
  · rename_i i k
    split at e
    · rename_i l el
      split at e
      · rename_i p ep
        cases e
        obtain ⟨a, vs, rfl, L, W, _⟩ := isList_of R Va el
        obtain ⟨u, rfl⟩ := Vb
        obtain ⟨hb, hp⟩ := pyAt_get ep
        refine tail_any L.typeIs PySem.F.slot_list_getitem.lookup ?_ (hs _ _)
        rcases hp with ⟨h0, hp⟩ | ⟨h0, h1, hp⟩
        · obtain ⟨v, hv, rv⟩ := W.get hp
          exact wpAny_getItem_list L h0 (by omega) (by simpa using hv) (h v s β (Step.refl ..) R rv (Sh.refl s))
        · obtain ⟨v, hv, rv⟩ := W.get hp
          have hs : vs.size = l.length := by rw [← Array.length_toList, W.length]
          exact wpAny_getItem_list_neg L h0 (by rw [hs]; exact h1) (by omega) (by rw [hs]; simpa using hv) (h v s β (Step.refl ..) R rv (Sh.refl s))
      · cases e
    · cases e
theorem SE.idx {value slice : Expr} {p : Pos} {f g : FE} (O : ScopeOk sc) (a : SE G d sc value f) (b : SE G d sc slice g) (hs : ∀ o i, subscripted slice false o i = operate [o, i] (getItem o i)) :
    SE G d sc (.Subscript value slice p) (eBin idxF f g) :=
  ST.bind2 O a b (fun _ => idxF_ok hs) fun _ _ _ _ _ _ h => Subscript_ h
theorem pushList {h : Heap} {β : Lay} {σ : List PO} {l : List PV} {vs : Array Value} (R : Rel G h β σ) (V : VRs h β l vs.toList) :
    Step G h β (h.push { cls := .type "list", data := .seq vs }) (β ++ [(h.objs.size, h.objs.size)]) ∧ Rel G (h.push { cls := .type "list", data := .seq vs }) (β ++ [(h.objs.size, h.objs.size)]) (σ ++ [.list l]) ∧
      VR (h.push { cls := .type "list", data := .seq vs }) (β ++ [(h.objs.size, h.objs.size)]) (.ref σ.length) (.ref h.objs.size) := by
  have k : ∀ b o, h.get? b = some o → (h.push { cls := .type "list", data := .seq vs }).get? b = some o := fun b o e => Heap.get?_push_of_some _ e
  have S : Step G h β (h.push { cls := .type "list", data := .seq vs }) (β ++ [(h.objs.size, h.objs.size)]) := Step.push k (heap_fresh _) (heap_fresh _)
  exact ⟨S, R.push k (heap_fresh _) (heap_fresh _) ⟨rfl, vs, 0, Heap.get?_push_size _ rfl, S.vrs V⟩, (h.objs.size, h.objs.size), by rw [← R.len]; simp, rfl⟩
abbrev SP (G : GC) (d : Nat) (sc : Scope) (x : Option Expr) (f : FE) : Prop := ST G d sc (evalPart x) f
theorem SP.none_ : SP G d sc none (eLit .none) := by
  intro env A s β ρ σ pv' σ' hsc hA R F e Q E h
  cases e
  exact wpAny_pure (h _ _ β (Step.refl ..) R rfl (Sh.refl _))
theorem SP.some_ {e : Expr} {f : FE} (a : SE G d sc e f) : SP G d sc (some e) f := a
theorem partOf_is {h : Heap} {β : Lay} {x : PV} {v : Value} {o : Option Int} (V : VR h β x v) (e : partOf x = some o) : IsPart v o := by
  cases x <;> simp only [partOf] at e <;> first | (cases e; done) | skip
  · cases e; rw [show v = .none from V]; exact .none
  · cases e; obtain ⟨t, rfl⟩ := V; exact .int _ _
theorem SE.slice_ {value : Expr} {lo hi : Option Expr} {p p' : Pos} {f a b : FE} (O : ScopeOk sc) (u : SE G d sc value f) (x : SP G d sc lo a) (y : SP G d sc hi b) : SE G d sc (.Subscript value (.Slice lo hi none p') p) (eSlice f a b) := by
  intro env A s β ρ σ pv σ' hsc hA R F e Q E h
  unfold eSlice at e
  split at e
  · rename_i i σ₁ e1
    split at e
    · rename_i x₁ σ₂ e2
      split at e
      · rename_i y₁ σ₃ e3
        split at e
        · rename_i lo' hi' l p1 p2 p3
          split at e
          · rename_i hz
            cases e
            refine Subscript_ (u env A s β ρ σ (.ref i) σ₁ hsc hA R F e1 _ _ fun vo s₁ β₁ S1 R1 V1 H1 => ?_)
            refine wpAny_Slice (x env A s₁ β₁ ρ σ₁ x₁ σ₂ hsc hA R1 (F.go O hsc R.base S1) e2 _ _ fun vl s₂ β₂ S2 R2 V2 H2 => ?_)
            refine y env A s₂ β₂ ρ σ₂ y₁ σ₃ hsc hA R2 (F.go O hsc R.base (S1.trans S2)) e3 _ _ fun vu s₃ β₃ S3 R3 V3 H3 => ?_
            rw [evalPart_none]
            refine wpAny_pure ?_
            obtain ⟨a₀, vs, rfl, L, W, _⟩ := isList_of R3 ((S2.trans S3).vr V1) p3
            have k : ∀ b o, s₃.heap.get? b = some o → (s₃.heap.push { cls := .type "slice", data := .fields #[vl, vu, .none] }).get? b = some o := fun b o e => Heap.get?_push_of_some _ e
            have hs : vs.size = l.length := by rw [← Array.length_toList, W.length]
            refine tail_any (L.push _).typeIs PySem.F.slot_list_getitem.lookup (wpAny_getItem_list_slice (L.push _) (Heap.IsSliceOf.new ..) (partOf_is (S3.vr V2) p1) (partOf_is V3 p2) .none (by simp) ?_ (by rw [hs]; exact sz_of hz)) rfl
            have S4 : Step G s₃.heap β₃ (s₃.heap.push { cls := .type "slice", data := .fields #[vl, vu, .none] }) β₃ := Step.keeps k
            have W' : VRs (s₃.heap.push { cls := .type "slice", data := .fields #[vl, vu, .none] }) β₃ (sliceL l lo' hi') (slicePick vs lo' hi' none).toList := by
              rw [slicePick_plain]
              show VRs _ _ _ (List.toArray _).toList
              rw [List.toList_toArray, hs]
              exact ((S4.vrs W).drop _).take _
            obtain ⟨S5, R5, V5⟩ := pushList (R3.keeps k) W'
            exact h _ _ _ ((((S1.trans S2).trans S3).trans S4).trans S5) R5 V5 (((H1.trans H2).trans H3).trans (Sh.mk' ..))
          · cases e
        · cases e
      · cases e
    · cases e
  · cases e
end
end Mine
end
section
open PySem PySem.W PySem.Calls PyProof.Rows Builtin Builtin.ObjectAttr
set_option maxRecDepth 100000
set_option linter.unusedVariables false
namespace Mine
variable [Ban]
set_option linter.unusedSectionVars false
section
variable {h h' : Heap} {β : Lay}
theorem FsR.find {x : Str} : ∀ {ns : List Str} {fs : List PV} {es : List DictEntry}, FsR h β ns fs es → ns.Nodup → ∀ {j : Nat} {p : PV}, fs[j]? = some p → ns[j]? = some x → ∃ e, es.find? (·.key.isStr x) = some e ∧ VR h β p e.val
  | y :: ns, q :: fs, _, ⟨e, r, rfl, ⟨t, hk⟩, hv, hr⟩, nd, 0, p, h1, h2 => by
    cases h1; cases h2
    exact ⟨e, by rw [List.find?_cons, hk]; simp [Value.isStr], hv⟩
  | y :: ns, q :: fs, _, ⟨e, r, rfl, ⟨t, hk⟩, hv, hr⟩, nd, j + 1, p, h1, h2 => by
    rw [List.nodup_cons] at nd
    obtain ⟨e', h3, h4⟩ := FsR.find hr nd.2 (j := j) (p := p) (by simpa using h1) (by simpa using h2)
    have ne : (y == x) = false := by
      rw [beq_eq_false_iff_ne]
      rintro rfl
      exact nd.1 (List.mem_of_getElem? (by simpa using h2 : ns[j]? = some y))
    exact ⟨e', by rw [List.find?_cons, hk, show Value.isStr (.str y t) x = false from ne]; exact h3, h4⟩
theorem FsR.miss {x : Str} : ∀ {ns : List Str} {fs : List PV} {es : List DictEntry}, FsR h β ns fs es → ns.Nodup → ns[fs.length]? = some x → es.find? (·.key.isStr x) = none ∧ es.any (·.refKey) = false
  | ns, [], es, e, nd, hx => by
    have : es = [] := by cases ns <;> exact e
    subst this
    exact ⟨rfl, rfl⟩
  | y :: ns, q :: fs, _, ⟨e, r, rfl, ⟨t, hk⟩, hv, hr⟩, nd, hx => by
    rw [List.nodup_cons] at nd
    have hx' : ns[fs.length]? = some x := by simpa using hx
    obtain ⟨h1, h2⟩ := FsR.miss hr nd.2 hx'
    have ne : (y == x) = false := by
      rw [beq_eq_false_iff_ne]
      rintro rfl
      exact nd.1 (List.mem_of_getElem? hx')
    exact ⟨by rw [List.find?_cons, hk, show Value.isStr (.str y t) x = false from ne]; exact h1, by rw [List.any_cons, h2, Bool.or_false]; show DictEntry.refKey e = false; unfold DictEntry.refKey; rw [hk]⟩
theorem FsR.put {x : Str} {hsh : Int} {tk : Tok} {v : Value} {p : PV} (hv' : VR h β p v) : ∀ {ns : List Str} {fs : List PV} {es : List DictEntry}, FsR h β ns fs es → ns.Nodup → ∀ {j : Nat}, j < fs.length → ns[j]? = some x →
    FsR h β ns (fs.set j p) (putL x hsh (.str x tk) v es)
  | y :: ns, q :: fs, _, ⟨e, r, rfl, ⟨t, hk⟩, hv, hr⟩, nd, 0, h1, h2 => by
    cases h2
    refine ⟨⟨e.hash, e.key, v⟩, r, ?_, ⟨t, hk⟩, hv', hr⟩
    show (if e.key.isStr x then _ else _) = _
    rw [hk, if_pos (by simp [Value.isStr])]
  | y :: ns, q :: fs, _, ⟨e, r, rfl, ⟨t, hk⟩, hv, hr⟩, nd, j + 1, h1, h2 => by
    rw [List.nodup_cons] at nd
    have hx : ns[j]? = some x := by simpa using h2
    have ne : (y == x) = false := by
      rw [beq_eq_false_iff_ne]
      rintro rfl
      exact nd.1 (List.mem_of_getElem? hx)
    refine ⟨e, putL x hsh (.str x tk) v r, ?_, ⟨t, hk⟩, hv, FsR.put hv' hr nd.2 (by simpa using h1) hx⟩
    show (if e.key.isStr x then _ else _) = _
    rw [hk, if_neg (by rw [show Value.isStr (.str y t) x = false from ne]; decide)]
theorem FsR.put_new {x : Str} {hsh : Int} {tk : Tok} {v : Value} {p : PV} (hv' : VR h β p v) : ∀ {ns : List Str} {fs : List PV} {es : List DictEntry}, FsR h β ns fs es → ns.Nodup → ns[fs.length]? = some x →
    FsR h β ns (fs ++ [p]) (putL x hsh (.str x tk) v es)
  | y :: ns, [], es, e, nd, hx => by
    have : es = [] := e
    subst this
    simp at hx
    subst hx
    exact ⟨⟨hsh, .str y tk, v⟩, [], rfl, ⟨tk, rfl⟩, hv', by cases ns <;> rfl⟩
  | y :: ns, q :: fs, _, ⟨e, r, rfl, ⟨t, hk⟩, hv, hr⟩, nd, hx => by
    rw [List.nodup_cons] at nd
    have hx' : ns[fs.length]? = some x := by simpa using hx
    have ne : (y == x) = false := by
      rw [beq_eq_false_iff_ne]
      rintro rfl
      exact nd.1 (List.mem_of_getElem? hx')
    refine ⟨e, putL x hsh (.str x tk) v r, ?_, ⟨t, hk⟩, hv, FsR.put_new hv' hr nd.2 hx'⟩
    show (if e.key.isStr x then _ else _) = _
    rw [hk, if_neg (by rw [show Value.isStr (.str y t) x = false from ne]; decide)]
theorem FsR.length {ns : List Str} {fs : List PV} {es : List DictEntry} (r : FsR h β ns fs es) : es.length = fs.length := by
  induction fs generalizing ns es with
  | nil =>
    have : es = [] := by cases ns <;> exact r
    rw [this]; rfl
  | cons p fs ih =>
    cases ns with
    | nil => exact r.elim
    | cons x ns =>
      obtain ⟨e, q, rfl, _, _, hr⟩ := r
      rw [List.length_cons, List.length_cons, ih hr]
end
theorem putL_le (name : Str) (hsh : Int) (key v : Value) : ∀ es : List DictEntry, (putL name hsh key v es).length ≤ es.length + 1
  | [] => Nat.le_refl _
  | e :: r => by
    unfold putL
    split
    · exact Nat.le_succ _
    · have := putL_le name hsh key v r
      rw [List.length_cons, List.length_cons]; omega
structure PlainCls (K : Frag) (C : Addr) (cd : ClassData) : Prop where
  cls : clsIn K C = some cd
  dict : cd.hasDict = true
  get : findIn K (.ref C) "__getattribute__" = some (some (.builtin "object.__getattribute__")) ∨ (findIn K (.ref C) "__getattribute__" = some (some (.builtin "list.__getattribute__")) ∧ mroIn K C (.type "list") = some true)
  noget : findIn K (.ref C) "__getattr__" = some none
  set : findIn K (.ref C) "__setattr__" = some (some (.builtin "object.__setattr__"))
  pass : ∀ self, refuseLoop self "__setattr__" cd.mro = pure ()
  obj : cd.mro.contains (.type "object") = true
structure PlainAttr (K : Frag) (C : Addr) (name : Str) : Prop where
  find : findIn K (.ref C) name = some none
  taker : takerIn K C name = some none
section
variable {prog : Program} {w : World} {A : Around} {E : Value → Shared → Prop} {s : Shared} {K : Frag} {x C dx : Addr} {ox : Obj} {es : List DictEntry} {n : Nat} {name : Str} {cd : ClassData} {v : Value}
theorem kind_lga : builtinKind "list.__getattribute__" = some .slot := by decide +kernel
theorem split_lga : splitId "list.__getattribute__" = some ("list", "__getattribute__") := by decide +kernel
theorem get_value_list {expr : Bool} {od : Option Obj} {Q : Value → Shared → Prop} (X : K.In s.heap) (I : InstAt s.heap x ox C od) (hga : findIn K (.ref C) "__getattribute__" = some (some (.builtin "list.__getattribute__"))) (hno : findIn K (.ref C) "__getattr__" = some none)
    (hm : mroIn K C (.type "list") = some true) (hf : findObj K C od name = some (.value v)) (hh : handedIn v = true) (h : Q v { s with toks := s.toks + 1 }) : wpAny (model prog w) A (getAttr (.ref x) name expr) Q E s := by
  obtain ⟨hh', g, d, t, os⟩ := s
  have L0 := I.type (M := model prog w)
  have L1 := looks_findIn (M := model prog w) X hga
  have L2 := looks_findIn (M := model prog w) X hno
  have L3 := looks_find (M := model prog w) X I hf
  have sub : Looks (model prog w) hh' (isInstance (.ref x) (.type "list")) true := L0.andThen (looks_mroIn X hm)
  unfold getAttr getAttrBy
  refine wpAny_bind (wpAny_mkText (wpAny_holding (wpAny_bind (L0.at (wpAny_bind (L1.at ?_))))))
  show wpAny _ _ (getAttrByItsOwn (.ref x) (.str name t) (.ref C) (.builtin "list.__getattribute__") true expr) _ _ _
  unfold getAttrByItsOwn hookBefore callGetattribute boundAndCalled
  refine wpAny_bind (L2.at ?_)
  refine wpAny_bind (wpAny_attempt (wpAny_holding ?_))
  rw [if_neg (by simp [onTheHeap])]
  refine wpAny_bind (wpAny_of_eq (F.slot_list_getattribute.bind _) ?_)
  refine wpAny_call (codeAny_call_builtin F.slot_list_getattribute.plain PySem.F.entry_list_ga (@check_slot (model prog w) _ _ _ "list.__getattribute__" "list" "__getattribute__" (.ref x) [.str name t] [] _ kind_lga split_lga sub (F.args_list_getattribute_2 _ _) ?_))
  refine wpAny_bind (wpAny_pure (wpAny_bind (wpAny_pure (wpAny_bind (L0.at (wpAny_bind (L3.at ?_)))))))
  refine wpAny_pure ?_
  show wpAny _ _ (handedOut v) _ _ _
  rw [handedOut_of hh]
  exact wpAny_pure h
theorem getAttr_inst {expr : Bool} {Q : Value → Shared → Prop} (X : K.In s.heap) (I : InstAt s.heap x ox C (some (dictOf es n))) (P : PlainCls K C cd) (a : PlainAttr K C name) (hl : getL name es = some (some v)) (hv : handedIn v = true)
    (h : Q v { s with toks := s.toks + 1 }) : wpAny (model prog w) A (getAttr (.ref x) name expr) Q E s := by
  have fo : findObj K C (some (dictOf es n)) name = some (.value v) := findObj_own (attr := none) (by unfold hasDictIn; rw [P.cls]; exact P.dict) a.find rfl (by rw [lookIn_dict]; exact hl)
  rcases P.get with hg | ⟨hg, hm⟩
  · exact get_value X I hg fo hv h
  · exact get_value_list X I hg P.noget hm fo hv h
theorem method_any {fv tf : Value} {od : Option Obj} {pl : Sem Bool} {Q : Value × List Value → Shared → Prop} (X : K.In s.heap) (I : InstAt s.heap x ox C od) (P : PlainCls K C cd)
    (hf : findIn K (.ref C) name = some (some fv)) (ht : typeIn K fv = some tf) (htf : (tf != .type "function" && tf != .type "method_descriptor" && tf != .type "wrapper_descriptor") = false) (hs : shadowIn od name = some false) (h : Q (fv, [.ref x]) s) :
    wpAny (model prog w) A (getMethod (.ref x) name pl) Q E s := by
  have key : ∀ ga, findIn K (.ref C) "__getattribute__" = some (some (.builtin ga)) → (Manifest.canonical ga != "object.__getattribute__") = false → wpAny (model prog w) A (getMethod (.ref x) name pl) Q E s := by
    intro ga hga hcan
    unfold getMethod specialOf
    refine wpAny_bind (wpAny_bind (I.type.here ((looks_findIn X hga).here ?_)))
    dsimp only
    rw [hcan, if_neg (by decide)]
    refine wpAny_bind (wpAny_bind (I.type.here ((looks_findIn X P.noget).here ?_)))
    refine wpAny_bind (wpAny_bind (I.type.here ((looks_findIn X hf).here (wpAny_bind ((looks_typeIn X ht).here ?_)))))
    rw [htf, if_neg (by decide)]
    refine wpAny_bind (wpAny_loadPart I.at_ ?_)
    have hd := I.dict
    cases e : ox.dict with
    | none => exact wpAny_bind (wpAny_rule (wpAny_pure h))
    | some dx =>
      cases od with
      | none => rw [e] at hd; exact hd.elim
      | some o =>
        rw [e] at hd
        obtain ⟨r, a, b⟩ := Option.map_eq_some_iff.mp hs
        refine wpAny_bind (wpAny_bind (wpAny_loadPart hd ?_))
        rw [nsLook_of a]
        refine wpAny_pure ?_
        rw [b]
        exact wpAny_bind (wpAny_rule (wpAny_pure h))
  rcases P.get with hg | ⟨hg, hm⟩
  · exact key _ hg PySem.F.canon_object_ga
  · exact key _ hg canon_list_getattribute
theorem setAttr_inst {Q : Unit → Shared → Prop} (X : K.In s.heap) (I : InstAt s.heap x ox C (some (dictOf es n))) (hd : ox.dict = some dx) (P : PlainCls K C cd) (a : PlainAttr K C name) (hl : (getL name es).isSome = true) (hz : es.length ≤ 900)
    (h : ∀ h' hsh tk m, Heap.SameBut dx s.heap h' → h'.get? dx = some (dictOf (putL name hsh (.str name tk) v es) m) → Q () { s with heap := h', toks := s.toks + 2 }) : wpAny (model prog w) A (setAttr (.ref x) name v) Q E s := by
  have SF := PySem.F.store_object
  refine set_plain X I P.set ?_
  have I' : InstAt ({ s with toks := s.toks + 1 } : Shared).heap x ox C (some (dictOf es n)) := I
  generalize hs' : ({ s with toks := s.toks + 1 } : Shared) = s₁ at I'
  have X' : K.In s₁.heap := by rw [← hs']; exact X
  have ne : cd.mro.isEmpty = false := by cases q : cd.mro with | nil => have := P.obj; rw [q] at this; cases this | cons _ _ => rfl
  have sub : Looks (model prog w) s₁.heap (isInstance (.ref x) (.type "object")) true := I'.type.andThen (looks_mroIn X' (by unfold mroIn; rw [P.cls, Option.bind_some, if_neg (by rw [ne]; decide), P.obj]))
  refine codeAny_call_builtin SF.slot.plain SF.entry (@check_slot (model prog w) _ _ s₁ "object.__setattr__" "object" "__setattr__" (.ref x) [.str name s.toks, v] [] _ SF.kind SF.split sub (SF.args (.ref x) (.str name s.toks) v) ?_)
  rw [osa_eq, refuse_eq]
  have hm : Looks (model prog w) s₁.heap (mroOf (.ref C)) cd.mro := (looks_clsIn X' P.cls).andThen .now
  refine wpAny_bind (wpAny_bind (I'.type.here (wpAny_bind (hm.here ?_))))
  rw [P.pass]
  have L3 : Looks (model prog w) s₁.heap (storeTaker? none) none := .now
  refine wpAny_pure (wpAny_bind (I'.type.here (wpAny_bind ((looks_findIn X' a.find).here (wpAny_bind (L3.here ?_))))))
  have hdx : s₁.heap.get? dx = some (dictOf es n) := by
    have := I'.dict
    rw [hd] at this
    exact this
  obtain ⟨hx, hcl, hn, -⟩ := I'
  obtain ⟨oc, odi, oda, osl⟩ := ox
  dsimp only at hcl hd
  subst hcl hd
  refine wpAny_bind (wpAny_pure (wpAny_bind (wpAny_bind (wpAny_loadPart hx (wpAny_bind ((looks_clsIn X' P.cls).here ?_))))))
  rw [P.dict]
  refine wpAny_pure (a := some dx) (wpAny_bind (wpAny_pure (wpAny_bind ?_)))
  unfold nsSet
  refine wpAny_bind (wpAny_bind (wpAny_askSetting (wpAny_pure (wpAny_bind (wpAny_mkText (wpAny_bind (wpAny_loadPart hdx ?_)))))))
  dsimp only
  have c : (!es.toArray.any (·.key.isStr name) && es.toArray.any (·.refKey)) = false := by
    rw [← Array.any_toList, ← Array.any_toList, List.toList_toArray]
    unfold getL at hl
    split at hl
    · rename_i en he
      rw [List.any_eq_true.mpr ⟨en, List.mem_of_find?_eq_some he, List.find?_some he⟩]; rfl
    · split at hl
      · cases hl
      · rename_i z; rw [Bool.not_eq_true] at z; rw [z, Bool.and_false]
  rw [aRefKeyMayBeTheName_at, c]
  refine wpAny_updatePart hdx ?_
  have D' : ∀ hsh : Int, (s₁.heap.update dx (Obj.putName name hsh (.str name s₁.toks) v)).get? dx = some (dictOf (putL name hsh (.str name s₁.toks) v es) (putN name es n)) := by
    intro hsh
    have := Heap.get?_update_self (Obj.putName name hsh (.str name s₁.toks) v) hdx (by rw [putName_dict]; rfl)
    rw [this, putName_dict]
  refine wpAny_bind (wpAny_lookBehind (D' _) (pastItsLine_dict ?_) ?_)
  · rw [List.size_toArray]
    exact Nat.le_trans (putL_le name _ (.str name s₁.toks) v es) (by show es.length + 1 ≤ 16777216 + 1; omega)
  · subst hs'
    exact wpAny_pure (h _ _ _ _ (Heap.SameBut.update ..) (D' _))
end
end Mine
end
section
open PySem PySem.W PySem.Calls PyProof.Rows
set_option maxRecDepth 100000
set_option linter.unusedVariables false
namespace Mine
variable [Ban]
set_option linter.unusedSectionVars false
def fieldsOfPO : PO → Option (Addr × List PV)
  | .list _ => none
  | .inst C fs => some (C, fs)
  | .acc C fs _ => some (C, fs)
def withFields : PO → List PV → PO
  | .list l, _ => .list l
  | .inst C _, fs => .inst C fs
  | .acc C _ l, fs => .acc C fs l
def handedPV : PV → Bool
  | .lit _ => false
  | _ => true
def eAttr (C : Addr) (j : Nat) (f : FE) : FE := fun ρ σ => match f ρ σ with
  | some (.ref i, σ₁) => match σ₁[i]? with
    | some o => match fieldsOfPO o with
      | some (C', fs) => if C' = C then match fs[j]? with
        | some p => if handedPV p then some (p, σ₁) else none
        | none => none
        else none
      | none => none
    | none => none
  | _ => none
structure AttrOk (G : GC) (C : Addr) (cd : ClassData) (j : Nat) (name : Str) : Prop where
  cls : PlainCls G.K C cd
  attr : PlainAttr G.K C name
  at_ : (G.flds C)[j]? = some name
  nodup : (G.flds C).Nodup
  few : (G.flds C).length ≤ 800
section
variable {G : GC} {d : Nat} {sc : Scope}
theorem handed_of {h : Heap} {β : Lay} {p : PV} {v : Value} (V : VR h β p v) (e : handedPV p = true) : handedIn v = true := by
  cases p <;> simp only [handedPV] at e <;> first | (cases e; done) | skip
  · rw [show v = _ from V]; rfl
  · rw [show v = _ from V]; rfl
  · obtain ⟨_, rfl⟩ := V; rfl
  · obtain ⟨_, rfl⟩ := V; rfl
  · obtain ⟨_, _, _, _, _, rfl, _⟩ := V; rfl
  · obtain ⟨_, _, rfl⟩ := V; rfl
  · obtain ⟨_, _, _, _, rfl, _⟩ := V; rfl
theorem inst_of {h : Heap} {β : Lay} {σ : List PO} (R : Rel G h β σ) {i : Nat} {o : PO} {v : Value} {C : Addr} {fs : List PV} (V : VR h β (.ref i) v) (e : σ[i]? = some o) (ef : fieldsOfPO o = some (C, fs)) :
    ∃ p ox es n, v = .ref p.1 ∧ β[i]? = some p ∧ InstAt h p.1 ox C (some (dictOf es n)) ∧ ox.dict = some p.2 ∧ FsR h β (G.flds C) fs es := by
  obtain ⟨p, hp, rfl⟩ := V
  have x := R.at_ i p o hp e
  cases o with
  | list l => cases ef
  | inst C' fs' =>
    cases ef
    obtain ⟨es, n, a, b, c⟩ := x
    exact ⟨p, _, es, n, rfl, hp, ⟨a, rfl, rfl, b⟩, rfl, c⟩
  | acc C' fs' l =>
    cases ef
    obtain ⟨es, n, vs, k, a, b, c, _⟩ := x
    exact ⟨p, _, es, n, rfl, hp, ⟨a, rfl, rfl, b⟩, rfl, c⟩
theorem eval_Attr (value : Expr) (attr : Str) (pos : Pos) (env : Env) : eval (.Attribute value attr pos) env = (do
    let o ← attributeBase value attr env (eval value env)
    standAt pos.atName
    let r ← holding [o] (getAttr o attr true)
    letTemporaryGo value o r
    pure r) := rfl
theorem attr_read (O : GOk G) {C : Addr} {cd : ClassData} {j : Nat} {name : Str} (K : AttrOk G C cd j name) {A : Around} {s : Shared} {β : Lay} {σ : List PO} {i : Nat} {o : PO} {fs : List PV} {p : PV} {v : Value} {expr : Bool} (R : Rel G s.heap β σ)
    (V : VR s.heap β (.ref i) v) (e : σ[i]? = some o) (ef : fieldsOfPO o = some (C, fs)) (ej : fs[j]? = some p) (hp : handedPV p = true) {Q : Value → Shared → Prop} {E : Value → Shared → Prop}
    (h : ∀ v s' β', Step G s.heap β s'.heap β' → Rel G s'.heap β' σ → VR s'.heap β' p v → Sh s s' → Q v s') : wpAny G.M A (getAttr v name expr) Q E s := by
  obtain ⟨q, ox, es, n, rfl, hq, I, hd, hf⟩ := inst_of R V e ef
  obtain ⟨en, h1, h2⟩ := hf.find K.nodup ej K.at_
  refine getAttr_inst (R.base.K O) I K.cls K.attr (v := en.val) (by unfold getL; rw [h1]) (handed_of h2 hp) ?_
  exact h _ _ β (Step.refl ..) R h2 (Sh.mk' ..)
theorem SE.attr (O : GOk G) {C : Addr} {cd : ClassData} {j : Nat} {name : Str} (K : AttrOk G C cd j name) {value : Expr} {p : Pos} {f : FE} (a : SE G d sc value f) (hb : ∀ env whole, attributeBase value name env whole = whole) :
    SE G d sc (.Attribute value name p) (eAttr C j f) := by
  intro env A s β ρ σ pv σ' hsc hA R F e Q E h
  unfold eAttr at e
  split at e
  · rename_i i σ₁ e1
    split at e
    · rename_i o eo
      split at e
      · rename_i C' fs ef
        split at e
        · rename_i hC
          subst hC
          split at e
          · rename_i q eq
            split at e
            · rename_i hp
              cases e
              rw [eval_Attr, hb]
              refine wpAny_bind (a env A s β ρ σ (.ref i) σ' hsc hA R F e1 _ _ fun v s₁ β₁ S1 R1 V1 H1 => ?_)
              refine wpAny_bind (wpAny_standAt (wpAny_bind (wpAny_holding (attr_read O K R1 V1 eo ef eq hp fun v s₂ β₂ S2 R2 V2 H2 => ?_))))
              exact wpAny_bind (wpAny_letTemporaryGo (wpAny_pure (h v s₂ β₂ (S1.trans S2) R2 V2 (H1.trans H2))))
            · cases e
          · cases e
        · cases e
      · cases e
    · cases e
  · cases e
end
inductive Fl where
  | next
  | brk
  | cont
  | ret (p : PV)
def FlR (h : Heap) (β : Lay) : Fl → Flow → Prop
  | .next, f => f = .next
  | .brk, f => f = .brk
  | .cont, f => f = .cont
  | .ret p, f => ∃ v, f = .ret v ∧ VR h β p v
abbrev FS := List (Option PV) → List PO → Option (Fl × List (Option PV) × List PO)
abbrev FA := PV → List (Option PV) → List PO → Option (List (Option PV) × List PO)
def Vars (env : Env) (b : Addr) : Prop := b = env.locals ∨ ∃ x, env.kindOf x = some .cell ∧ env.cells.lookup x = some b
structure StepX (G : GC) (X : Addr → Prop) (h : Heap) (β : Lay) (h' : Heap) (β' : Lay) : Prop where
  ext : ∃ γ, β' = β ++ γ
  keep : ∀ b o, h.get? b = some o → ¬ In b β → ¬ G.TB b → ¬ X b → h'.get? b = some o
  there : ∀ b o, h.get? b = some o → ∃ o', h'.get? b = some o'
  tup : ∀ b o, h.get? b = some o → IsT o → h'.get? b = some o
  new : ∀ b, In b β' → In b β ∨ h.get? b = none
abbrev StepF (G : GC) (env : Env) : Heap → Lay → Heap → Lay → Prop := StepX G (Vars env)
section
variable {G : GC} {X Y : Addr → Prop} {h h' h₁ h₂ : Heap} {β β' β₁ β₂ : Lay} {σ : List PO}
theorem Step.toX (S : Step G h β h' β') : StepX G X h β h' β' := ⟨S.ext, fun b o e n t _ => S.keep b o e n t, S.there, S.tup, S.new⟩
theorem Step.toF {env : Env} (S : Step G h β h' β') : StepF G env h β h' β' := S.toX
theorem StepX.weak (S : StepX G X h β h' β') (w : ∀ b o, h.get? b = some o → X b → Y b) : StepX G Y h β h' β' := ⟨S.ext, fun b o e n t z => S.keep b o e n t fun q => z (w b o e q), S.there, S.tup, S.new⟩
theorem StepX.toStep (S : StepX G X h β h' β') (w : ∀ b o, h.get? b = some o → ¬ X b) : Step G h β h' β' := ⟨S.ext, fun b o e n t => S.keep b o e n t (w b o e), S.there, S.tup, S.new⟩
theorem StepX.get (S : StepX G X h β h' β') : ∀ (i : Nat) p, β[i]? = some p → β'[i]? = some p := by
  obtain ⟨γ, rfl⟩ := S.ext
  exact fun i p e => ext_get e
theorem StepX.vr (S : StepX G X h β h' β') {p : PV} {v : Value} (r : VR h β p v) : VR h' β' p v := r.mono S.get S.tup
theorem StepX.vrs (S : StepX G X h β h' β') {p : List PV} {v : List Value} (r : VRs h β p v) : VRs h' β' p v := r.mono S.get S.tup
theorem StepX.notIn (S : StepX G X h β h' β') {b : Addr} {o : Obj} (e : h.get? b = some o) (n : ¬ In b β) : ¬ In b β' := fun i => by
  rcases S.new b i with i | i
  · exact n i
  · rw [e] at i; cases i
theorem StepX.trans (S : StepX G X h β h₁ β₁) (T : StepX G X h₁ β₁ h₂ β₂) : StepX G X h β h₂ β₂ := by
  refine ⟨?_, fun b o e n q z => T.keep b o (S.keep b o e n q z) (S.notIn e n) q z, fun b o e => ?_, fun b o e c => T.tup b o (S.tup b o e c) c, fun b i => ?_⟩
  · obtain ⟨γ, rfl⟩ := S.ext
    obtain ⟨δ, rfl⟩ := T.ext
    exact ⟨γ ++ δ, by simp⟩
  · obtain ⟨o', e'⟩ := S.there b o e
    exact T.there b o' e'
  · rcases T.new b i with i | i
    · exact S.new b i
    · right
      cases q : h.get? b with
      | none => rfl
      | some o =>
        obtain ⟨o', e'⟩ := S.there b o q
        rw [e'] at i; cases i
theorem Own.stepX {a : Addr} (O : Own G h β a) (B : Base G h) (S : StepX G X h β h' β') (n : ¬ X a) : Own G h' β' a := by
  obtain ⟨o, e, s⟩ := O.soft
  exact ⟨S.notIn e O.notIn, O.fresh, o, S.keep a o e O.notIn (O.tb B) n, s⟩
end
def SS (G : GC) (d : Nat) (sc : Scope) (t : Env → Sem Flow) (f : FS) : Prop :=
  ∀ (env : Env) (A : Around) (s : Shared) (β : Lay) (ρ : List (Option PV)) (σ : List PO) (fl : Fl) (ρ' : List (Option PV)) (σ' : List PO), env.scope = sc → Fit A d → Rel G s.heap β σ → Frm G s.heap β env ρ →
    f ρ σ = some (fl, ρ', σ') → ∀ (Q : Flow → Shared → Prop) (E : Value → Shared → Prop),
    (∀ v s' β', StepF G env s.heap β s'.heap β' → Rel G s'.heap β' σ' → Frm G s'.heap β' env ρ' → FlR s'.heap β' fl v → Sh s s' → Q v s') → wpAny G.M A (t env) Q E s
def SA (G : GC) (d : Nat) (sc : Scope) (t : Expr) (g : FA) : Prop :=
  ∀ (env : Env) (A : Around) (s : Shared) (β : Lay) (ρ : List (Option PV)) (σ : List PO) (p : PV) (v : Value) (ρ' : List (Option PV)) (σ' : List PO), env.scope = sc → Fit A d → Rel G s.heap β σ → Frm G s.heap β env ρ → VR s.heap β p v →
    g p ρ σ = some (ρ', σ') → ∀ (Q : Unit → Shared → Prop) (E : Value → Shared → Prop),
    (∀ s' β', StepF G env s.heap β s'.heap β' → Rel G s'.heap β' σ' → Frm G s'.heap β' env ρ' → Sh s s' → Q () s') → wpAny G.M A (assign t env v) Q E s
def aVar (i : Nat) : FA := fun p ρ σ => some (ρ.set i (some p), σ)
def aPair (a b : FA) : FA := fun p ρ σ => match p with
  | .tup [x, y] => match a x ρ σ with
    | some (ρ₁, σ₁) => b y ρ₁ σ₁
    | none => none
  | _ => none
section
variable {G : GC} {d : Nat} {sc : Scope}
theorem soft_dict {h : Heap} {a : Addr} {m : Str → Option Value} (n : h.Ns a m) : ∃ o, h.get? a = some o ∧ Soft o := by
  obtain ⟨o, es, ep, e, dd, _⟩ := n
  refine ⟨o, e, ?_, fun ⟨_, _, q⟩ => by rw [dd] at q; cases q⟩
  rintro (⟨_, _, _, q⟩ | ⟨_, _, q⟩) <;> (rw [dd] at q; cases q)
theorem soft_cell {h : Heap} {a : Addr} {v : Option Value} (n : h.IsCell a v) : ∃ o, h.get? a = some o ∧ Soft o := by
  obtain ⟨o, e, dd⟩ := n
  refine ⟨o, e, ?_, fun ⟨_, _, q⟩ => by rw [dd] at q; cases q⟩
  rintro (⟨_, _, _, q⟩ | ⟨_, _, q⟩) <;> (rw [dd] at q; cases q)
theorem own_turn {env : Env} {h h' : Heap} {β : Lay} {σ : List PO} {a : Addr} (R : Rel G h β σ) (O : Own G h β a) (hv : Vars env a) (hs : Heap.SameBut a h h') (ht : ∃ o, h'.get? a = some o) : StepF G env h β h' β := by
  obtain ⟨o, e, s⟩ := O.soft
  refine ⟨⟨[], by simp⟩, fun b o' e' _ _ z => (hs.2 b fun q => z (q ▸ hv)).trans e', fun b o' e' => ?_, fun b o' e' c => (hs.2 b fun z => ?_).trans e', fun _ i => .inl i⟩
  · by_cases z : b = a
    · exact z ▸ ht
    · exact ⟨o', (hs.2 b z).trans e'⟩
  · subst z
    rw [e] at e'; cases e'
    exact s.1 c
theorem own_keep {h h' : Heap} {β : Lay} {a b : Addr} (O : Own G h β b) (hs : Heap.SameBut a h h') (ne : b ≠ a) : Own G h' β b := by
  obtain ⟨o, e, s⟩ := O.soft
  exact ⟨O.notIn, O.fresh, o, (hs.2 b ne).trans e, s⟩
theorem SA.local_ {i : Nat} {x : Str} {p : Pos} (O : ScopeOk sc) (hi : sc.names[i]? = some (x, .local)) : SA G d sc (.Name x p) (aVar i) := by
  intro env A s β ρ σ pv v ρ' σ' hsc hA R F V e Q E h
  cases e
  have hl : env.kindOf x = some .local := by show env.scope.names.lookup x = _; rw [hsc]; exact kind_at O.nodup i x _ hi
  obtain ⟨m, hns, hm⟩ := F.ns
  show wpAny G.M A (do standAt p; bindName env x v) Q E s
  refine wpAny_bind (wpAny_standAt (wpAny_bindName (wpAny_storeName_local hl hns (fun h' hn hs => ?_) (by rw [F.kind]; rfl))))
  have so := soft_dict hn
  have S := own_turn (env := env) R F.own (.inl rfl) hs (let ⟨o, e, _⟩ := so; ⟨o, e⟩)
  refine h _ β S (R.sameBut F.own hs) ⟨F.kind, F.glob, F.bui, ⟨_, hn, fun j y q e1 e2 => ?_⟩, fun j y q e1 e2 => ?_, ⟨F.own.notIn, F.own.fresh, so⟩, fun y c e1 e2 => ?_, F.chas, F.inj⟩ (Sh.mk' ..)
  · by_cases hji : j = i
    · subst hji
      have : y = x := by rw [hsc, hi] at e1; cases e1; rfl
      subst this
      have hq : q = pv := by
        rw [List.getElem?_set] at e2
        split at e2
        · split at e2 <;> cases e2; rfl
        · rename_i z; exact absurd rfl z
      subst hq
      exact ⟨v, if_pos rfl, S.vr V⟩
    · rw [List.getElem?_set_ne (Ne.symm hji)] at e2
      obtain ⟨u, a, b⟩ := hm j y q e1 e2
      have ne : y ≠ x := by
        rintro rfl
        apply hji
        have nd := hsc ▸ O.nodup
        have l1 := (List.getElem?_eq_some_iff.mp e1)
        have l2 := (List.getElem?_eq_some_iff.mp (hsc ▸ hi : env.scope.names[i]? = some (y, .local)))
        have := (List.getElem_inj (h₀ := by simpa using l1.1) (h₁ := by simpa using l2.1) (hsc ▸ O.nodup)).mp (by rw [List.getElem_map, List.getElem_map, l1.2, l2.2])
        exact this
      exact ⟨u, by rw [if_neg ne]; exact a, S.vr b⟩
  · rw [List.getElem?_set_ne (fun z => by subst z; rw [hsc, hi] at e1; cases e1)] at e2
    obtain ⟨c, u, a, b, r⟩ := F.cell j y q e1 e2
    have k := kind_at (hsc ▸ O.nodup) j y _ e1
    exact ⟨c, u, a, b.sameBut hs (F.cown y c k a).2.1, S.vr r⟩
  · obtain ⟨a, b, u, w⟩ := F.cown y c e1 e2
    exact ⟨own_keep a hs b, b, u, w.sameBut hs b⟩
theorem SA.cell_ {i : Nat} {x : Str} {p : Pos} (O : ScopeOk sc) (hi : sc.names[i]? = some (x, .cell)) : SA G d sc (.Name x p) (aVar i) := by
  intro env A s β ρ σ pv v ρ' σ' hsc hA R F V e Q E h
  cases e
  have hl : env.kindOf x = some .cell := by show env.scope.names.lookup x = _; rw [hsc]; exact kind_at O.nodup i x _ hi
  obtain ⟨c, hcl⟩ := F.chas x hl
  obtain ⟨oc, hne, v0, hv0⟩ := F.cown x c hl hcl
  show wpAny G.M A (do standAt p; bindName env x v) Q E s
  refine wpAny_bind (wpAny_standAt (wpAny_bindName (wpAny_storeName_cell F.kind hl hcl hv0 fun h' hn hs => ?_)))
  have so := soft_cell hn
  have S := own_turn (env := env) R oc (.inr ⟨x, hl, hcl⟩) hs (let ⟨o, e, _⟩ := so; ⟨o, e⟩)
  obtain ⟨m, hns, hm⟩ := F.ns
  refine h _ β S (R.sameBut oc hs) ⟨F.kind, F.glob, F.bui, ⟨m, hns.sameBut hs (Ne.symm hne), fun j y q e1 e2 => ?_⟩, fun j y q e1 e2 => ?_, own_keep F.own hs (Ne.symm hne), fun y c' e1 e2 => ?_, F.chas, F.inj⟩ (Sh.mk' ..)
  · rw [List.getElem?_set_ne (fun z => by subst z; rw [hsc, hi] at e1; cases e1)] at e2
    obtain ⟨u, a, b⟩ := hm j y q e1 e2
    exact ⟨u, a, S.vr b⟩
  · by_cases hji : j = i
    · subst hji
      have : y = x := by rw [hsc, hi] at e1; cases e1; rfl
      subst this
      have hq : q = pv := by
        rw [List.getElem?_set] at e2
        split at e2
        · split at e2 <;> cases e2; rfl
        · rename_i z; exact absurd rfl z
      subst hq
      exact ⟨c, v, hcl, hn, S.vr V⟩
    · rw [List.getElem?_set_ne (Ne.symm hji)] at e2
      obtain ⟨c', u, a, b, r⟩ := F.cell j y q e1 e2
      have k := kind_at (hsc ▸ O.nodup) j y _ e1
      have ne : c' ≠ c := by
        rintro rfl
        have := F.inj x y c' hl k hcl a
        subst this
        apply hji
        have l1 := (List.getElem?_eq_some_iff.mp e1)
        have l2 := (List.getElem?_eq_some_iff.mp (hsc ▸ hi : env.scope.names[i]? = some (x, .cell)))
        exact (List.getElem_inj (h₀ := by simpa using l1.1) (h₁ := by simpa using l2.1) (hsc ▸ O.nodup)).mp (by rw [List.getElem_map, List.getElem_map, l1.2, l2.2])
      exact ⟨c', u, a, b.sameBut hs ne, S.vr r⟩
  · by_cases z : c' = c
    · subst z
      exact ⟨⟨oc.notIn, oc.fresh, so⟩, hne, some v, hn⟩
    · obtain ⟨a, b, u, w⟩ := F.cown y c' e1 e2
      exact ⟨own_keep a hs z, b, u, w.sameBut hs z⟩
end
end Mine
end
section
open PySem PySem.W PySem.Calls PyProof.Rows
set_option maxRecDepth 100000
set_option linter.unusedVariables false
namespace Mine
variable [Ban]
set_option linter.unusedSectionVars false
def fSkip : FS := fun ρ σ => some (.next, ρ, σ)
def fSeq (f g : FS) : FS := fun ρ σ => match f ρ σ with
  | some (.next, ρ₁, σ₁) => g ρ₁ σ₁
  | some (.brk, ρ₁, σ₁) => some (.brk, ρ₁, σ₁)
  | some (.cont, ρ₁, σ₁) => some (.cont, ρ₁, σ₁)
  | some (.ret p, ρ₁, σ₁) => some (.ret p, ρ₁, σ₁)
  | none => none
def fIf (c : FB) (f g : FS) : FS := fun ρ σ => match c ρ σ with
  | some (true, σ₁) => f ρ σ₁
  | some (false, σ₁) => g ρ σ₁
  | none => none
def fRet (f : FE) : FS := fun ρ σ => match f ρ σ with
  | some (p, σ₁) => some (.ret p, ρ, σ₁)
  | none => none
def fAsg (f : FE) (g : FA) : FS := fun ρ σ => match f ρ σ with
  | some (p, σ₁) => match g p ρ σ₁ with
    | some (ρ₁, σ₂) => some (.next, ρ₁, σ₂)
    | none => none
  | none => none
def fExp (f : FE) : FS := fun ρ σ => match f ρ σ with
  | some (.none, σ₁) => some (.next, ρ, σ₁)
  | _ => none
def fAug (i : Nat) (k : PV → PV → List PO → Option (PV × List PO)) (f : FE) : FS := fun ρ σ => match ρ[i]? with
  | some (some x) => match f ρ σ with
    | some (y, σ₁) => match k x y σ₁ with
      | some (z, σ₂) => some (.next, ρ.set i (some z), σ₂)
      | none => none
    | none => none
  | _ => none
inductive PIt where
  | seq (i k : Nat)
  | rng (x left step : Int)
  | str (x : Str) (k : Nat)
def PIt.next (σ : List PO) : PIt → Option (Option (PV × PIt))
  | .seq i k => match σ[i]? with
    | some (.list l) => match l[k]? with
      | some p => some (some (p, .seq i (k + 1)))
      | none => some none
    | _ => none
  | .rng x left step => if 0 < left then some (some (.int x, .rng (x + step) (left - 1) step)) else some none
  | .str x k => match x.cps[k]? with
    | some c => some (some (.str ⟨#[c]⟩, .str x (k + 1)))
    | none => some none
def rngLen (a b c : Int) : Int := Builtin.Range.rangeSize a b c
def iterOf (σ : List PO) : PV → Option PIt
  | .ref i => match σ[i]? with
    | some (.list _) => some (.seq i 0)
    | _ => none
  | .rng a b c => if Builtin.Range.small a b c then some (.rng a (rngLen a b c) c) else none
  | .str x => if x.cps.all (· < 128) then some (.str x 0) else none
  | _ => none
def ItR (h : Heap) (β : Lay) (a : Addr) : PIt → Prop
  | .seq i k => ∃ q, β[i]? = some q ∧ h.IsListIter a q.1 k
  | .rng x l st => IsRangeIter h a x l st
  | .str x k => ∃ t, h.IsStrIter a "str_ascii_iterator" x t k
def turns : Nat → FA → FS → FS → PIt → FS
  | 0, _, _, _, _ => fun _ _ => none
  | n + 1, tgt, body, els, it => fun ρ σ => match it.next σ with
    | none => none
    | some none => els ρ σ
    | some (some (p, it')) => match tgt p ρ σ with
      | none => none
      | some (ρ₁, σ₁) => match body ρ₁ σ₁ with
        | some (.next, ρ₂, σ₂) => turns n tgt body els it' ρ₂ σ₂
        | some (.cont, ρ₂, σ₂) => turns n tgt body els it' ρ₂ σ₂
        | some (.brk, ρ₂, σ₂) => some (.next, ρ₂, σ₂)
        | some (.ret v, ρ₂, σ₂) => some (.ret v, ρ₂, σ₂)
        | none => none
def fFor (n : Nat) (tgt : FA) (f : FE) (body els : FS) : FS := fun ρ σ => match f ρ σ with
  | some (x, σ₁) => match iterOf σ₁ x with
    | some it => turns n tgt body els it ρ σ₁
    | none => none
  | none => none
section
variable {G : GC} {d : Nat} {sc : Scope}
abbrev SX (G : GC) (d : Nat) (sc : Scope) (body : List Stmt) (f : FS) : Prop := SS G d sc (execs body) f
theorem SX.nil : SX G d sc [] fSkip := by
  intro env A s β ρ σ fl ρ' σ' hsc hA R F e Q E h
  cases e
  exact wpAny_execs_nil (h _ s β (Step.refl ..).toF R F rfl (Sh.refl s))
theorem SX.cons {st : Stmt} {rest : List Stmt} {f g : FS} (a : SS G d sc (exec st) f) (b : SX G d sc rest g) : SX G d sc (st :: rest) (fSeq f g) := by
  intro env A s β ρ σ fl ρ' σ' hsc hA R F e Q E h
  unfold fSeq at e
  refine wpAny_execs_cons ?_
  split at e
  · rename_i ρ₁ σ₁ e1
    refine a env A s β ρ σ .next ρ₁ σ₁ hsc hA R F e1 _ _ fun v s₁ β₁ S1 R1 F1 L1 H1 => ?_
    rw [show v = .next from L1]
    exact b env A s₁ β₁ ρ₁ σ₁ fl ρ' σ' hsc hA R1 F1 e _ _ fun v s₂ β₂ S2 R2 F2 L2 H2 => h v s₂ β₂ (S1.trans S2) R2 F2 L2 (H1.trans H2)
  · rename_i ρ₁ σ₁ e1
    cases e
    refine a env A s β ρ σ .brk ρ' σ' hsc hA R F e1 _ _ fun v s₁ β₁ S1 R1 F1 L1 H1 => ?_
    rw [show v = .brk from L1]
    exact h _ s₁ β₁ S1 R1 F1 rfl H1
  · rename_i ρ₁ σ₁ e1
    cases e
    refine a env A s β ρ σ .cont ρ' σ' hsc hA R F e1 _ _ fun v s₁ β₁ S1 R1 F1 L1 H1 => ?_
    rw [show v = .cont from L1]
    exact h _ s₁ β₁ S1 R1 F1 rfl H1
  · rename_i p ρ₁ σ₁ e1
    cases e
    refine a env A s β ρ σ (.ret p) ρ' σ' hsc hA R F e1 _ _ fun v s₁ β₁ S1 R1 F1 L1 H1 => ?_
    obtain ⟨u, rfl, r⟩ := L1
    exact h _ s₁ β₁ S1 R1 F1 ⟨u, rfl, r⟩ H1
  · cases e
theorem SS.if_ {t : Expr} {x y : List Stmt} {p : Pos} {c : FB} {f g : FS} (O : ScopeOk sc) (u : SC G d sc t c) (a : SX G d sc x f) (b : SX G d sc y g) : SS G d sc (exec (.If t x y p)) (fIf c f g) := by
  intro env A s β ρ σ fl ρ' σ' hsc hA R F e Q E h
  unfold fIf at e
  refine wpAny_If ?_
  split at e
  · rename_i σ₁ e1
    refine u env A s β ρ σ true σ₁ hsc hA R F e1 _ _ fun s₁ β₁ S1 R1 H1 => ?_
    rw [if_pos rfl]
    exact a env A s₁ β₁ ρ σ₁ fl ρ' σ' hsc hA R1 (F.go O hsc R.base S1) e _ _ fun v s₂ β₂ S2 R2 F2 L2 H2 => h v s₂ β₂ (S1.toF.trans S2) R2 F2 L2 (H1.trans H2)
  · rename_i σ₁ e1
    refine u env A s β ρ σ false σ₁ hsc hA R F e1 _ _ fun s₁ β₁ S1 R1 H1 => ?_
    rw [if_neg (by decide)]
    exact b env A s₁ β₁ ρ σ₁ fl ρ' σ' hsc hA R1 (F.go O hsc R.base S1) e _ _ fun v s₂ β₂ S2 R2 F2 L2 H2 => h v s₂ β₂ (S1.toF.trans S2) R2 F2 L2 (H1.trans H2)
  · cases e
theorem SS.ret_ {x : Expr} {p : Pos} {f : FE} (O : ScopeOk sc) (a : SE G d sc x f) : SS G d sc (exec (.Return (some x) p)) (fRet f) := by
  intro env A s β ρ σ fl ρ' σ' hsc hA R F e Q E h
  unfold fRet at e
  split at e
  · rename_i q σ₁ e1
    cases e
    exact wpAny_Return_some (a env A s β _ σ q _ hsc hA R F e1 _ _ fun v s₁ β₁ S1 R1 V1 H1 => h _ s₁ β₁ S1.toF R1 (F.go O hsc R.base S1) ⟨v, rfl, V1⟩ H1)
  · cases e
def fBrk : FS := fun ρ σ => some (.brk, ρ, σ)
def fCont : FS := fun ρ σ => some (.cont, ρ, σ)
def fRetN : FS := fun ρ σ => some (.ret .none, ρ, σ)
theorem SS.brk_ {p : Pos} : SS G d sc (exec (.Break p)) fBrk := by
  intro env A s β ρ σ fl ρ' σ' hsc hA R F e Q E h
  cases e
  exact fun Γ q hΓ => h _ s β (Step.refl ..).toF R F rfl (Sh.refl s)
theorem SS.cont_ {p : Pos} : SS G d sc (exec (.Continue p)) fCont := by
  intro env A s β ρ σ fl ρ' σ' hsc hA R F e Q E h
  cases e
  exact fun Γ q hΓ => h _ s β (Step.refl ..).toF R F rfl (Sh.refl s)
theorem SS.retN_ {p : Pos} : SS G d sc (exec (.Return none p)) fRetN := by
  intro env A s β ρ σ fl ρ' σ' hsc hA R F e Q E h
  cases e
  exact wpAny_Return_none (h _ s β (Step.refl ..).toF R F ⟨_, rfl, rfl⟩ (Sh.refl s))
theorem SS.asg {t value : Expr} {p : Pos} {f : FE} {g : FA} (O : ScopeOk sc) (a : SE G d sc value f) (b : SA G d sc t g) (hs : ∀ env, swapsWithSole [t] value p.line env = pure false) (hw : ∀ env, swappedStores [t] value env = pure none)
    (he : ∀ env, (assignEach [t] env).map (·.2) = [assign t env]) : SS G d sc (exec (.Assign [t] value p)) (fAsg f g) := by
  intro env A s β ρ σ fl ρ' σ' hsc hA R F e Q E h
  unfold fAsg at e
  split at e
  · rename_i q σ₁ e1
    split at e
    · rename_i ρ₁ σ₂ e2
      cases e
      rw [PyProof.Rows.exec_Assign]
      refine wpAny_bind (wpAny_standAt ?_)
      rw [hs]
      refine wpAny_bind (wpAny_pure ?_)
      rw [if_neg (by decide)]
      refine wpAny_bind (a env A s β ρ σ q σ₁ hsc hA R F e1 _ _ fun v s₁ β₁ S1 R1 V1 H1 => ?_)
      rw [hw]
      refine wpAny_bind (wpAny_pure ?_)
      show wpAny G.M A (do assignAll v ((assignEach [t] env).map (·.2)); pure Flow.next) Q E s₁
      rw [he]
      exact wpAny_bind (b env A s₁ β₁ ρ σ₁ q v ρ' σ' hsc hA R1 (F.go O hsc R.base S1) V1 e2 _ _ fun s₂ β₂ S2 R2 F2 H2 => wpAny_pure (h _ s₂ β₂ (S1.toF.trans S2) R2 F2 rfl (H1.trans H2)))
    · cases e
  · cases e
theorem SS.exp_ {x : Expr} {p : Pos} {f : FE} (O : ScopeOk sc) (a : SE G d sc x f) (hs : ∀ env, swapsWith x none p.line env = pure false) : SS G d sc (exec (.Expr x p)) (fExp f) := by
  intro env A s β ρ σ fl ρ' σ' hsc hA R F e Q E h
  unfold fExp at e
  split at e
  · rename_i σ₁ e1
    cases e
    refine wpAny_Expr (a env A s β _ σ .none _ hsc hA R F e1 _ _ fun v s₁ β₁ S1 R1 V1 H1 => ?_) (by unfold interactive; rw [F.kind]; rfl) (hs env)
    rw [show v = .none from V1]
    exact h _ s₁ β₁ S1.toF R1 (F.go O hsc R.base S1) rfl H1
  · cases e
theorem SS.aug {op : Operator} {x : Str} {px p : Pos} {value : Expr} {i : Nat} {f : FE} {k : PV → PV → List PO → Option (PV × List PO)} (O : ScopeOk sc) (hi : sc.names[i]? = some (x, .local)) (a : SE G d sc value f) (c : SV2 G d (inplaceOp op) k) :
    SS G d sc (exec (.AugAssign (.Name x px) op value p)) (fAug i k f) := by
  intro env A s β ρ σ fl ρ' σ' hsc hA R F e Q E h
  unfold fAug at e
  split at e
  · rename_i u eu
    split at e
    · rename_i y σ₁ e1
      split at e
      · rename_i z σ₂ e2
        cases e
        have hl : env.kindOf x = some .local := by show env.scope.names.lookup x = _; rw [hsc]; exact kind_at O.nodup i x _ hi
        obtain ⟨m, hns, hm⟩ := F.ns
        obtain ⟨v, hv, r⟩ := hm i x u (hsc ▸ hi) eu
        refine wpAny_AugAssign_Name (wpAny_loadName_local F.kind hl hns hv ?_)
        refine a env A s β ρ σ y σ₁ hsc hA R F e1 _ _ fun w s₁ β₁ S1 R1 V1 H1 => ?_
        refine c A s₁ β₁ σ₁ u y v w z σ' hA R1 (S1.vr r) V1 e2 _ _ fun w' s₂ β₂ S2 R2 V2 H2 => ?_
        intro Γ p' hΓ
        have key := SA.local_ (d := d) (p := p') O hi env A s₂ β₂ ρ σ' z w' _ σ' hsc hA R2 (F.go O hsc R.base (S1.trans S2)) V2 rfl (fun _ s' => Q .next s') E fun s₃ β₃ S3 R3 F3 H3 => h _ s₃ β₃ ((S1.trans S2).toF.trans S3) R3 F3 rfl ((H1.trans H2).trans H3)
        have := key Γ p' hΓ
        rw [PySem.assign_Name] at this
        simpa only [Sem.wp_bind', Sem.wp_cmd_standAt, Sem.wp_bindName] using this
      · cases e
    · cases e
  · cases e
theorem StepX.then_but {X : Addr → Prop} {a : Addr} {h h₁ h₂ : Heap} {β β₁ : Lay} (S : StepX G X h β h₁ β₁) (hs : Heap.ExtBut a h₁ h₂) (hn : h.get? a = none) : StepX G X h β h₂ β₁ := by
  have ne : ∀ b o, h.get? b = some o → b ≠ a := fun b o e z => by rw [z, hn] at e; cases e
  refine ⟨S.ext, fun b o e n t x => hs b o (ne b o e) (S.keep b o e n t x), fun b o e => ?_, fun b o e c => hs b o (ne b o e) (S.tup b o e c), S.new⟩
  obtain ⟨o', e'⟩ := S.there b o e
  exact ⟨o', hs b o' (ne b o e) e'⟩
theorem it_soft {h : Heap} {β : Lay} {a : Addr} {it : PIt} (x : ItR h β a it) : ∃ o n vs, h.get? a = some o ∧ o.cls = .type n ∧ o.data = .fields vs ∧ (n = "list_iterator" ∨ n = "range_iterator" ∨ n = "str_ascii_iterator") := by
  cases it with
  | seq i k => obtain ⟨q, _, o, e, c, dd⟩ := x; exact ⟨o, _, _, e, c, dd, .inl rfl⟩
  | rng x l st => exact ⟨_, _, _, x, rfl, rfl, .inr (.inl rfl)⟩
  | str x k => obtain ⟨t, o, e, c, dd⟩ := x; exact ⟨o, _, _, e, c, dd, .inr (.inr rfl)⟩
theorem it_soft' {h : Heap} {β : Lay} {a : Addr} {it : PIt} (x : ItR h β a it) : ∃ o, h.get? a = some o ∧ Soft o := by
  obtain ⟨o, n, vs, e, c, dd, q⟩ := it_soft x
  refine ⟨o, e, soft_of ?_ ?_ ?_⟩ <;> (rw [c]; rcases q with rfl | rfl | rfl <;> rfl)
theorem letOwned_ok {target : Expr} {a : Addr} {v : Value} {A : Around} {s : Shared} {β : Lay} {it : PIt} (x : ItR s.heap β a it) {Q : Unit → Shared → Prop} {E : Value → Shared → Prop} (h : Q () s) : wpAny G.M A (letOwnedTupleGo target (.ref a) v) Q E s := by
  obtain ⟨o, n, vs, e, c, dd, q⟩ := it_soft x
  have key : wpAny G.M A (do
      let (.ref r, .ref a) := (Value.ref a, v) | return
      let o ← load r
      match o.cls, o.data with
      | .type n, .fields vs =>
        if ["enumerate", "zip", "dict_itemiterator", "dict_reverseitemiterator", "odict_iterator", "itertools.zip_longest", "itertools.pairwise"].contains n && vs[0]? == some (rawInt a) then
          rule "for.unpacks-the-owned-tuple"
          updateField r 0 .none
      | _, _ => pure ()) Q E s := by
    cases v <;> first | exact wpAny_pure h | skip
    refine wpAny_bind (wpAny_load e ?_)
    rw [c, dd]
    have : (["enumerate", "zip", "dict_itemiterator", "dict_reverseitemiterator", "odict_iterator", "itertools.zip_longest", "itertools.pairwise"].contains n) = false := by
      rcases q with rfl | rfl | rfl <;> decide
    simp only [this, Bool.false_and, Bool.false_eq_true, if_false]
    exact wpAny_pure h
  unfold letOwnedTupleGo
  cases target <;> first | exact key | exact wpAny_pure h
theorem next_ok {A : Around} {s : Shared} {β : Lay} {σ : List PO} {a : Addr} {it : PIt} {r : Option (PV × PIt)} (hA : Fit A d) (R : Rel G s.heap β σ) (x : ItR s.heap β a it) (O : Own G s.heap β a) (e : it.next σ = some r) {Q : Option Value → Shared → Prop} {E : Value → Shared → Prop}
    (h1 : ∀ p it' v s', r = some (p, it') → VR s'.heap β p v → ItR s'.heap β a it' → Heap.SameBut a s.heap s'.heap → Sh s s' → Q (some v) s')
    (h2 : ∀ s', r = none → Heap.ExtBut a s.heap s'.heap → Sh s s' → Q none s') : wpAny G.M A (pyNext (.ref a)) Q E s := by
  cases it with
  | seq i k =>
    simp only [PIt.next] at e
    split at e
    · rename_i l el
      obtain ⟨q, hq, I⟩ := x
      obtain ⟨b, vs, e1, L, W, hq'⟩ := isList_of (v := .ref q.1) R ⟨q, hq, rfl⟩ el
      cases e1
      split at e
      · rename_i p ep
        cases e
        obtain ⟨v, hv, rv⟩ := W.get ep
        refine wpAny_pyNext_list_item I L (by rw [← Array.getElem?_toList]; exact hv) fun h' I' hs => ?_
        have tp : ∀ b o, s.heap.get? b = some o → IsT o → h'.get? b = some o := fun b o e c => (hs.2 b fun z => by
          subst z
          obtain ⟨o', e', s'⟩ := O.soft
          rw [e'] at e; cases e
          exact s'.1 c).trans e
        exact h1 p _ v _ rfl (rv.mono (fun _ _ e => e) tp) ⟨q, hq, I'⟩ hs (Sh.mk' ..)
      · rename_i ep
        cases e
        refine wpAny_pyNext_list_end hA.hand I L ?_ fun h' hs => h2 _ rfl hs (Sh.mk' ..)
        rw [← Array.getElem?_toList, List.getElem?_eq_none_iff, W.length]
        exact List.getElem?_eq_none_iff.mp ep
    · cases e
  | rng y l st =>
    simp only [PIt.next] at e
    split at e
    · rename_i hl
      cases e
      exact wpAny_pyNext_range_item x hl fun h' I' hs => h1 _ _ _ _ rfl ⟨_, rfl⟩ I' hs (Sh.mk' ..)
    · rename_i hl
      cases e
      exact wpAny_pyNext_range_end hA.hand x (by omega) fun h' hs => h2 _ rfl hs (Sh.mk' ..)
  | str y k =>
    simp only [PIt.next] at e
    obtain ⟨t, I⟩ := x
    split at e
    · rename_i c ec
      cases e
      exact wpAny_pyNext_ascii_item I ec fun h' I' hs => h1 _ _ _ _ rfl ⟨_, rfl⟩ ⟨t, I'⟩ hs (Sh.mk' ..)
    · rename_i ec
      cases e
      exact wpAny_pyNext_ascii_end hA.hand I ec fun h' hs => h2 _ rfl hs (Sh.mk' ..)
theorem iter_ok {A : Around} {s : Shared} {β : Lay} {σ : List PO} {x : PV} {v : Value} {it : PIt} (R : Rel G s.heap β σ) (V : VR s.heap β x v) (e : iterOf σ x = some it) {Q : Value → Shared → Prop} {E : Value → Shared → Prop}
    (h : ∀ s', (∀ b o, s.heap.get? b = some o → s'.heap.get? b = some o) → ItR s'.heap β s.heap.objs.size it → Sh s s' → Q (.ref s.heap.objs.size) s') : wpAny G.M A (pyIter v) Q E s := by
  cases x <;> simp only [iterOf] at e <;> first | (cases e; done) | skip
  · rename_i y
    split at e
    · rename_i ha
      cases e
      obtain ⟨t, rfl⟩ := V
      exact wpAny_pyIter_ascii ha (h _ (fun b o e => Heap.get?_push_of_some _ e) ⟨t, _, Heap.get?_push_size _ rfl, rfl, rfl⟩ (Sh.mk' ..))
    · cases e
  · rename_i i
    split at e
    · rename_i l el
      cases e
      obtain ⟨a, vs, rfl, L, W, hq⟩ := isList_of R V el
      exact wpAny_pyIter_list L (h _ (fun b o e => Heap.get?_push_of_some _ e) ⟨(a, a), hq, _, Heap.get?_push_size _ rfl, rfl, rfl⟩ (Sh.mk' ..))
    · cases e
  · rename_i a b c
    split at e
    · rename_i hs
      cases e
      obtain ⟨r, t, u, w, rfl, I⟩ := V
      exact wpAny_pyIter_range I hs (h _ (fun b o e => Heap.get?_push_of_some _ e) (Heap.get?_push_size _ rfl) (Sh.mk' ..))
    · cases e
end
end Mine
end
section
open PySem PySem.W PySem.Calls PyProof.Rows
set_option maxRecDepth 100000
set_option linter.unusedVariables false
namespace Mine
variable [Ban]
set_option linter.unusedSectionVars false
section
variable {G : GC} {d : Nat} {sc : Scope}
theorem IsListIter_keep {h h' : Heap} {a l : Addr} {k : Nat} (x : h.IsListIter a l k) (e : ∀ o, h.get? a = some o → h'.get? a = some o) : h'.IsListIter a l k := x.at e
theorem ItR.keep {h h' : Heap} {β β' : Lay} {a : Addr} {it : PIt} (x : ItR h β a it) (e : ∀ o, h.get? a = some o → h'.get? a = some o) (hb : ∀ (i : Nat) p, β[i]? = some p → β'[i]? = some p) : ItR h' β' a it := by
  cases it with
  | seq i k => obtain ⟨q, hq, I⟩ := x; exact ⟨q, hb _ _ hq, I.at e⟩
  | rng y l st => exact e _ x
  | str y k => obtain ⟨t, o, eo, r⟩ := x; exact ⟨t, o, e _ eo, r⟩
theorem vars_there {env : Env} {h : Heap} {β : Lay} {ρ : List (Option PV)} {b : Addr} (F : Frm G h β env ρ) (v : Vars env b) : ∃ o, h.get? b = some o := by
  rcases v with rfl | ⟨x, k, c⟩
  · obtain ⟨o, e, _⟩ := F.own.soft; exact ⟨o, e⟩
  · obtain ⟨o, e, _⟩ := (F.cown x b k c).1.soft; exact ⟨o, e⟩
theorem SS.for_ {target iter : Expr} {body els : List Stmt} {p : Pos} {n : Nat} {tgt : FA} {f : FE} {b g : FS} (O : ScopeOk sc) (u : SE G d sc iter f) (t : SA G d sc target tgt) (x : SX G d sc body b) (y : SX G d sc els g)
    (hs : ∀ env v, foldedSetIterable iter env v = pure v) : SS G d sc (exec (.For target iter body els p)) (fFor n tgt f b g) := by
  intro env A s β ρ σ fl ρ' σ' hsc hA R F e Q E h
  unfold fFor at e
  split at e
  · rename_i z σ₁ e1
    split at e
    · rename_i it ei
      refine wpAny_For (u env A s β ρ σ z σ₁ hsc hA R F e1 _ _ fun v s₁ β₁ S1 R1 V1 H1 => ?_) (hs env)
      have F1 := F.go O hsc R.base S1
      refine iter_ok R1 V1 ei fun s₂ k2 I2 H2 => ?_
      generalize ha : s₁.heap.objs.size = a at I2 ⊢
      have na : s₁.heap.get? a = none := ha ▸ heap_fresh _
      have na0 : s.heap.get? a = none := by
        cases q : s.heap.get? a with
        | none => rfl
        | some o => obtain ⟨o', e'⟩ := S1.there a o q; rw [e'] at na; cases na
      have S2 : Step G s₁.heap β₁ s₂.heap β₁ := Step.keeps k2
      have nin : ¬ In a β₁ := fun i => by obtain ⟨o, e, _⟩ := R1.soft i; rw [e] at na; cases na
      have nv : ¬ Vars env a := fun v => by obtain ⟨o, e⟩ := vars_there F1 v; rw [e] at na; cases na
      have fr : G.h₀.get? a = none := by
        cases q : G.h₀.get? a with
        | none => rfl
        | some o =>
          by_cases tb : G.TB a
          · obtain ⟨w, hw, e⟩ := tb
            obtain ⟨_, _, _, _, _, _, dd, _⟩ := R1.base.tab w hw
            rw [e] at dd; rw [dd.2] at na; cases na
          · rw [R1.base.old a o q tb] at na; cases na
      let J : Nat → Shared → Prop := fun m s' => ∃ it' β' ρ₁ σ₂, turns m tgt b g it' ρ₁ σ₂ = some (fl, ρ', σ') ∧ StepF G env s.heap β s'.heap β' ∧ Rel G s'.heap β' σ₂ ∧ Frm G s'.heap β' env ρ₁ ∧ ItR s'.heap β' a it' ∧ ¬ In a β' ∧ Sh s s'
      have J0 : J n s₂ := ⟨it, β₁, ρ, σ₁, e, (S1.trans S2).toF, R1.keeps k2, F1.go O hsc R1.base S2, I2, nin, H1.trans H2⟩
      refine codeAny_forLoop_any J (fun m s' hJ => ?_) n J0
      obtain ⟨it', β', ρ₁, σ₂, em, Sm, Rm, Fm, Im, ni, Hm⟩ := hJ
      cases m with
      | zero => cases em
      | succ m =>
        simp only [turns] at em
        split at em
        · cases em
        · rename_i en
          refine next_ok hA Rm Im ⟨ni, fr, it_soft' Im⟩ en (fun p it₂ v s₃ hr => by cases hr) fun s₃ _ hx H3 => ?_
          have keepX : ∀ b' o, b' ≠ a → s'.heap.get? b' = some o → s₃.heap.get? b' = some o := fun b' o ne e => hx b' o ne e
          have inne : ∀ b', In b' β' → b' ≠ a := fun b' i q => ni (q ▸ i)
          have R3 : Rel G s₃.heap β' σ₂ := by
            obtain ⟨oi, ei', si⟩ := it_soft' Im
            have tp : ∀ b' o, s'.heap.get? b' = some o → IsT o → s₃.heap.get? b' = some o := fun b' o e c => keepX b' o (fun q => by subst q; rw [ei'] at e; cases e; exact si.1 c) e
            refine ⟨⟨fun b' o e n => keepX b' o (fun q => by rw [q, fr] at e; cases e) (Rm.base.old b' o e n), fun t ht => ?_, fun c n => let ⟨o, e, t⟩ := Rm.base.no c n; ⟨o, tp c o e t, t⟩⟩, Rm.len, fun i p o e1 e2 => ?_, Rm.apart, Rm.fresh⟩
            · obtain ⟨ps, ps₀, more, q, bb, cc, dd, ee⟩ := Rm.base.tab t ht
              have n1 : t.c ≠ a := fun z => by
                obtain ⟨⟨oo, vs, gg, _⟩, _⟩ := q
                rw [z, fr] at gg; cases gg
              have n2 : t.P ≠ a := fun z => by
                have := q.2
                rw [z, fr] at this; cases this
              refine ⟨ps, ps₀, more, q, bb, cc.extBut hx n1 n2, dd.extBut hx n1 n2, ee.imp id ?_⟩
              rintro ⟨c', w1, ⟨c'', oo, vs, tt, f1, f2, f3, f4⟩, oc, w3, w4⟩
              cases f1
              have n3 : c' ≠ a := fun z => by
                subst z
                rw [ei'] at w3; cases w3
                exact si.2 w4
              exact ⟨c', w1, ⟨c', oo, vs, tt, rfl, keepX _ _ n3 f2, f3, f4⟩, oc, keepX _ _ n3 w3, w4⟩
            · have x := In.of_get e1
              exact (Rm.at_ i p o e1 e2).same (fun _ _ e => e) tp (fun o e => keepX _ o (inne _ x.1) e) fun o e => keepX _ o (inne _ x.2) e
          have F3 : Frm G s₃.heap β' env ρ₁ := by
            have ne : ∀ b', Vars env b' → b' ≠ a := fun b' v q => nv (q ▸ v)
            have tp : ∀ b' o, s'.heap.get? b' = some o → IsT o → s₃.heap.get? b' = some o := fun b' o e c => keepX b' o (fun q => by
              obtain ⟨oi, ei', si⟩ := it_soft' Im
              subst q; rw [ei'] at e; cases e; exact si.1 c) e
            have vr : ∀ {p : PV} {v : Value}, VR s'.heap β' p v → VR s₃.heap β' p v := fun r => r.mono (fun _ _ e => e) tp
            have ow : ∀ b', Vars env b' → Own G s'.heap β' b' → Own G s₃.heap β' b' := fun b' v O' => by
              obtain ⟨o, e, s⟩ := O'.soft
              exact ⟨O'.notIn, O'.fresh, o, keepX _ _ (ne _ v) e, s⟩
            obtain ⟨m', hns, hm⟩ := Fm.ns
            obtain ⟨oL, es, ep, hL, r⟩ := hns
            refine ⟨Fm.kind, Fm.glob, Fm.bui, ⟨m', ⟨oL, es, ep, keepX _ _ (ne _ (.inl rfl)) hL, r⟩, fun i x pv w1 w2 => ?_⟩, fun i x pv w1 w2 => ?_, ow _ (.inl rfl) Fm.own, fun x c w1 w2 => ?_, Fm.chas, Fm.inj⟩
            · obtain ⟨v, aa, bb⟩ := hm i x pv w1 w2
              exact ⟨v, aa, vr bb⟩
            · obtain ⟨c, v, aa, ⟨oc, eo, dc⟩, rr⟩ := Fm.cell i x pv w1 w2
              exact ⟨c, v, aa, ⟨oc, keepX _ _ (ne _ (.inr ⟨x, kind_at (hsc ▸ O.nodup) i x _ w1, aa⟩)) eo, dc⟩, vr rr⟩
            · obtain ⟨aa, bb, v, oc, eo, dc⟩ := Fm.cown x c w1 w2
              exact ⟨ow _ (.inr ⟨x, w1, w2⟩) aa, bb, v, oc, keepX _ _ (ne _ (.inr ⟨x, w1, w2⟩)) eo, dc⟩
          have S3 : StepF G env s.heap β s₃.heap β' := Sm.then_but hx na0
          exact y env A s₃ β' ρ₁ σ₂ fl ρ' σ' hsc hA R3 F3 em _ _ fun v s₄ β₄ S4 R4 F4 L4 H4 => h v s₄ β₄ (S3.trans S4) R4 F4 L4 ((Hm.trans H3).trans H4)
        · rename_i q it₂ en
          refine next_ok hA Rm Im ⟨ni, fr, it_soft' Im⟩ en (fun p₂ it₃ v s₃ hr V3 I3 hx H3 => ?_) fun s₃ hr => by cases hr
          cases hr
          have own : Own G s'.heap β' a := ⟨ni, fr, it_soft' Im⟩
          have R3 : Rel G s₃.heap β' σ₂ := Rm.sameBut own hx
          have F3 : Frm G s₃.heap β' env ρ₁ := by
            have ne : ∀ b', Vars env b' → b' ≠ a := fun b' v q => nv (q ▸ v)
            have tp : ∀ b' o, s'.heap.get? b' = some o → IsT o → s₃.heap.get? b' = some o := fun b' o e c => (hx.2 b' (fun q => by
              obtain ⟨oi, ei', si⟩ := it_soft' Im
              subst q; rw [ei'] at e; cases e; exact si.1 c)).trans e
            have vr : ∀ {p : PV} {v : Value}, VR s'.heap β' p v → VR s₃.heap β' p v := fun r => r.mono (fun _ _ e => e) tp
            obtain ⟨m', hns, hm⟩ := Fm.ns
            refine ⟨Fm.kind, Fm.glob, Fm.bui, ⟨m', hns.sameBut hx (ne _ (.inl rfl)), fun i x pv w1 w2 => ?_⟩, fun i x pv w1 w2 => ?_, own_keep Fm.own hx (ne _ (.inl rfl)), fun x c w1 w2 => ?_, Fm.chas, Fm.inj⟩
            · obtain ⟨v, aa, bb⟩ := hm i x pv w1 w2
              exact ⟨v, aa, vr bb⟩
            · obtain ⟨c, v, aa, cc, rr⟩ := Fm.cell i x pv w1 w2
              exact ⟨c, v, aa, cc.sameBut hx (ne _ (.inr ⟨x, kind_at (hsc ▸ O.nodup) i x _ w1, aa⟩)), vr rr⟩
            · obtain ⟨aa, bb, v, cc⟩ := Fm.cown x c w1 w2
              exact ⟨own_keep aa hx (ne _ (.inr ⟨x, w1, w2⟩)), bb, v, cc.sameBut hx (ne _ (.inr ⟨x, w1, w2⟩))⟩
          have S3 : StepF G env s.heap β s₃.heap β' := Sm.then_but hx.extBut na0
          refine letOwned_ok I3 ?_
          split at em
          · cases em
          · rename_i ρ₂ σ₃ e2
            refine t env A s₃ β' ρ₁ σ₂ q v ρ₂ σ₃ hsc hA R3 F3 V3 e2 _ _ fun s₄ β₄ S4 R4 F4 H4 => ?_
            have I4 : ItR s₄.heap β₄ a it₂ := I3.keep (fun o e => S4.keep a o e ni (own.tb Rm.base) nv) S4.get
            have own3 : Own G s₃.heap β' a := ⟨ni, fr, it_soft' I3⟩
            have own4 := own3.stepX R3.base S4 nv
            split at em
            · rename_i ρ₃ σ₄ e3
              refine x env A s₄ β₄ ρ₂ σ₃ .next ρ₃ σ₄ hsc hA R4 F4 e3 _ _ fun v' s₅ β₅ S5 R5 F5 L5 H5 => ?_
              rw [show v' = .next from L5]
              have I5 : ItR s₅.heap β₅ a it₂ := I4.keep (fun o e => S5.keep a o e own4.notIn (own4.tb R4.base) nv) S5.get
              exact ⟨m, Nat.lt_succ_self m, it₂, β₅, ρ₃, σ₄, em, (S3.trans S4).trans S5, R5, F5, I5, (own4.stepX R4.base S5 nv).notIn, ((Hm.trans H3).trans H4).trans H5⟩
            · rename_i ρ₃ σ₄ e3
              refine x env A s₄ β₄ ρ₂ σ₃ .cont ρ₃ σ₄ hsc hA R4 F4 e3 _ _ fun v' s₅ β₅ S5 R5 F5 L5 H5 => ?_
              rw [show v' = .cont from L5]
              have I5 : ItR s₅.heap β₅ a it₂ := I4.keep (fun o e => S5.keep a o e own4.notIn (own4.tb R4.base) nv) S5.get
              exact ⟨m, Nat.lt_succ_self m, it₂, β₅, ρ₃, σ₄, em, (S3.trans S4).trans S5, R5, F5, I5, (own4.stepX R4.base S5 nv).notIn, ((Hm.trans H3).trans H4).trans H5⟩
            · rename_i ρ₃ σ₄ e3
              cases em
              refine x env A s₄ β₄ ρ₂ σ₃ .brk ρ' σ' hsc hA R4 F4 e3 _ _ fun v' s₅ β₅ S5 R5 F5 L5 H5 => ?_
              rw [show v' = .brk from L5]
              exact h _ s₅ β₅ ((S3.trans S4).trans S5) R5 F5 rfl (((Hm.trans H3).trans H4).trans H5)
            · rename_i w ρ₃ σ₄ e3
              cases em
              refine x env A s₄ β₄ ρ₂ σ₃ (.ret w) ρ' σ' hsc hA R4 F4 e3 _ _ fun v' s₅ β₅ S5 R5 F5 L5 H5 => ?_
              obtain ⟨u', rfl, rr⟩ := L5
              exact h _ s₅ β₅ ((S3.trans S4).trans S5) R5 F5 ⟨u', rfl, rr⟩ (((Hm.trans H3).trans H4).trans H5)
            · cases em
    · cases e
  · cases e
end
end Mine
end
section
open PySem PySem.W PySem.Calls PyProof.Rows
set_option maxRecDepth 100000
set_option linter.unusedVariables false
namespace Mine
variable [Ban]
set_option linter.unusedSectionVars false
def eCall (Φ : List PV → List PO → Option (PV × List PO)) (g : FEs) : FE := fun ρ σ => match g ρ σ with
  | some (l, σ₁) => Φ l σ₁
  | none => none
def eMeth (test : PV → List PO → Bool) (Φ : List PV → List PO → Option (PV × List PO)) (f : FE) (g : FEs) : FE := fun ρ σ => match f ρ σ with
  | some (x, σ₁) => match test x σ₁ with
    | true => match g ρ σ₁ with
      | some (l, σ₂) => Φ (x :: l) σ₂
      | none => none
    | false => none
  | none => none
inductive Callee (K : Frag) : Value → Prop
  | builtin (id : String) : Callee K (.builtin id)
  | type (T : String) : Callee K (.type T)
  | own {f : Value} (h : keepIn K f = true) : Callee K f
def Unstarred (es : List Expr) : Prop := ∀ env, starEach es env = es.map fun e => (false, eval e env)
theorem Unstarred.plain {es : List Expr} (u : Unstarred es) (env : Env) (p : Pos) : (backTo p (starEach es env)).any (·.1) = false := by
  rw [u]
  unfold backTo
  rw [List.map_map, List.any_map]
  rw [List.any_eq_false]
  intro x _
  simp
section
variable {G : GC} {d : Nat} {sc : Scope}
theorem cw_ok (O : GOk G) {fv : Value} (kp : Callee G.K fv) {args : List Expr} {g : FEs} (b : SL G d sc args g) (us : Unstarred args) {env : Env} {A : Around} {s : Shared} {β : Lay} {ρ : List (Option PV)} {σ : List PO} {l : List PV} {σ' : List PO} {pos : Pos} {first : List Value}
    (hsc : env.scope = sc) (hA : Fit A d) (R : Rel G s.heap β σ) (F : Frm G s.heap β env ρ) (e : g ρ σ = some (l, σ')) {Q : Value → Shared → Prop} {E : Value → Shared → Prop}
    (h : ∀ vs s' β', Step G s.heap β s'.heap β' → Rel G s'.heap β' σ' → VRs s'.heap β' l vs → Sh s s' → wpAny G.M A (call fv (first ++ vs)) Q E s') :
    wpAny G.M A (callWith pos fv first (backTo pos (starEach args env)) []) Q E s := by
  have ev : ∀ P : Heap → Prop, (∀ (s' : Shared) (β' : Lay), Rel G s'.heap β' σ' → P s'.heap) → wpAny G.M A (evalArgs fv true (backTo pos (starEach args env)) []) (fun a s₁ => P s₁.heap ∧ wpAny G.M A (call fv (first ++ a.pos) a.kw) Q E s₁) E s := fun P hP => by
    have sp := b pos env A s β ρ σ l σ' hsc hA R F e (fun vs s₁ => P s₁.heap ∧ wpAny G.M A (call fv (first ++ vs)) Q E s₁) E fun vs s₁ β₁ S1 R1 V1 H1 => ⟨hP s₁ β₁ R1, h vs s₁ β₁ S1 R1 V1 H1⟩
    dsimp only at sp
    rw [us] at sp ⊢
    cases args with
    | nil =>
      intro Γ p hΓ
      exact PyProof.Rows.evalArgs_nil3 (Q := fun a s₁ => P s₁.heap ∧ wpAny G.M A (call fv (first ++ a.pos) a.kw) Q E s₁) (sp Γ p hΓ) Γ p hΓ
    | cons x rest => exact Calls.evalArgs_plain sp
  cases kp with
  | builtin id => exact Calls.callWith_builtin (us.plain env pos) (wpAny_mono (ev (fun _ => True) fun _ _ _ => trivial) (fun a s₁ z => z.2) fun _ _ z => z)
  | type T => exact PySem.callWith_type (us.plain env pos) (wpAny_mono (ev (fun _ => True) fun _ _ _ => trivial) (fun a s₁ z => z.2) fun _ _ z => z)
  | own hk => exact callWith_of (P := fun h => G.K.In h) (by rw [us.plain env pos]; rfl) (keeps_K hk) (ev _ fun s' β' R' => R'.base.K O)
theorem SE.call (O : GOk G) (OS : ScopeOk sc) {func : Expr} {fv : Value} (kp : Callee G.K fv) (a : SE G d sc func (eLit (.lit fv))) {args : List Expr} {g : FEs} (b : SL G d sc args g) (us : Unstarred args) {Φ : List PV → List PO → Option (PV × List PO)} (c : SCall G d fv Φ) {p : Pos}
    (he : ∀ env, eval (.Call func args [] p) env = (do callWith p (← eval func env) [] (backTo p (starEach args env)) [])) :
    SE G d sc (.Call func args [] p) (eCall Φ g) := by
  intro env A s β ρ σ pv σ' hsc hA R F e Q E h
  unfold eCall at e
  split at e
  · rename_i l σ₁ e1
    rw [he]
    refine wpAny_bind (a env A s β ρ σ (.lit fv) σ hsc hA R F rfl _ _ fun v s₁ β₁ S1 R1 V1 H1 => ?_)
    rw [show v = fv from V1]
    refine cw_ok O kp b us hsc hA R1 (F.go OS hsc R.base S1) e1 fun vs s₂ β₂ S2 R2 V2 H2 => ?_
    exact c A s₂ β₂ σ₁ l vs pv σ' hA R2 V2 e _ _ fun v s₃ β₃ S3 R3 V3 H3 => h v s₃ β₃ ((S1.trans S2).trans S3) R3 V3 ((H1.trans H2).trans H3)
  · cases e
def SGet (G : GC) (name : Str) (fv : Value) (test : PV → List PO → Bool) : Prop :=
  ∀ (A : Around) (s : Shared) (β : Lay) (σ : List PO) (x : PV) (vx : Value) (pl : Sem Bool), Rel G s.heap β σ → VR s.heap β x vx → test x σ = true → ∀ (Q : Value × List Value → Shared → Prop) (E : Value → Shared → Prop),
    (∀ s' β', Step G s.heap β s'.heap β' → Rel G s'.heap β' σ → VR s'.heap β' x vx → Sh s s' → Q (fv, [vx]) s') → wpAny G.M A (getMethod vx name pl) Q E s
theorem SE.meth (O : GOk G) (OS : ScopeOk sc) {o : Expr} {name : Str} {apos p : Pos} {fv : Value} {test : PV → List PO → Bool} {f : FE} (a : SE G d sc o f) (gm : SGet G name fv test) (kp : Callee G.K fv)
    {args : List Expr} {g : FEs} (b : SL G d sc args g) (us : Unstarred args) {Φ : List PV → List PO → Option (PV × List PO)} (c : SCall G d fv Φ)
    (he : ∀ env, ∃ pl, eval (.Call (.Attribute o name apos) args [] p) env = (do
      let ov ← eval o env
      standAt apos.atName
      let (f, first) ← holding [ov] (getMethod ov name pl)
      callWith p f first (backTo p (starEach args env)) [])) :
    SE G d sc (.Call (.Attribute o name apos) args [] p) (eMeth test Φ f g) := by
  intro env A s β ρ σ pv σ' hsc hA R F e Q E h
  unfold eMeth at e
  obtain ⟨pl, he⟩ := he env
  split at e
  · rename_i x σ₁ e1
    split at e
    · rename_i ht
      split at e
      · rename_i l σ₂ e2
        refine PyProof.Rows.MethodCall_ (pl := pl) ?_ he
        refine a env A s β ρ σ x σ₁ hsc hA R F e1 _ _ fun v s₁ β₁ S1 R1 V1 H1 => ?_
        refine gm A s₁ β₁ σ₁ x v pl R1 V1 ht _ _ fun s₂ β₂ S2 R2 V2 H2 => ?_
        refine cw_ok O kp b us hsc hA R2 (F.go OS hsc R.base (S1.trans S2)) e2 fun vs s₃ β₃ S3 R3 V3 H3 => ?_
        exact c A s₃ β₃ σ₂ (x :: l) (v :: vs) pv σ' hA R3 ⟨v, vs, rfl, S3.vr V2, V3⟩ e _ _ fun v s₄ β₄ S4 R4 V4 H4 => h v s₄ β₄ (((S1.trans S2).trans S3).trans S4) R4 V4 (((H1.trans H2).trans H3).trans H4)
      · cases e
    · cases e
  · cases e
def isA (C : Addr) : PV → List PO → Bool
  | .ref i, σ => match σ[i]? with
    | some o => match fieldsOfPO o with
      | some (C', _) => C' == C
      | none => false
    | none => false
  | _, _ => false
theorem FsR.none {h : Heap} {β : Lay} {x : Str} : ∀ {ns : List Str} {fs : List PV} {es : List DictEntry}, FsR h β ns fs es → x ∉ ns → es.find? (·.key.isStr x) = Option.none ∧ es.any (·.refKey) = false
  | ns, [], es, e, nx => by
    have : es = [] := by cases ns <;> exact e
    subst this
    exact ⟨rfl, rfl⟩
  | y :: ns, q :: fs, _, ⟨e, r, rfl, ⟨t, hk⟩, hv, hr⟩, nx => by
    obtain ⟨h1, h2⟩ := FsR.none hr (fun m => nx (.tail _ m))
    have ne : (y == x) = false := by
      rw [beq_eq_false_iff_ne]
      rintro rfl
      exact nx (.head _)
    exact ⟨by rw [List.find?_cons, hk, show Value.isStr (.str y t) x = false from ne]; exact h1, by rw [List.any_cons, h2, Bool.or_false]; show DictEntry.refKey e = false; unfold DictEntry.refKey; rw [hk]⟩
theorem SGet.cls (O : GOk G) {C : Addr} {cd : ClassData} {name : Str} {fv tf : Value} (P : PlainCls G.K C cd) (hf : findIn G.K (.ref C) name = some (some fv)) (ht : typeIn G.K fv = some tf)
    (htf : (tf != .type "function" && tf != .type "method_descriptor" && tf != .type "wrapper_descriptor") = false) (hn : name ∉ G.flds C) : SGet G name fv (isA C) := by
  intro A s β σ x vx pl R V t Q E h
  cases x <;> simp only [isA] at t <;> first | (cases t; done) | skip
  rename_i i
  split at t
  · rename_i o eo
    split at t
    · rename_i C' fs ef
      have hC : C' = C := by simpa using t
      subst hC
      obtain ⟨p, ox, es, n, rfl, hp, I, hd, hfs⟩ := inst_of R V eo ef
      obtain ⟨n1, n2⟩ := hfs.none hn
      refine method_any (R.base.K O) I P hf ht htf ?_ (h s β (Step.refl ..) R ⟨p, hp, rfl⟩ (Sh.refl s))
      show (lookIn name (dictOf es n)).map _ = _
      rw [lookIn_dict]
      unfold getL
      rw [n1, n2]
      rfl
    · cases t
  · cases t
theorem SGet.own (O : GOk G) {C : Addr} {cd : ClassData} {name : Str} {f : Addr} (P : PlainCls G.K C cd) (hf : findIn G.K (.ref C) name = some (some (.ref f))) (ht : typeIn G.K (.ref f) = some (.type "function")) (hn : name ∉ G.flds C) : SGet G name (.ref f) (isA C) :=
  SGet.cls O P hf ht (by decide) hn
def isL : PV → List PO → Bool
  | .ref i, σ => match σ[i]? with
    | some (.list _) => true
    | _ => false
  | _, _ => false
def isS : PV → List PO → Bool
  | .str _, _ => true
  | _, _ => false
theorem SGet.list {name : Str} {id : String} (gm : ∀ (A : Around) (s : Shared) (l : Addr) (o : Obj) (pl : Sem Bool) (Q : Value × List Value → Shared → Prop) (E : Value → Shared → Prop), s.heap.get? l = some o → o.cls = .type "list" → o.dict = none → Q (.builtin id, [.ref l]) s → wpAny G.M A (getMethod (.ref l) name pl) Q E s) :
    SGet G name (.builtin id) isL := by
  intro A s β σ x vx pl R V t Q E h
  cases x <;> simp only [isL] at t <;> first | (cases t; done) | skip
  rename_i i
  split at t
  · rename_i l el
    have V' := V
    obtain ⟨p, hp, rfl⟩ := V
    obtain ⟨_, vs, n, e2, _⟩ := R.at_ i p _ hp el
    exact gm A s p.1 _ pl Q E e2 rfl rfl (h s β (Step.refl ..) R V' (Sh.refl s))
  · cases t
theorem SGet.str {name : Str} {id : String} (gm : ∀ (A : Around) (s : Shared) (x : Str) (t : Tok) (pl : Sem Bool) (Q : Value × List Value → Shared → Prop) (E : Value → Shared → Prop), Q (.builtin id, [.str x t]) s → wpAny G.M A (getMethod (.str x t) name pl) Q E s) :
    SGet G name (.builtin id) isS := by
  intro A s β σ x vx pl R V t Q E h
  cases x <;> simp only [isS] at t <;> first | (cases t; done) | skip
  have V' := V
  obtain ⟨u, rfl⟩ := V
  exact gm A s _ u pl Q E (h s β (Step.refl ..) R V' (Sh.refl s))
end
end Mine
end
section
open PySem PySem.W PySem.Calls PyProof.Rows
set_option maxRecDepth 100000
set_option linter.unusedVariables false
namespace Mine
variable [Ban]
set_option linter.unusedSectionVars false
def runBody (dpv : List PV) (ar sz : Nat) (f : FS) : List PV → List PO → Option (PV × List PO) := fun l σ =>
  if l.length + dpv.length = ar then
    match f ((l ++ dpv).map some ++ List.replicate (sz - ar) none) σ with
    | some (.ret p, _, σ') => some (p, σ')
    | some (.next, _, σ') => some (.none, σ')
    | _ => none
  else none
section
variable {G : GC} {d : Nat}
theorem bindL_of {kindOf : Str → Option NameKind} {x : Str} (hk : kindOf x = some .local) : ∀ (binds : List (Str × Value)) (m : Str → Option Value), (binds.map (·.1)).Nodup → ∀ v, ((x, v) ∈ binds → bindL kindOf binds m x = some v) ∧ (x ∉ binds.map (·.1) → bindL kindOf binds m x = m x)
  | [], m, _, v => ⟨fun h => (nomatch h), fun _ => rfl⟩
  | (n, u) :: r, m, nd, v => by
    rw [List.map_cons, List.nodup_cons] at nd
    constructor
    · intro h
      unfold bindL
      rcases List.mem_cons.mp h with h | h
      · cases h
        rw [(bindL_of hk r _ nd.2 u).2 nd.1, if_pos hk]
        exact if_pos rfl
      · exact (bindL_of hk r _ nd.2 v).1 h
    · intro h
      rw [List.map_cons, List.mem_cons, not_or] at h
      unfold bindL
      rw [(bindL_of hk r _ nd.2 v).2 h.2]
      split
      · exact if_neg h.1
      · rfl
theorem bindC_of {kindOf : Str → Option NameKind} {x : Str} (hk : kindOf x ≠ some .local) : ∀ (binds : List (Str × Value)) (m : Str → Option Value), (binds.map (·.1)).Nodup → ∀ v, ((x, v) ∈ binds → bindC kindOf binds m x = some v) ∧ (x ∉ binds.map (·.1) → bindC kindOf binds m x = m x)
  | [], m, _, v => ⟨fun h => (nomatch h), fun _ => rfl⟩
  | (n, u) :: r, m, nd, v => by
    rw [List.map_cons, List.nodup_cons] at nd
    constructor
    · intro h
      unfold bindC
      rcases List.mem_cons.mp h with h | h
      · cases h
        rw [(bindC_of hk r _ nd.2 u).2 nd.1, if_neg hk]
        exact if_pos rfl
      · exact (bindC_of hk r _ nd.2 v).1 h
    · intro h
      rw [List.map_cons, List.mem_cons, not_or] at h
      unfold bindC
      rw [(bindC_of hk r _ nd.2 v).2 h.2]
      split
      · rfl
      · exact if_neg h.1
theorem cellsFrom_has {x : Str} : ∀ (names : List (Str × NameKind)) (n : Nat) (acc : List (Str × Addr)), (x, NameKind.cell) ∈ names ∨ (acc.lookup x).isSome = true → ((cellsFrom n names acc).lookup x).isSome = true
  | [], n, acc, h => h.elim (fun m => nomatch m) id
  | (y, k) :: r, n, acc, h => by
    unfold cellsFrom
    split
    · refine cellsFrom_has r (n + 1) _ ?_
      rcases h with h | h
      · rcases List.mem_cons.mp h with h | h
        · cases h; right; simp
        · exact .inl h
      · right
        rw [List.lookup_cons]
        cases x == y <;> simp [h]
    · rename_i hk
      refine cellsFrom_has r n _ ?_
      rcases h with h | h
      · rcases List.mem_cons.mp h with h | h
        · cases h; exact absurd rfl hk
        · exact .inl h
      · exact .inr h
structure DefOk (G : GC) (f : Addr) (fd : FuncData) (body : List Stmt) (params : List Str) (dpv : List PV) : Prop where
  look : ∃ oc od osl, G.K.lookup f = some ⟨oc, od, .func fd, osl⟩
  body : fd.body = .stmts body
  code : codeIn G.K fd.code fd.qualname = true
  clo : fd.closure = []
  glob : fd.globals = mainGlobals
  bui : fd.builtins = builtinsNs
  bind : ∀ (s : Shared) (β : Lay) (vs : List Value), Base G s.heap → vs.length + dpv.length = params.length → ∃ dvs, BindsTo s fd ⟨vs, []⟩ (params.zip (vs ++ dvs)) ∧ VRs s.heap β dpv dvs
  co : fd.scope.isCoroutine = false
  gen : fd.scope.isGenerator = false
  kind : fd.scope.kind = .function
  sc : ScopeOk fd.scope
  first : ∀ (i : Nat) x, params[i]? = some x → ∃ k, fd.scope.names[i]? = some (x, k) ∧ (k = .local ∨ k = .cell)
theorem zip_mem {α β : Type} : ∀ {l : List α} {m : List β} {i : Nat} {a : α} {b : β}, l[i]? = some a → m[i]? = some b → (a, b) ∈ l.zip m
  | x :: l, y :: m, 0, a, b, h1, h2 => by cases h1; cases h2; exact .head _
  | x :: l, y :: m, i + 1, a, b, h1, h2 => .tail _ (zip_mem (by simpa using h1) (by simpa using h2))
theorem call_cellsB {prog : Program} {w : World} {A : Around} {s : Shared} {R : Result → Shared → Prop} {a : Addr} {o : Obj} {fd : FuncData} {body : List Stmt} {vals : List Value} {binds : List (Str × Value)}
    (hroom : A.depth < recursionLimit) (ho : s.heap.get? a = some o) (hdata : o.data = .func fd) (hlim : s.heap.NoLimit) (hcd : s.heap.CodeRec fd.code fd.qualname)
    (hbody : fd.body = .stmts body) (hbind : BindsTo s fd ⟨vals, []⟩ binds) (hclo : fd.closure = [])
    (hkind : ∀ x ∈ binds, fd.scope.names.lookup x.1 = some .local ∨ (fd.scope.names.lookup x.1 = some .cell ∧ ((cellsFrom (s.heap.objs.size + 1) fd.scope.names []).lookup x.1).isSome = true))
    (h : ∀ s₁, InCallC s (callEnvC fd s.heap.objs.size a).locals (bindL (callEnvC fd s.heap.objs.size a).kindOf binds fun _ => none) (callEnvC fd s.heap.objs.size a).cells
        (bindC (callEnvC fd s.heap.objs.size a).kindOf binds fun _ => none) s₁ →
      wpAny (model prog w) (A.deeper (callEnvC fd s.heap.objs.size a)) (execs body (callEnvC fd s.heap.objs.size a)) (fun f s' => R (.ok (.ret (match f with | .ret v => v | _ => .none))) s')
        (fun e s' => wpAny (model prog w) (A.deeper (callEnvC fd s.heap.objs.size a)) (leaving (callEnvC fd s.heap.objs.size a) e) (fun _ s'' => R (.error e) s'') (fun e' s'' => R (.error e') s'') s') s₁)
    (hco : fd.scope.isCoroutine = false) (hgen : fd.scope.isGenerator = false) (hk : fd.scope.kind = .function) :
    codeAny (model prog w) A (.call (.ref a) ⟨vals, []⟩) R s := by
  refine codeAny_call_function hroom ho hdata hco hgen hbody hcd (hbind _ _ _ _ ?_)
  rw [hclo]
  refine wpAny_newFunctionEnv_cells hk hkind fun env he s' x => ?_
  subst he
  exact ⟨hlim.keeps x.toInCall.keep, codeAny_func (h s' x)⟩
def SSp (G : GC) (d : Nat) (P : Env → Prop) (t : Env → Sem Flow) (f : FS) : Prop :=
  ∀ (env : Env) (A : Around) (s : Shared) (β : Lay) (ρ : List (Option PV)) (σ : List PO) (fl : Fl) (ρ' : List (Option PV)) (σ' : List PO), P env → Fit A d → Rel G s.heap β σ → Frm G s.heap β env ρ →
    f ρ σ = some (fl, ρ', σ') → ∀ (Q : Flow → Shared → Prop) (E : Value → Shared → Prop),
    (∀ v s' β', StepF G env s.heap β s'.heap β' → Rel G s'.heap β' σ' → Frm G s'.heap β' env ρ' → FlR s'.heap β' fl v → Sh s s' → Q v s') → wpAny G.M A (t env) Q E s
def DefEnv (fd : FuncData) (env : Env) : Prop := env.scope = fd.scope ∧ env.code = fd.code ∧ env.qual = fd.qualname ++ ".<locals>."
theorem SCall.defp (O : GOk G) {f : Addr} {fd : FuncData} {body : List Stmt} {params : List Str} {dpv : List PV} (D : DefOk G f fd body params dpv) {g : FS} (x : SSp G d (DefEnv fd) (execs body) g) :
    SCall G (d + 1) (.ref f) (runBody dpv params.length fd.scope.names.length g) := by
  intro A s β σ l₀ vs₀ pv σ' hA R V₀ e Q E h
  unfold runBody at e
  split at e
  · rename_i hl₀
    have hvs₀ : vs₀.length + dpv.length = params.length := by rw [V₀.length, hl₀]
    obtain ⟨dvs, hbindto, Vd⟩ := D.bind s β vs₀ R.base hvs₀
    have V := V₀.append Vd
    generalize hL : l₀ ++ dpv = l at V e
    generalize hW : vs₀ ++ dvs = vs at V hbindto
    have hl : l.length = params.length := by rw [← hL, List.length_append, hl₀]
    have hvs : vs.length = params.length := by rw [V.length, hl]
    obtain ⟨oc, od, osl, hlook⟩ := D.look
    have B := R.base
    have nodupP : params.Nodup := by
      have nd := D.sc.nodup
      have : params = (fd.scope.names.map (·.1)).take params.length := by
        apply List.ext_getElem?
        intro i
        by_cases hi : i < params.length
        · rw [List.getElem?_take_of_lt hi, List.getElem?_map]
          obtain ⟨k, hk, _⟩ := D.first i _ (List.getElem?_eq_getElem hi)
          rw [hk, List.getElem?_eq_getElem hi]; rfl
        · rw [List.getElem?_eq_none (by omega), List.getElem?_eq_none (by rw [List.length_take]; omega)]
      rw [this]
      exact nd.sublist (List.take_sublist _ _)
    have hz : ((params.zip vs).map (·.1)) = params := by rw [List.map_fst_zip]; omega
    have ndz : ((params.zip vs).map (·.1)).Nodup := by rw [hz]; exact nodupP
    refine wpAny_call (call_cellsB (binds := params.zip vs) hA.room (B.K O _ _ hlook) rfl (B.nolimit O) (codeRec_of (B.K O) D.code) D.body hbindto D.clo (fun y hy => ?_) (fun s₁ I => ?_) D.co D.gen D.kind)
    · obtain ⟨i, hi, hy'⟩ := List.mem_iff_getElem.mp hy
      rw [List.getElem_zip] at hy'
      obtain ⟨k, hk, hk'⟩ := D.first i y.1 (by rw [← hy']; exact List.getElem?_eq_getElem _)
      have hlk := kind_at D.sc.nodup i _ _ hk
      rcases hk' with rfl | rfl
      · exact .inl hlk
      · exact .inr ⟨hlk, cellsFrom_has _ _ _ (.inl (List.mem_of_getElem? hk))⟩
    · generalize hE : callEnvC fd s.heap.objs.size f = env at I ⊢
      have eS : env.scope = fd.scope := by rw [← hE]; rfl
      have eP : DefEnv fd env := ⟨eS, by rw [← hE]; rfl, by rw [← hE]; rfl⟩
      have eL : env.locals = s.heap.objs.size := by rw [← hE]; rfl
      have eC : env.cells = cellsFrom (s.heap.objs.size + 1) fd.scope.names [] := by rw [← hE]; rfl
      have keep : ∀ b o, s.heap.get? b = some o → s₁.heap.get? b = some o := I.toInCall.keep
      have R1 : Rel G s₁.heap β σ := R.keeps keep
      have S1 : Step G s.heap β s₁.heap β := Step.keeps keep
      have V1 := S1.vrs V
      have Sh1 : Sh s s₁ := by obtain ⟨h', tk, rfl⟩ := I.toInCall.same; exact Sh.mk' ..
      have deadIn : ∀ b, s.heap.get? b = none → ¬ In b β ∧ G.h₀.get? b = none := fun b e => by
        refine ⟨fun i => ?_, ?_⟩
        · obtain ⟨o, q, _⟩ := R.soft i
          rw [e] at q; cases q
        cases q : G.h₀.get? b with
        | none => rfl
        | some o =>
          by_cases tb : G.TB b
          · obtain ⟨w, hw, e'⟩ := tb
            obtain ⟨_, _, _, _, _, _, dd, _⟩ := B.tab w hw
            rw [e'] at dd; rw [dd.2] at e; cases e
          · rw [B.old b o q tb] at e; cases e
      have nL : s.heap.get? env.locals = none := eL ▸ heap_fresh _
      have cellAbove : ∀ x c, env.cells.lookup x = some c → s.heap.get? c = none ∧ c ≠ env.locals := fun x c hc => by
        have ab := I.above x c (mem_of_lookup hc)
        exact ⟨Heap.get?_none_of_le (by rw [← eL]; exact Nat.le_of_lt ab), Nat.ne_of_gt ab⟩
      have F1 : Frm G s₁.heap β env (l.map some ++ List.replicate (fd.scope.names.length - params.length) none) := by
        refine ⟨by rw [eS]; exact D.kind, by rw [← hE]; exact D.glob, by rw [← hE]; exact D.bui, ⟨_, I.toInCall.ns, fun i x pv e1 e2 => ?_⟩, fun i x pv e1 e2 => ?_, ⟨(deadIn _ nL).1, (deadIn _ nL).2, soft_dict I.toInCall.ns⟩, fun x c e1 e2 => ?_, fun x e1 => ?_, fun x y c k1 k2 e1 e2 => ?_⟩
        · rw [eS] at e1
          have hi : i < l.length := by
            rcases Nat.lt_or_ge i l.length with q | q
            · exact q
            · rw [List.getElem?_append_right (by simpa using q), List.getElem?_replicate] at e2
              split at e2 <;> cases e2
          rw [List.getElem?_append_left (by simpa using hi), List.getElem?_map] at e2
          obtain ⟨p, hp, e2⟩ := Option.map_eq_some_iff.mp e2
          cases e2
          obtain ⟨v, hv, rv⟩ := V1.get hp
          obtain ⟨k, hk, _⟩ := D.first i _ (List.getElem?_eq_getElem (by omega : i < params.length))
          rw [hk] at e1
          cases e1
          refine ⟨v, ((bindL_of (by show env.scope.names.lookup _ = _; rw [eS]; exact kind_at D.sc.nodup i _ _ hk) _ _ ndz v).1 ?_), rv⟩
          exact zip_mem (List.getElem?_eq_getElem _) hv
        · rw [eS] at e1
          have hi : i < l.length := by
            rcases Nat.lt_or_ge i l.length with q | q
            · exact q
            · rw [List.getElem?_append_right (by simpa using q), List.getElem?_replicate] at e2
              split at e2 <;> cases e2
          rw [List.getElem?_append_left (by simpa using hi), List.getElem?_map] at e2
          obtain ⟨p, hp, e2⟩ := Option.map_eq_some_iff.mp e2
          cases e2
          obtain ⟨v, hv, rv⟩ := V1.get hp
          obtain ⟨k, hk, _⟩ := D.first i _ (List.getElem?_eq_getElem (by omega : i < params.length))
          rw [hk] at e1
          cases e1
          have hkd : env.kindOf params[i] = some .cell := by show env.scope.names.lookup _ = _; rw [eS]; exact kind_at D.sc.nodup i _ _ hk
          obtain ⟨c, hc⟩ := Option.isSome_iff_exists.mp (cellsFrom_has (x := params[i]) fd.scope.names (s.heap.objs.size + 1) [] (.inl (List.mem_of_getElem? hk)))
          rw [← eC] at hc
          refine ⟨c, v, hc, ?_, rv⟩
          have := I.cell _ c hc
          rw [(bindC_of (by rw [hkd]; decide) _ _ ndz v).1 (zip_mem (List.getElem?_eq_getElem _) hv)] at this
          exact this
        · have ab := cellAbove x c e2
          have ic := I.cell x c e2
          exact ⟨⟨(deadIn _ ab.1).1, (deadIn _ ab.1).2, soft_cell ic⟩, ab.2, _, ic⟩
        · have hm : (x, NameKind.cell) ∈ fd.scope.names := by
            have : fd.scope.names.lookup x = some .cell := by rw [← eS]; exact e1
            exact mem_of_lookup this
          obtain ⟨c, hc⟩ := Option.isSome_iff_exists.mp (cellsFrom_has (x := x) fd.scope.names (s.heap.objs.size + 1) [] (.inl hm))
          exact ⟨c, eC ▸ hc⟩
        · exact name_of_addr I.apart (mem_of_lookup e1) (mem_of_lookup e2)
      have back : ∀ {h' : Heap} {β' : Lay}, StepF G env s₁.heap β h' β' → Step G s.heap β h' β' := fun S =>
        ((S1.toX (X := Vars env)).trans S).toStep fun b o eb v => by
          rcases v with rfl | ⟨x, _, c⟩
          · rw [nL] at eb; cases eb
          · rw [(cellAbove x b c).1] at eb; cases eb
      split at e
      · rename_i p ρ' σ₂ e1
        cases e
        refine x env _ s₁ β _ σ (.ret pv) ρ' σ' eP hA.deeper R1 F1 e1 _ _ fun v s₂ β₂ S2 R2 F2 L2 H2 => ?_
        obtain ⟨u, rfl, rr⟩ := L2
        exact h u s₂ β₂ (back S2) R2 rr (Sh1.trans H2)
      · rename_i ρ' σ₂ e1
        cases e
        refine x env _ s₁ β _ σ .next ρ' σ' eP hA.deeper R1 F1 e1 _ _ fun v s₂ β₂ S2 R2 F2 L2 H2 => ?_
        rw [show v = .next from L2]
        exact h .none s₂ β₂ (back S2) R2 rfl (Sh1.trans H2)
      · cases e
  · cases e
theorem SCall.def_ (O : GOk G) {f : Addr} {fd : FuncData} {body : List Stmt} {params : List Str} {dpv : List PV} (D : DefOk G f fd body params dpv) {g : FS} (x : SX G d fd.scope body g) :
    SCall G (d + 1) (.ref f) (runBody dpv params.length fd.scope.names.length g) :=
  SCall.defp O D fun env A s β ρ σ fl ρ' σ' h1 => x env A s β ρ σ fl ρ' σ' h1.1
end
end Mine
end
section
open PySem PySem.W PySem.Calls PyProof.Rows
set_option maxRecDepth 100000
set_option linter.unusedVariables false
namespace Mine
variable [Ban]
set_option linter.unusedSectionVars false
section
variable {G : GC} {d : Nat} {sc : Scope} {h h' : Heap} {β : Lay} {σ : List PO} {env : Env} {ρ : List (Option PV)}
theorem dead_own (R : Rel G h β σ) {a : Addr} (e : h.get? a = none) : ¬ In a β ∧ G.h₀.get? a = none := by
  refine ⟨fun i => ?_, ?_⟩
  · obtain ⟨o, q, _⟩ := R.soft i
    rw [e] at q; cases q
  cases q : G.h₀.get? a with
  | none => rfl
  | some o =>
    by_cases tb : G.TB a
    · obtain ⟨w, hw, e'⟩ := tb
      obtain ⟨_, _, _, _, _, _, dd, _⟩ := R.base.tab w hw
      rw [e'] at dd; rw [dd.2] at e; cases e
    · rw [R.base.old a o q tb] at e; cases e
theorem Rel.extBut {a : Addr} (R : Rel G h β σ) (O : Own G h β a) (hx : Heap.ExtBut a h h') : Rel G h' β σ := by
  obtain ⟨oi, ei', si⟩ := O.soft
  have inne : ∀ b', In b' β → b' ≠ a := fun b' i q => O.notIn (q ▸ i)
  have tp : ∀ b' o, h.get? b' = some o → IsT o → h'.get? b' = some o := fun b' o e c => hx b' o (fun q => by subst q; rw [ei'] at e; cases e; exact si.1 c) e
  refine ⟨⟨fun b' o e n => hx b' o (fun q => by rw [q, O.fresh] at e; cases e) (R.base.old b' o e n), fun t ht => ?_, fun c n => let ⟨o, e, t⟩ := R.base.no c n; ⟨o, tp c o e t, t⟩⟩, R.len, fun i p o e1 e2 => ?_, R.apart, R.fresh⟩
  · obtain ⟨ps, ps₀, more, q, bb, cc, dd, ee⟩ := R.base.tab t ht
    have n1 : t.c ≠ a := fun z => by
      obtain ⟨⟨oo, vs, gg, _⟩, _⟩ := q
      rw [z, O.fresh] at gg; cases gg
    have n2 : t.P ≠ a := fun z => by
      have := q.2
      rw [z, O.fresh] at this; cases this
    refine ⟨ps, ps₀, more, q, bb, cc.extBut hx n1 n2, dd.extBut hx n1 n2, ee.imp id ?_⟩
    rintro ⟨c', w1, ⟨c'', oo, vs, tt, f1, f2, f3, f4⟩, oc, w3, w4⟩
    cases f1
    have n3 : c' ≠ a := fun z => by
      subst z
      rw [ei'] at w3; cases w3
      exact si.2 w4
    exact ⟨c', w1, ⟨c', oo, vs, tt, rfl, hx _ _ n3 f2, f3, f4⟩, oc, hx _ _ n3 w3, w4⟩
  · have x := In.of_get e1
    exact (R.at_ i p o e1 e2).same (fun _ _ e => e) tp (fun o e => hx _ o (inne _ x.1) e) fun o e => hx _ o (inne _ x.2) e
theorem Frm.extBut {a : Addr} (F : Frm G h β env ρ) (O : Own G h β a) (nv : ¬ Vars env a) (hn : (env.scope.names.map (·.1)).Nodup) (hx : Heap.ExtBut a h h') : Frm G h' β env ρ := by
  obtain ⟨oi, ei', si⟩ := O.soft
  have ne : ∀ b', Vars env b' → b' ≠ a := fun b' v q => nv (q ▸ v)
  have tp : ∀ b' o, h.get? b' = some o → IsT o → h'.get? b' = some o := fun b' o e c => hx b' o (fun q => by subst q; rw [ei'] at e; cases e; exact si.1 c) e
  have vr : ∀ {p : PV} {v : Value}, VR h β p v → VR h' β p v := fun r => r.mono (fun _ _ e => e) tp
  have ow : ∀ b', Vars env b' → Own G h β b' → Own G h' β b' := fun b' v O' => by
    obtain ⟨o, e, s⟩ := O'.soft
    exact ⟨O'.notIn, O'.fresh, o, hx _ _ (ne _ v) e, s⟩
  obtain ⟨m', hns, hm⟩ := F.ns
  obtain ⟨oL, es, ep, hL, r⟩ := hns
  refine ⟨F.kind, F.glob, F.bui, ⟨m', ⟨oL, es, ep, hx _ _ (ne _ (.inl rfl)) hL, r⟩, fun i x pv w1 w2 => ?_⟩, fun i x pv w1 w2 => ?_, ow _ (.inl rfl) F.own, fun x c w1 w2 => ?_, F.chas, F.inj⟩
  · obtain ⟨v, aa, bb⟩ := hm i x pv w1 w2
    exact ⟨v, aa, vr bb⟩
  · obtain ⟨c, v, aa, ⟨oc, eo, dc⟩, rr⟩ := F.cell i x pv w1 w2
    exact ⟨c, v, aa, ⟨oc, hx _ _ (ne _ (.inr ⟨x, kind_at hn i x _ w1, aa⟩)) eo, dc⟩, vr rr⟩
  · obtain ⟨aa, bb, v, oc, eo, dc⟩ := F.cown x c w1 w2
    exact ⟨ow _ (.inr ⟨x, w1, w2⟩) aa, bb, v, oc, hx _ _ (ne _ (.inr ⟨x, w1, w2⟩)) eo, dc⟩
theorem Own.extBut {a b : Addr} (O : Own G h β b) (hx : Heap.ExtBut a h h') (ne : b ≠ a) : Own G h' β b := by
  obtain ⟨o, e, s⟩ := O.soft
  exact ⟨O.notIn, O.fresh, o, hx b o ne e, s⟩
theorem Step.then_but {a : Addr} {h₁ h₂ : Heap} {β₁ : Lay} (S : Step G h β h₁ β₁) (hs : Heap.ExtBut a h₁ h₂) (hn : h.get? a = none) : Step G h β h₂ β₁ := by
  have ne : ∀ b o, h.get? b = some o → b ≠ a := fun b o e z => by rw [z, hn] at e; cases e
  refine ⟨S.ext, fun b o e n t => hs b o (ne b o e) (S.keep b o e n t), fun b o e => ?_, fun b o e c => hs b o (ne b o e) (S.tup b o e c), S.new⟩
  obtain ⟨o', e'⟩ := S.there b o e
  exact ⟨o', hs b o' (ne b o e) e'⟩
def SAx (G : GC) (X : Env → Addr → Prop) (d : Nat) (sc : Scope) (t : Expr) (g : FA) : Prop :=
  ∀ (env : Env) (A : Around) (s : Shared) (β : Lay) (ρ : List (Option PV)) (σ : List PO) (p : PV) (v : Value) (ρ' : List (Option PV)) (σ' : List PO), env.scope = sc → Fit A d → Rel G s.heap β σ → Frm G s.heap β env ρ → VR s.heap β p v →
    g p ρ σ = some (ρ', σ') → ∀ (Q : Unit → Shared → Prop) (E : Value → Shared → Prop),
    (∀ s' β', StepX G (X env) s.heap β s'.heap β' → Rel G s'.heap β' σ' → Frm G s'.heap β' env ρ' → Sh s s' → Q () s') → wpAny G.M A (assign t env v) Q E s
abbrev SAL (G : GC) (d : Nat) (sc : Scope) (t : Expr) (g : FA) : Prop := SAx G (fun env b => b = env.locals) d sc t g
theorem SAL.toSA {t : Expr} {g : FA} (a : SAL G d sc t g) : SA G d sc t g := fun env A s β ρ σ p v ρ' σ' h1 h2 h3 h4 h5 h6 Q E h =>
  a env A s β ρ σ p v ρ' σ' h1 h2 h3 h4 h5 h6 Q E fun s' β' S R F H => h s' β' (S.weak fun b o _ e => .inl e) R F H
theorem own_turn' {X : Addr → Prop} {a : Addr} (R : Rel G h β σ) (O : Own G h β a) (hv : X a) (hs : Heap.SameBut a h h') (ht : ∃ o, h'.get? a = some o) : StepX G X h β h' β := by
  obtain ⟨o, e, s⟩ := O.soft
  refine ⟨⟨[], by simp⟩, fun b o' e' _ _ z => (hs.2 b fun q => z (q ▸ hv)).trans e', fun b o' e' => ?_, fun b o' e' c => (hs.2 b fun z => ?_).trans e', fun _ i => .inl i⟩
  · by_cases z : b = a
    · exact z ▸ ht
    · exact ⟨o', (hs.2 b z).trans e'⟩
  · subst z
    rw [e] at e'; cases e'
    exact s.1 c
theorem SAL.local_ {i : Nat} {x : Str} {p : Pos} (O : ScopeOk sc) (hi : sc.names[i]? = some (x, .local)) : SAL G d sc (.Name x p) (aVar i) := by
  intro env A s β ρ σ pv v ρ' σ' hsc hA R F V e Q E h
  cases e
  have hl : env.kindOf x = some .local := by show env.scope.names.lookup x = _; rw [hsc]; exact kind_at O.nodup i x _ hi
  obtain ⟨m, hns, hm⟩ := F.ns
  show wpAny G.M A (do standAt p; bindName env x v) Q E s
  refine wpAny_bind (wpAny_standAt (wpAny_bindName (wpAny_storeName_local hl hns (fun h' hn hs => ?_) (by rw [F.kind]; rfl))))
  have so := soft_dict hn
  have S : StepX G (fun b => b = env.locals) s.heap β h' β := own_turn' R F.own rfl hs (let ⟨o, e, _⟩ := so; ⟨o, e⟩)
  refine h _ β S (R.sameBut F.own hs) ⟨F.kind, F.glob, F.bui, ⟨_, hn, fun j y q e1 e2 => ?_⟩, fun j y q e1 e2 => ?_, ⟨F.own.notIn, F.own.fresh, so⟩, fun y c e1 e2 => ?_, F.chas, F.inj⟩ (Sh.mk' ..)
  · by_cases hji : j = i
    · subst hji
      have : y = x := by rw [hsc, hi] at e1; cases e1; rfl
      subst this
      have hq : q = pv := by
        rw [List.getElem?_set] at e2
        split at e2
        · split at e2 <;> cases e2; rfl
        · rename_i z; exact absurd rfl z
      subst hq
      exact ⟨v, if_pos rfl, S.vr V⟩
    · rw [List.getElem?_set_ne (Ne.symm hji)] at e2
      obtain ⟨u, a, b⟩ := hm j y q e1 e2
      have ne : y ≠ x := by
        rintro rfl
        apply hji
        have nd := hsc ▸ O.nodup
        have l1 := (List.getElem?_eq_some_iff.mp e1)
        have l2 := (List.getElem?_eq_some_iff.mp (hsc ▸ hi : env.scope.names[i]? = some (y, .local)))
        have := (List.getElem_inj (h₀ := by simpa using l1.1) (h₁ := by simpa using l2.1) (hsc ▸ O.nodup)).mp (by rw [List.getElem_map, List.getElem_map, l1.2, l2.2])
        exact this
      exact ⟨u, by rw [if_neg ne]; exact a, S.vr b⟩
  · rw [List.getElem?_set_ne (fun z => by subst z; rw [hsc, hi] at e1; cases e1)] at e2
    obtain ⟨c, u, a, b, r⟩ := F.cell j y q e1 e2
    have k := kind_at (hsc ▸ O.nodup) j y _ e1
    exact ⟨c, u, a, b.sameBut hs (F.cown y c k a).2.1, S.vr r⟩
  · obtain ⟨a, b, u, w⟩ := F.cown y c e1 e2
    exact ⟨own_keep a hs b, b, u, w.sameBut hs b⟩
theorem SAx.pair {X : Env → Addr → Prop} {x y : Expr} {n : Nat} {p : Pos} {f g : FA} (O : ScopeOk sc) (a : SAx G X d sc x f) (b : SAx G X d sc y g)
    (he : ∀ env, assignEach [x, y] env = [(false, assign x env), (false, assign y env)]) : SAx G X d sc (.Tuple [x, y] n p) (aPair f g) := by
  intro env A s β ρ σ pv v ρ' σ' hsc hA R F V e Q E h
  unfold aPair at e
  split at e
  · rename_i q1 q2
    split at e
    · rename_i ρ₁ σ₁ e1
      obtain ⟨T, dd, vs, m, sl, rfl, hT, _, v1, r1, e2, V1, v2, r2, e3, V2, e4⟩ := V
      cases e4
      cases e3
      have : vs = #[v1, v2] := by apply Array.toList_inj.mp; rw [e2]
      subst this
      refine assign_Tuple_tuple hA.hand ⟨_, hT, rfl, _, rfl⟩ (by rw [he]; rfl) (by rw [he]; rfl) fun h' hx => ?_
      rw [he]
      have k : ∀ b o, s.heap.get? b = some o → h'.get? b = some o := fun b o e => hx b o (Nat.ne_of_lt (Heap.lt_size e)) e
      have S0 : Step G s.heap β h' β := Step.keeps k
      refine assignInOrder_cons (a env A _ β ρ σ q1 v1 ρ₁ σ₁ hsc hA (R.keeps k) (F.go (s' := ⟨h', s.gens, s.drawn, s.toks, s.os⟩) O hsc R.base S0) (S0.vr V1) e1 _ _ fun s₁ β₁ S1 R1 F1 H1 => ?_)
      refine assignInOrder_cons (b env A s₁ β₁ ρ₁ σ₁ q2 v2 ρ' σ' hsc hA R1 F1 (S1.vr (S0.vr V2)) e _ _ fun s₂ β₂ S2 R2 F2 H2 => ?_)
      exact assignInOrder_nil (h s₂ β₂ ((S0.toX.trans S1).trans S2) R2 F2 (((Sh.mk' ..).trans H1).trans H2))
    · cases e
  · cases e
end
end Mine
end
section
open PySem PySem.W PySem.Calls PyProof.Rows
set_option maxRecDepth 100000
set_option linter.unusedVariables false
namespace Mine
variable [Ban]
set_option linter.unusedSectionVars false
def relS (scope sc : Scope) : Scope :=
  { scope with names := scope.names.map fun (n, k) => if (k == .free && sc.kind == .function && sc.names.lookup n == some .cell) then (n, .cell) else (n, k) }
def cturns : Nat → FA → FB → FE → Nat → PIt → List (Option PV) → List PO → Option (List PO)
  | 0, _, _, _, _, _, _, _ => none
  | n + 1, tgt, tst, elt, D, it, ρ, σ => match it.next σ with
    | none => none
    | some none => some σ
    | some (some (p, it')) => match tgt p ρ σ with
      | none => none
      | some (ρ₁, σ₁) => match tst ρ₁ σ₁ with
        | none => none
        | some (false, σ₂) => cturns n tgt tst elt D it' ρ₁ σ₂
        | some (true, σ₂) => match elt ρ₁ σ₂ with
          | none => none
          | some (q, σ₃) => match σ₃[D]? with
            | some (.list l) => if szOk l.length = true then cturns n tgt tst elt D it' ρ₁ (σ₃.set D (.list (l ++ [q]))) else none
            | _ => none
def fInner (mp : List (Option Nat)) (ρ : List (Option PV)) : List (Option PV) := mp.map fun o => o.bind fun i => (ρ[i]?).join
def fComp (n : Nat) (mp : List (Option Nat)) (tgt : FA) (tst : FB) (elt f : FE) : FE := fun ρ σ => match f ρ σ with
  | some (x, σ₁) => match iterOf σ₁ x with
    | some it => match cturns n tgt tst elt σ₁.length it (fInner mp ρ) (σ₁ ++ [.list []]) with
      | some σ₂ => some (.ref σ₁.length, σ₂)
      | none => none
    | none => none
  | none => none
def fTrue : FB := fun _ σ => some (true, σ)
structure CompOk (scope sc : Scope) (mp : List (Option Nat)) : Prop where
  inner : ScopeOk (relS scope sc)
  kind : scope.kind = .function
  okind : sc.kind = .function
  nocell : ∀ x ∈ scope.names, x.2 ≠ .cell
  locals : ∀ x ∈ scope.names, x.2 = .local → scope.names.lookup x.1 = some .local
  free : ∀ x ∈ scope.names, x.2 = .free → sc.names.lookup x.1 = some .cell
  cells : ∀ (j : Nat) x, (relS scope sc).names[j]? = some (x, .cell) → ∀ i, mp[j]? = some (some i) → sc.names[i]? = some (x, .cell)
  empty : ∀ (j : Nat) x, (relS scope sc).names[j]? = some (x, .local) → ∀ i, mp[j]? ≠ some (some i)
section
variable {G : GC} {d : Nat} {sc : Scope}
theorem closureFor_ok {scope : Scope} {env : Env} (hf : ∀ x ∈ scope.names, x.2 = .free → ∃ c, env.cells.lookup x.1 = some c) :
    ∃ cl, closureFor scope env = pure cl ∧ ∀ x, (x, NameKind.free) ∈ scope.names → cl.lookup x = env.cells.lookup x := by
  have key : ∀ (names : List (Str × NameKind)) (cs : List (Str × Addr)), (∀ x ∈ names, x.2 = .free → ∃ c, env.cells.lookup x.1 = some c) →
      ∃ cl, (forIn names cs fun x r => (if x.2 == .free then (do let __do_lift ← cellOf env x.1; pure (ForInStep.yield ((x.1, __do_lift) :: r))) else pure (ForInStep.yield r) : Sem _)) = pure cl ∧
        ∀ x, ((x, NameKind.free) ∈ names → cl.lookup x = env.cells.lookup x) ∧ (cs.lookup x = env.cells.lookup x → cl.lookup x = env.cells.lookup x) := by
    intro names
    induction names with
    | nil => intro cs _; exact ⟨cs, rfl, fun x => ⟨fun m => (nomatch m), id⟩⟩
    | cons y r ih =>
      intro cs h
      obtain ⟨z, k⟩ := y
      rw [List.forIn_cons]
      cases hk : k == NameKind.free with
      | true =>
        have hk' : k = .free := by simpa using hk
        subst hk'
        obtain ⟨c, hc⟩ := h _ (.head _) rfl
        dsimp only at hc
        obtain ⟨cl, e, f⟩ := ih ((z, c) :: cs) fun x m => h x (.tail _ m)
        refine ⟨cl, ?_, fun x => ⟨fun m => ?_, fun e' => ?_⟩⟩
        · dsimp only
          rw [if_pos rfl]
          have : cellOf env z = pure c := by unfold cellOf; rw [hc]
          rw [this, pure_bind, pure_bind]
          exact e
        · rcases List.mem_cons.mp m with m | m
          · cases m
            exact (f z).2 (by simp [hc])
          · exact (f x).1 m
        · refine (f x).2 ?_
          rw [List.lookup_cons]
          cases q : x == z with
          | true => rw [beq_iff_eq.mp q]; exact hc.symm
          | false => exact e'
      | false =>
        obtain ⟨cl, e, f⟩ := ih cs fun x m => h x (.tail _ m)
        refine ⟨cl, ?_, fun x => ⟨fun m => ?_, (f x).2⟩⟩
        · dsimp only
          rw [if_neg (by decide), pure_bind]
          exact e
        · rcases List.mem_cons.mp m with m | m
          · cases m; cases hk
          · exact (f x).1 m
  obtain ⟨cl, e, f⟩ := key scope.names [] hf
  refine ⟨cl, ?_, fun x => (f x).1⟩
  have : closureFor scope env = ((forIn scope.names ([] : List (Str × Addr)) fun x r => (if x.2 == .free then (do let __do_lift ← cellOf env x.1; pure (ForInStep.yield ((x.1, __do_lift) :: r))) else pure (ForInStep.yield r) : Sem _)) >>= fun s => pure s) := rfl
  rw [this, e]
  rfl
theorem relabel_eq {scope : Scope} {env : Env} : relabel scope env = relS scope env.scope := rfl
theorem relS_cell {scope : Scope} {x : Str} (hn : ∀ x ∈ scope.names, x.2 ≠ .cell) (h : (relS scope sc).names.lookup x = some .cell) : (x, NameKind.free) ∈ scope.names ∧ sc.names.lookup x = some .cell := by
  have m := mem_of_lookup h
  obtain ⟨⟨n, k⟩, hm, e⟩ := List.mem_map.mp m
  dsimp only at e
  split at e
  · rename_i c
    cases e
    simp only [Bool.and_eq_true, beq_iff_eq] at c
    exact ⟨by rw [← c.1.1]; exact hm, c.2⟩
  · cases e
    exact absurd rfl (hn _ hm)
theorem pyIter_self {A : Around} {s : Shared} {β : Lay} {a : Addr} {it : PIt} (x : ItR s.heap β a it) {Q : Value → Shared → Prop} {E : Value → Shared → Prop} (h : Q (.ref a) s) : wpAny G.M A (pyIter (.ref a)) Q E s := by
  cases it with
  | seq i k => obtain ⟨q, _, I⟩ := x; exact wpAny_pyIter_listiter I h
  | rng y l st => exact wpAny_pyIter_rangeiter x h
  | str y k => obtain ⟨t, I⟩ := x; exact wpAny_pyIter_striter_ascii I h
theorem append_ok {A : Around} {s : Shared} {β : Lay} {σ : List PO} {D : Nat} {l : List PV} {q : PV} {v w : Value} (R : Rel G s.heap β σ) (V : VR s.heap β (.ref D) v) (e : σ[D]? = some (.list l)) (W : VR s.heap β q w) (hz : szOk l.length = true)
    {Q : Value → Shared → Prop} {E : Value → Shared → Prop}
    (h : ∀ s' , Step G s.heap β s'.heap β → Rel G s'.heap β (σ.set D (.list (l ++ [q]))) → Sh s s' → Q .none s') : wpAny G.M A (call (.builtin "list.append") [v, w]) Q E s := by
  obtain ⟨p, hp, rfl⟩ := V
  obtain ⟨e1, vs, n, e2, e3⟩ := R.at_ D p _ hp e
  have hsz : vs.size ≤ sizeLine := by rw [← Array.length_toList, e3.length]; exact sz_of hz
  refine wpAny_list_append_plain ⟨n, e2⟩ (fun h' pl hs => ?_) hsz
  obtain ⟨m, pl⟩ := pl
  have S : Step G s.heap β h' β := Step.set R (In.of_get hp).1 hs ⟨_, pl⟩
  refine h _ S ?_ (Sh.mk' ..)
  refine R.set hp (.inl rfl) hs fun tp _ => ⟨e1, vs.push w, m, pl, ?_⟩
  rw [Array.toList_push]
  exact (S.vrs e3).append (VRs.one (S.vr W))
theorem compLoop_own {prog : Program} {w : World} {A : Around} {R : Result → Shared → Prop} {s : Shared} {elt target iter : Expr} {ifs : List Expr} {scope : Scope} {pos : Pos} {it acc : Value} {env : Env} (I : Nat → Shared → Prop)
    (turn : ∀ n s, I n s → wpAny (model prog w) A (pyNext it) (fun r s₁ => match r with
      | none => R (.ok .next) s₁
      | some v => wpAny (model prog w) A (letOwnedTupleGo target it v) (fun _ s₁ => wpAny (model prog w) A (assign target env v) (fun _ s₂ =>
          wpAny (model prog w) A (forIn ifs true fun c r => if r = true then do let ok ← isTrue c env (eval c env); pure (ForInStep.yield ok) else pure (ForInStep.yield r)) (fun ok s₃ =>
            if ok = true then wpAny (model prog w) A (eval elt env) (fun x s₄ =>
              wpAny (model prog w) A (call (.builtin "list.append") [acc, x]) (fun _ s₅ => ∃ m, m < n ∧ I m s₅) (notedBy (model prog w) A env fun e s' => R (.error e) s') s₄) (notedBy (model prog w) A env fun e s' => R (.error e) s') s₃
            else ∃ m, m < n ∧ I m s₃) (notedBy (model prog w) A env fun e s' => R (.error e) s') s₂) (notedBy (model prog w) A env fun e s' => R (.error e) s') s₁) (notedBy (model prog w) A env fun e s' => R (.error e) s') s₁) (notedBy (model prog w) A env fun e s' => R (.error e) s') s)
    (n : Nat) (h : I n s) :
    codeAny (model prog w) A (.compLoop (.ListComp elt [⟨target, iter, ifs, 0⟩] scope pos) 0 it acc env) R s := by
  refine codeAny_loop rfl I (fun n s hI => ?_) n h
  show wpAny _ A ((compTurn (.ListComp elt [⟨target, iter, ifs, 0⟩] scope pos) 0 it acc env).onRaise (fun x => do noteFrame x env; theTreesLotGoes x)) _ _ s
  refine wpAny_noted ?_
  rw [compTurn_list]
  refine wpAny_bind (wpAny_standAt (wpAny_bind (wpAny_mono (turn n s hI) (fun r s₁ h₁ => ?_) fun _ _ h' => h')))
  cases r with
  | none => exact wpAny_pure h₁
  | some v =>
    refine wpAny_bind (wpAny_mono h₁ (fun _ s₁ h₁ => ?_) fun _ _ h' => h')
    refine wpAny_bind (wpAny_mono h₁ (fun _ s₂ h₂ => wpAny_bind (wpAny_mono h₂ (fun ok s₃ h₃ => ?_) fun _ _ h' => h')) fun _ _ h' => h')
    cases ok with
    | false => exact wpAny_pure ⟨rfl, h₃⟩
    | true =>
      exact wpAny_bind (wpAny_bind (wpAny_mono h₃ (fun x s₄ h₄ => wpAny_bind (wpAny_mono h₄ (fun _ s₅ h₅ => wpAny_pure (wpAny_pure ⟨rfl, h₅⟩)) fun _ _ h' => h')) fun _ _ h' => h'))
abbrev STs (G : GC) (d : Nat) (sc : Scope) (ifs : List Expr) (c : FB) : Prop :=
  SB G d sc (fun env => forIn ifs true fun c r => if r = true then do let ok ← isTrue c env (eval c env); pure (ForInStep.yield ok) else pure (ForInStep.yield r)) c
theorem STs.nil : STs G d sc [] fTrue := by
  intro env A s β ρ σ b σ' hsc hA R F e Q E h
  cases e
  exact wpAny_tests_nil (h s β (Step.refl ..) R (Sh.refl s))
theorem STs.one {c : Expr} {f : FB} (a : SC G d sc c f) : STs G d sc [c] f := fun env A s β ρ σ b σ' hsc hA R F e Q E h =>
  wpAny_tests_one (a env A s β ρ σ b σ' hsc hA R F e Q E h)
theorem dict_soft {h : Heap} {a : Addr} {m : Str → Option Value} (n : h.Ns a m) : ∃ o, h.get? a = some o ∧ Soft o := soft_dict n
theorem comp_core {elt target iter : Expr} {ifs : List Expr} {scope : Scope} {pos : Pos} {mp : List (Option Nat)} {n : Nat} {tgt : FA} {tst : FB} {ef : FE} (K : CompOk scope sc mp) (O : ScopeOk sc)
    (t : SAL G d (relS scope sc) target tgt) (c : STs G d (relS scope sc) ifs tst) (x : SE G d (relS scope sc) elt ef)
    {env : Env} {A : Around} {s : Shared} {β : Lay} {ρ : List (Option PV)} {σ σ₂ : List PO} {p : PV} {v : Value} {it : PIt} {cl : List (Str × Addr)} (hsc : env.scope = sc) (hA : Fit A d) (R : Rel G s.heap β σ) (F : Frm G s.heap β env ρ)
    (V : VR s.heap β p v) (ei : iterOf σ p = some it) (e : cturns n tgt tst ef σ.length it (fInner mp ρ) (σ ++ [.list []]) = some σ₂)
    (hcl : ∀ x, (x, NameKind.free) ∈ scope.names → cl.lookup x = env.cells.lookup x) {RR : Value → Addr → Result → Shared → Prop} {E : Value → Shared → Prop}
    (h : ∀ acc C s' β' m, Step G s.heap β s'.heap β' → Rel G s'.heap β' σ₂ → VR s'.heap β' (.ref σ.length) acc → s'.heap.Ns C m → Own G s'.heap β' C → s.heap.get? C = none → Sh s s' → RR acc C (.ok .next) s') :
    wpAny G.M A (pyIter v) (fun it s₂ => wpAny G.M A (newList []) (fun acc s₃ => wpAny G.M A (newFunctionEnv scope env.globals cl [] env.qual none .none (some env)) (fun cenv s₄ =>
        codeAny G.M A (.compStart (.ListComp elt [⟨target, iter, ifs, 0⟩] scope pos) 0 it acc { cenv with scope := relabel scope env }) (RR acc cenv.locals) s₄) E s₃) E s₂) E s := by
  refine iter_ok R V ei fun s₁ k1 I1 H1 => ?_
  generalize ha : s.heap.objs.size = a at I1 ⊢
  have na : s.heap.get? a = none := ha ▸ heap_fresh _
  have S1 : Step G s.heap β s₁.heap β := Step.keeps k1
  have R1 : Rel G s₁.heap β σ := R.keeps k1
  have Oa1 : Own G s₁.heap β a := ⟨(dead_own R na).1, (dead_own R na).2, it_soft' I1⟩
  refine newList_ok (l := []) R1 rfl rfl fun acc s₂ β₂ S2 R2 V2 H2 => ?_
  have I2 := I1.keep (fun o e => S2.keep a o e Oa1.notIn (Oa1.tb R1.base)) S2.get
  have Oa2 := Oa1.step R1.base S2
  have F2 : Frm G s₂.heap β₂ env ρ := F.go O hsc R.base (S1.trans S2)
  refine wpAny_newFunctionEnv K.nocell (by intro y hy; simp at hy) (fun h₃ hns hsb => ?_) K.kind
  generalize hC : s₂.heap.objs.size = C at hns hsb ⊢
  have nC2 : s₂.heap.get? C = none := hC ▸ heap_fresh _
  have k3 : ∀ b o, s₂.heap.get? b = some o → h₃.get? b = some o := fun b o e => hsb.extBut b o (fun z => by rw [z, nC2] at e; cases e) (Heap.get?_push_of_some _ e)
  have S3 : Step G s₂.heap β₂ h₃ β₂ := Step.keeps k3
  have R3 : Rel G h₃ β₂ (σ ++ [.list []]) := R2.keeps k3
  have OC3 : Own G h₃ β₂ C := ⟨(dead_own R2 nC2).1, (dead_own R2 nC2).2, soft_dict hns⟩
  have nC : s.heap.get? C = none := by
    cases q : s.heap.get? C with
    | none => rfl
    | some o => obtain ⟨o', e'⟩ := (S1.trans S2).there C o q; rw [e'] at nC2; cases nC2
  have ac : a ≠ C := fun z => by
    obtain ⟨o, e, _⟩ := Oa2.soft
    rw [z, nC2] at e; cases e
  show codeAny G.M A (.compStart (.ListComp elt [⟨target, iter, ifs, 0⟩] scope pos) 0 (.ref a) acc (compEnvC scope cl C env)) (RR acc C) _
  generalize hE : compEnvC scope cl C env = ce
  have eS : ce.scope = relS scope sc := by rw [← hE, ← hsc]; rfl
  have eL : ce.locals = C := by rw [← hE]; rfl
  have eC : ce.cells = cl := by rw [← hE]; rfl
  have F3' : Frm G h₃ β₂ env ρ := F2.go (s' := ⟨h₃, s₂.gens, s₂.drawn, s₂.toks, s₂.os⟩) O hsc R2.base S3
  have kc : ∀ y, ce.kindOf y = some .cell → (y, NameKind.free) ∈ scope.names ∧ env.kindOf y = some .cell := fun y hy => by
    have : (relS scope sc).names.lookup y = some .cell := by rw [← eS]; exact hy
    obtain ⟨q1, q2⟩ := relS_cell K.nocell this
    exact ⟨q1, by show env.scope.names.lookup y = _; rw [hsc]; exact q2⟩
  have F3 : Frm G h₃ β₂ ce (fInner mp ρ) := by
    refine ⟨by rw [eS]; exact K.kind, by rw [← hE]; exact F.glob, by rw [← hE]; exact F.bui, ⟨_, eL ▸ hns, fun j y pv e1 e2 => ?_⟩, fun j y pv e1 e2 => ?_, eL ▸ OC3, fun y c' e1 e2 => ?_, fun y e1 => ?_, fun y z c' e1 e2 e3 e4 => ?_⟩
    · rw [eS] at e1
      unfold fInner at e2
      rw [List.getElem?_map] at e2
      obtain ⟨o, ho, e2⟩ := Option.map_eq_some_iff.mp e2
      cases o with
      | none => cases e2
      | some i => exact absurd ho (K.empty j y e1 i)
    · rw [eS] at e1
      unfold fInner at e2
      rw [List.getElem?_map] at e2
      obtain ⟨o, ho, e2⟩ := Option.map_eq_some_iff.mp e2
      cases o with
      | none => cases e2
      | some i =>
        have z := K.cells j y e1 i ho
        have e3 : ρ[i]? = some (some pv) := by
          dsimp only [Option.bind] at e2
          cases q : ρ[i]? with
          | none => rw [q] at e2; cases e2
          | some u => rw [q] at e2; dsimp at e2; rw [e2]
        obtain ⟨c', u, q1, q2, q3⟩ := F3'.cell i y pv (hsc ▸ z) e3
        have hy : ce.kindOf y = some .cell := by show ce.scope.names.lookup y = _; rw [eS]; exact kind_at K.inner.nodup j y _ e1
        exact ⟨c', u, by rw [eC, hcl y (kc y hy).1]; exact q1, q2, q3⟩
    · obtain ⟨q1, q2⟩ := kc y e1
      rw [eC, hcl y q1] at e2
      obtain ⟨q3, q4, q5⟩ := F3'.cown y c' q2 e2
      refine ⟨q3, fun z => ?_, q5⟩
      obtain ⟨w1, w2, w3⟩ := F2.cown y c' q2 e2
      obtain ⟨o, w4, _⟩ := w1.soft
      rw [z, eL, nC2] at w4; cases w4
    · obtain ⟨q1, q2⟩ := kc y e1
      rw [eC, hcl y q1]
      exact F3'.chas y q2
    · obtain ⟨q1, q2⟩ := kc y e1
      obtain ⟨q3, q4⟩ := kc z e2
      rw [eC, hcl _ q1] at e3
      rw [eC, hcl _ q3] at e4
      exact F3'.inj y z c' q2 q4 e3 e4
  have I3 : ItR h₃ β₂ a it := I2.keep (fun o e => k3 a o e) fun _ _ e => e
  have Oa3 : Own G h₃ β₂ a := Oa2.step R2.base S3
  have nv : ¬ Vars ce a := by
    rintro (z | ⟨y, z1, z2⟩)
    · exact ac (z.trans eL)
    · obtain ⟨q1, q2⟩ := kc y z1
      rw [eC, hcl y q1] at z2
      obtain ⟨w1, _⟩ := F.cown y a q2 z2
      obtain ⟨o, w4, _⟩ := w1.soft
      rw [na] at w4; cases w4
  have S03 := (S1.trans S2).trans S3
  have loop : ∀ s₃ : Shared, s₃.heap = h₃ → Sh s s₃ → codeAny G.M A (.compLoop (.ListComp elt [⟨target, iter, ifs, 0⟩] scope pos) 0 (.ref a) acc ce) (RR acc C) s₃ := by
    intro s₃ eh H3
    let J : Nat → Shared → Prop := fun m s' => ∃ it' β' ρ₁ σ₁, cturns m tgt tst ef σ.length it' ρ₁ σ₁ = some σ₂ ∧ Step G s.heap β s'.heap β' ∧ Rel G s'.heap β' σ₁ ∧ Frm G s'.heap β' ce ρ₁ ∧ ItR s'.heap β' a it' ∧ Own G s'.heap β' a ∧ VR s'.heap β' (.ref σ.length) acc ∧ Sh s s'
    have J0 : J n s₃ := ⟨it, β₂, _, _, e, by rw [eh]; exact S03, by rw [eh]; exact R3, by rw [eh]; exact F3, by rw [eh]; exact I3, by rw [eh]; exact Oa3, by rw [eh]; exact S3.vr V2, H3⟩
    refine compLoop_own J (fun m s' hJ => ?_) n J0
    obtain ⟨it', β', ρ₁, σ₁, em, Sm, Rm, Fm, Im, Om, Vm, Hm⟩ := hJ
    have nd : (ce.scope.names.map (·.1)).Nodup := by rw [eS]; exact K.inner.nodup
    cases m with
    | zero => cases em
    | succ m =>
      rw [cturns] at em
      split at em
      · cases em
      · rename_i en
        cases em
        refine next_ok hA Rm Im Om en (fun p it₂ v s₃ hr => by cases hr) fun s₄ _ hx H4 => ?_
        have F4 := Fm.extBut Om nv nd hx
        obtain ⟨m', hns', _⟩ := F4.ns
        have tp : ∀ b' o, s'.heap.get? b' = some o → IsT o → s₄.heap.get? b' = some o := fun b' o e c => hx b' o (fun q => by
          obtain ⟨oi, ei', si⟩ := Om.soft
          subst q; rw [ei'] at e; cases e; exact si.1 c) e
        exact h acc C s₄ β' m' (Sm.then_but hx na) (Rm.extBut Om hx) (Vm.mono (fun _ _ e => e) tp) (eL ▸ hns') (eL ▸ F4.own) nC (Hm.trans H4)
      · rename_i q it₂ en
        refine next_ok hA Rm Im Om en (fun p₂ it₃ v s₄ hr V4 I4 hx H4 => ?_) fun s₄ hr => by cases hr
        cases hr
        have R4 : Rel G s₄.heap β' σ₁ := Rm.sameBut Om hx
        have F4 : Frm G s₄.heap β' ce ρ₁ := Fm.extBut Om nv nd hx.extBut
        have O4 : Own G s₄.heap β' a := ⟨Om.notIn, Om.fresh, it_soft' I4⟩
        have S4 : Step G s.heap β s₄.heap β' := Sm.then_but hx.extBut na
        have tp : ∀ b' o, s'.heap.get? b' = some o → IsT o → s₄.heap.get? b' = some o := fun b' o e c => hx.extBut b' o (fun q => by
          obtain ⟨oi, ei', si⟩ := Om.soft
          subst q; rw [ei'] at e; cases e; exact si.1 c) e
        have Va4 : VR s₄.heap β' (.ref σ.length) acc := Vm.mono (fun _ _ e => e) tp
        have H04 := Hm.trans H4
        refine letOwned_ok I4 ?_
        split at em
        · cases em
        · rename_i ρ₂ σ₃ e2
          refine t ce A s₄ β' ρ₁ σ₁ q v ρ₂ σ₃ eS hA R4 F4 V4 e2 _ _ fun s₅ β₅ S5 R5 F5 H5 => ?_
          have S05 : Step G s.heap β s₅.heap β₅ := ((S4.toX (X := fun b => b = ce.locals)).trans S5).toStep fun b o eb z => by rw [z, eL, nC] at eb; cases eb
          have I5 := I4.keep (fun o e => S5.keep a o e O4.notIn (O4.tb R4.base) fun z => ac (z.trans eL)) S5.get
          have O5 := O4.stepX R4.base S5 fun z => ac (z.trans eL)
          have Va5 := S5.vr Va4
          split at em
          · cases em
          · rename_i σ₄ e3
            refine c ce A s₅ β₅ ρ₂ σ₃ false σ₄ eS hA R5 F5 e3 _ _ fun s₆ β₆ S6 R6 H6 => ?_
            rw [if_neg (by decide)]
            exact ⟨m, Nat.lt_succ_self m, it₂, β₆, ρ₂, σ₄, em, S05.trans S6, R6, F5.step R5.base S6 nd, I5.keep (fun o e => S6.keep a o e O5.notIn (O5.tb R5.base)) S6.get, O5.step R5.base S6, S6.vr Va5, (H04.trans H5).trans H6⟩
          · rename_i σ₄ e3
            refine c ce A s₅ β₅ ρ₂ σ₃ true σ₄ eS hA R5 F5 e3 _ _ fun s₆ β₆ S6 R6 H6 => ?_
            rw [if_pos rfl]
            have F6 := F5.step R5.base S6 nd
            have O6 := O5.step R5.base S6
            have I6 := I5.keep (fun o e => S6.keep a o e O5.notIn (O5.tb R5.base)) S6.get
            split at em
            · cases em
            · rename_i r σ₅ e4
              refine x ce A s₆ β₆ ρ₂ σ₄ r σ₅ eS hA R6 F6 e4 _ _ fun u s₇ β₇ S7 R7 V7 H7 => ?_
              have O7 := O6.step R6.base S7
              have I7 := I6.keep (fun o e => S7.keep a o e O6.notIn (O6.tb R6.base)) S7.get
              have F7 := F6.step R6.base S7 nd
              split at em
              · rename_i l el
                split at em
                · rename_i hz
                  refine append_ok R7 (S7.vr (S6.vr Va5)) el V7 hz fun s₈ S8 R8 H8 => ?_
                  exact ⟨m, Nat.lt_succ_self m, it₂, β₇, ρ₂, _, em, ((S05.trans S6).trans S7).trans S8, R8, F7.step R7.base S8 nd, I7.keep (fun o e => S8.keep a o e O7.notIn (O7.tb R7.base)) S8.get, O7.step R7.base S8, S8.vr (S7.vr (S6.vr Va5)), (((H04.trans H5).trans H6).trans H7).trans H8⟩
                · cases em
              · cases em
  exact codeAny_compStart_list (loop _ rfl ((H1.trans H2).trans (Sh.mk' ..))) (pyIter_self I3 (loop _ rfl ((H1.trans H2).trans (Sh.mk' ..))))
end
end Mine
end
section
open PySem PySem.W PySem.Calls PyProof.Rows
set_option maxRecDepth 100000
set_option linter.unusedVariables false
namespace Mine
variable [Ban]
set_option linter.unusedSectionVars false
section
variable {G : GC} {d : Nat} {sc : Scope}
theorem SE.comp {elt target iter : Expr} {ifs : List Expr} {scope : Scope} {pos : Pos} {mp : List (Option Nat)} {n : Nat} {tgt : FA} {tst : FB} {ef f : FE} (K : CompOk scope sc mp) (O : ScopeOk sc)
    (u : SE G d sc iter f) (t : SAL G d (relS scope sc) target tgt) (c : STs G d (relS scope sc) ifs tst) (x : SE G d (relS scope sc) elt ef)
    (hs : ∀ env v, foldedSetIterable iter env v = pure v) : SE G d sc (.ListComp elt [⟨target, iter, ifs, 0⟩] scope pos) (fComp n mp tgt tst ef f) := by
  intro env A s β ρ σ pv σ' hsc hA R F e Q E h
  unfold fComp at e
  split at e
  · rename_i p σ₁ e1
    split at e
    · rename_i it ei
      split at e
      · rename_i σ₂ e2
        cases e
        obtain ⟨cl, hclos, hcl⟩ := closureFor_ok (scope := scope) (env := env) fun y hy hf => F.chas y.1 (by show env.scope.names.lookup _ = _; rw [hsc]; exact K.free y hy hf)
        rw [eval_ListComp]
        refine wpAny_comprehension_free (use := none) rfl (hs env) hclos K.kind K.locals (u env A s β ρ σ p σ₁ hsc hA R F e1 _ _ fun v s₁ β₁ S1 R1 V1 H1 => ?_)
        refine comp_core (RR := fun acc C => compPost G.M A E none Q acc C) K O t c x hsc hA R1 (F.go O hsc R.base S1) V1 ei e2 hcl fun acc C s' β' m S R' V hn OC nC H => ?_
        refine ⟨m, hn, fun h' hsb => ?_⟩
        have tp : ∀ b' o, s'.heap.get? b' = some o → IsT o → h'.get? b' = some o := fun b' o e c => hsb.extBut b' o (fun q => by
          obtain ⟨oi, ei', si⟩ := OC.soft
          subst q; rw [ei'] at e; cases e; exact si.1 c) e
        exact h acc _ β' (S1.trans (S.then_but hsb.extBut nC)) (R'.sameBut OC hsb) (V.mono (fun _ _ e => e) tp) ((H1.trans H).trans (Sh.mk' ..))
      · cases e
    · cases e
  · cases e
theorem SS.asgComp {elt target iter : Expr} {ifs : List Expr} {scope : Scope} {pos : Pos} {mp : List (Option Nat)} {n : Nat} {tgt : FA} {tst : FB} {ef f : FE} {y : Str} {py p : Pos} {i : Nat} (K : CompOk scope sc mp) (O : ScopeOk sc)
    (hi : sc.names[i]? = some (y, .local))
    (u : SE G d sc iter f) (t : SAL G d (relS scope sc) target tgt) (c : STs G d (relS scope sc) ifs tst) (x : SE G d (relS scope sc) elt ef)
    (hw : ∀ env : Env, env.scope = sc → swapsWith (.ListComp elt [⟨target, iter, ifs, 0⟩] scope pos) (some (.Name y py)) p.line env = pure true)
    (hs : ∀ env v, foldedSetIterable iter env v = pure v) : SS G d sc (exec (.Assign [.Name y py] (.ListComp elt [⟨target, iter, ifs, 0⟩] scope pos) p)) (fAsg (fComp n mp tgt tst ef f) (aVar i)) := by
  intro env A s β ρ σ fl ρ' σ' hsc hA R F e Q E h
  unfold fAsg at e
  split at e
  · rename_i q0 σ₂' e0
    cases e
    unfold fComp at e0
    split at e0
    · rename_i q σ₁ e1
      split at e0
      · rename_i it ei
        split at e0
        · rename_i σ₂ e2
          cases e0
          obtain ⟨cl, hclos, hcl⟩ := closureFor_ok (scope := scope) (env := env) fun y hy hf => F.chas y.1 (by show env.scope.names.lookup _ = _; rw [hsc]; exact K.free y hy hf)
          rw [exec_Assign_Name_used _ _ _ _ (hw env hsc)]
          refine wpAny_bind (wpAny_standAt (wpAny_bind ?_))
          show wpAny _ A (do let _ ← comprehension (.ListComp elt [⟨target, iter, ifs, 0⟩] scope pos) scope env _ (newList []) false (eval iter env) (some (assign (.Name y py) env))) _ _ s
          refine wpAny_bind (wpAny_mono (wpAny_comprehension_free (use := some (assign (.Name y py) env)) (Q := fun _ s' => Q .next s') rfl (hs env) hclos K.kind K.locals
            (u env A s β ρ σ q σ₁ hsc hA R F e1 _ _ fun v s₁ β₁ S1 R1 V1 H1 => ?_)) (fun _ s' hq => wpAny_pure (wpAny_pure hq)) fun _ _ e => e)
          have F1 := F.go O hsc R.base S1
          refine comp_core (RR := fun acc C => compPost G.M A E (some (assign (.Name y py) env)) (fun _ s' => Q .next s') acc C) K O t c x hsc hA R1 F1 V1 ei e2 hcl fun acc C s' β' m S R' V hn OC nC H => ?_
          show wpAny G.M A (assign (.Name y py) env acc) _ E s'
          have F' := F1.go O hsc R1.base S
          have nv : ¬ Vars env C := fun v => by obtain ⟨o, e⟩ := vars_there F1 v; rw [nC] at e; cases e
          refine SAL.local_ O hi env A s' β' ρ _ (.ref σ₁.length) acc _ _ hsc hA R' F' V rfl _ _ fun s₃ β₃ S3 R3 F3 H3 => ?_
          have nL : ¬ C = env.locals := fun z => nv (.inl z)
          have O3 := OC.stepX R'.base S3 nL
          obtain ⟨oC, es, ep, w1, w2⟩ := hn
          refine ⟨m, ⟨oC, es, ep, S3.keep C oC w1 OC.notIn (OC.tb R'.base) nL, w2⟩, fun h' hsb => ?_⟩
          have nd : (env.scope.names.map (·.1)).Nodup := hsc ▸ O.nodup
          refine h .next _ β₃ ?_ (R3.sameBut O3 hsb) (F3.extBut O3 nv nd hsb.extBut) rfl (((H1.trans H).trans H3).trans (Sh.mk' ..))
          have S4 : StepF G env s.heap β s₃.heap β₃ := (S1.trans S).toF.trans (S3.weak fun b o _ e => .inl e)
          refine S4.then_but hsb.extBut ?_
          cases q : s.heap.get? C with
          | none => rfl
          | some o => obtain ⟨o', e'⟩ := S1.there C o q; rw [nC] at e'; cases e'
        · cases e0
      · cases e0
    · cases e0
  · cases e
end
end Mine
end
section
open PySem PySem.W PySem.Calls PyProof.Rows
set_option maxRecDepth 100000
set_option linter.unusedVariables false
namespace Mine
variable [Ban]
set_option linter.unusedSectionVars false
def putAt (fs : List PV) (j : Nat) (p : PV) : Option (List PV) := if j < fs.length then some (fs.set j p) else if j = fs.length then some (fs ++ [p]) else none
def putField (C : Addr) (j : Nat) (i : Nat) (p : PV) (σ : List PO) : Option (List PO) := match σ[i]? with
  | some o => match fieldsOfPO o with
    | some (C', fs) => if C' = C then match putAt fs j p with
      | some fs' => some (σ.set i (withFields o fs'))
      | none => none
      else none
    | none => none
  | none => none
def aAttr (C : Addr) (j : Nat) (f : FE) : FA := fun p ρ σ => match f ρ σ with
  | some (.ref i, σ₁) => match putField C j i p σ₁ with
    | some σ₂ => some (ρ, σ₂)
    | none => none
  | _ => none
section
variable {G : GC} {d : Nat} {sc : Scope}
theorem FsR.le {h : Heap} {β : Lay} : ∀ {ns : List Str} {fs : List PV} {es : List DictEntry}, FsR h β ns fs es → fs.length ≤ ns.length
  | _, [], _, _ => Nat.zero_le _
  | [], _ :: _, _, r => r.elim
  | _ :: _, _ :: _, _, ⟨_, _, _, _, _, hr⟩ => Nat.succ_le_succ hr.le
theorem attr_store (O : GOk G) {C : Addr} {cd : ClassData} {j : Nat} {name : Str} (K : AttrOk G C cd j name) {A : Around} {s : Shared} {β : Lay} {σ σ' : List PO} {i : Nat} {p : PV} {x v : Value} (R : Rel G s.heap β σ)
    (X : VR s.heap β (.ref i) x) (V : VR s.heap β p v) (e : putField C j i p σ = some σ') {Q : Unit → Shared → Prop} {E : Value → Shared → Prop}
    (h : ∀ s', Step G s.heap β s'.heap β → Rel G s'.heap β σ' → Sh s s' → Q () s') : wpAny G.M A (setAttr x name v) Q E s := by
  unfold putField at e
  split at e
  · rename_i o eo
    split at e
    · rename_i C' fs ef
      split at e
      · rename_i hC
        subst hC
        split at e
        · rename_i fs' eput
          cases e
          obtain ⟨q, ox, es, n, rfl, hq, I, hd, hf⟩ := inst_of R X eo ef
          have hle := hf.le
          have hj : j < fs.length ∨ j = fs.length := by
            unfold putAt at eput
            split at eput
            · left; assumption
            · split at eput
              · right; assumption
              · cases eput
          have hl : (getL name es).isSome = true := by
            rcases hj with hj | hj
            · obtain ⟨en, h1, h2⟩ := hf.find K.nodup (List.getElem?_eq_getElem hj) K.at_
              unfold getL; rw [h1]; rfl
            · obtain ⟨h1, h2⟩ := hf.miss K.nodup (x := name) (by rw [← hj]; exact K.at_)
              unfold getL; rw [h1, h2]; rfl
          refine setAttr_inst (R.base.K O) I hd K.cls K.attr hl (by rw [hf.length]; have := K.few; omega) fun h' hsh tk m hs hg => ?_
          have ia := (In.of_get hq).2
          have S : Step G s.heap β h' β := Step.set R ia hs ⟨_, hg⟩
          refine h _ S (R.set hq (.inr rfl) hs fun tp oth => ?_) (Sh.mk' ..)
          have hf' : FsR h' β (G.flds C') fs' (putL name hsh (.str name tk) v es) := by
            have hf2 := hf.mono S.get S.tup
            unfold putAt at eput
            rcases hj with hj | hj
            · rw [if_pos hj] at eput
              cases eput
              exact hf2.put (S.vr V) K.nodup hj K.at_
            · rw [if_neg (by omega), if_pos hj] at eput
              cases eput
              exact hf2.put_new (S.vr V) K.nodup (by rw [← hj]; exact K.at_)
          have x := R.at_ i q o hq eo
          have hne : q.1 ≠ q.2 := by
            rintro hz
            have h1 := I.at_
            have h2 := I.dict
            rw [hd] at h2
            rw [hz] at h1
            have h3 : s.heap.get? q.2 = some (dictOf es n) := h2
            rw [h1] at h3
            have h4 := I.cls
            cases h3
            cases h4
          cases o with
          | list l => cases ef
          | inst C'' fs'' =>
            cases ef
            obtain ⟨es0, n0, a, b, c⟩ := x
            exact ⟨_, m, (oth _ hne).trans a, hg, hf'⟩
          | acc C'' fs'' l =>
            cases ef
            obtain ⟨es0, n0, vs, k, a, b, c, d'⟩ := x
            exact ⟨_, m, vs, k, (oth _ hne).trans a, hg, hf', S.vrs d'⟩
        · cases e
      · cases e
    · cases e
  · cases e
theorem SAx.attr {X : Env → Addr → Prop} (O : GOk G) (OS : ScopeOk sc) {C : Addr} {cd : ClassData} {j : Nat} {name : Str} (K : AttrOk G C cd j name) {o : Expr} {p : Pos} {f : FE} (a : SE G d sc o f) : SAx G X d sc (.Attribute o name p) (aAttr C j f) := by
  intro env A s β ρ σ pv v ρ' σ' hsc hA R F V e Q E h
  unfold aAttr at e
  split at e
  · rename_i i σ₁ e1
    split at e
    · rename_i σ₂ e2
      cases e
      rw [assign_Attribute]
      refine wpAny_bind (wpAny_holding (a env A s β _ σ (.ref i) σ₁ hsc hA R F e1 _ _ fun x s₁ β₁ S1 R1 V1 H1 => ?_))
      refine wpAny_bind (wpAny_standAt (wpAny_bind (wpAny_holding (attr_store O K R1 V1 (S1.vr V) e2 fun s₂ S2 R2 H2 => ?_))))
      exact wpAny_release (h s₂ β₁ (S1.trans S2).toX R2 (F.go OS hsc R.base (S1.trans S2)) (H1.trans H2))
    · cases e
  · cases e
end
end Mine
end
section
open PySem PySem.W PySem.Calls PyProof.Rows
open Builtin Builtin.Str
set_option maxRecDepth 100000
set_option linter.unusedVariables false
namespace Mine
variable [Ban]
set_option linter.unusedSectionVars false
abbrev CF := List PV → List PO → Option (PV × List PO)
def intsOf : List PV → Option (List Int)
  | [] => some []
  | .int n :: r => (intsOf r).map (n :: ·)
  | _ => none
def strsOf : List PV → Option (List Str)
  | [] => some []
  | .str n :: r => (strsOf r).map (n :: ·)
  | _ => none
def smallI (a : Int) : Bool := decide (-1000000 ≤ a ∧ a ≤ 1000000)
def lenF (C : Addr) (Φ : CF) : CF
  | [.str x], σ => if x.length ≤ 1000000 then some (.int x.length, σ) else none
  | [.ref i], σ => match σ[i]? with
    | some (.list l) => if szOk l.length = true then some (.int l.length, σ) else none
    | some (.acc C' _ _) => if C' = C then match Φ [.ref i] σ with
      | some (.int n, σ') => if 0 ≤ n ∧ n ≤ 1000000 then some (.int n, σ') else none
      | _ => none
      else none
    | _ => none
  | _, _ => none
def rangeF : CF
  | [.int n], σ => if smallI n then some (.rng 0 n 1, σ) else none
  | [.int a, .int b], σ => if smallI a && smallI b then some (.rng a b 1, σ) else none
  | [.int a, .int b, .int c], σ => if smallI a && smallI b && (c == -1) then some (.rng a b c, σ) else none
  | _, _ => none
def minL : List Int → Option Int
  | [] => none
  | a :: l => some (l.foldl min a)
def maxL : List Int → Option Int
  | [] => none
  | a :: l => some (l.foldl max a)
def minF : CF
  | [.ref i], σ => match σ[i]? with
    | some (.list l) => match intsOf l with
      | some ns => match minL ns with
        | some m => some (.int m, σ)
        | none => none
      | none => none
    | _ => none
  | _, _ => none
def maxF : CF
  | [.ref i], σ => match σ[i]? with
    | some (.list l) => match intsOf l with
      | some ns => match maxL ns with
        | some m => some (.int m, σ)
        | none => none
      | none => none
    | _ => none
  | _, _ => none
def joinF : CF
  | [.str x, .ref i], σ => match σ[i]? with
    | some (.list l) => match strsOf l with
      | some ys => if (ys.map (·.length)).sum + ys.length * x.length ≤ 1000000 then some (.str (Txt.join x ys), σ) else none
      | none => none
    | _ => none
  | _, _ => none
def splitF : CF
  | [.str x, .str y], σ => if x.length ≤ 1000000 ∧ y.length ≠ 0 ∧ (Txt.split x y).length ≤ 1000000 then some (.ref σ.length, σ ++ [.list ((Txt.split x y).map .str)]) else none
  | _, _ => none
def isspaceF : CF
  | [.str x], σ => some (.bool (Txt.isspace x), σ)
  | _, _ => none
def appendF : CF
  | [.ref i, p], σ => match σ[i]? with
    | some (.list l) => if szOk l.length = true then some (.none, σ.set i (.list (l ++ [p]))) else none
    | _ => none
  | _, _ => none
section
variable {G : GC} {d : Nat}
theorem VRs.one' {h : Heap} {β : Lay} {p : PV} {vs : List Value} (V : VRs h β [p] vs) : ∃ v, vs = [v] ∧ VR h β p v := by
  obtain ⟨v, r, rfl, a, b⟩ := V
  cases (show r = [] from b)
  exact ⟨v, rfl, a⟩
theorem VRs.two' {h : Heap} {β : Lay} {p q : PV} {vs : List Value} (V : VRs h β [p, q] vs) : ∃ v w, vs = [v, w] ∧ VR h β p v ∧ VR h β q w := by
  obtain ⟨v, r, rfl, a, b⟩ := V
  obtain ⟨w, rfl, c⟩ := b.one'
  exact ⟨v, w, rfl, a, c⟩
theorem VRs.three' {h : Heap} {β : Lay} {p q r : PV} {vs : List Value} (V : VRs h β [p, q, r] vs) : ∃ v w u, vs = [v, w, u] ∧ VR h β p v ∧ VR h β q w ∧ VR h β r u := by
  obtain ⟨v, r, rfl, a, b⟩ := V
  obtain ⟨w, u, rfl, c, d⟩ := b.two'
  exact ⟨v, w, u, rfl, a, c, d⟩
theorem ints_are {h : Heap} {β : Lay} : ∀ {l : List PV} {vs : List Value} {ns : List Int}, VRs h β l vs → intsOf l = some ns → IntsAre vs ns
  | [], vs, ns, V, e => by cases e; rw [show vs = [] from V]; exact .nil
  | .int n :: r, _, ns, ⟨v, w, rfl, a, b⟩, e => by
    obtain ⟨t, rfl⟩ := a
    obtain ⟨ms, h1, rfl⟩ := Option.map_eq_some_iff.mp e
    exact .cons n t (ints_are b h1)
  | .none :: r, _, ns, _, e => by cases e
  | .bool _ :: r, _, ns, _, e => by cases e
  | .str _ :: r, _, ns, _, e => by cases e
  | .tup _ :: r, _, ns, _, e => by cases e
  | .ref _ :: r, _, ns, _, e => by cases e
  | .rng _ _ _ :: r, _, ns, _, e => by cases e
  | .lit _ :: r, _, ns, _, e => by cases e
theorem strs_are {h : Heap} {β : Lay} : ∀ {l : List PV} {vs : List Value} {ns : List Str}, VRs h β l vs → strsOf l = some ns → StrsAre vs ns
  | [], vs, ns, V, e => by cases e; rw [show vs = [] from V]; exact .nil
  | .str n :: r, _, ns, ⟨v, w, rfl, a, b⟩, e => by
    obtain ⟨t, rfl⟩ := a
    obtain ⟨ms, h1, rfl⟩ := Option.map_eq_some_iff.mp e
    exact .cons n t (strs_are b h1)
  | .none :: r, _, ns, _, e => by cases e
  | .bool _ :: r, _, ns, _, e => by cases e
  | .int _ :: r, _, ns, _, e => by cases e
  | .tup _ :: r, _, ns, _, e => by cases e
  | .ref _ :: r, _, ns, _, e => by cases e
  | .rng _ _ _ :: r, _, ns, _, e => by cases e
  | .lit _ :: r, _, ns, _, e => by cases e
theorem range_ok : SCall G d (.type "range") rangeF := by
  intro A s β σ l vs pv σ' hA R V e Q E h
  unfold rangeF at e
  have key : ∀ (ob : Obj) (k : Nat) (a b c : Int) (t u w : Tok), ob = { cls := .type "range", data := .fields #[.int a t, .int b u, .int c w] } → pv = .rng a b c → σ' = σ → Q (.ref s.heap.objs.size) { s with heap := s.heap.push ob, toks := k } := by
    rintro ob k a b c t u w rfl rfl rfl
    have kk : ∀ b o, s.heap.get? b = some o → (s.heap.push { cls := .type "range", data := .fields #[.int a t, .int b u, .int c w] }).get? b = some o := fun b o e => Heap.get?_push_of_some _ e
    exact h _ _ β (Step.keeps fun b o e => Heap.get?_push_of_some _ e) (R.keeps fun b o e => Heap.get?_push_of_some _ e) ⟨_, t, u, w, rfl, IsRange.new ..⟩ (Sh.mk' ..)
  split at e
  · rename_i n
    split at e <;> cases e
    obtain ⟨_, rfl, t, rfl⟩ := V.one'
    exact call_range_1 (key _ _ _ _ _ _ _ _ rfl rfl rfl)
  · rename_i a b
    split at e <;> cases e
    obtain ⟨_, _, rfl, ⟨t, rfl⟩, u, rfl⟩ := V.two'
    exact call_range_2 (key _ _ _ _ _ _ _ _ rfl rfl rfl)
  · rename_i a b c
    split at e
    · rename_i hc
      cases e
      simp only [Bool.and_eq_true, beq_iff_eq] at hc
      obtain ⟨_, rfl⟩ := hc
      obtain ⟨_, _, _, rfl, ⟨t, rfl⟩, ⟨u, rfl⟩, w, rfl⟩ := V.three'
      exact call_range_3 (by decide) (key _ _ _ _ _ _ _ _ rfl rfl rfl) (.inl (PyProof.noPylong_small (by decide)))
    · cases e
  · cases e
theorem minL_mem : ∀ {ns : List Int} {m : Int}, minL ns = some m → m ∈ ns ∧ ∀ a ∈ ns, m ≤ a
  | a :: l, m, e => by
    cases e
    induction l generalizing a with
    | nil => exact ⟨.head _, fun x hx => by rw [List.mem_singleton] at hx; subst hx; exact Int.le_refl _⟩
    | cons b l ih =>
      rw [List.foldl_cons]
      obtain ⟨h1, h2⟩ := ih (min a b)
      refine ⟨?_, fun x hx => ?_⟩
      · rcases List.mem_cons.mp h1 with h1 | h1
        · rw [h1]
          by_cases c : a ≤ b
          · rw [Int.min_eq_left c]; exact .head _
          · rw [Int.min_eq_right (by omega)]; exact .tail _ (.head _)
        · exact .tail _ (.tail _ h1)
      · have h0 := h2 (min a b) (.head _)
        rcases List.mem_cons.mp hx with hx | hx
        · subst hx; exact Int.le_trans h0 (Int.min_le_left ..)
        · rcases List.mem_cons.mp hx with hx | hx
          · subst hx; exact Int.le_trans h0 (Int.min_le_right ..)
          · exact h2 x (.tail _ hx)
theorem maxL_mem : ∀ {ns : List Int} {m : Int}, maxL ns = some m → m ∈ ns ∧ ∀ a ∈ ns, a ≤ m
  | a :: l, m, e => by
    cases e
    induction l generalizing a with
    | nil => exact ⟨.head _, fun x hx => by rw [List.mem_singleton] at hx; subst hx; exact Int.le_refl _⟩
    | cons b l ih =>
      rw [List.foldl_cons]
      obtain ⟨h1, h2⟩ := ih (max a b)
      refine ⟨?_, fun x hx => ?_⟩
      · rcases List.mem_cons.mp h1 with h1 | h1
        · rw [h1]
          by_cases c : a ≤ b
          · rw [Int.max_eq_right c]; exact .tail _ (.head _)
          · rw [Int.max_eq_left (by omega)]; exact .head _
        · exact .tail _ (.tail _ h1)
      · have h0 := h2 (max a b) (.head _)
        rcases List.mem_cons.mp hx with hx | hx
        · subst hx; exact Int.le_trans (Int.le_max_left ..) h0
        · rcases List.mem_cons.mp hx with hx | hx
          · subst hx; exact Int.le_trans (Int.le_max_right ..) h0
          · exact h2 x (.tail _ hx)
theorem min_ok : SCall G d (.builtin "min") minF := by
  intro A s β σ l vs pv σ' hA R V e Q E h
  unfold minF at e
  split at e
  · rename_i i
    split at e
    · rename_i l el
      split at e
      · rename_i ns hns
        split at e
        · rename_i m hm
          cases e
          obtain ⟨v, rfl, Vx⟩ := V.one'
          obtain ⟨a, ws, rfl, L, W, _⟩ := isList_of R Vx el
          have hi := ints_are W hns
          obtain ⟨h1, h2⟩ := minL_mem hm
          obtain ⟨xs, ex⟩ := hi.allInts.items
          have hxs : ns = xs.toList.map (·.1) := by rw [← hi.numsOf, ← nums_intItems, ← ex]
          have hsz : 0 < xs.size := by
            have : 0 < ns.length := List.length_pos_of_mem h1
            rw [hxs, List.length_map, Array.length_toList] at this; exact this
          have L' : s.heap.IsList a (intItems xs) := by rw [← ex]; exact L
          refine min_intList hA.hand L' hsz fun v h' tk hv hk => ?_
          obtain ⟨t, rfl⟩ := intItems_at hv
          obtain ⟨h3, h4⟩ := argBest_lt (numAt xs) (xs.size - 1)
          have hmem : numAt xs (argBest (fun i j => decide (numAt xs i < numAt xs j)) (xs.size - 1)) ∈ ns := by
            rw [hxs, numAt_eq]; exact getD_mem (by rw [List.length_map, Array.length_toList]; omega)
          have hle : ∀ a ∈ ns, numAt xs (argBest (fun i j => decide (numAt xs i < numAt xs j)) (xs.size - 1)) ≤ a := fun a ha => by
            rw [hxs] at ha
            obtain ⟨j, hj, rfl⟩ := mem_getD ha
            rw [List.length_map, Array.length_toList] at hj
            rw [← numAt_eq]; exact h4 j (by omega)
          have : numAt xs (argBest (fun i j => decide (numAt xs i < numAt xs j)) (xs.size - 1)) = m := Int.le_antisymm (hle m h1) (h2 _ hmem)
          rw [this]
          exact h _ _ β (Step.keeps hk) (R.keeps hk) ⟨t, rfl⟩ (Sh.mk' ..)
        · cases e
      · cases e
    · cases e
  · cases e
theorem max_ok : SCall G d (.builtin "max") maxF := by
  intro A s β σ l vs pv σ' hA R V e Q E h
  unfold maxF at e
  split at e
  · rename_i i
    split at e
    · rename_i l el
      split at e
      · rename_i ns hns
        split at e
        · rename_i m hm
          cases e
          obtain ⟨v, rfl, Vx⟩ := V.one'
          obtain ⟨a, ws, rfl, L, W, _⟩ := isList_of R Vx el
          have hi := ints_are W hns
          obtain ⟨h1, h2⟩ := maxL_mem hm
          obtain ⟨xs, ex⟩ := hi.allInts.items
          have hxs : ns = xs.toList.map (·.1) := by rw [← hi.numsOf, ← nums_intItems, ← ex]
          have hsz : 0 < xs.size := by
            have : 0 < ns.length := List.length_pos_of_mem h1
            rw [hxs, List.length_map, Array.length_toList] at this; exact this
          have L' : s.heap.IsList a (intItems xs) := by rw [← ex]; exact L
          refine max_intList hA.hand L' hsz fun v h' tk hv hk => ?_
          obtain ⟨t, rfl⟩ := intItems_at hv
          obtain ⟨h3, h4⟩ := argBest_gt (numAt xs) (xs.size - 1)
          have hmem : numAt xs (argBest (fun i j => decide (numAt xs i > numAt xs j)) (xs.size - 1)) ∈ ns := by
            rw [hxs, numAt_eq]; exact getD_mem (by rw [List.length_map, Array.length_toList]; omega)
          have hle : ∀ a ∈ ns, a ≤ numAt xs (argBest (fun i j => decide (numAt xs i > numAt xs j)) (xs.size - 1)) := fun a ha => by
            rw [hxs] at ha
            obtain ⟨j, hj, rfl⟩ := mem_getD ha
            rw [List.length_map, Array.length_toList] at hj
            rw [← numAt_eq]; exact h4 j (by omega)
          have : numAt xs (argBest (fun i j => decide (numAt xs i > numAt xs j)) (xs.size - 1)) = m := Int.le_antisymm (h2 _ hmem) (hle m h1)
          rw [this]
          exact h _ _ β (Step.keeps hk) (R.keeps hk) ⟨t, rfl⟩ (Sh.mk' ..)
        · cases e
      · cases e
    · cases e
  · cases e
theorem join_ok : SCall G d (.builtin "str.join") joinF := by
  intro A s β σ l vs pv σ' hA R V e Q E h
  unfold joinF at e
  split at e
  · rename_i x i
    split at e
    · rename_i l el
      split at e
      · rename_i ys hys
        split at e
        · rename_i hsz
          cases e
          obtain ⟨_, v, rfl, ⟨t, rfl⟩, Vx⟩ := V.two'
          obtain ⟨a, ws, rfl, L, W, _⟩ := isList_of R Vx el
          exact PyProof.Rows.join_list L (strs_are W hys) (by omega) fun t' k => h _ _ β (Step.refl ..) R ⟨t', rfl⟩ (Sh.mk' ..)
        · cases e
      · cases e
    · cases e
  · cases e
theorem vrs_strs {h : Heap} {β : Lay} : ∀ l : List (Str × Tok), VRs h β ((l.map (·.1)).map .str) (strValues l)
  | [] => rfl
  | (x, t) :: l => ⟨.str x t, strValues l, rfl, ⟨t, rfl⟩, vrs_strs l⟩
theorem split_ok : SCall G d (.builtin "str.split") splitF := by
  intro A s β σ l vs pv σ' hA R V e Q E h
  unfold splitF at e
  split at e
  · rename_i x y
    split at e
    · rename_i hc
      obtain ⟨hx, hy, hn⟩ := hc
      cases e
      obtain ⟨_, _, rfl, ⟨t, rfl⟩, u, rfl⟩ := V.two'
      have hy' : (y.length == 0) = false := by simpa using hy
      have sz : (1000000 : Nat) ≤ sizeLine := by decide
      have fin : ∀ (l : List (Str × Tok)) (k : Nat), l.map (·.1) = Txt.split x y → Q (.ref s.heap.objs.size) { s with heap := s.heap.push { cls := .type "list", data := .seq (strValues l).toArray }, toks := k } := fun l k hl => by
        have V' : VRs s.heap β ((Txt.split x y).map .str) ((strValues l).toArray).toList := by rw [← hl, List.toList_toArray]; exact vrs_strs l
        obtain ⟨S, R', V2⟩ := pushList R V'
        exact h _ _ _ S R' V2 (Sh.mk' ..)
      cases h1 : (decide (x.length < y.length) || decide (strKind x < strKind y))
      · cases hf : (occurrences x y 0 x.length (x.length + 1)).isEmpty
        · have hsplit : Txt.split x y = partsBetween x (occurrences x y 0 x.length (x.length + 1)) y.length := (if_neg (ne_true_of_eq_false h1)).trans (if_neg (ne_true_of_eq_false hf))
          refine call_meets F.slot_str_split (typeIs_str _ _ _) F.entry_str_split (F.args_str_split_2 _ _) (meets_str_split_sep x y t u h1 hy' hf (by omega) (by rw [← hsplit]; omega)) ?_
          show wants Q E _ { s with toks := _, heap := s.heap.push { cls := .type "list", data := .seq (strsFrom s.toks (partsBetween x (occurrences x y 0 x.length (x.length + 1)) y.length)).toArray } }
          rw [strsFrom_eq]
          exact fin (numbered s.toks _) _ ((numbered_texts _ _).trans hsplit.symm)
        · exact call_meets F.slot_str_split (typeIs_str _ _ _) F.entry_str_split (F.args_str_split_2 _ _) (meets_str_split_not_found x y t u h1 hy' hf)
            (fin [(x, t)] _ ((if_neg (ne_true_of_eq_false h1)).trans (if_pos hf)).symm)
      · exact call_meets F.slot_str_split (typeIs_str _ _ _) F.entry_str_split (F.args_str_split_2 _ _) (meets_str_split_cannot_occur x y t u h1)
          (fin [(x, t)] _ (if_pos h1).symm)
    · cases e
  · cases e
theorem isspace_ok : SCall G d (.builtin "str.isspace") isspaceF := by
  intro A s β σ l vs pv σ' hA R V e Q E h
  unfold isspaceF at e
  split at e
  · cases e
    obtain ⟨_, rfl, t, rfl⟩ := V.one'
    exact SC.isspace (h _ _ β (Step.refl ..) R rfl (Sh.refl s))
  · cases e
theorem appendF_ok : SCall G d (.builtin "list.append") appendF := by
  intro A s β σ l vs pv σ' hA R V e Q E h
  unfold appendF at e
  split at e
  · rename_i i p
    split at e
    · rename_i l el
      split at e
      · rename_i hz
        cases e
        obtain ⟨v, w, rfl, V1, V2⟩ := V.two'
        exact append_ok R V1 el V2 hz fun s' S R' H => h _ _ β S R' rfl H
      · cases e
    · cases e
  · cases e
theorem len_ok (O : GOk G) {C fL : Addr} {Φ : CF} (hs : findIn G.K (.ref C) "__len__" = some (some (.ref fL))) (hf : typeIn G.K (.ref fL) = some (.type "function")) (c : SCall G d (.ref fL) Φ) : SCall G (d + 1) (.builtin "len") (lenF C Φ) := by
  intro A s β σ l vs pv σ' hA R V e Q E h
  unfold lenF at e
  split at e
  · rename_i x
    split at e
    · cases e
      obtain ⟨_, rfl, t, rfl⟩ := V.one'
      refine len_str (by omega) (h _ _ β (Step.refl ..) R ⟨_, rfl⟩ (Sh.mk' ..))
    · cases e
  · rename_i i
    obtain ⟨v, rfl, Vx⟩ := V.one'
    split at e
    · rename_i l el
      split at e
      · rename_i hz
        cases e
        obtain ⟨a, ws, rfl, L, W, _⟩ := isList_of R Vx el
        have hl : ws.size = l.length := by rw [← Array.length_toList, W.length]
        have := sz_of hz
        have sz : sizeLine = 16777216 := by decide
        refine call_len_list L (by rw [hl]; omega) ?_
        rw [hl]
        exact h _ _ β (Step.refl ..) R ⟨_, rfl⟩ (Sh.mk' ..)
      · cases e
    · rename_i C' fs l el
      split at e
      · rename_i hC
        subst hC
        split at e
        · rename_i n σ₁ e1
          split at e
          · rename_i hn
            cases e
            obtain ⟨p, ox, es, m, rfl, hq, I, hd, hfs⟩ := inst_of R Vx el rfl
            refine Calls.call_function_entry kind_len plain_len entry_len (args_len1 _) ?_
            unfold Builtin.«len»
            refine wpAny_bind (m := oneArg "len" _) (wpAny_pure ?_)
            refine wpAny_bind (m := callSpecial? (.ref p.1) (Str.ofString "__len__")) (special_fn (R.base.K O) I hs hf ?_)
            refine c A.in1 s β σ [.ref i] [.ref p.1] (.int n) σ' hA.in1 R ⟨_, _, rfl, Vx, rfl⟩ e1 _ _ fun v s₁ β₁ S1 R1 V1 H1 => ?_
            obtain ⟨t, rfl⟩ := V1
            refine wpAny_bind (wpAny_holding (wpAny_pure ?_))
            refine wpAny_bind (wpAny_letGo ?_)
            show wpAny _ _ (if n < 0 then _ else _) _ _ _
            rw [if_neg (by omega)]
            show wpAny _ _ (if n ≥ 2 ^ 63 then _ else _) _ _ _
            rw [if_neg (by omega)]
            exact wpAny_bind (wpAny_mkInt (wpAny_pure ⟨_, rfl, h _ _ β₁ S1 R1 ⟨_, rfl⟩ (H1.trans (Sh.mk' ..))⟩))
          · cases e
        · cases e
      · cases e
    · cases e
  · cases e
end
end Mine
end
section
open PySem PySem.W PySem.Calls PyProof.Rows
set_option maxRecDepth 100000
set_option linter.unusedVariables false
namespace Mine
variable [Ban]
set_option linter.unusedSectionVars false
structure AccCls (K : Frag) (C : Addr) (cd : ClassData) : Prop where
  P : PlainCls K C cd
  isL : mroIn K C (.type "list") = some true
  deq : mroIn K C (.type "collections.deque") = some false
  getitem : findIn K (.ref C) "__getitem__" = some (some (.builtin "list.__getitem__"))
  setitem : findIn K (.ref C) "__setitem__" = some (some (.builtin "list.__setitem__"))
  iter : findIn K (.ref C) "__iter__" = some (some (.builtin "list.__iter__"))
  bool : findIn K (.ref C) "__bool__" = some none
section
variable {prog : Program} {w : World} {A : Around} {E : Value → Shared → Prop} {s : Shared} {K : Frag} {x C : Addr} {ox : Obj} {od : Option Obj} {cd : ClassData}
theorem check_method {M : Model} {i owner n : String} {self : Value} {rest : List Value} {kw : List (Str × Value)} {Q : Unit → Shared → Prop}
    (hk : builtinKind i = some .method) (hs : splitId i = some (owner, n)) (hi : Looks M s.heap (isInstance self (.type owner)) true) (ha : argsOk i ⟨self :: rest, kw⟩) (q : Q () s) :
    wpAny M A (checkBuiltinCall i ⟨self :: rest, kw⟩) Q E s := by
  simp only [checkBuiltinCall, hk, hs]
  refine wpAny_bind (hi.here ?_)
  simp only [Bool.not_true, Bool.false_eq_true, if_false]
  cases hsig : Manifest.signature? i with
  | none => exact wpAny_pure q
  | some sig =>
    simp only [argsOk, hsig] at ha
    have h2 : Bind.checkArgs i sig ⟨self :: rest, kw⟩ = pure () := ha
    show wpAny M A (Bind.checkArgs i sig ⟨self :: rest, kw⟩) Q E s
    rw [h2]; exact wpAny_pure q
theorem isL_looks {M : Model} (X : K.In s.heap) (I : InstAt s.heap x ox C od) (hm : mroIn K C (.type "list") = some true) : Looks M s.heap (isInstance (.ref x) (.type "list")) true := I.type.andThen (looks_mroIn X hm)
abbrev Back (M : Model) (A : Around) (Q : Value → Shared → Prop) (E : Value → Shared → Prop) (fin : Fin) (s' : Shared) : Prop :=
  match fin with
  | .done f => (fun (r : Result) (s' : Shared) => match r with | .ok (.ret v) => Q v s' | .ok _ => False | .error e => E e s') (.ok f) s'
  | .again c' => c'.quiet = true ∧ codeAny M A c' (fun r s' => match r with | .ok (.ret v) => Q v s' | .ok _ => False | .error e => E e s') s'
theorem sub_call {id n : String} {B : Builtin} {rest : List Value} {Q : Value → Shared → Prop} (hk : builtinKind id = some .slot ∨ builtinKind id = some .method) (hs : splitId id = some ("list", n)) (hp : plainId id = true) (he : entryFor table id = some B)
    (ha : argsOk id ⟨.ref x :: rest, []⟩) (X : K.In s.heap) (I : InstAt s.heap x ox C od) (hm : mroIn K C (.type "list") = some true)
    (h : wpAny (model prog w) A.in1 (B ⟨.ref x :: rest, []⟩) (Back (model prog w) A Q E) E s) :
    wpAny (model prog w) A (call (.builtin id) (.ref x :: rest)) Q E s := by
  refine wpAny_call (codeAny_call_builtin hp he ?_)
  rcases hk with hk | hk
  · exact check_slot hk hs (isL_looks X I hm) ha h
  · exact check_method hk hs (isL_looks X I hm) ha h
theorem sub_special {id n : String} {name : Str} {B : Builtin} {rest : List Value} {Q : Option Value → Shared → Prop} (hf : findIn K (.ref C) name = some (some (.builtin id))) (slot : Slot "list" name id) (hk : builtinKind id = some .slot ∨ builtinKind id = some .method) (hs : splitId id = some ("list", n)) (he : entryFor table id = some B)
    (ha : argsOk id ⟨.ref x :: rest, []⟩) (X : K.In s.heap) (I : InstAt s.heap x ox C od) (hm : mroIn K C (.type "list") = some true)
    (h : wpAny (model prog w) A.in1 (B ⟨.ref x :: rest, []⟩) (Back (model prog w) A (fun v => Q (some v)) E) E s) :
    wpAny (model prog w) A (callSpecial? (.ref x) name rest) Q E s := by
  refine wpAny_bind (wpAny_bind (I.type.here ((looks_findIn X hf).here (wpAny_holding ?_))))
  refine wpAny_bind (wpAny_of_eq (slot.bind _) ?_)
  exact wpAny_bind (wpAny_mono (sub_call hk hs slot.plain he ha X I hm h) (fun v s' z => wpAny_pure z) fun _ _ z => z)
theorem sub_key {k : Value} {name : Str} {Q : Value → Shared → Prop} (X : K.In s.heap) (I : InstAt s.heap x ox C od) (hd : mroIn K C (.type "collections.deque") = some false) (h : Q k s) : wpAny (model prog w) A (sequenceKey (.ref x) k name) Q E s := by
  unfold sequenceKey
  refine wpAny_bind (I.type.here ?_)
  dsimp only
  have L : Looks (model prog w) s.heap (isSubtype (.ref C) (.type "collections.deque")) false := looks_mroIn X hd
  show wpAny _ _ (List.anyM (fun n => isSubtype (.ref C) (.type n)) seqItemTypes >>= _) _ _ s
  unfold seqItemTypes
  simp only [List.anyM]
  refine wpAny_bind (wpAny_bind (L.here ?_))
  dsimp only
  exact wpAny_pure (wpAny_pure h)
theorem kinds_list : (builtinKind "list.append" = some .method ∧ builtinKind "list.pop" = some .method) ∧ (builtinKind "list.__getitem__" = some .method ∧ builtinKind "list.__setitem__" = some .slot) ∧ (builtinKind "list.__len__" = some .slot ∧ builtinKind "list.__init__" = some .slot ∧ builtinKind "list.__iter__" = some .slot) := by decide +kernel
theorem splits_list : (splitId "list.append" = some ("list", "append") ∧ splitId "list.pop" = some ("list", "pop")) ∧ (splitId "list.__getitem__" = some ("list", "__getitem__") ∧ splitId "list.__setitem__" = some ("list", "__setitem__")) ∧ (splitId "list.__len__" = some ("list", "__len__") ∧ splitId "list.__init__" = some ("list", "__init__") ∧ splitId "list.__iter__" = some ("list", "__iter__")) := by decide +kernel
end
section
variable {G : GC} {d : Nat} {sc : Scope}
theorem acc_of {h : Heap} {β : Lay} {σ : List PO} (R : Rel G h β σ) {i : Nat} {v : Value} {C : Addr} {fs l : List PV} (V : VR h β (.ref i) v) (e : σ[i]? = some (.acc C fs l)) :
    ∃ p es n vs k, v = .ref p.1 ∧ β[i]? = some p ∧ h.get? p.1 = some ⟨.ref C, some p.2, .seq vs k, #[]⟩ ∧ VRs h β l vs.toList ∧ InstAt h p.1 ⟨.ref C, some p.2, .seq vs k, #[]⟩ C (some (dictOf es n)) := by
  obtain ⟨p, hp, rfl⟩ := V
  obtain ⟨es, n, vs, k, a, b, c, d'⟩ := R.at_ i p _ hp e
  exact ⟨p, es, n, vs, k, rfl, hp, a, d', ⟨a, rfl, rfl, b⟩⟩
theorem acc_turn {h h' : Heap} {β : Lay} {σ : List PO} (R : Rel G h β σ) {i : Nat} {p : Addr × Addr} {C : Addr} {fs l l' : List PV} {vs' : Array Value} {m : Nat} (hp : β[i]? = some p) (e : σ[i]? = some (.acc C fs l)) (hs : Heap.SameBut p.1 h h')
    (hg : h'.get? p.1 = some ⟨.ref C, some p.2, .seq vs' m, #[]⟩) (W : VRs h β l' vs'.toList) : Step G h β h' β ∧ Rel G h' β (σ.set i (.acc C fs l')) := by
  have S : Step G h β h' β := Step.set R (In.of_get hp).1 hs ⟨_, hg⟩
  refine ⟨S, R.set hp (.inl rfl) hs fun tp oth => ?_⟩
  obtain ⟨es, n, vs, k, a, b, c, d'⟩ := R.at_ i p _ hp e
  have hne : p.2 ≠ p.1 := fun z => by
    rw [z, a] at b
    cases b
  exact ⟨es, n, vs', m, hg, (oth _ hne).trans b, c.mono S.get S.tup, S.vrs W⟩
def appendAF (C : Addr) : CF
  | [.ref i, p], σ => match σ[i]? with
    | some (.acc C' fs l) => if C' = C ∧ szOk l.length = true then some (.none, σ.set i (.acc C fs (l ++ [p]))) else none
    | _ => none
  | _, _ => none
theorem appendA_ok (O : GOk G) {C : Addr} {cd : ClassData} (AC : AccCls G.K C cd) : SCall G d (.builtin "list.append") (appendAF C) := by
  intro A s β σ l vs pv σ' hA R V e Q E h
  unfold appendAF at e
  split at e
  · rename_i i p
    split at e
    · rename_i C' fs l el
      split at e
      · rename_i hc
        obtain ⟨rfl, hz⟩ := hc
        cases e
        obtain ⟨v, w, rfl, V1, V2⟩ := V.two'
        obtain ⟨q, es, n, ws, k, rfl, hq, hg, W, I⟩ := acc_of R V1 el
        have hsz : ws.size ≤ sizeLine := by rw [← Array.length_toList, W.length]; exact sz_of hz
        refine sub_call (.inr kinds_list.1.1) splits_list.1.1 slot_list_append.plain entry_list_append (args_list_append _ _) (R.base.K O) I AC.isL ?_
        show wpAny _ _ (updateSeq q.1 (·.push w) >>= fun _ => ret .none) _ _ s
        refine wpAny_bind (wpAny_updateSeq hg rfl (wpAny_pure ?_) hsz (by rw [Array.size_push]; omega))
        have hg' : (s.heap.update q.1 (Obj.mapSeq (·.push w))).get? q.1 = some ⟨.ref C', some q.2, .seq (ws.push w) (k + 1), #[]⟩ := by
          rw [Heap.get?_update_self _ hg (by simp [Obj.mapSeq, Obj.isFreed])]
          simp [Obj.mapSeq]
        obtain ⟨S, R'⟩ := acc_turn R hq el (Heap.SameBut.update ..) hg' (by rw [Array.toList_push]; exact W.append (VRs.one V2))
        exact h _ _ _ S R' rfl (Sh.mk' ..)
      · cases e
    · cases e
  · cases e
def idxAF (C : Addr) : PV → PV → List PO → Option (PV × List PO)
  | .ref i, .int k, σ => match σ[i]? with
    | some (.acc C' fs l) => if C' = C ∧ 0 ≤ k ∧ k ≤ 1000000 then match l[k.toNat]? with
      | some p => some (p, σ)
      | none => none
      else none
    | _ => none
  | _, _, _ => none
theorem idxA_ok (O : GOk G) {C : Addr} {cd : ClassData} (AC : AccCls G.K C cd) {value slice : Expr} (hs : ∀ o i, subscripted slice false o i = operate [o, i] (getItem o i)) : SV2 G d (subscriptTail value slice) (idxAF C) := by
  intro A s β σ a b va vb pv σ' hA R Va Vb e Q E h
  unfold idxAF at e
  split at e
  · rename_i i k
    split at e
    · rename_i C' fs l el
      split at e
      · rename_i hc
        obtain ⟨rfl, h0, hk⟩ := hc
        split at e
        · rename_i p ep
          cases e
          obtain ⟨u, rfl⟩ := Vb
          obtain ⟨q, es, n, ws, m, rfl, hq, hg, W, I⟩ := acc_of R Va el
          obtain ⟨v, hv, rv⟩ := W.get ep
          have X := R.base.K O
          unfold subscriptTail
          refine wpAny_bind ?_
          rw [getitemInPython_of_ne (by intro z; cases z)]
          refine wpAny_bind (wpAny_bind (I.type.here ((looks_findIn X AC.getitem).here ?_)))
          have fin : wpAny G.M A (subscripted slice false (.ref q.1) (.int k u)) (fun r s₃ => wpAny G.M A (letTemporaryGo value (.ref q.1) r >>= fun _ => pure r) Q E s₃) E s := by
            rw [hs]
            refine wpAny_operating (wpAny_mono (Q := fun r s₃ => r = v ∧ s₃ = s) ?_ (fun r s₃ h₃ => wpAny_bind (wpAny_letTemporaryGo (wpAny_pure ?_))) fun _ _ x => x)
            · unfold getItem
              refine wpAny_holding ?_
              refine wpAny_bind (sub_key X I AC.deq ?_)
              refine wpAny_bind (sub_special AC.getitem slot_list_getitem (.inr kinds_list.2.1.1) splits_list.2.1.1 entry_list_getitem (args_list_getitem _ _) X I AC.isL ?_)
              show wpAny _ _ (Builtin.List.listSubscript? (.int k u) >>= _) _ _ s
              refine wpAny_bind (wpAny_listSubscript_int (fitsIndex_of h0 (by omega)) ?_)
              obtain ⟨j, rfl⟩ := Int.eq_ofNat_of_zero_le h0
              have hx' : ws[j]? = some v := by simpa using hv
              show wpAny _ _ ((seqItemAt q.1 j >>= fun r => pure (r.map (j, ·))) >>= _) _ _ s
              refine wpAny_bind (wpAny_bind (wpAny_seqItemAt hg rfl (wpAny_pure ?_)))
              rw [hx']
              first
                | exact wpAny_bind (wpAny_pure (wpAny_pure (wpAny_pure ⟨rfl, rfl⟩)))
                | exact wpAny_pure (wpAny_pure ⟨rfl, rfl⟩)
            · obtain ⟨rfl, rfl⟩ := h₃
              exact h r s₃ β (Step.refl ..) R rv (Sh.refl _)
          first
            | exact wpAny_pure (wpAny_bind fin)
            | exact wpAny_bind (wpAny_pure (wpAny_bind fin))
            | exact wpAny_bind fin
        · cases e
      · cases e
    · cases e
  · cases e
theorem SE.idxA (O : GOk G) {C : Addr} {cd : ClassData} (AC : AccCls G.K C cd) {value slice : Expr} {p : Pos} {f g : FE} (OS : ScopeOk sc) (a : SE G d sc value f) (b : SE G d sc slice g) (hs : ∀ o i, subscripted slice false o i = operate [o, i] (getItem o i)) :
    SE G d sc (.Subscript value slice p) (eBin (idxAF C) f g) :=
  ST.bind2 OS a b (fun _ => idxA_ok O AC hs) fun _ _ _ _ _ _ h => Subscript_ h
end
end Mine
end
section
open PySem PySem.W PySem.Calls PyProof.Rows
set_option maxRecDepth 100000
set_option linter.unusedVariables false
namespace Mine
variable [Ban]
set_option linter.unusedSectionVars false
def eSliceA (C : Addr) (f a b : FE) : FE := fun ρ σ => match f ρ σ with
  | some (.ref i, σ₁) => match a ρ σ₁ with
    | some (x, σ₂) => match b ρ σ₂ with
      | some (y, σ₃) => match partOf x, partOf y, σ₃[i]? with
        | some lo, some hi, some (.acc C' fs l) => if C' = C ∧ szOk l.length = true then some (.ref σ₃.length, σ₃ ++ [.list (sliceL l lo hi)]) else none
        | _, _, _ => none
      | none => none
    | none => none
  | _ => none
def cutIn (C : Addr) (i : Nat) (lo : Option Int) (j : Nat) (σ : List PO) : Option (List PO) := match σ[i]?, σ[j]? with
  | some (.acc C' fs l), some (.list m) => if C' = C ∧ szOk l.length = true ∧ szOk m.length = true then some (σ.set i (.acc C fs (l.take (lo.elim 0 (clipAt l.length)) ++ m))) else none
  | _, _ => none
def aSliceA (C : Addr) (f a : FE) : FA := fun p ρ σ => match p with
  | .ref j => match f ρ σ with
    | some (.ref i, σ₁) => match a ρ σ₁ with
      | some (x, σ₂) => match partOf x with
        | some lo => match cutIn C i lo j σ₂ with
          | some σ₃ => some (ρ, σ₃)
          | none => none
        | none => none
      | none => none
    | _ => none
  | _ => none
def truAF (C : Addr) (Φ : CF) : PV → List PO → Option (Bool × List PO)
  | .ref i, σ => match σ[i]? with
    | some (.acc C' _ _) => if C' = C then match lenF C Φ [.ref i] σ with
      | some (.int n, σ') => some (n != 0, σ')
      | _ => none
      else none
    | _ => none
  | _, _ => none
def strAF (C : Addr) (Φ : CF) : CF
  | [.ref i], σ => match σ[i]? with
    | some (.acc C' _ _) => if C' = C then match Φ [.ref i] σ with
      | some (.str x, σ') => some (.str x, σ')
      | _ => none
      else none
    | _ => none
  | _, _ => none
section
variable {prog : Program} {w : World} {A : Around} {E : Value → Shared → Prop} {s : Shared} {K : Frag} {x C : Addr} {ox : Obj} {od : Option Obj} {cd : ClassData}
theorem setItem_cut {sl m : Addr} {vl : Value} {lo : Option Int} {xs ys : Array Value} {k : Nat} {om : Obj} {km : Nat} {dx : Addr} {Q : Unit → Shared → Prop} (X : K.In s.heap) (AC : AccCls K C cd) (I : InstAt s.heap x ⟨.ref C, some dx, .seq xs k, #[]⟩ C od) (hsl : s.heap.IsSliceOf sl vl .none .none)
    (pl : IsPart vl lo) (hm : s.heap.get? m = some om) (hmc : om.cls = .type "list") (hmd : om.data = .seq ys km) (ne : x ≠ m) (h1 : xs.size ≤ 1000000) (h2 : ys.size ≤ 1000000)
    (h : ∀ h' k', Heap.SameBut x s.heap h' → h'.get? x = some ⟨.ref C, some dx, .seq (xs.extract 0 (lo.elim 0 (clipAt xs.size)) ++ ys) k', #[]⟩ → Q () { s with heap := h' }) :
    wpAny (model prog w) A (setItem (.ref x) (.ref sl) (.ref m)) Q E s := by
  obtain ⟨os, hos, hcs, hds⟩ := id hsl
  have hTs : s.TypeIs (.ref sl) "slice" := ⟨os, hos, hcs⟩
  have sz : sizeLine = 16777216 := by decide
  unfold setItem
  refine wpAny_holding ?_
  refine wpAny_bind (sub_key X I AC.deq ?_)
  refine wpAny_bind (sub_special AC.setitem slot_list_setitem (.inl kinds_list.2.1.2) splits_list.2.1.2 entry_list_setitem (args_list_setitem _ _ _) X I AC.isL ?_)
  show wpAny _ _ (Builtin.List.listSubscript? (.ref sl) >>= _) _ _ s
  refine wpAny_bind ?_
  unfold Builtin.List.listSubscript?
  refine wpAny_bind (wpAny_specialOf hTs slice_no_index ?_)
  simp only [Option.isNone_none, if_true]
  refine wpAny_pure ?_
  show wpAny _ _ (typeOf (.ref sl) >>= _) _ _ s
  refine wpAny_bind (wpAny_typeOf hTs ?_)
  rw [if_neg (by decide)]
  rw [listSliceParts_eq]
  refine wpAny_bind (wpAny_bind (wpAny_field hos hds (x := .none) rfl (wpAny_bind (wpAny_listPart (k := none) .none ?_))))
  rw [if_neg (show ¬ ((rawPart none == rawInt 0) = true) from Bool.false_ne_true)]
  refine wpAny_bind (wpAny_field hos hds (x := vl) rfl (wpAny_bind (wpAny_listPart pl ?_)))
  refine wpAny_bind (wpAny_field hos hds (x := .none) rfl (wpAny_bind (wpAny_listPart (k := none) .none (wpAny_pure ?_))))
  dsimp only
  rw [if_neg (by unfold Builtin.List.listSameRef; simpa using ne)]
  refine wpAny_bind ?_
  unfold Builtin.List.listAllItems
  refine wpAny_bind (wpAny_typeOf (T := "list") ⟨om, hm, hmc⟩ ?_)
  rw [if_pos (by decide)]
  unfold Builtin.List.listItems
  refine wpAny_bind (wpAny_seqItems hm hmd (wpAny_pure ?_))
  refine wpAny_bind (wpAny_bind (wpAny_seqItems I.at_ rfl (wpAny_pure ?_)))
  refine wpAny_bind (wpAny_of_eq (sliceIndices_raw lo none none xs.size (by simp)) ?_)
  rw [sliceBounds_plain]
  dsimp only
  rw [if_pos (by decide)]
  refine wpAny_bind (wpAny_rule ?_)
  rw [if_neg (by unfold Builtin.List.listTooLong; rw [decide_eq_false (by omega)]; decide)]
  have hcl : lo.elim 0 (clipAt xs.size) ≤ xs.size := by
    cases lo with
    | none => exact Nat.zero_le _
    | some i => show clipAt xs.size i ≤ _; unfold clipAt; omega
  have e1 : (((lo.elim 0 (clipAt xs.size) : Nat) : Int)).toNat = lo.elim 0 (clipAt xs.size) := Int.toNat_natCast _
  have e2 : (max (((lo.elim 0 (clipAt xs.size) : Nat) : Int)) (((Option.none : Option Int).elim xs.size (clipAt xs.size) : Nat) : Int)).toNat = xs.size := by
    show (max _ ((xs.size : Nat) : Int)).toNat = _
    rw [Int.max_eq_right (by omega)]
    exact Int.toNat_natCast _
  have key : ∀ F : Array Value → Array Value, F xs = xs.extract 0 (lo.elim 0 (clipAt xs.size)) ++ ys → ∀ rem : List Value, wpAny (model prog w) A.in1 (updateSeq x F >>= fun _ => letGo rem >>= fun _ => ret .none) (Back (model prog w) A (fun v s' => wpAny (model prog w) A (pure ()) Q E s') E) E s := by
    intro F hF rem
    refine wpAny_bind (wpAny_updateSeq I.at_ rfl ?_ (by omega) (by rw [hF, Array.size_append, Array.size_extract]; omega))
    refine wpAny_bind (wpAny_letGo ?_)
    refine wpAny_pure (wpAny_pure (h _ (if ((xs.extract 0 (lo.elim 0 (clipAt xs.size)) ++ ys).size == xs.size) = true then k else k + 1) (Heap.SameBut.update ..) ?_))
    rw [Heap.get?_update_self _ I.at_ (by simp [Obj.mapSeq, Obj.isFreed])]
    simp only [Obj.mapSeq]
    rw [hF]
  refine key _ ?_ _
  rw [e1, e2]
  simp
theorem getItem_cut {sl : Addr} {vl vu : Value} {lo hi : Option Int} {xs : Array Value} {k : Nat} {dx : Addr} {Q : Value → Shared → Prop} (X : K.In s.heap) (AC : AccCls K C cd) (I : InstAt s.heap x ⟨.ref C, some dx, .seq xs k, #[]⟩ C od) (hsl : s.heap.IsSliceOf sl vl vu .none)
    (pl : IsPart vl lo) (pu : IsPart vu hi) (h1 : xs.size ≤ 1000000)
    (h : Q (.ref s.heap.objs.size) { s with heap := s.heap.push { cls := .type "list", data := .seq (slicePick xs lo hi none) } }) :
    wpAny (model prog w) A (getItem (.ref x) (.ref sl)) Q E s := by
  obtain ⟨os, hos, hcs, hds⟩ := id hsl
  have hTs : s.TypeIs (.ref sl) "slice" := ⟨os, hos, hcs⟩
  have sz : sizeLine = 16777216 := by decide
  unfold getItem
  refine wpAny_holding ?_
  refine wpAny_bind (sub_key X I AC.deq ?_)
  refine wpAny_bind (sub_special AC.getitem slot_list_getitem (.inr kinds_list.2.1.1) splits_list.2.1.1 entry_list_getitem (args_list_getitem _ _) X I AC.isL ?_)
  show wpAny _ _ (Builtin.List.listSubscript? (.ref sl) >>= _) _ _ s
  refine wpAny_bind ?_
  unfold Builtin.List.listSubscript?
  refine wpAny_bind (wpAny_specialOf hTs slice_no_index ?_)
  simp only [Option.isNone_none, if_true]
  refine wpAny_pure ?_
  show wpAny _ _ (typeOf (.ref sl) >>= _) _ _ s
  refine wpAny_bind (wpAny_typeOf hTs ?_)
  rw [if_neg (by decide)]
  rw [listSliceParts_eq]
  refine wpAny_bind (wpAny_bind (wpAny_field hos hds (x := .none) rfl (wpAny_bind (wpAny_listPart (k := none) .none ?_))))
  rw [if_neg (show ¬ ((rawPart none == rawInt 0) = true) from Bool.false_ne_true)]
  refine wpAny_bind (wpAny_field hos hds (x := vl) rfl (wpAny_bind (wpAny_listPart pl ?_)))
  refine wpAny_bind (wpAny_field hos hds (x := vu) rfl (wpAny_bind (wpAny_listPart pu (wpAny_pure ?_))))
  refine wpAny_bind (m := Builtin.List.listItems (.ref x)) ?_
  unfold Builtin.List.listItems
  refine wpAny_bind (wpAny_seqItems I.at_ rfl (wpAny_pure ?_))
  refine wpAny_bind (wpAny_of_eq (sliceIndices_raw lo hi none xs.size (by simp)) ?_)
  exact wpAny_bind (wpAny_newObj_type (wpAny_pure (wpAny_pure h)) (Nat.le_trans (slicePick_size_le xs lo hi none) (by omega)))
theorem tail_cut {value : Expr} {le he : Option Expr} {p' : Pos} {sl : Addr} {vl vu : Value} {lo hi : Option Int} {xs : Array Value} {k : Nat} {dx : Addr} {Q : Value → Shared → Prop} (X : K.In s.heap) (AC : AccCls K C cd) (I : InstAt s.heap x ⟨.ref C, some dx, .seq xs k, #[]⟩ C od) (hsl : s.heap.IsSliceOf sl vl vu .none)
    (pl : IsPart vl lo) (pu : IsPart vu hi) (h1 : xs.size ≤ 1000000)
    (h : Q (.ref s.heap.objs.size) { s with heap := s.heap.push { cls := .type "list", data := .seq (slicePick xs lo hi none) } }) :
    wpAny (model prog w) A (subscriptTail value (.Slice le he none p') (.ref x) (.ref sl)) Q E s := by
  unfold subscriptTail
  refine wpAny_bind ?_
  rw [getitemInPython_of_ne (by intro z; cases z)]
  refine wpAny_bind (wpAny_bind (I.type.here ((looks_findIn X AC.getitem).here ?_)))
  have fin : wpAny (model prog w) A (subscripted (.Slice le he none p') false (.ref x) (.ref sl)) (fun r s₃ => wpAny (model prog w) A (letTemporaryGo value (.ref x) r >>= fun _ => pure r) Q E s₃) E s := by
    show wpAny _ _ (operate [.ref sl, .ref x] (getItem (.ref x) (.ref sl))) _ _ _
    exact wpAny_operating (getItem_cut X AC I hsl pl pu h1 (wpAny_bind (wpAny_letTemporaryGo (wpAny_pure h))))
  first
    | exact wpAny_pure (wpAny_bind fin)
    | exact wpAny_bind (wpAny_pure (wpAny_bind fin))
    | exact wpAny_bind fin
end
section
variable {G : GC} {d : Nat} {sc : Scope}
theorem SE.sliceA (O : GOk G) {C : Addr} {cd : ClassData} (AC : AccCls G.K C cd) {value : Expr} {lo hi : Option Expr} {p p' : Pos} {f a b : FE} (OS : ScopeOk sc) (u : SE G d sc value f) (x : SP G d sc lo a) (y : SP G d sc hi b) : SE G d sc (.Subscript value (.Slice lo hi none p') p) (eSliceA C f a b) := by
  intro env A s β ρ σ pv σ' hsc hA R F e Q E h
  unfold eSliceA at e
  split at e
  · rename_i i σ₁ e1
    split at e
    · rename_i x₁ σ₂ e2
      split at e
      · rename_i y₁ σ₃ e3
        split at e
        · rename_i lo' hi' C' fs l p1 p2 p3
          split at e
          · rename_i hz
            obtain ⟨rfl, hz⟩ := hz
            cases e
            refine Subscript_ (u env A s β ρ σ (.ref i) σ₁ hsc hA R F e1 _ _ fun vo s₁ β₁ S1 R1 V1 H1 => ?_)
            refine wpAny_Slice (x env A s₁ β₁ ρ σ₁ x₁ σ₂ hsc hA R1 (F.go OS hsc R.base S1) e2 _ _ fun vl s₂ β₂ S2 R2 V2 H2 => ?_)
            refine y env A s₂ β₂ ρ σ₂ y₁ σ₃ hsc hA R2 (F.go OS hsc R.base (S1.trans S2)) e3 _ _ fun vu s₃ β₃ S3 R3 V3 H3 => ?_
            rw [evalPart_none]
            refine wpAny_pure ?_
            have k : ∀ b o, s₃.heap.get? b = some o → (s₃.heap.push { cls := .type "slice", data := .fields #[vl, vu, .none] }).get? b = some o := fun b o e => Heap.get?_push_of_some _ e
            have S4 : Step G s₃.heap β₃ (s₃.heap.push { cls := .type "slice", data := .fields #[vl, vu, .none] }) β₃ := Step.keeps k
            have R4 := R3.keeps k
            obtain ⟨q, es, n, vs, m, rfl, hq, hg, W, I⟩ := acc_of R4 (S4.vr ((S2.trans S3).vr V1)) p3
            have hs : vs.size = l.length := by rw [← Array.length_toList, W.length]
            have X := R4.base.K O
            have hsl : (s₃.heap.push { cls := .type "slice", data := .fields #[vl, vu, .none] }).IsSliceOf s₃.heap.objs.size vl vu .none := Heap.IsSliceOf.new ..
            have W' : VRs (s₃.heap.push { cls := .type "slice", data := .fields #[vl, vu, .none] }) β₃ (sliceL l lo' hi') (slicePick vs lo' hi' none).toList := by
              rw [slicePick_plain]
              show VRs _ _ _ (List.toArray _).toList
              rw [List.toList_toArray, hs]
              exact (W.drop _).take _
            obtain ⟨S5, R5, V5⟩ := pushList R4 W'
            refine tail_cut (s := ⟨_, s₃.gens, s₃.drawn, s₃.toks, s₃.os⟩) X AC I hsl (partOf_is (S3.vr V2) p1) (partOf_is V3 p2) (by rw [hs]; exact of_decide_eq_true hz) ?_
            exact h _ _ _ ((((S1.trans S2).trans S3).trans S4).trans S5) R5 V5 (((H1.trans H2).trans H3).trans (Sh.mk' ..))
          · cases e
        · cases e
      · cases e
    · cases e
  · cases e
theorem SAx.sliceA {X : Env → Addr → Prop} (O : GOk G) {C : Addr} {cd : ClassData} (AC : AccCls G.K C cd) {value : Expr} {lo : Option Expr} {p p' : Pos} {f a : FE} (OS : ScopeOk sc) (u : SE G d sc value f) (x : SP G d sc lo a) : SAx G X d sc (.Subscript value (.Slice lo none none p') p) (aSliceA C f a) := by
  intro env A s β ρ σ pv v ρ' σ' hsc hA R F V e Q E h
  unfold aSliceA at e
  split at e
  · rename_i j
    split at e
    · rename_i i σ₁ e1
      split at e
      · rename_i x₁ σ₂ e2
        split at e
        · rename_i lo' p1
          split at e
          · rename_i σ₃ ec
            cases e
            rw [assign_Subscript]
            refine wpAny_bind (wpAny_holding (u env A s β _ σ (.ref i) σ₁ hsc hA R F e1 _ _ fun vo s₁ β₁ S1 R1 V1 H1 => ?_))
            refine wpAny_bind (wpAny_holding (wpAny_Slice (x env A s₁ β₁ _ σ₁ x₁ σ₂ hsc hA R1 (F.go OS hsc R.base S1) e2 _ _ fun vl s₂ β₂ S2 R2 V2 H2 => ?_)))
            rw [evalPart_none]
            refine wpAny_pure ?_
            refine wpAny_pure ?_
            refine wpAny_bind (wpAny_standAt (wpAny_bind (wpAny_holding ?_)))
            have k : ∀ b o, s₂.heap.get? b = some o → (s₂.heap.push { cls := .type "slice", data := .fields #[vl, .none, .none] }).get? b = some o := fun b o e => Heap.get?_push_of_some _ e
            have S4 : Step G s₂.heap β₂ (s₂.heap.push { cls := .type "slice", data := .fields #[vl, .none, .none] }) β₂ := Step.keeps k
            have R4 := R2.keeps k
            unfold cutIn at ec
            split at ec
            · rename_i C' fs l m ei ej
              split at ec
              · rename_i hz
                obtain ⟨rfl, hz1, hz2⟩ := hz
                cases ec
                obtain ⟨q, es, n, vs, mm, rfl, hq, hg, W, I⟩ := acc_of R4 (S4.vr (S2.vr V1)) ei
                obtain ⟨a₀, ws, rfl, L, W2, hp2⟩ := isList_of R4 (S4.vr (S2.vr (S1.vr V))) ej
                obtain ⟨ol, ho, hoc, nl, hod⟩ := id L
                have ne : q.1 ≠ a₀ := by
                  rintro rfl
                  rw [hg] at ho
                  cases ho
                  cases hoc
                have hs : vs.size = l.length := by rw [← Array.length_toList, W.length]
                have hs2 : ws.size = m.length := by rw [← Array.length_toList, W2.length]
                refine setItem_cut (s := ⟨_, s₂.gens, s₂.drawn, s₂.toks, s₂.os⟩) (R4.base.K O) AC I (Heap.IsSliceOf.new ..) (partOf_is V2 p1) ho hoc hod ne (by rw [hs]; exact of_decide_eq_true hz1) (by rw [hs2]; exact of_decide_eq_true hz2) fun h' k' hsb hg' => ?_
                obtain ⟨S5, R5⟩ := acc_turn R4 hq ei hsb hg' (l' := l.take (lo'.elim 0 (clipAt l.length)) ++ m) (by
                  rw [Array.toList_append, Array.toList_extract, hs]
                  refine VRs.append ?_ W2
                  simp only [List.extract_eq_take_drop, Nat.sub_zero, List.drop_zero]
                  exact W.take _)
                have ST := ((S1.trans S2).trans S4).trans S5
                exact wpAny_release (h _ β₂ ST.toX R5 (F.go (s' := ⟨h', s₂.gens, s₂.drawn, s₂.toks, s₂.os⟩) OS hsc R.base ST) ((H1.trans H2).trans (Sh.mk' ..)))
              · cases ec
            · cases ec
          · cases e
        · cases e
      · cases e
    · cases e
  · cases e
theorem truA_ok (O : GOk G) {C fL : Addr} {cd : ClassData} {Φ : CF} (AC : AccCls G.K C cd) (hs : findIn G.K (.ref C) "__len__" = some (some (.ref fL))) (hf : typeIn G.K (.ref fL) = some (.type "function")) (c : SCall G d (.ref fL) Φ) : SV1b G (d + 1) truthy (truAF C Φ) := by
  intro A s β σ a va r σ' hA R V e Q E h
  unfold truAF at e
  split at e
  · rename_i i
    split at e
    · rename_i C' fs l el
      split at e
      · rename_i hC
        subst hC
        split at e
        · rename_i n σ₁ e1
          cases e
          obtain ⟨q, es, m, ws, k, rfl, hq, hg, W, I⟩ := acc_of R V el
          have X := R.base.K O
          have key : wpAny G.M A (runValue (.builtin "len" ⟨[.ref q.1], []⟩)) (fun r s' => ∃ t β', r = .int n t ∧ Step G s.heap β s'.heap β' ∧ Rel G s'.heap β' σ' ∧ Sh s s') E s := by
            refine wpAny_runValue (codeAny_builtin entry_len ?_)
            rw [Around.under_plainId plain_len _]
            unfold lenF at e1
            dsimp only at e1
            rw [el] at e1
            dsimp only at e1
            rw [if_pos rfl] at e1
            split at e1
            · rename_i n' σ₂ e2
              split at e1
              · rename_i hn
                cases e1
                unfold Builtin.«len»
                refine wpAny_bind (m := oneArg "len" _) (wpAny_pure ?_)
                refine wpAny_bind (m := callSpecial? (.ref q.1) (Str.ofString "__len__")) (special_fn X I hs hf ?_)
                refine c A.in1 s β σ [.ref i] [.ref q.1] (.int n) σ' hA.in1 R ⟨_, _, rfl, V, rfl⟩ e2 _ _ fun v s₁ β₁ S1 R1 V1 H1 => ?_
                obtain ⟨t, rfl⟩ := V1
                refine wpAny_bind (wpAny_holding (wpAny_pure ?_))
                refine wpAny_bind (wpAny_letGo ?_)
                show wpAny _ _ (if n < 0 then _ else _) _ _ _
                rw [if_neg (by omega)]
                show wpAny _ _ (if n ≥ 2 ^ 63 then _ else _) _ _ _
                rw [if_neg (by omega)]
                exact wpAny_bind (wpAny_mkInt (wpAny_pure ⟨_, β₁, rfl, S1, R1, H1.trans (Sh.mk' ..)⟩))
              · cases e1
            · cases e1
          unfold truthy
          first
            | refine wpAny_bind (m := callSpecial? (.ref q.1) (Str.ofString "__bool__")) ?_
            | refine wpAny_bind (wpAny_pure (wpAny_bind (m := callSpecial? (.ref q.1) (Str.ofString "__bool__")) ?_))
          unfold callSpecial?
          refine wpAny_bind (wpAny_bind (I.type.here ((looks_findIn X AC.bool).here (wpAny_pure ?_))))
          first
            | refine wpAny_bind (wpAny_bind (I.type.here ((looks_findIn X hs).here ?_)))
            | refine wpAny_bind (wpAny_pure (wpAny_bind (wpAny_bind (I.type.here ((looks_findIn X hs).here ?_)))))
          rw [if_neg (by simp)]
          first
            | refine wpAny_bind (wpAny_mono key (fun r s' hr => ?_) fun _ _ z => z)
            | refine wpAny_bind (wpAny_pure (wpAny_bind (wpAny_mono key (fun r s' hr => ?_) fun _ _ z => z)))
          obtain ⟨t, β', rfl, S', R', H'⟩ := hr
          exact wpAny_pure (h s' β' S' R' H')
        · cases e
      · cases e
    · cases e
  · cases e
end
end Mine
end
section
open PySem PySem.W PySem.Calls PyProof.Rows
set_option maxRecDepth 100000
set_option linter.unusedVariables false
namespace Mine
variable [Ban]
set_option linter.unusedSectionVars false
def SeqAtH (h : Heap) (a : Addr) (items : Array Value) : Prop := ∃ o n, h.get? a = some o ∧ o.data = .seq items n
theorem SeqAtH.at {h h' : Heap} {a : Addr} {items : Array Value} (x : SeqAtH h a items) (e : ∀ o, h.get? a = some o → h'.get? a = some o) : SeqAtH h' a items := let ⟨o, n, ho, r⟩ := x; ⟨o, n, e _ ho, r⟩
section
variable {prog : Program} {w : World} {A : Around} {E : Value → Shared → Prop} {s : Shared} {K : Frag} {x C : Addr} {ox : Obj} {od : Option Obj} {cd : ClassData}
theorem next_seq_item {it l : Addr} {i : Nat} {items : Array Value} {x : Value} {Q : Option Value → Shared → Prop} (hit : s.heap.IsListIter it l i)
    (hl : SeqAtH s.heap l items) (hx : items[i]? = some x)
    (hQ : ∀ h', h'.IsListIter it l (i + 1) → Heap.SameBut it s.heap h' → Q (some x) { s with heap := h' }) :
    wpAny (model prog w) A (pyNext (.ref it)) Q E s := by
  obtain ⟨o, ho, hc, hd⟩ := id hit
  obtain ⟨ol, nl, hol, hdl⟩ := hl
  unfold pyNext
  refine wpAny_bind (wpAny_attempt (wpAny_callSpecial?_slot (name := Str.ofString "__next__") hit.typeIs slot_listiter_next
    (wpAny_call_entry slot_listiter_next hit.typeIs entry_listiter_next ?_ (args_listiter_next _))))
  show wpAny _ _ (field (.ref it) 0 >>= _) _ _ s
  refine wpAny_bind (wpAny_field ho hd (x := .ref l) rfl ?_)
  show wpAny _ _ (if (Value.ref l == Value.none) = true then _ else _) _ _ s
  rw [if_neg (show ¬ ((Value.ref l == Value.none) = true) from Bool.false_ne_true)]
  show wpAny _ _ (field (.ref it) 1 >>= _) _ _ s
  refine wpAny_bind (wpAny_field ho hd (x := .int i 0) rfl ?_)
  show wpAny _ _ (seqItems? (.ref l) >>= _) _ _ s
  refine wpAny_bind (wpAny_seqItems hol hdl ?_)
  simp only [Int.toNat_natCast, hx]
  refine wpAny_bind (wpAny_setField ho hd (by simp) (wpAny_pure ⟨x, rfl, wpAny_pure (hQ _ ?_ (Heap.SameBut.update ..))⟩))
  exact ⟨_, Heap.get?_update_self _ ho (Obj.isFreed_of_fields (Obj.data_mapFields hd _)), (Obj.cls_mapFields ..).trans hc, by
    rw [Obj.data_mapFields hd]; simp [rawInt]⟩
theorem next_seq_end {it l : Addr} {i : Nat} {items : Array Value} {Q : Option Value → Shared → Prop} (hh : A.handled = none)
    (hit : s.heap.IsListIter it l i) (hl : SeqAtH s.heap l items) (hx : items[i]? = none)
    (hQ : ∀ h', Heap.ExtBut it s.heap h' → Q none { s with heap := h' }) : wpAny (model prog w) A (pyNext (.ref it)) Q E s := by
  obtain ⟨o, ho, hc, hd⟩ := id hit
  obtain ⟨ol, nl, hol, hdl⟩ := hl
  unfold pyNext
  refine wpAny_bind (wpAny_attempt (wpAny_callSpecial?_slot (name := Str.ofString "__next__") hit.typeIs slot_listiter_next
    (wpAny_call_entry slot_listiter_next hit.typeIs entry_listiter_next ?_ (args_listiter_next _))))
  show wpAny _ _ (field (.ref it) 0 >>= _) _ _ s
  refine wpAny_bind (wpAny_field ho hd (x := .ref l) rfl ?_)
  show wpAny _ _ (if (Value.ref l == Value.none) = true then _ else _) _ _ s
  rw [if_neg (show ¬ ((Value.ref l == Value.none) = true) from Bool.false_ne_true)]
  show wpAny _ _ (field (.ref it) 1 >>= _) _ _ s
  refine wpAny_bind (wpAny_field ho hd (x := .int i 0) rfl ?_)
  show wpAny _ _ (seqItems? (.ref l) >>= _) _ _ s
  refine wpAny_bind (wpAny_seqItems hol hdl ?_)
  simp only [Int.toNat_natCast, hx]
  refine wpAny_bind (wpAny_rule (wpAny_bind (wpAny_setField ho hd (by simp) ?_)))
  show wpAny _ _ (newExc (.type "StopIteration") [] >>= _) _ _ _
  refine wpAny_bind ?_
  simp only [newExc, newTuple]
  refine wpAny_bind (wpAny_newObj_type ?_ (by size_fits))
  refine wpAny_bind (m := firstArgMember _ _) (wpAny_of_eq (a := Value.none) (by first | rfl | (simp only [firstArgMember]; rfl)) ?_)
  refine wpAny_newObj_type ?_ (by size_fits)
  simp only [raiseNew]
  refine wpAny_bind (wpAny_handled ?_)
  rw [show A.in1.handled = none from hh]
  refine wpAny_bind (wpAny_pure (wpAny_throw ?_))
  refine wpAny_bind (wpAny_isInstance (T := "StopIteration") (b := true) ⟨_, Heap.get?_push_size _ rfl, rfl⟩ isSubtype_stop ?_)
  exact wpAny_pure (hQ _ (((Heap.SameBut.update ..).extBut.push _).push _))
theorem seqOfTuples (hh : A.handled = none) (I ax : Addr) (hne : ax ≠ I) (items : Array Value) (Ts : Nat → Addr) (vals : Nat → Array Value)
    (hit : ∀ j, j < items.size → items[j]? = some (.ref (Ts j))) (hTI : ∀ j, j < items.size → Ts j ≠ I) :
    WalksU prog w A I (I :: ax :: (List.range items.size).map Ts) [I] items.size (fun j v => v = vals j)
      (fun j h => h.IsListIter I ax j ∧ SeqAtH h ax items ∧ ∀ k, k < items.size → h.IsTuple (Ts k) (vals k))
      (fun j T h => (j < items.size ∧ T = Ts j) ∧ h.IsListIter I ax (j + 1) ∧ SeqAtH h ax items ∧ ∀ k, k < items.size → h.IsTuple (Ts k) (vals k)) where
  sub := fun b hb => by simp at hb; simp [hb]
  frame := fun _ _ _ st hk => ⟨st.1.at fun o e => hk I (by simp) o e, st.2.1.at fun o e => hk ax (by simp) o e,
    fun k hk' => (st.2.2 k hk').at fun o e => hk (Ts k) (List.mem_cons_of_mem _ (List.mem_cons_of_mem _ (List.mem_map.mpr ⟨k, List.mem_range.mpr hk', rfl⟩))) o e⟩
  item := fun i s Q E hi st hQ => by
    refine next_seq_item st.1 st.2.1 (x := .ref (Ts i)) (hit i hi) fun h' hit' hs' => ?_
    have tup : ∀ k, k < items.size → h'.IsTuple (Ts k) (vals k) := fun k hk' => (st.2.2 k hk').extBut hs'.extBut (hTI k hk')
    exact hQ (Ts i) (vals i) h' s.toks rfl (tup i hi) ⟨⟨hi, rfl⟩, hit', st.2.1.at fun o e => hs'.extBut _ o hne e, tup⟩ fun b o hb e => hs'.extBut b o (fun h => hb (by simp [h])) e
  go := fun _ _ _ _ _ s Q _ hm hQ => wpAny_letOwnedTupleGo_listiter hm.2.1 (hQ s.heap hm.2 fun _ _ _ e => e)
  apart := fun j T _ hm hmem => by
    rcases List.mem_cons.mp hmem with e | e
    · exact hTI j hm.1.1 (hm.1.2 ▸ e)
    · cases e
  done := fun s Q E st hQ => next_seq_end hh st.1 st.2.1 (by simp) fun h' he' => hQ h' s.toks fun b o hb e => he' b o (fun h => hb (by simp [h])) e
  self := fun _ _ _ _ st hQ => wpAny_pyIter_listiter st.1 hQ
theorem sub_iter {Q : Value → Shared → Prop} (X : K.In s.heap) (AC : AccCls K C cd) (I : InstAt s.heap x ox C od)
    (hQ : Q (.ref s.heap.objs.size) { s with heap := s.heap.push { cls := .type "list_iterator", data := .fields #[.ref x, .int 0 0] } }) :
    wpAny (model prog w) A (pyIter (.ref x)) Q E s := by
  unfold pyIter
  refine wpAny_bind (wpAny_bind (I.type.here ((looks_findIn X AC.iter).here ?_)))
  dsimp only
  refine wpAny_bind (wpAny_mono (Q := fun r s' => r = some (.ref s.heap.objs.size) ∧ s' = { s with heap := s.heap.push { cls := .type "list_iterator", data := .fields #[.ref x, .int 0 0] } }) ?_ (fun r s' hr => ?_) fun _ _ z => z)
  · simp only [callSpecialIfBoundUnlessNone?, bindSpecialIfBound?]
    refine wpAny_holding (wpAny_bind (wpAny_bind (wpAny_bind (I.type.here ((looks_findIn X AC.iter).here ?_)))))
    have hb := slot_list_iter.bind (.ref x)
    simp only [hb]
    refine wpAny_bind (wpAny_askSetting (wpAny_ite ?_))
    have hc : wpAny (model prog w) A (call (.builtin "list.__iter__") [.ref x]) (fun v s' => v = .ref s.heap.objs.size ∧ s' = { s with heap := s.heap.push { cls := .type "list_iterator", data := .fields #[.ref x, .int 0 0] } }) E s := by
      refine sub_call (.inl kinds_list.2.2.2.2) splits_list.2.2.2.2 slot_list_iter.plain entry_list_iter (args_list_iter _) X I AC.isL ?_
      show wpAny _ _ (do ret (← newFields "list_iterator" [.ref x, rawInt 0])) _ _ s
      exact wpAny_bind (wpAny_newObj_type (wpAny_pure ⟨rfl, rfl⟩))
    have fin : wpAny (model prog w) A (if (Value.builtin "list.__iter__" == Value.none) = true then ((do rule "iter.none"; raiseError "TypeError" s!"'{← typeNameOf (.ref x)}' object is not iterable" : Sem Value) >>= fun v => pure (some v)) else (call (.builtin "list.__iter__") [.ref x] >>= fun v => pure (some v)))
        (fun r s' => r = some (.ref s.heap.objs.size) ∧ s' = { s with heap := s.heap.push { cls := .type "list_iterator", data := .fields #[.ref x, .int 0 0] } }) E s := by
      simp only [builtin_beq_none, Bool.false_eq_true, if_false]
      exact wpAny_bind (wpAny_mono hc (fun v s' h' => wpAny_pure ⟨by rw [h'.1], h'.2⟩) fun _ _ h' => h')
    split
    · exact wpAny_bind (wpAny_pure (wpAny_pure fin))
    · exact wpAny_tryCatch (wpAny_bind (wpAny_pure (wpAny_pure fin)))
  · obtain ⟨rfl, rfl⟩ := hr
    exact wpAny_bind (wpAny_specialOf (T := "list_iterator") ⟨_, Heap.get?_push_size _ rfl, rfl⟩ slot_listiter_next.lookup (wpAny_pure hQ))
def sumTo (a : Int) (val : Nat → Int) (n : Nat) : Int := a + preSum val n
theorem sum_loop_from {R : Result → Shared → Prop} {I : Addr} {fp wr : List Addr} {G : Array GenState → Array GenState → Prop} {n : Nat} {P : Nat → Value → Prop} {St : Nat → Shared → Prop} (W : WalksS prog w A.in1 I fp wr G n P St) (a : Int) (val : Nat → Int)
    (hval : ∀ i v, P i v → ∃ t, v = .int (val i) t) (hfit : ∀ j, j < n → InLong (val j) ∧ InLong (a + preSum val (j + 1))) (S : Addr) (hSf : S ∉ fp) :
    ∀ (k i : Nat) (s : Shared) (tA : Tok) (c : Nat), n - i = k → i ≤ n → St i s → s.heap.get? S = some { cls := .type "list", dict := none, data := .seq #[.int (a + preSum val i) tA] c, slots := #[] } →
    (∀ s' t', Moved (S :: wr) G s s' → R (.ok (.ret (.int (a + preSum val n) t'))) s') → codeAny (model prog w) A (.builtin "sum.loop" ⟨[.ref I, .ref S, rawInt 0, rawInt 0], []⟩) R s := by
  have hSw : S ∉ wr := fun h => hSf (W.sub _ h)
  have hsub : ∀ b ∈ wr, b ∈ S :: wr := fun b hb => List.mem_cons_of_mem _ hb
  intro k
  induction k with
  | zero =>
    intro i s tA c hk hi hst hS hR
    have hin : i = n := by omega
    subst hin
    refine codeAny_builtin F.entry_sum_loop ?_
    rw [Around.under_plainId F.plain_sum_loop _]
    show wpAny _ A.in1 (seqItems? (.ref S) >>= _) _ _ s
    refine wpAny_bind (wpAny_seqItems hS rfl ?_)
    show wpAny _ A.in1 (tryCatch (pyNext (.ref I)) _ >>= _) _ _ s
    refine wpAny_bind (wpAny_tryCatch (W.done s _ _ hst fun s' hm => ?_))
    exact wpAny_pure (hR s' tA (hm.mono hsub))
  | succ k ih =>
    intro i s tA c hk hi hst hS hR
    have hlt : i < n := by omega
    refine codeAny_builtin F.entry_sum_loop ?_
    rw [Around.under_plainId F.plain_sum_loop _]
    show wpAny _ A.in1 (seqItems? (.ref S) >>= _) _ _ s
    refine wpAny_bind (wpAny_seqItems hS rfl ?_)
    show wpAny _ A.in1 (tryCatch (pyNext (.ref I)) _ >>= _) _ _ s
    refine wpAny_bind (wpAny_tryCatch (W.item i s _ _ hlt hst fun v s' hP hst' hm => ?_))
    obtain ⟨t, rfl⟩ := hval i v hP
    have hS' := hm.heap S _ hSw hS
    obtain ⟨⟨f1, f2⟩, f3, f4⟩ := hfit i hlt
    have e1 : a + preSum val i + val i = a + preSum val (i + 1) := by simp only [preSum]; omega
    have hc : ((decide (-(2 ^ 63) ≤ val i) && decide (val i < 2 ^ 63)) && (decide (-(2 ^ 63) ≤ a + preSum val i + val i) && decide (a + preSum val i + val i < 2 ^ 63))) = true := by
      rw [e1]
      simp only [Bool.and_eq_true, decide_eq_true_eq]
      exact ⟨⟨f1, f2⟩, f3, f4⟩
    show wpAny _ A.in1 (if (_ : Bool) = true then (mkInt (a + preSum val i + val i) >>= _) else _) _ _ _
    split
    · refine wpAny_bind (wpAny_mkInt ?_)
      show wpAny _ A.in1 (updateSeq S (fun _ => #[.int (a + preSum val i + val i) s'.toks]) >>= _) _ _ _
      refine wpAny_bind ?_
      rw [e1]
      refine wpAny_updateSeq hS' rfl (wpAny_pure ⟨plainId_quiet F.plain_sum_loop _, ih (i + 1) _ s'.toks _ (by omega) hlt (W.frame _ s' _ _ hst' (by first | exact Nat.le_refl _ | exact Nat.le_succ _ | omega) fun b hb o e => ?_) (Heap.get?_update_self _ hS' rfl) fun s'' t'' hm'' => ?_⟩)
      · exact (Heap.get?_update_other _ _ (fun h : S = b => hSf (by rw [h]; exact hb))).trans e
      · refine hR s'' t'' (Moved.trans W.gtrans ((hm.mono hsub).then_heap (by first | exact Nat.le_refl _ | exact Nat.le_succ _ | omega) fun b o hb e => ?_) hm'')
        exact (Heap.get?_update_other _ _ (fun h : S = b => hb (by rw [h]; exact List.mem_cons_self))).trans e
    · rename_i hneg
      exact absurd hc hneg
theorem args_sum2' (a b : Value) : argsOk "sum" ⟨[a, b], []⟩ := by unfold argsOk; kernel_rfl
theorem call_sum_from {x : Value} {a : Int} {ta : Tok} (ha : InLong a) {Q : Value → Shared → Prop}
    (h : wpAny (model prog w) A.in1 (pyIter x) (fun it s₂ => ∃ I fp wr G n P St val, it = .ref I ∧ WalksS prog w A.in1 I fp wr G n P St ∧ St 0 s₂ ∧ (∀ b ∈ fp, b < s₂.heap.objs.size) ∧
      (∀ i v, P i v → ∃ t, v = .int (val i) t) ∧ (∀ j, j < n → InLong (val j) ∧ InLong (a + preSum val (j + 1))) ∧
      ∀ s' t', Moved wr G s₂ s' → Q (.int (a + preSum val n) t') s') E s) :
    wpAny (model prog w) A (call (.builtin "sum") [x, .int a ta]) Q E s := by
  refine call_function_tree F.kind_sum F.plain_sum F.entry_sum (args_sum2' _ _) ?_
  unfold Builtin.«sum»
  simp only [List.length_cons, List.length_nil]
  rw [if_neg (by decide)]
  refine wpAny_bind (wpAny_of_eq (show Builtin.Builtins.bindParams "sum" ["start"] 0 ⟨[.int a ta], []⟩ = pure [some (.int a ta)] from rfl) ?_)
  refine wpAny_bind (wpAny_mono h (fun it s₂ h₂ => ?_) fun _ _ e => e)
  obtain ⟨I, fp, wr, G, n, P, St, val, rfl, W, hst, hfp, hval, hfit, hQ⟩ := h₂
  have hl : (decide (-(2 ^ 63) ≤ a) && decide (a < 2 ^ 63)) = true := by simp only [Bool.and_eq_true, decide_eq_true_eq]; exact ha
  show wpAny _ A.in1 (if (decide (-(2 ^ 63) ≤ a) && decide (a < 2 ^ 63)) = true then _ else _) _ _ _
  rw [if_pos hl]
  refine wpAny_bind (wpAny_rule (wpAny_bind (wpAny_mkInt (wpAny_bind (wpAny_pure ?_)))))
  simp only [List.forIn_cons, List.forIn_nil]
  refine wpAny_bind (wpAny_bind (wpAny_bind (wpAny_isInstance (T := "int") (b := false) (typeIs_int _ _ _) PySem.sub_int_str ?_)))
  simp only [Bool.false_eq_true, if_false]
  refine wpAny_pure (wpAny_bind (wpAny_bind (wpAny_isInstance (T := "int") (b := false) (typeIs_int _ _ _) PySem.sub_int_bytes ?_)))
  simp only [Bool.false_eq_true, if_false]
  refine wpAny_pure (wpAny_bind (wpAny_bind (wpAny_isInstance (T := "int") (b := false) (typeIs_int _ _ _) PySem.sub_int_bytearray ?_)))
  simp only [Bool.false_eq_true, if_false]
  refine wpAny_pure (wpAny_pure ?_)
  refine wpAny_bind (wpAny_newObj_type ?_)
  have hSf : s₂.heap.objs.size ∉ fp := fun hm => Nat.lt_irrefl _ (hfp _ hm)
  refine wpAny_pure ⟨plainId_quiet F.plain_sum_loop _, sum_loop_from W a val hval hfit s₂.heap.objs.size hSf n 0 _ s₂.toks 0 rfl (Nat.zero_le _)
    (W.frame 0 s₂ _ _ hst (by first | exact Nat.le_refl _ | exact Nat.le_succ _ | omega) fun b _ o e => Heap.get?_push_of_some _ e) (by
      rw [show a + preSum val 0 = a by simp [preSum]]
      exact Heap.get?_push_size _ rfl) fun s' t' hm => ?_⟩
  exact hQ s' t' (hm.drop_new (by first | exact Nat.le_refl _ | exact Nat.le_succ _ | omega))
end
end Mine
end
section
open PySem PySem.W PySem.Calls PyProof.Rows
set_option maxRecDepth 100000
set_option linter.unusedVariables false
namespace Mine
variable [Ban]
set_option linter.unusedSectionVars false
structure BMainOk (G : GC) : Prop where
  ex : ∃ bm ob, G.mg "__builtins__" = some (.ref bm) ∧ bm ≠ builtinsNs ∧ G.h₀.get? bm = some ob ∧ ob.cls = .type "module" ∧ ob.dict = some builtinsNs ∧ ob.data = .plain ∧ ¬ G.TB bm
def TabsApart (G : GC) : Prop := ∀ t ∈ G.tabs, ∀ t' ∈ G.tabs, t.P = t'.P → t = t'
section
variable {G : GC} {h h' : Heap} {β : Lay} {σ : List PO}
theorem TabOk.at {h₀ : Heap} {t : TabSpec} {wr : Addr → Prop} (x : TabOk h₀ h t) (k : ∀ b o, h.get? b = some o → ¬ wr b → h'.get? b = some o) (hw : ∀ b, wr b → ∀ o, h.get? b = some o → o.cls ≠ .type "code" ∧ b ≠ t.P) : TabOk h₀ h' t := by
  obtain ⟨ps, ps₀, more, q, e1, cc, tt, e⟩ := x
  obtain ⟨⟨oc, vs, g1, g2, g3, g4⟩, g5⟩ := id tt
  have nc : ¬ wr t.c := fun z => (hw _ z _ g1).1 g2
  have nP : ¬ wr t.P := fun z => (hw _ z _ g5).2 rfl
  obtain ⟨o, vs', file, tf, flags, tg, inF, text, tk, op, r0, r1, r2, r3, r4, r5, r6, r7, r8⟩ := cc
  refine ⟨ps, ps₀, more, q, e1, ⟨o, vs', file, tf, flags, tg, inF, text, tk, op, k _ _ r0 nc, r1, r2, r3, r4, r5, r6, k _ _ r7 nP, r8⟩, ⟨⟨oc, vs, k _ _ g1 nc, g2, g3, g4⟩, k _ _ g5 nP⟩, e.imp id ?_⟩
  rintro ⟨c', w1, ⟨c'', oo, vv, tt', f1, f2, f3, f4⟩, oc', w3, w4⟩
  cases f1
  have n3 : ¬ wr c' := fun z => (hw _ z _ w3).1 w4.1
  exact ⟨c', w1, ⟨c', oo, vv, tt', rfl, k _ _ f2 n3, f3, f4⟩, oc', k _ _ w3 n3, w4⟩
theorem Rel.grown {t : TabSpec} (R : Rel G h β σ) (ht : t ∈ G.tabs) (ap : TabsApart G) (k : ∀ b o, h.get? b = some o → b ≠ t.P → h'.get? b = some o) (T : TabOk G.h₀ h' t) : Rel G h' β σ ∧ Step G h β h' β := by
  have hP : G.TB t.P := ⟨t, ht, rfl⟩
  obtain ⟨oP, eP⟩ := R.base.tb_old hP
  have nin : ∀ b, In b β → b ≠ t.P := fun b i z => by
    have := R.fresh b i
    rw [z, eP] at this; cases this
  obtain ⟨_, _, _, _, _, _, tP, _⟩ := R.base.tab t ht
  have eP' := tP.2
  have tp : ∀ b o, h.get? b = some o → IsT o → h'.get? b = some o := fun b o e c => k b o e fun z => by
    rw [z, eP'] at e; cases e
    rcases c with ⟨c, _⟩ | ⟨c, _⟩ <;> cases c
  refine ⟨⟨⟨fun b o e n => k b o (R.base.old b o e n) fun z => n (z ▸ hP), fun t' ht' => ?_, fun c n => let ⟨o, e, t⟩ := R.base.no c n; ⟨o, tp c o e t, t⟩⟩, R.len, fun i p o e1 e2 => ?_, R.apart, R.fresh⟩, ⟨⟨[], by simp⟩, fun b o e n q => k b o e fun z => q (z ▸ hP), fun b o e => ?_, tp, fun _ i => .inl i⟩⟩
  · by_cases z : t'.P = t.P
    · have := ap t' ht' t ht z
      subst this; exact T
    · refine (R.base.tab t' ht').at (wr := fun b => b = t.P) (fun b o e n => k b o e n) fun b e o eo => ?_
      subst e
      rw [eP'] at eo
      cases eo
      exact ⟨(by intro q; cases q), fun q => z q.symm⟩
  · have x := In.of_get e1
    exact (R.at_ i p o e1 e2).same (fun _ _ e => e) tp (fun o e => k _ o e (nin _ x.1)) fun o e => k _ o e (nin _ x.2)
  · by_cases z : b = t.P
    · obtain ⟨_, _, _, _, _, _, tP', _⟩ := T
      exact ⟨_, z ▸ tP'.2⟩
    · exact ⟨o, k b o e z⟩
theorem TabOk.code {h₀ : Heap} {t : TabSpec} (x : TabOk h₀ h t) {env : Env} {scope : Scope} {A : Around} {M : Model} {s : Shared} (hs : s.heap = h) (hc : env.code = .ref t.c) {Q : Value → Shared → Prop} {E : Value → Shared → Prop}
    (hQ : ∀ code s', (∀ b o, h.get? b = some o → b ≠ t.P → s'.heap.get? b = some o) → h.objs.size ≤ s'.heap.objs.size → TabOk h₀ s'.heap t → s'.gens = s.gens → s'.drawn = s.drawn → s'.os = s.os → Q code s') :
    wpAny M A (genexprCode env t.pos t.qual scope) Q E s := by
  subst hs
  obtain ⟨ps, ps₀, more, q, e1, cc, tt, e⟩ := id x
  rcases e with e | ⟨c', w1, w2, oc, w3, w4⟩
  · refine wpAny_genexprCodeX hc cc tt e fun c' h' tk hx hge hlt hcode hrec htab hP' => ?_
    obtain ⟨P', hP1, hP2, ⟨⟨oc, vs, u1, u2, u3, u4⟩, u5⟩⟩ := hP'
    refine hQ _ _ (fun b o eb n => hx b o n eb) (Nat.le_trans hge (Nat.le_of_lt hlt)) ?_ rfl rfl rfl
    refine ⟨_, ps₀, more ++ #[rawInt t.pos.line, rawInt t.pos.col, .ref c'], q, by rw [e1, Array.append_assoc], hcode, htab, .inr ⟨c', ?_, hrec, oc, u1, u2, vs, u3⟩⟩
    obtain ⟨_, _, _, _, _, _, _, _, _, _, _, _, _, _, _, _, _, _, _, htr, _⟩ := cc
    have : (ps ++ #[rawInt t.pos.line, rawInt t.pos.col, Value.ref c']).toList = ps.toList ++ [rawInt t.pos.line, rawInt t.pos.col, .ref c'] := by simp
    rw [this]
    exact codeAmong_snoc _ htr e
  · exact wpAny_genexprCode_hit hc cc w1 (hQ _ s (fun _ _ e _ => e) (Nat.le_refl _) x rfl rfl rfl)
end
def pairsOf : List PV → Option (List (Str × Str))
  | [] => some []
  | .tup [.str a, .str b] :: r => (pairsOf r).map ((a, b) :: ·)
  | _ => none
section
variable {G : GC} {d : Nat}
theorem pairs_at {h : Heap} {β : Lay} : ∀ {l : List PV} {vs : List Value} {ps : List (Str × Str)}, VRs h β l vs → pairsOf l = some ps → vs.length = ps.length ∧ ∀ (j : Nat) p, ps[j]? = some p → ∃ T t u, vs[j]? = some (.ref T) ∧ h.IsTuple T #[.str p.1 t, .str p.2 u]
  | [], vs, ps, V, e => by
    cases e
    rw [show vs = [] from V]
    exact ⟨rfl, fun j p e => by cases e⟩
  | x :: r, _, ps, ⟨v, w, rfl, a, b⟩, e => by
    unfold pairsOf at e
    split at e
    · rename_i e'; cases e'
    · rename_i p q r' e'
      cases e'
      obtain ⟨ms, h1, rfl⟩ := Option.map_eq_some_iff.mp e
      obtain ⟨i1, i2⟩ := pairs_at b h1
      refine ⟨by simp [i1], fun j z hz => ?_⟩
      cases j with
      | zero =>
        cases hz
        obtain ⟨T, dd, us, n, sl, rfl, hT, _, v1, r1, e2, ⟨t, rfl⟩, v2, r2, e3, ⟨u, rfl⟩, e4⟩ := a
        cases e4; cases e3
        have : us = #[.str p t, .str q u] := by apply Array.toList_inj.mp; rw [e2]
        subst this
        exact ⟨T, t, u, rfl, ⟨_, hT, rfl, n, rfl⟩⟩
      | succ j =>
        obtain ⟨T, t, u, g1, g2⟩ := i2 j z (by simpa using hz)
        exact ⟨T, t, u, by simpa using g1, g2⟩
    · cases e
structure GenMade (G : GC) (A : Around) (s : Shared) (t : TabSpec) (n : Nat) (Fv : Nat → Value → Prop) (a : Addr) (s₅ : Shared) : Prop where
  ex : ∃ (fp wr : List Addr) (g : Nat) (St : Nat → Shared → Prop), WalksS G.prog G.w A.in4 a fp wr (GenOnlyQ g) n Fv St ∧ St 0 s₅ ∧ (∀ i s, St i s → s.TypeIs (.ref a) "generator") ∧ a ∈ fp ∧ (∀ b ∈ fp, b < s₅.heap.objs.size) ∧ (∀ b ∈ wr, s.heap.get? b = none) ∧ g = s.gens.size ∧
    (∀ h', (∀ b o, b ∉ wr → s₅.heap.get? b = some o → h'.get? b = some o) → TabOk G.h₀ h' t)
  keep : ∀ b o, s.heap.get? b = some o → b ≠ t.P → s₅.heap.get? b = some o
  sh : Sh s s₅
theorem genexp_acc (O : GOk G) (BM : BMainOk G) {C : Addr} {cd : ClassData} (AC : AccCls G.K C cd) {t : TabSpec} (ht : t ∈ G.tabs) {elt iter : Expr} {xa xb : Str} {pa pb pt : Pos} {kt : Nat} {scope : Scope} {pos : Pos}
    {A : Around} {s : Shared} {β : Lay} {σ : List PO} {env : Env} {i : Nat} {x : Value} {fs l : List PV} {ps : List (Str × Str)} (Fv : Nat → Value → Prop) (hA : Fit A d) (R : Rel G s.heap β σ) (X : VR s.heap β (.ref i) x) (ei : σ[i]? = some (.acc C fs l)) (ep : pairsOf l = some ps)
    (hpos : pos = t.pos) (hcode : env.code = .ref t.c) (hq : env.qual ++ "<genexpr>" = t.qual) (hge : env.globals = mainGlobals)
    (hco : scope.isCoroutine = false) (hfree : ∀ y ∈ scope.names, y.2 ≠ .free) (hcell : ∀ y ∈ scope.names, y.2 ≠ .cell) (h0 : scope.names.lookup (".0" : Str) = some NameKind.local)
    (hxa : scope.names.lookup xa = some .local) (hxb : scope.names.lookup xb = some .local) (hab : xa ≠ xb) (hkind : scope.kind = .function)
    (hiter : ∀ (Q : Value → Shared → Prop) (E : Value → Shared → Prop), Q x s → wpAny G.M A (eval iter env) Q E s) (hs : ∀ x, genFold iter env x = pure x)
    (helt : ∀ (cenv : Env) (A' : Around) E' i a b ta tb (s₂ : Shared) m₂, cenv.scope = scope → cenv.globals = mainGlobals → cenv.builtins = builtinsNs → A'.handled = none → ps[i]? = some (a, b) → s₂.heap.Ns cenv.locals m₂ → m₂ xa = some (.str a ta) → m₂ xb = some (.str b tb) →
      s₂.heap.Ns mainGlobals G.mg → s₂.heap.Ns builtinsNs G.mb → wpAny G.M A' (eval elt cenv) (fun y s₃ => Fv i y ∧ Keeps s₂ s₃) E' s₂)
    {Q : Value → Shared → Prop} {E : Value → Shared → Prop} (h : ∀ a s₅, GenMade G A s t ps.length Fv a s₅ → Q (.ref a) s₅) :
    wpAny G.M A (eval (.GeneratorExp elt [⟨.Tuple [.Name xa pa, .Name xb pb] kt pt, iter, [], 0⟩] scope pos) env) Q E s := by
  refine wpAny_GeneratorExp_walksQT hA.hand hco (closureFor_none hfree) hcell h0 hxa hxb hab hkind hA.room (hiter _ _ ?_) hs
  obtain ⟨q, es, n, vs, k, rfl, hq1, hg, W, I⟩ := acc_of R X ei
  obtain ⟨hlen, hat⟩ := pairs_at W ep
  have hvs : vs.size = ps.length := by rw [← hlen, Array.length_toList]
  have XK := R.base.K O
  refine sub_iter XK AC I ⟨(R.base.nolimit O).push _, ?_⟩
  generalize hI : s.heap.objs.size = a₀
  have nI : s.heap.get? a₀ = none := hI ▸ heap_fresh _
  generalize hH : s.heap.push { cls := .type "list_iterator", data := .fields #[.ref q.1, .int 0 0] } = H
  have k1 : ∀ b o, s.heap.get? b = some o → H.get? b = some o := fun b o e => hH ▸ Heap.get?_push_of_some _ e
  have hIt : H.get? a₀ = some { cls := .type "list_iterator", data := .fields #[.ref q.1, .int 0 0] } := by rw [← hH, ← hI]; exact Heap.get?_push_size _ rfl
  have T1 : TabOk G.h₀ H t := (R.base.tab t ht).keeps k1
  rw [hpos, hq]
  refine T1.code rfl hcode fun code s₃ k3 sz3 T3 g3 d3 o3 => ?_
  have k13 : ∀ b o, s.heap.get? b = some o → b ≠ t.P → s₃.heap.get? b = some o := fun b o e n => k3 b o (k1 b o e) n
  have notP : ∀ {b o}, s.heap.get? b = some o → G.h₀.get? b = none → b ≠ t.P := fun {b o} e n z => by
    obtain ⟨oo, eo⟩ := R.base.tb_old ⟨t, ht, rfl⟩
    rw [z, eo] at n; cases n
  obtain ⟨bm, ob, m1, m2, m3, m4, m5, m6, m7⟩ := BM.ex
  have old3 : ∀ b o, G.h₀.get? b = some o → ¬ G.TB b → s₃.heap.get? b = some o := fun b o e n => k13 b o (R.base.old b o e n) fun z => n ⟨t, ht, z.symm⟩
  have ns3 : ∀ {a m}, G.h₀.Ns a m → ¬ G.TB a → s₃.heap.Ns a m := fun {a m} x n => let ⟨o, es, ep, e, r⟩ := x; ⟨o, es, ep, old3 _ _ e n, r⟩
  refine wpAny_builtinsFor (hge ▸ ns3 O.g O.n1) m1 m2 (old3 _ _ m3 m7) m4 m5 m6 ?_
  have tupAt : ∀ j, j < vs.size → ∃ T, vs[j]? = some (.ref T) ∧ ∃ vv, s.heap.IsTuple T vv ∧ ∃ a b ta tb, ps[j]? = some (a, b) ∧ vv = #[.str a ta, .str b tb] := fun j hj => by
    obtain ⟨T, ta, tb, w1, w2⟩ := hat j (ps[j]'(by omega)) (List.getElem?_eq_getElem _)
    exact ⟨T, by simpa using w1, _, w2, _, _, ta, tb, List.getElem?_eq_getElem _, rfl⟩
  let Ts : Nat → Addr := fun j => match vs[j]? with | some (.ref T) => T | _ => 0
  have hTs : ∀ j, j < vs.size → vs[j]? = some (.ref (Ts j)) := fun j hj => by
    obtain ⟨T, e, _⟩ := tupAt j hj
    show vs[j]? = some (.ref (match vs[j]? with | some (.ref T) => T | _ => 0))
    rw [e]
  have exV : ∀ j, ∃ vv : Array Value, j < vs.size → s.heap.IsTuple (Ts j) vv ∧ ∃ a b ta tb, ps[j]? = some (a, b) ∧ vv = #[.str a ta, .str b tb] := fun j => by
    by_cases hj : j < vs.size
    · obtain ⟨T, e, vv, w1, w2⟩ := tupAt j hj
      have : Ts j = T := by have := hTs j hj; rw [e] at this; cases this; rfl
      exact ⟨vv, fun _ => ⟨this ▸ w1, w2⟩⟩
    · exact ⟨#[], fun z => absurd z hj⟩
  let vals : Nat → Array Value := fun j => Classical.choose (exV j)
  have hvals : ∀ j, j < vs.size → s.heap.IsTuple (Ts j) (vals j) ∧ ∃ a b ta tb, ps[j]? = some (a, b) ∧ vals j = #[.str a ta, .str b tb] := fun j hj => Classical.choose_spec (exV j) hj
  have tup3 : ∀ j, j < vs.size → s₃.heap.IsTuple (Ts j) (vals j) := fun j hj => by
    obtain ⟨⟨o, e, c, r⟩, _⟩ := hvals j hj
    obtain ⟨_, _, _, _, _, _, tP, _⟩ := R.base.tab t ht
    refine ⟨o, k13 _ _ e fun z => ?_, c, r⟩
    rw [z, tP.2] at e; cases e; cases c
  have TsI : ∀ j, j < vs.size → Ts j ≠ a₀ := fun j hj z => by
    obtain ⟨⟨o, e, _⟩, _⟩ := hvals j hj
    rw [z, nI] at e; cases e
  have qI : q.1 ≠ a₀ := fun z => by rw [z, nI] at hg; cases hg
  have PI : t.P ≠ a₀ := fun z => by
    obtain ⟨_, _, _, _, _, _, tP, _⟩ := R.base.tab t ht
    have := tP.2
    rw [z, nI] at this; cases this
  have it3 : s₃.heap.get? a₀ = some { cls := .type "list_iterator", data := .fields #[.ref q.1, .int 0 0] } := k3 _ _ hIt (Ne.symm PI)
  have seq3 : SeqAtH s₃.heap q.1 vs := ⟨_, k, k13 _ _ hg (notP hg (R.fresh _ (In.of_get hq1).1)), rfl⟩
  have lim3 : s₃.heap.NoLimit := let ⟨mc, p, q⟩ := O.lim; ⟨mc, ns3 p O.n3, q⟩
  have csI : cStatics ≠ a₀ := fun z => by
    obtain ⟨mc, ⟨o, _, _, e, _⟩, _⟩ := R.base.nolimit O
    rw [z, nI] at e; cases e
  refine ⟨a₀, a₀ :: q.1 :: (List.range vs.size).map Ts, [a₀], vs.size, fun j v => j < vs.size ∧ v = vals j, fun j h => h.IsListIter a₀ q.1 j ∧ SeqAtH h q.1 vs ∧ ∀ k, k < vs.size → h.IsTuple (Ts k) (vals k),
    fun j T h => (j < vs.size ∧ T = Ts j) ∧ h.IsListIter a₀ q.1 (j + 1) ∧ SeqAtH h q.1 vs ∧ ∀ k, k < vs.size → h.IsTuple (Ts k) (vals k), fun _ => true, Fv, rfl,
    fun A' hA' => (seqOfTuples hA' a₀ q.1 qI vs Ts vals hTs TsI).bound, ?_, ⟨⟨_, it3, rfl, rfl⟩, seq3, tup3⟩, ?_, lim3, by simpa using csI, ?_, ?_⟩
  · rintro j vv ⟨hj, rfl⟩
    obtain ⟨_, a, b, ta, tb, _, e⟩ := hvals j hj
    exact ⟨_, _, e⟩
  · intro b hb
    rcases List.mem_cons.mp hb with rfl | hb
    · exact Heap.lt_size it3
    · rcases List.mem_cons.mp hb with rfl | hb
      · obtain ⟨o, n, e, _⟩ := seq3; exact Heap.lt_size e
      · obtain ⟨j, hj, rfl⟩ := List.mem_map.mp hb
        obtain ⟨o, e, _⟩ := tup3 j (List.mem_range.mp hj)
        exact Heap.lt_size e
  · intro href hhref
    refine ⟨fun A' E' i va vb s₂ m₂ hh hP hn ha hb hk => wpAny_tests_nil ⟨rfl, ⟨_, _, rfl, fun _ _ e => e⟩⟩, fun A' E' i va vb s₂ m₂ hh hP _ hn ha hb hk => ?_⟩
    obtain ⟨hj, hP⟩ := hP
    obtain ⟨_, a, b, ta, tb, hp, e⟩ := hvals i hj
    rw [e] at hP
    have e1 := congrArg Array.toList hP
    simp only [List.cons.injEq, and_true] at e1
    obtain ⟨rfl, rfl⟩ := e1
    have up : ∀ {c m}, s₃.heap.Ns c m → c ≠ a₀ → s₂.heap.Ns c m := fun {c m} x n => let ⟨o, es, ep, eo, r⟩ := x; ⟨o, es, ep, hk c (List.mem_range.mpr (Heap.lt_size eo)) (by simpa using n) o (hhref _ _ eo), r⟩
    have g3 := ns3 O.g O.n1
    have b3 := ns3 O.b O.n2
    have ne : ∀ {c m}, G.h₀.Ns c m → ¬ G.TB c → c ≠ a₀ := fun {c m} x n z => by
      obtain ⟨o, _, _, eo, _⟩ := x
      have := R.base.old _ _ eo n
      rw [z, nI] at this; cases this
    exact helt _ A' E' i a b ta tb s₂ m₂ rfl hge rfl hh hp hn ha hb (up g3 (ne O.g O.n1)) (up b3 (ne O.b O.n2))
  · intro a h₅ tk gs hgb hag hsz₅ hk₅ WS hat
    have hpass : (passing (fun _ => true) vs.size 0) = List.range vs.size := by unfold passing; rw [List.drop_zero]; exact List.filter_eq_self.mpr fun _ _ => rfl
    refine h a _ ⟨⟨a :: s₃.heap.objs.size :: List.range s₃.heap.objs.size, s₃.heap.objs.size :: [a₀], s₃.gens.size, _, ?_, hat, fun i s' st => st.1.typeIs, List.mem_cons_self, ?_, ?_, by rw [g3], ?_⟩, fun b o e n => hk₅ b o (k13 b o e n), ?_⟩
    · have WS' := WS
      rw [hpass, List.length_range] at WS'
      rw [← hvs]
      refine ⟨WS'.sub, WS'.grefl, WS'.gtrans, WS'.frame, fun i s Q E hi st hQ => WS'.item i s Q E hi st fun v s' hP => hQ v s' ?_, WS'.done, WS'.self⟩
      obtain ⟨j, e1, e2⟩ := hP
      rw [List.getElem?_range hi] at e1
      cases e1
      exact e2
    · intro b hb
      show b < h₅.objs.size
      rw [hsz₅]
      rcases List.mem_cons.mp hb with rfl | hb
      · exact Nat.lt_succ_self _
      · rcases List.mem_cons.mp hb with rfl | hb
        · exact Nat.lt_succ_of_lt hag
        · exact Nat.lt_succ_of_lt (Nat.lt_trans (List.mem_range.mp hb) hag)
    · intro b hb
      have sz : s.heap.objs.size ≤ s₃.heap.objs.size := Nat.le_trans (by rw [← hH, Heap.size_push]; exact Nat.le_succ _) sz3
      rcases List.mem_cons.mp hb with rfl | hb
      · exact Heap.get?_none_of_le sz
      · rw [List.mem_singleton.mp hb]; exact nI
    · intro h' hk'
      refine T3.at (wr := fun b => b = a₀) (fun b o e n => hk' b o (fun hb => ?_) (hk₅ b o e)) fun b e o eo => ?_
      · rcases List.mem_cons.mp hb with rfl | hb
        · exact Nat.lt_irrefl _ (Heap.lt_size e)
        · exact n (List.mem_singleton.mp hb)
      · subst e
        rw [it3] at eo
        cases eo
        exact ⟨(by simp), Ne.symm PI⟩
    · exact ⟨o3, fun z => AllBare.push (g3 ▸ z) hgb, fun i x e => by
        show (s₃.gens.push gs)[i]? = some x
        rw [g3, Array.getElem?_push_lt (by exact (Array.getElem?_eq_some_iff.mp e).1)]
        obtain ⟨h1, h2⟩ := Array.getElem?_eq_some_iff.mp e
        exact congrArg some h2⟩
end
end Mine
end
section
open PySem PySem.W PySem.Calls PyProof.Rows
open Builtin Builtin.Str
set_option maxRecDepth 100000
set_option linter.unusedVariables false
namespace Mine
variable [Ban]
set_option linter.unusedSectionVars false
def totL (ps : List (Str × Str)) : Nat := (ps.map fun p => p.1.length + p.2.length).sum
def accLen (C : Addr) (j k : Nat) (σ : List PO) : Option Int := match σ[k]? with
  | some (.acc C' fs l) => if C' = C then match pairsOf l, fs[j]? with
    | some ps, some (.int n) => if 0 ≤ n ∧ n ≤ 1000000 ∧ totL ps ≤ 1000000 then some (n + totL ps) else none
    | _, _ => none
    else none
  | _ => none
def gluedOf (ps : List (Str × Str)) : Str := Txt.join "" (ps.map fun p => Txt.join "" [p.1, p.2])
def accStr (C : Addr) (k : Nat) (σ : List PO) : Option Str := match σ[k]? with
  | some (.acc C' fs l) => if C' = C then match pairsOf l with
    | some ps => if totL ps ≤ 1000000 ∧ ps.length ≤ 1000000 then some (gluedOf ps) else none
    | _ => none
    else none
  | _ => none
def lenCF (C : Addr) (j : Nat) : CF
  | [.ref k], σ => match accLen C j k σ with
    | some n => some (.int n, σ)
    | none => none
  | _, _ => none
def strCF (C : Addr) : CF
  | [.ref k], σ => match accStr C k σ with
    | some x => some (.str x, σ)
    | none => none
  | _, _ => none
def fLenBody (C : Addr) (j : Nat) : FS := fun ρ σ => match ρ[(0 : Nat)]? with
  | some (some (.ref k)) => match accLen C j k σ with
    | some n => some (.ret (.int n), ρ, σ)
    | none => none
  | _ => none
def fStrBody (C : Addr) : FS := fun ρ σ => match ρ[(0 : Nat)]? with
  | some (some (.ref k)) => match accStr C k σ with
    | some x => some (.ret (.str x), ρ, σ)
    | none => none
  | _ => none
theorem totL_take : ∀ (ps : List (Str × Str)) (j : Nat), preSum (fun i => match ps[i]? with | some p => ((p.1.length + p.2.length : Nat) : Int) | none => 0) j = ((totL (ps.take j) : Nat) : Int)
  | ps, 0 => by simp [preSum, totL]
  | ps, j + 1 => by
    rw [preSum, totL_take ps j]
    cases h : ps[j]? with
    | none =>
      have hl := List.getElem?_eq_none_iff.mp h
      rw [List.take_of_length_le hl, List.take_of_length_le (by omega)]
      simp
    | some p =>
      rw [List.take_add_one, h]
      simp [totL, List.map_append, List.sum_append]
theorem totL_le : ∀ (ps : List (Str × Str)) (j : Nat), totL (ps.take j) ≤ totL ps
  | [], j => by simp
  | p :: ps, 0 => by simp [totL]
  | p :: ps, j + 1 => by
    have := totL_le ps j
    simp only [totL, List.take_succ_cons, List.map_cons, List.sum_cons] at this ⊢
    omega
theorem totL_mem : ∀ {ps : List (Str × Str)} {j : Nat} {p : Str × Str}, ps[j]? = some p → p.1.length + p.2.length ≤ totL ps
  | p :: ps, 0, _, e => by cases e; simp [totL]
  | p :: ps, j + 1, q, e => by
    have := totL_mem (ps := ps) (j := j) (p := q) (by simpa using e)
    simp only [totL, List.map_cons, List.sum_cons] at this ⊢
    omega
section
variable {G : GC} {d : Nat}
theorem name_local {M : Model} {A : Around} {E : Value → Shared → Prop} {s : Shared} {env : Env} {x : Str} {p : Pos} {m : Str → Option Value} {v : Value} {Q : Value → Shared → Prop} (hk : env.scope.kind = .function) (hl : env.kindOf x = some .local) (hn : s.heap.Ns env.locals m) (hv : m x = some v)
    (hd : (x == ("__debug__" : Str)) = false) (h : Q v s) : wpAny M A (eval (.Name x p) env) Q E s := wpAny_Name (wpAny_loadName_local hk hl hn hv h) hd
theorem gen_end {A : Around} {s s₅ s' : Shared} {β : Lay} {σ : List PO} {t : TabSpec} {wr : List Addr} {g : Nat} (R : Rel G s.heap β σ) (ht : t ∈ G.tabs) (ap : TabsApart G) (k : ∀ b o, s.heap.get? b = some o → b ≠ t.P → s₅.heap.get? b = some o)
    (hw : ∀ b ∈ wr, s.heap.get? b = none) (hg : g = s.gens.size) (T : ∀ h', (∀ b o, b ∉ wr → s₅.heap.get? b = some o → h'.get? b = some o) → TabOk G.h₀ h' t) (H : Sh s s₅) (hm : Moved wr (GenOnlyQ g) s₅ s') :
    Step G s.heap β s'.heap β ∧ Rel G s'.heap β σ ∧ Sh s s' := by
  have nw : ∀ b o, s.heap.get? b = some o → b ∉ wr := fun b o e m => by rw [hw b m] at e; cases e
  obtain ⟨R', S'⟩ := R.grown ht ap (h' := s'.heap) (fun b o e n => hm.heap b o (nw b o e) (k b o e n)) (T _ fun b o n e => hm.heap b o n e)
  refine ⟨S', R', hm.os.trans H.os, fun z => (H.bare z).moved hm.gens, fun i x e => ?_⟩
  have h5 := H.gens i x e
  have hi : i < s.gens.size := (Array.getElem?_eq_some_iff.mp e).1
  rcases hm.gens with q | ⟨⟨_, q⟩, _⟩
  · rw [q]; exact h5
  · rw [q i (by omega)]; exact h5
theorem Keeps.refl {s : Shared} : Keeps s s := ⟨s.heap, s.toks, rfl, fun _ _ e => e⟩
theorem len_body (O : GOk G) (BM : BMainOk G) (ap : TabsApart G) {C : Addr} {cd : ClassData} (AC : AccCls G.K C cd) {t : TabSpec} (ht : t ∈ G.tabs) {j : Nat} (KA : AttrOk G C cd j "_initial_size") {sc scope : Scope} {c : Value} {p1 p2 p3 p4 p5 p6 p7 p8 p9 pa pb pt pi pg pn ps : Pos} {kt : Nat}
    (OS : ScopeOk sc) (hself : sc.names[(0 : Nat)]? = some (("self" : Str), NameKind.local)) (hsum : sc.names.lookup ("sum" : Str) = some .globalImplicit) (gsum : G.mg "sum" = none) (bsum : G.mb "sum" = some (.builtin "sum")) (glen : G.mg "len" = none) (blen : G.mb "len" = some (.builtin "len"))
    (hpos : pg = t.pos) (hco : scope.isCoroutine = false) (hfree : ∀ y ∈ scope.names, y.2 ≠ .free) (hcell : ∀ y ∈ scope.names, y.2 ≠ .cell) (h0 : scope.names.lookup (".0" : Str) = some NameKind.local)
    (hxa : scope.names.lookup ("fws" : Str) = some .local) (hxb : scope.names.lookup ("part" : Str) = some .local) (hlen : scope.names.lookup ("len" : Str) = some .globalImplicit) (hkind : scope.kind = .function) :
    SSp G (d + 1) (fun env => env.scope = sc ∧ env.code = .ref t.c ∧ env.qual ++ "<genexpr>" = t.qual) (execs [Stmt.Return (some (.Call (.Name "sum" ps) [.GeneratorExp (.BinOp (.Call (.Name "len" p1) [.Name "fws" p2] [] p3) .Add (.Call (.Name "len" p4) [.Name "part" p5] [] p6) p7)
      [⟨.Tuple [.Name "fws" pa, .Name "part" pb] kt pt, .Name "self" pi, [], 0⟩] scope pg, .Attribute (.Name "self" p8) "_initial_size" p9] [] pn)) p]) (fLenBody C j) := by
  intro env A s β ρ σ fl ρ' σ' hP hA R F e Q E h
  obtain ⟨hsc, hcode, hqual⟩ := hP
  unfold fLenBody at e
  split at e
  · rename_i k hk
    split at e
    · rename_i n hn
      cases e
      unfold accLen at hn
      split at hn
      · rename_i C' fs l el
        split at hn
        · rename_i hC
          subst hC
          split at hn
          · rename_i qs n0 e1 e2
            split at hn
            · rename_i hfit
              cases hn
              obtain ⟨f1, f2, f3⟩ := hfit
              have hkf : env.kindOf "self" = some .local := by show env.scope.names.lookup _ = _; rw [hsc]; exact kind_at OS.nodup 0 _ _ hself
              obtain ⟨m, hns, hm⟩ := F.ns
              obtain ⟨x, hx, X⟩ := hm 0 "self" (.ref k) (hsc ▸ hself) hk
              have hks : env.kindOf "sum" = some .globalImplicit := by show env.scope.names.lookup _ = _; rw [hsc]; exact hsum
              refine wpAny_execs_cons (wpAny_Return_some ?_)
              show wpAny _ _ (do callWith pn (← eval (.Name "sum" ps) env) [] (backTo pn (starEach _ env)) []) _ _ _
              refine wpAny_bind (wpAny_Name ?_ (by decide))
              rw [loadName_read F.kind hks]
              refine loadGlobal_builtin (F.glob ▸ R.base.globals O) gsum (F.bui ▸ R.base.builtins O) bsum ?_
              refine Calls.callWith_builtin rfl (Calls.evalArgs_plain (Calls.spliced_cons ?_))
              show wpAny _ _ (eval (.GeneratorExp _ _ _ _) env) _ _ _
              refine genexp_acc (d := d + 1) O BM AC ht (fun i y => ∃ tk, y = .int (match qs[i]? with | some p => ((p.1.length + p.2.length : Nat) : Int) | none => 0) tk) hA R X el e1 hpos hcode hqual F.glob hco hfree hcell h0 hxa hxb (by decide) hkind
                (fun Q E h => name_local F.kind hkf hns hx (by decide) h) (fun _ => rfl) ?_ fun a s₅ GM => ?_
              · intro cenv A' E' i a b ta tb s₂ m₂ c1 c2 c3 hh hp hn2 ha hb hg2 hb2
                have ck : cenv.scope.kind = .function := by rw [c1]; exact hkind
                have kl : cenv.kindOf "len" = some .globalImplicit := by show cenv.scope.names.lookup _ = _; rw [c1]; exact hlen
                have ka : cenv.kindOf "fws" = some .local := by show cenv.scope.names.lookup _ = _; rw [c1]; exact hxa
                have kb : cenv.kindOf "part" = some .local := by show cenv.scope.names.lookup _ = _; rw [c1]; exact hxb
                have la : a.length ≤ 1000000 := by have := totL_mem hp; simp at this; omega
                have lb : b.length ≤ 1000000 := by have := totL_mem hp; simp at this; omega
                have one : ∀ (x : Str) (y : Str) (ty : Tok) (q1 q2 q3 : Pos) (s₃ : Shared) (Q' : Value → Shared → Prop), cenv.kindOf x = some .local → (x == ("__debug__" : Str)) = false → s₃.heap.Ns cenv.locals m₂ → m₂ x = some (.str y ty) → y.length ≤ 1000000 → s₃.heap.Ns mainGlobals G.mg → s₃.heap.Ns builtinsNs G.mb →
                    (∀ tk, Q' (.int y.length tk) { s₃ with toks := s₃.toks + 1 + 1 }) → wpAny G.M A' (eval (.Call (.Name "len" q1) [.Name x q2] [] q3) cenv) Q' E' s₃ := by
                  intro x y ty q1 q2 q3 s₃ Q' hkx hd hn3 hmx hl hg3 hb3 hQ
                  show wpAny _ _ (do callWith q3 (← eval (.Name "len" q1) cenv) [] (backTo q3 (starEach [.Name x q2] cenv)) []) _ _ _
                  refine wpAny_bind (wpAny_Name ?_ (by decide))
                  rw [loadName_read ck kl]
                  refine loadGlobal_builtin (c2 ▸ hg3) glen (c3 ▸ hb3) blen ?_
                  refine Calls.callWith_builtin rfl (Calls.evalArgs_plain (Calls.spliced_cons (name_local ck hkx hn3 hmx hd (Calls.spliced_nil ?_))))
                  exact len_str (by omega) (hQ _)
                refine wpAny_BinOp (one "fws" a ta _ _ _ s₂ _ ka (by decide) hn2 ha la hg2 hb2 fun tk => ?_)
                refine one "part" b tb _ _ _ _ _ kb (by decide) hn2 hb lb hg2 hb2 fun tk' => ?_
                have hv : (match qs[i]? with | some p => ((p.1.length + p.2.length : Nat) : Int) | none => 0) = (a.length : Int) + (b.length : Int) := by rw [hp]; simp
                refine P.add_int ⟨⟨s₂.toks + 1 + 1 + 1 + 1, ?_⟩, ⟨s₂.heap, _, rfl, fun _ _ e => e⟩⟩
                rw [hv]
              · obtain ⟨⟨fp, wr, g, St, WS, hst, hgen, hafp, hfp, hwr, hgs, hT⟩, hkeep, hsh⟩ := GM
                refine Calls.spliced_cons ?_
                obtain ⟨R5, S5⟩ := R.grown ht ap hkeep (hT _ fun _ _ _ e => e)
                have F5 := F.step R.base S5 (hsc ▸ OS.nodup)
                obtain ⟨m5, hns5, hm5⟩ := F5.ns
                obtain ⟨x5, hx5, X5⟩ := hm5 0 "self" (.ref k) (hsc ▸ hself) hk
                obtain ⟨q, ox, es, m6, rfl, hq5, I5, hd5, hf5⟩ := inst_of R5 X5 el rfl
                obtain ⟨en, g1, g2⟩ := hf5.find KA.nodup e2 KA.at_
                obtain ⟨tn, htn⟩ := g2
                show wpAny _ _ (eval (.Attribute _ _ _) env) _ _ _
                rw [eval_Attr]
                show wpAny _ _ (eval (.Name "self" p8) env >>= _) _ _ _
                refine wpAny_bind (name_local F5.kind hkf hns5 hx5 (by decide) ?_)
                refine wpAny_bind (wpAny_standAt (wpAny_bind (wpAny_holding ?_)))
                refine getAttr_inst (R5.base.K O) I5 KA.cls KA.attr (v := en.val) (by unfold getL; rw [g1]) (by rw [htn]; rfl) ?_
                refine wpAny_bind (wpAny_letTemporaryGo (wpAny_pure ?_))
                refine Calls.spliced_nil ?_
                rw [htn]
                have hst' : St 0 { s₅ with toks := s₅.toks + 1 } := WS.frame 0 s₅ s₅.heap (s₅.toks + 1) hst (Nat.le_succ _) fun _ _ _ e => e
                have W' := WS.in4_1
                have il : ∀ z : Int, 0 ≤ z → z ≤ 10000000 → InLong z := fun z h1 h2 => by unfold InLong; omega
                refine call_sum_from (il _ f1 (by omega)) (W'.self 0 _ _ _ hst' ⟨a, fp, wr, _, qs.length, _, _, (fun i => match qs[i]? with | some p => ((p.1.length + p.2.length : Nat) : Int) | none => 0), rfl, W', hst', hfp, fun i v hv => hv, fun i hi => ⟨?_, ?_⟩, fun s' t' hm => ?_⟩)
                · dsimp only
                  rw [List.getElem?_eq_getElem hi]
                  have := totL_mem (List.getElem?_eq_getElem hi)
                  show InLong ((qs[i].1.length + qs[i].2.length : Nat) : Int)
                  exact il _ (by omega) (by omega)
                · rw [totL_take]
                  have := totL_le qs (i + 1)
                  exact il _ (by omega) (by omega)
                · rw [totL_take, List.take_length]
                  obtain ⟨S6, R6, H6⟩ := gen_end (A := A) R ht ap (s₅ := { s₅ with toks := s₅.toks + 1 }) hkeep hwr hgs hT (hsh.trans (Sh.mk' ..)) hm
                  exact h _ s' β S6.toF R6 (F.go OS hsc R.base S6) ⟨_, rfl, _, rfl⟩ H6
            · cases hn
          · cases hn
        · cases hn
      · cases hn
    · cases e
  · cases e
end
end Mine
end
section
open PySem PySem.W PySem.Calls PyProof.Rows
open Builtin Builtin.Str
set_option maxRecDepth 100000
set_option linter.unusedVariables false
namespace Mine
variable [Ban]
set_option linter.unusedSectionVars false
theorem eval_meth {o : Expr} {name : Str} {apos pos : Pos} {args : List Expr} {env : Env} (hp : (apos.endLine == pos.line) = true) (hb : ∀ whole, attributeBase o name env whole = whole) (hf : methodCallForm args.length (backTo pos (starEach args env)) [] = true) :
    eval (.Call (.Attribute o name apos) args [] pos) env = (do
      let ov ← eval o env
      standAt apos.atName
      let (f, first) ← holding [ov] (getMethod ov name (do return (← importBound o env).getD true))
      callWith pos f first (backTo pos (starEach args env)) []) := by
  have e : eval (.Call (.Attribute o name apos) args [] pos) env = (do
      let ov ← attributeBase o name env (eval o env)
      standAt apos.atName
      methodCall o name apos pos env ov args.length (backTo pos (starEach args env)) []) := rfl
  rw [e, hb]
  have m : ∀ ov, methodCall o name apos pos env ov args.length (backTo pos (starEach args env)) [] = (do
      let (f, first) ← holding [ov] (getMethod ov name (do return (← importBound o env).getD true))
      callWith pos f first (backTo pos (starEach args env)) []) := by
    intro ov
    unfold methodCall calleeOf methodCallPos
    rw [hf, hp]
    rfl
  simp only [m]
theorem txt_join (sep : Str) (l : List Str) : Txt.join sep l = Str.join sep l := StrLaws.glued_eq_join _ _
theorem two_le (a b : Str) : (Txt.join "" [a, b]).length ≤ a.length + b.length := by
  rw [txt_join]
  have := StrLaws.join_length_le "" [a, b]
  have h0 : ("" : Str).length = 0 := by decide
  simp only [List.map_cons, List.map_nil, List.sum_cons, List.sum_nil, h0, Nat.mul_zero] at this
  omega
theorem sum_two_le : ∀ ps : List (Str × Str), ((ps.map fun p => Txt.join "" [p.1, p.2]).map (·.length)).sum ≤ totL ps
  | [] => by simp
  | p :: ps => by
    have h1 := sum_two_le ps
    have h2 := two_le p.1 p.2
    simp only [totL, List.map_cons, List.sum_cons] at h1 ⊢
    omega
section
variable {G : GC} {d : Nat}
theorem strs_of_items {qs : List (Str × Str)} {l : List (Str × Tok)} (h : ItemsOf (fun i y => ∃ tk, y = .str (match qs[i]? with | some p => Txt.join "" [p.1, p.2] | none => "") tk) (strValues l).toArray qs.length) :
    l.map (·.1) = qs.map fun p => Txt.join "" [p.1, p.2] := by
  obtain ⟨h1, h2⟩ := h
  have hl : (strValues l).length = l.length := by simp [strValues]
  rw [List.size_toArray, hl] at h1
  apply List.ext_getElem?
  intro i
  rw [List.getElem?_map, List.getElem?_map]
  by_cases hi : i < l.length
  · have hv : (strValues l).toArray[i]? = some (.str (l[i]).1 (l[i]).2) := by
      rw [List.getElem?_toArray]
      simp [strValues, hi]
    obtain ⟨tk, e⟩ := h2 i _ hv
    rw [List.getElem?_eq_getElem hi, List.getElem?_eq_getElem (by omega)]
    rw [List.getElem?_eq_getElem (by omega)] at e
    simp only [Value.str.injEq] at e
    simp only [Option.map_some]
    rw [e.1]
  · rw [List.getElem?_eq_none (by omega), List.getElem?_eq_none (by omega)]
    rfl
theorem str_body (O : GOk G) (BM : BMainOk G) (ap : TabsApart G) {C : Addr} {cd : ClassData} (AC : AccCls G.K C cd) {t : TabSpec} (ht : t ∈ G.tabs) {sc scope : Scope} {te : Tok} {p1 p2 p3 p4 p5 p6 p7 p8 p9 pa pb pt pi pg pn ps : Pos} {kt kt2 : Nat}
    (OS : ScopeOk sc) (hself : sc.names[(0 : Nat)]? = some (("self" : Str), NameKind.local)) (hemp : sc.names.lookup ("EMPTYSTRING" : Str) = some .globalImplicit) (gemp : G.mg "EMPTYSTRING" = some (.str "" te))
    (hp2 : (p2.endLine == pn.line) = true) (hp4 : (p4.endLine == p8.line) = true) (hpos : pg = t.pos) (hco : scope.isCoroutine = false) (hfree : ∀ y ∈ scope.names, y.2 ≠ .free) (hcell : ∀ y ∈ scope.names, y.2 ≠ .cell) (h0 : scope.names.lookup (".0" : Str) = some NameKind.local)
    (hxa : scope.names.lookup ("fws" : Str) = some .local) (hxb : scope.names.lookup ("part" : Str) = some .local) (hemp2 : scope.names.lookup ("EMPTYSTRING" : Str) = some .globalImplicit) (hkind : scope.kind = .function) :
    SSp G (d + 1) (fun env => env.scope = sc ∧ env.code = .ref t.c ∧ env.qual ++ "<genexpr>" = t.qual) (execs [Stmt.Return (some (.Call (.Attribute (.Name "EMPTYSTRING" p1) "join" p2) [.GeneratorExp (.Call (.Attribute (.Name "EMPTYSTRING" p3) "join" p4) [.Tuple [.Name "fws" p5, .Name "part" p6] kt2 p7] [] p8)
      [⟨.Tuple [.Name "fws" pa, .Name "part" pb] kt pt, .Name "self" pi, [], 0⟩] scope pg] [] pn)) ps]) (fStrBody C) := by
  intro env A s β ρ σ fl ρ' σ' hP hA R F e Q E h
  obtain ⟨hsc, hcode, hqual⟩ := hP
  unfold fStrBody at e
  split at e
  · rename_i k hk
    split at e
    · rename_i n hn
      cases e
      unfold accStr at hn
      split at hn
      · rename_i C' fs l el
        split at hn
        · rename_i hC
          subst hC
          split at hn
          · rename_i qs e1
            split at hn
            · rename_i hfit
              cases hn
              obtain ⟨f3, f4⟩ := hfit
              have hkf : env.kindOf "self" = some .local := by show env.scope.names.lookup _ = _; rw [hsc]; exact kind_at OS.nodup 0 _ _ hself
              obtain ⟨m, hns, hm⟩ := F.ns
              obtain ⟨x, hx, X⟩ := hm 0 "self" (.ref k) (hsc ▸ hself) hk
              have hke : env.kindOf "EMPTYSTRING" = some .globalImplicit := by show env.scope.names.lookup _ = _; rw [hsc]; exact hemp
              refine wpAny_execs_cons (wpAny_Return_some ?_)
              rw [eval_meth hp2 (fun _ => rfl) rfl]
              refine wpAny_bind (wpAny_Name ?_ (by decide))
              rw [loadName_read F.kind hke]
              refine loadGlobal_global (F.glob ▸ R.base.globals O) gemp ?_
              refine wpAny_bind (wpAny_standAt (wpAny_bind (wpAny_holding (GM.join ?_))))
              refine Calls.callWith_builtin rfl (Calls.evalArgs_plain (Calls.spliced_cons ?_))
              show wpAny _ _ (eval (.GeneratorExp _ _ _ _) env) _ _ _
              refine genexp_acc (d := d + 1) O BM AC ht (fun i y => ∃ tk, y = .str (match qs[i]? with | some p => Txt.join "" [p.1, p.2] | none => "") tk) hA R X el e1 hpos hcode hqual F.glob hco hfree hcell h0 hxa hxb (by decide) hkind
                (fun Q E h => name_local F.kind hkf hns hx (by decide) h) (fun _ => rfl) ?_ fun a s₅ GM => ?_
              · intro cenv A' E' i a b ta tb s₂ m₂ c1 c2 c3 hh hp hn2 ha hb hg2 hb2
                have ck : cenv.scope.kind = .function := by rw [c1]; exact hkind
                have kl : cenv.kindOf "EMPTYSTRING" = some .globalImplicit := by show cenv.scope.names.lookup _ = _; rw [c1]; exact hemp2
                have ka : cenv.kindOf "fws" = some .local := by show cenv.scope.names.lookup _ = _; rw [c1]; exact hxa
                have kb : cenv.kindOf "part" = some .local := by show cenv.scope.names.lookup _ = _; rw [c1]; exact hxb
                have lab : a.length + b.length ≤ 1000000 := by have := totL_mem hp; simp at this; omega
                rw [eval_meth hp4 (fun _ => rfl) rfl]
                refine wpAny_bind (wpAny_Name ?_ (by decide))
                rw [loadName_read ck kl]
                refine loadGlobal_global (c2 ▸ hg2) gemp ?_
                refine wpAny_bind (wpAny_standAt (wpAny_bind (wpAny_holding (GM.join ?_))))
                refine Calls.callWith_builtin rfl (Calls.evalArgs_plain (Calls.spliced_cons ?_))
                show wpAny _ _ (eval (.Tuple [.Name "fws" p5, .Name "part" p6] kt2 p7) cenv) _ _ _
                refine Tuple_ (Calls.spliced_cons (name_local ck ka hn2 ha (by decide) (Calls.spliced_cons (name_local ck kb hn2 hb (by decide) (Calls.spliced_nil ?_)))))
                refine wpAny_newTuple (Calls.spliced_nil ?_) (show 2 ≤ sizeLine by decide)
                refine PyProof.Rows.join_tuple (ys := [a, b]) ⟨_, Heap.get?_push_size _ rfl, rfl, _, rfl⟩ (.cons a ta (.cons b tb .nil)) (by
                  have h0 : ("" : Str).length = 0 := by decide
                  simp only [List.map_cons, List.map_nil, List.sum_cons, List.sum_nil, h0, Nat.mul_zero]; omega) fun t' k' => ?_
                refine ⟨⟨t', ?_⟩, ⟨_, k', rfl, fun b o e => Heap.get?_push_of_some _ e⟩⟩
                rw [hp]
              · obtain ⟨⟨fp, wr, g, St, WS, hst, hgen, hafp, hfp, hwr, hgs, hT⟩, hkeep, hsh⟩ := GM
                refine Calls.spliced_nil ?_
                refine SC.joinGen (n := qs.length) WS.in4_2 hgen hst hfp hafp (fun i v hv => ?_) (fun s' l hm hit => ?_) (Nat.le_trans f4 (by decide))
                · obtain ⟨tk, e⟩ := hv; exact ⟨_, _, e⟩
                · have hl := strs_of_items hit
                  rw [hl]
                  refine ⟨joinOk_of (by
                    have h0 : ("" : Str).length = 0 := by decide
                    rw [h0, Nat.mul_zero]
                    have := sum_two_le qs
                    omega), fun t' k' => ?_⟩
                  obtain ⟨S6, R6, H6⟩ := gen_end (A := A) R ht ap hkeep hwr hgs hT hsh hm
                  exact h _ { s' with toks := k' } β S6.toF R6 (F.go (s' := { s' with toks := k' }) OS hsc R.base S6) ⟨_, rfl, _, rfl⟩ (H6.trans (Sh.mk' ..))
            · cases hn
          · cases hn
        · cases hn
      · cases hn
    · cases e
  · cases e
end
end Mine
end
section
open PySem PySem.W PySem.Calls PyProof.Rows
set_option maxRecDepth 100000
set_option linter.unusedVariables false
namespace Mine
variable [Ban]
set_option linter.unusedSectionVars false
section
variable {M : Model} {A : Around} {E : Value → Shared → Prop} {s : Shared} {x C : Addr}
theorem run_wget_len {Q : Fin → Shared → Prop} (hi : Looks M s.heap (isInstance (.ref x) (.type "list")) true)
    (h : Q (.done (.ret (.ref s.heap.objs.size))) { s with heap := s.heap.push { cls := .type "method-wrapper", data := .fields #[.builtin "list.__len__", .ref x] } }) :
    wpAny M A (Builtin.«wrapper_descriptor.__get__» ⟨[.builtin "list.__len__", .ref x, .ref C], []⟩) Q E s := by
  unfold Builtin.«wrapper_descriptor.__get__»
  refine wpAny_bind (wpAny_of_eq (a := (Value.builtin "list.__len__", some (Value.ref x), some (Value.ref C))) rfl ?_)
  dsimp only
  refine wpAny_bind ?_
  refine wpAny_bind (wpAny_of_eq (a := (("__len__" : Str), Value.type "list")) (by kernel_rfl) ?_)
  refine wpAny_bind (hi.here ?_)
  simp only [Bool.not_true, Bool.false_eq_true, if_false]
  refine wpAny_pure ?_
  exact wpAny_bind (wpAny_newObj_type (wpAny_pure h))
theorem run_wget_init {Q : Fin → Shared → Prop} (hi : Looks M s.heap (isInstance (.ref x) (.type "list")) true)
    (h : Q (.done (.ret (.ref s.heap.objs.size))) { s with heap := s.heap.push { cls := .type "method-wrapper", data := .fields #[.builtin "list.__init__", .ref x] } }) :
    wpAny M A (Builtin.«wrapper_descriptor.__get__» ⟨[.builtin "list.__init__", .ref x, .ref C], []⟩) Q E s := by
  unfold Builtin.«wrapper_descriptor.__get__»
  refine wpAny_bind (wpAny_of_eq (a := (Value.builtin "list.__init__", some (Value.ref x), some (Value.ref C))) rfl ?_)
  dsimp only
  refine wpAny_bind ?_
  refine wpAny_bind (wpAny_of_eq (a := (("__init__" : Str), Value.type "list")) (by kernel_rfl) ?_)
  refine wpAny_bind (hi.here ?_)
  simp only [Bool.not_true, Bool.false_eq_true, if_false]
  refine wpAny_pure ?_
  exact wpAny_bind (wpAny_newObj_type (wpAny_pure h))
theorem run_mget_pop {Q : Fin → Shared → Prop} (hi : Looks M s.heap (isInstance (.ref x) (.type "list")) true)
    (h : Q (.done (.ret (.ref s.heap.objs.size))) { s with heap := s.heap.push { cls := .type "builtin_function_or_method", data := .fields #[.builtin "list.pop", .ref x] } }) :
    wpAny M A (Builtin.«method_descriptor.__get__» ⟨[.builtin "list.pop", .ref x, .ref C], []⟩) Q E s := by
  unfold Builtin.«method_descriptor.__get__»
  refine wpAny_bind (wpAny_of_eq (a := (Value.builtin "list.pop", some (Value.ref x), some (Value.ref C))) rfl ?_)
  dsimp only
  rw [if_neg (by decide)]
  refine wpAny_bind ?_
  refine wpAny_bind (wpAny_of_eq (a := (("pop" : Str), Value.type "list")) (by kernel_rfl) ?_)
  refine wpAny_bind (hi.here ?_)
  simp only [Bool.not_true, Bool.false_eq_true, if_false]
  refine wpAny_pure ?_
  exact wpAny_bind (wpAny_newObj_type (wpAny_pure h))
end
structure SupBound (id dt bt gid : String) (B : Builtin) : Prop where
  ty : typeOf (.builtin id) = pure (.type dt)
  get : typeLookup (.type dt) "__get__" = pure (some (.builtin gid))
  slot : Slot dt "__get__" gid
  entry : entryFor table gid = some B
  args : ∀ x C : Addr, argsOk gid ⟨[.builtin id, .ref x, .ref C], []⟩
  run : ∀ {M : Model} {A : Around} {E : Value → Shared → Prop} {s : Shared} {x C : Addr} {Q : Fin → Shared → Prop}, Looks M s.heap (isInstance (.ref x) (.type "list")) true →
    Q (.done (.ret (.ref s.heap.objs.size))) { s with heap := s.heap.push { cls := .type bt, data := .fields #[.builtin id, .ref x] } } → wpAny M A (B ⟨[.builtin id, .ref x, .ref C], []⟩) Q E s
theorem sup_len : SupBound "list.__len__" "wrapper_descriptor" "method-wrapper" "wrapper_descriptor.__get__" Builtin.«wrapper_descriptor.__get__» where
  ty := by show builtinType _ = _; rw [builtinType_eq_fast]; kernel_rfl
  get := by rw [typeLookup_type, builtinLookup_eq_fast]; kernel_rfl
  slot := .of (owner := "wrapper_descriptor") (n := "__get__") (by rw [typeLookup_type, builtinLookup_eq_fast]; kernel_rfl) (by decide +kernel) (by decide +kernel) (by decide +kernel)
    (by first | exact .inl (by decide +kernel) | exact .inr (by decide +kernel)) (by rw [isSubtype_type]; kernel_rfl)
  entry := entryFor_of_tree (by kernel_rfl)
  args := fun _ _ => by unfold argsOk; kernel_rfl
  run := run_wget_len
theorem sup_init : SupBound "list.__init__" "wrapper_descriptor" "method-wrapper" "wrapper_descriptor.__get__" Builtin.«wrapper_descriptor.__get__» where
  ty := by show builtinType _ = _; rw [builtinType_eq_fast]; kernel_rfl
  get := sup_len.get
  slot := sup_len.slot
  entry := sup_len.entry
  args := fun _ _ => by unfold argsOk; kernel_rfl
  run := run_wget_init
theorem sup_pop : SupBound "list.pop" "method_descriptor" "builtin_function_or_method" "method_descriptor.__get__" Builtin.«method_descriptor.__get__» where
  ty := by show builtinType _ = _; rw [builtinType_eq_fast]; kernel_rfl
  get := by rw [typeLookup_type, builtinLookup_eq_fast]; kernel_rfl
  slot := .of (owner := "method_descriptor") (n := "__get__") (by rw [typeLookup_type, builtinLookup_eq_fast]; kernel_rfl) (by decide +kernel) (by decide +kernel) (by decide +kernel)
    (by first | exact .inl (by decide +kernel) | exact .inr (by decide +kernel)) (by rw [isSubtype_type]; kernel_rfl)
  entry := entryFor_of_tree (by kernel_rfl)
  args := fun _ _ => by unfold argsOk; kernel_rfl
  run := run_mget_pop
section
variable {prog : Program} {w : World} {A : Around} {E : Value → Shared → Prop} {h : Heap} {g : Array GenState} {d : Drawn} {t : Nat} {os : OsState}
theorem super_ga_b {id dt bt gid : String} {B : Builtin} (SB : SupBound id dt bt gid B) {so D x C : Addr} {l₀ l : List Value} {K : Frag} {name : Str} {tk : Tok} {Q : Fin → Shared → Prop}
    (hso : h.get? so = some { cls := .type "super", dict := none, data := .fields #[.ref D, .ref x, .ref C], slots := #[] }) (hno : Looks (model prog w) h (opaqueClassAbove (.ref C)) none)
    (hC : Looks (model prog w) h (mroOf (.ref C)) l₀) (hl : (l₀.dropWhile (· != .ref D)).drop 1 = l) (X : K.In h)
    (hf : alongIn K name l = some (some (.builtin id))) (hi : Looks (model prog w) h (isInstance (.ref x) (.type "list")) true) (hxC : x ≠ C) (hn : (name == ("__class__" : Str)) = false)
    (hq : Q (.done (.ret (.ref h.objs.size))) ⟨h.push { cls := .type bt, data := .fields #[.builtin id, .ref x] }, g, d, t, os⟩) :
    wpAny (model prog w) A (Builtin.«super.__getattribute__» ⟨[.ref so, .str name tk], []⟩) Q E ⟨h, g, d, t, os⟩ := by
  have hlk := SB.get
  have hty := SB.ty
  have hne : (Value.ref x == Value.ref C) = false := by simp [hxC]
  have hT : ∀ s : Shared, s.TypeIs (.builtin id) dt := fun s => hty
  have hdt : ({ cls := .type "super", dict := none, data := .fields #[.ref D, .ref x, .ref C], slots := #[] } : Obj).data = .fields #[.ref D, .ref x, .ref C] := rfl
  have f0 : (#[.ref D, .ref x, .ref C] : Array Value)[0]? = some (.ref D) := rfl
  have f1 : (#[.ref D, .ref x, .ref C] : Array Value)[1]? = some (.ref x) := rfl
  have f2 : (#[.ref D, .ref x, .ref C] : Array Value)[2]? = some (.ref C) := rfl
  unfold Builtin.«super.__getattribute__»
  repeat (first
    | (with_reducible refine wpAny_field hso hdt f0 ?_) | (with_reducible refine wpAny_field hso hdt f1 ?_) | (with_reducible refine wpAny_field hso hdt f2 ?_)
    | (with_reducible refine ks_wpAny_notOpaque hno ?_)
    | (with_reducible refine Looks.at hC ?_; rw [hl])
    | (refine ks_forIn_along X (fun _ _ => rfl) rfl ?_ hf)
    | (with_reducible refine wpAny_of_eq hty ?_)
    | (with_reducible refine wpAny_of_eq hlk ?_)
    | (with_reducible refine wpAny_call_entry SB.slot (hT _) SB.entry ?_ (by rw [hne]; exact SB.args _ _))
    | (simp only [hn, hne, Bool.or_false, Bool.false_eq_true, if_false])
    | wp_step
    | dsimp only)
  refine codeAny_call_builtin SB.slot.plain SB.entry (SB.slot.check _ _ _ _ _ _ _ _ (hT _) (SB.args _ _) (SB.run hi ?_))
  dsimp only
  repeat (first | exact hq | wp_step)
theorem getMethod_super_b {id dt bt gid : String} {B : Builtin} (SB : SupBound id dt bt gid B) {so D x C : Addr} {l₀ l : List Value} {K : Frag} {name : Str} {pl : Sem Bool} {Q : Value × List Value → Shared → Prop}
    (hso : h.get? so = some { cls := .type "super", dict := none, data := .fields #[.ref D, .ref x, .ref C], slots := #[] }) (hno : Looks (model prog w) h (opaqueClassAbove (.ref C)) none)
    (hC : Looks (model prog w) h (mroOf (.ref C)) l₀) (hl : (l₀.dropWhile (· != .ref D)).drop 1 = l) (X : K.In h)
    (hf : alongIn K name l = some (some (.builtin id))) (hi : Looks (model prog w) h (isInstance (.ref x) (.type "list")) true) (hxC : x ≠ C) (hn : (name == ("__class__" : Str)) = false)
    (hq : Q (.ref h.objs.size, []) ⟨h.push { cls := .type bt, data := .fields #[.builtin id, .ref x] }, g, d, t + 1, os⟩) :
    wpAny (model prog w) A (getMethod (.ref so) name pl) Q E ⟨h, g, d, t, os⟩ := by
  have hlk := F.ks_slot_super_ga.lookup
  have hcan := F.ks_canon_super_ga
  have hT : ∀ t', (⟨h, g, d, t', os⟩ : Shared).TypeIs (.ref so) "super" := fun _ => ⟨_, hso, rfl⟩
  unfold getMethod
  refine wpAny_bind (wpAny_specialOf (hT _) hlk ?_)
  show wpAny _ _ (if (Manifest.canonical "super.__getattribute__" != "object.__getattribute__") = true then _ else _) _ _ _
  rw [if_pos hcan]
  unfold getAttr getAttrBy
  refine wpAny_bind (wpAny_bind (wpAny_mkText (wpAny_holding (wpAny_bind (wpAny_typeOf (hT _) (wpAny_bind (wpAny_of_eq hlk ?_)))))))
  show wpAny _ _ (getAttrByItsOwn (.ref so) (.str name t) (.type "super") (.builtin "super.__getattribute__") true false) _ _ _
  unfold getAttrByItsOwn hookBefore callGetattribute boundAndCalled
  refine wpAny_bind (wpAny_of_eq (show (if onTheHeap (.type "super") then typeLookup (.type "super") "__getattr__" else pure none) = pure none from rfl) ?_)
  refine wpAny_bind (wpAny_attempt (wpAny_holding ?_))
  show wpAny _ _ (bindSpecial (.builtin "super.__getattribute__") (.ref so) >>= _) _ _ _
  refine wpAny_bind (wpAny_of_eq (F.ks_slot_super_ga.bind _) ?_)
  refine wpAny_mono (Q := fun v s' => v = .ref h.objs.size ∧ s' = ⟨h.push { cls := .type bt, data := .fields #[.builtin id, .ref x] }, g, d, t + 1, os⟩) (E := fun _ _ => False)
    (wpAny_call_entry F.ks_slot_super_ga (hT _) F.ks_entry_super_ga (super_ga_b SB hso hno hC hl X hf hi hxC hn ⟨_, rfl, rfl, rfl⟩) (F.ks_gaArgs_super _ _)) (fun v s' hv => ?_) fun _ _ z => z.elim
  obtain ⟨rfl, rfl⟩ := hv
  exact wpAny_pure (wpAny_pure hq)
end
section
variable {prog : Program} {w : World} {A : Around} {E : Value → Shared → Prop} {s : Shared}
theorem callWith_bnd {M : Model} {b x : Addr} {id bt : String} {pos : Pos} {env : Env} {Q : Value → Shared → Prop} (hbt : bt = "builtin_function_or_method" ∨ bt = "method-wrapper")
    (hb : s.heap.get? b = some { cls := .type bt, data := .fields #[.builtin id, .ref x] }) (hc : wpAny M A (call (.ref b) []) Q E s) :
    wpAny M A (callWith pos (.ref b) [] (backTo pos (starEach [] env)) []) Q E s := by
  unfold callWith
  refine wpAny_bind (wpAny_holding (wpAny_mono (Q := fun a s₁ => a = ⟨[], []⟩ ∧ s₁ = s) (evalArgs_nil3 ⟨rfl, rfl⟩) (fun a s₁ h₁ => wpAny_bind (wpAny_standAt ?_)) fun _ _ x => x))
  obtain ⟨rfl, rfl⟩ := h₁
  refine wpAny_bind (m := keeperOf (.ref b)) ?_
  unfold keeperOf
  refine wpAny_bind (wpAny_load hb ?_)
  dsimp only
  rw [if_pos (by rcases hbt with rfl | rfl <;> decide), if_pos (by rcases hbt with rfl | rfl <;> decide)]
  refine wpAny_pure ?_
  exact wpAny_bind (wpAny_mono hc (fun r s₂ hr => wpAny_bind (wpAny_holding (wpAny_point (wpAny_pure hr)))) fun _ _ x => x)
theorem call_bnd {b x : Addr} {id bt : String} {B : Builtin} {Q : Value → Shared → Prop} (hbt : bt = "builtin_function_or_method" ∨ bt = "method-wrapper")
    (hb : s.heap.get? b = some { cls := .type bt, data := .fields #[.builtin id, .ref x] }) (hp : plainId id = true) (he : entryFor table id = some B)
    (hck : ∀ Q' : Unit → Shared → Prop, Q' () s → wpAny (model prog w) A.in1 (checkBoundCall id ⟨[.ref x], []⟩) Q' E s)
    (h : wpAny (model prog w) A.in1 (B ⟨[.ref x], []⟩) (Back (model prog w) A Q E) E s) : wpAny (model prog w) A (call (.ref b) []) Q E s := by
  refine wpAny_call (codeAny_of_tree ?_)
  show wpAny _ A.in1 (callAny (.ref b) _) _ _ _
  unfold callAny
  refine wpAny_bind (wpAny_load hb ?_)
  dsimp only
  rw [if_pos (by rcases hbt with rfl | rfl <;> decide)]
  show wpAny _ _ (if (Value.type bt != .type "method") = true then _ else _) _ _ _
  rw [if_pos (by rcases hbt with rfl | rfl <;> decide)]
  refine wpAny_bind (hck _ ?_)
  refine wpAny_pure ⟨plainId_quiet hp _, codeAny_builtin he ?_⟩
  rw [Around.under_plainId hp _]
  exact h
theorem boundCheck_slot {x : Addr} {id : String} (hk : builtinKind id = some .slot) (ha : argsOk id ⟨[.ref x], []⟩) {M : Model} {Q : Unit → Shared → Prop} (q : Q () s) : wpAny M A (checkBoundCall id ⟨[.ref x], []⟩) Q E s := by
  unfold checkBoundCall
  unfold argsOk at ha
  cases hsig : Manifest.signature? id with
  | none => exact wpAny_pure q
  | some sig =>
    rw [hsig] at ha
    dsimp only
    rw [hk]
    dsimp only
    rw [if_pos (by decide)]
    have h2 : Bind.checkArgs id sig ⟨[.ref x], []⟩ = pure () := ha
    rw [h2]
    exact wpAny_pure q
end
end Mine
end
section
open PySem PySem.W PySem.Calls PyProof.Rows
set_option maxRecDepth 100000
set_option linter.unusedVariables false
namespace Mine
variable [Ban]
set_option linter.unusedSectionVars false
structure SupOk (G : GC) (C : Addr) (cd : ClassData) (f : Addr) (fd : FuncData) (body : List Stmt) : Prop where
  ex : ∃ oc od osl cc cda vs file tf ccl cdd ccs cl cld csl, G.K.lookup f = some ⟨oc, od, .func fd, osl⟩ ∧ fd.closure = [(("__class__" : Str), cc)] ∧ fd.code = .ref cda ∧ G.K.lookup cda = some ⟨ccl, cdd, .fields vs, ccs⟩ ∧ vs[2]? = some (.str file tf) ∧ ((G.prog.main.file : Str) == file) = true ∧
    G.K.lookup cc = some ⟨cl, cld, .cell (some (.ref C)), csl⟩
  body : fd.body = .stmts body
  code : codeIn G.K fd.code fd.qualname = true
  glob : fd.globals = mainGlobals
  bui : fd.builtins = builtinsNs
  first : ∃ ar, (fd.params.posonlyargs ++ fd.params.args).head? = some ar ∧ ar.arg = "self"
  co : fd.scope.isCoroutine = false
  gen : fd.scope.isGenerator = false
  kind : fd.scope.kind = .function
  nocell : ∀ x ∈ fd.scope.names, x.2 ≠ .cell
  sup : fd.scope.names.lookup ("super" : Str) = some .globalImplicit
  cls : fd.scope.names.lookup ("__class__" : Str) = some .free
  self : fd.scope.names.lookup ("self" : Str) = some .local
  gsup : G.mg "super" = none
  bsup : G.mb "super" = some (.type "super")
  top : (G.prog.main.scope.names.lookup ("super" : Str)).isSome = false
  sub : mroIn G.K C (.ref C) = some true
  nomod : mroIn G.K C (.type "module") = some false
  typ : typeIn G.K (.ref C) = some (.type "type")
section
variable {G : GC} {d : Nat} {A : Around} {E : Value → Shared → Prop}
theorem boundCheck_pop {s : Shared} {K : Frag} {x C : Addr} {ox : Obj} {od : Option Obj} {cd : ClassData} {M : Model} (X : K.In s.heap) (I : InstAt s.heap x ox C od) (hc : clsIn K C = some cd) (hmod : mroIn K C (.type "module") = some false) (ht : typeIn K (.ref C) = some (.type "type"))
    (hck : ∀ sig, Manifest.signature? "list.pop" = some sig → Bind.checkArgs "list.pop" { sig with full := s!"{cd.qualname.toString}.{Bind.lastOf "list.pop"}" } ⟨[.ref x], []⟩ = pure ()) {Q : Unit → Shared → Prop} (q : Q () s) : wpAny M A (checkBoundCall "list.pop" ⟨[.ref x], []⟩) Q E s := by
  obtain ⟨h, g, dd, t, os⟩ := s
  unfold checkBoundCall
  cases hsig : Manifest.signature? "list.pop" with
  | none => exact wpAny_pure q
  | some sig =>
    dsimp only
    rw [kinds_list.1.2]
    dsimp only
    rw [if_neg (by decide)]
    have L1 : Looks M h (isInstance (.ref x) (.type "module")) false := I.type.andThen (looks_mroIn X hmod)
    refine wpAny_bind (L1.at ?_)
    have hv : (Manifest.varargsMethods.contains "list.pop" || false) = false := by decide +kernel
    rw [if_neg (by rw [hv]; decide)]
    have nc : ∀ c, ox.data ≠ .cls c := fun c e => by
      have := I.no
      unfold notCls at this
      rw [e] at this
      exact Bool.noConfusion this
    refine wpAny_bind (ks_wpAny_isType_inst I.at_ nc ?_)
    rw [if_neg (by decide)]
    have L2 := I.type (M := M)
    refine wpAny_bind (L2.at ?_)
    dsimp only
    have L3 := looks_clsIn (M := M) X hc
    refine wpAny_bind (L3.at ?_)
    have L4 := looks_typeIn (M := M) X ht
    refine wpAny_bind (L4.at ?_)
    rw [if_pos (by decide), hck sig hsig]
    exact wpAny_pure q
theorem super_call (O : GOk G) {C : Addr} {cd : ClassData} (AC : AccCls G.K C cd) {f : Addr} {fd : FuncData} {body : List Stmt} (SO : SupOk G C cd f fd body) {id dt bt gid : String} {B BB : Builtin} {name : Str} (SB : SupBound id dt bt gid BB)
    (hbt : bt = "builtin_function_or_method" ∨ bt = "method-wrapper") (hplain : plainId id = true) (hentry : entryFor table id = some B) (hn : (name == ("__class__" : Str)) = false)
    (hop : nsIn G.K cStatics "thirdparty.any" = some none) (halong : ks_superIn G.K C C name = some (some (.builtin id)))
    {s : Shared} {β : Lay} {σ : List PO} {i : Nat} {x : Addr} {fs l : List PV} {L : Addr} {m : Str → Option Value} {p0 p1 p2 p3 : Pos} (R : Rel G s.heap β σ) (X : VR s.heap β (.ref i) (.ref x)) (ei : σ[i]? = some (.acc C fs l))
    (hm : s.heap.Ns L m) (hself : m "self" = some (.ref x)) {c : Code} (hcode : c = .func body (callEnv fd L f)) (hp : (p2.endLine == p3.line) = true)
    (hck : ∀ (s' : Shared), G.K.In s'.heap → (∃ ox od, InstAt s'.heap x ox C od) → ∀ Q' : Unit → Shared → Prop, Q' () s' → wpAny G.M A.in1 (checkBoundCall id ⟨[.ref x], []⟩) Q' E s')
    {Q : Value → Shared → Prop}
    (h : ∀ h' tk, (∀ b o, s.heap.get? b = some o → h'.get? b = some o) → wpAny G.M A.in1 (B ⟨[.ref x], []⟩) (Back G.M A Q E) E { s with heap := h', toks := tk }) :
    PySem.wpAt G.M A c (eval (.Call (.Attribute (.Call (.Name "super" p0) [] [] p1) name p2) [] [] p3) (callEnv fd L f)) Q E s := by
  subst hcode
  obtain ⟨oc, od, osl, cc, cda, vs, file, tf, ccl, cdd, ccs, cl, cld, csl, e1, e2, e3, e4, e5, e6, e7⟩ := SO.ex
  obtain ⟨ar, a1, a2⟩ := SO.first
  have XK := R.base.K O
  obtain ⟨q, es, n, ws, kw, hx, hq, hg, W, I⟩ := acc_of R X ei
  cases hx
  have e : eval (.Call (.Attribute (.Call (.Name "super" p0) [] [] p1) name p2) [] [] p3) (callEnv fd L f) = (do
      let ov ← attributeBase (.Call (.Name "super" p0) [] [] p1) name (callEnv fd L f) (eval (.Call (.Name "super" p0) [] [] p1) (callEnv fd L f))
      standAt p2.atName
      methodCall (.Call (.Name "super" p0) [] [] p1) name p2 p3 (callEnv fd L f) ov 0 (backTo p3 (starEach [] (callEnv fd L f))) []) := rfl
  have m0 : ∀ ov, methodCall (.Call (.Name "super" p0) [] [] p1) name p2 p3 (callEnv fd L f) ov 0 (backTo p3 (starEach [] (callEnv fd L f))) [] = (do
      let (f', first) ← holding [ov] (getMethod ov name (do return (← importBound (.Call (.Name "super" p0) [] [] p1) (callEnv fd L f)).getD true))
      callWith p3 f' first (backTo p3 (starEach [] (callEnv fd L f))) []) := by
    intro ov
    unfold methodCall calleeOf methodCallPos
    rw [hp]
    rfl
  rw [e]
  simp only [m0]
  obtain ⟨hh, g, dd, t, os⟩ := s
  have hC : hh.get? C = some ⟨.type "type", none, .cls cd, #[]⟩ ∨ ∃ oD, hh.get? C = some oD ∧ oD.data = .cls cd := by
    right
    have hc := AC.P.cls
    unfold clsIn at hc
    split at hc
    · rename_i c' d' cd' sl ho
      cases hc
      exact ⟨_, XK _ _ ho, rfl⟩
    · cases hc
  obtain ⟨oD, hD1, hD2⟩ : ∃ oD, hh.get? C = some oD ∧ oD.data = .cls cd := by
    rcases hC with h1 | h1
    · exact ⟨_, h1, rfl⟩
    · exact h1
  have hxC : q.1 ≠ C := ks_ne XK I AC.P.cls
  have hks : (callEnv fd L f).kindOf "super" = some .globalImplicit := SO.sup
  have hkc : (callEnv fd L f).kindOf "__class__" = some .free := SO.cls
  have hka : (callEnv fd L f).kindOf "self" = some .local := SO.self
  refine PySem.wpAt_bind (ks_wpAt_super_base (env := callEnv fd L f) hks hkc hn rfl (XK _ _ e1) rfl a1 e3 (XK _ _ e4) rfl e5 e6 SO.top ?_)
  refine ks_loadName_global SO.kind hks (loadGlobal_builtin (env := callEnv fd L f) (by rw [show (callEnv fd L f).globals = mainGlobals from SO.glob]; exact R.base.globals O) SO.gsup (by rw [show (callEnv fd L f).builtins = builtinsNs from SO.bui]; exact R.base.builtins O) SO.bsup ⟨rfl, ?_⟩)
  refine wpAny_loadName_free SO.kind hkc (by show fd.closure.lookup _ = _; rw [e2]; rfl) ⟨_, XK _ _ e7, rfl⟩ ?_
  rw [a2]
  refine wpAny_loadName_local SO.kind hka hm hself ?_
  refine ks_wpAny_isType_cls hD1 hD2 ⟨rfl, ?_⟩
  refine ks_wpAny_call_super hD1 hD2 I.at_ I.cls (fun c e => ?_) (looks_mroIn XK SO.sub) (fun h' e k => ?_)
  · have := I.no
    unfold notCls at this
    rw [e] at this
    exact Bool.noConfusion this
  · refine PySem.wpAt_of_wpAny ?_
    refine wpAny_bind (wpAny_standAt (wpAny_bind (wpAny_holding ?_)))
    have X' : G.K.In h' := XK.keeps k
    have I' : InstAt h' q.1 ⟨.ref C, some q.2, .seq ws kw, #[]⟩ C (some (dictOf es n)) := ⟨k _ _ I.at_, rfl, rfl, k _ _ I.dict⟩
    unfold ks_superIn at halong
    rw [AC.P.cls] at halong
    refine getMethod_super_b SB e (looks_opaque X' hop) (l₀ := cd.mro) (fun A Q E s k' q' => wpAny_bind ((looks_clsIn X' AC.P.cls) A _ E s k' (wpAny_pure q'))) rfl X' halong (isL_looks (s := ⟨h', g, dd, t, os⟩) X' I' AC.isL) hxC hn ?_
    dsimp only
    refine callWith_bnd hbt (Heap.get?_push_size _ rfl) ?_
    have k2 : ∀ b o, h'.get? b = some o → (h'.push { cls := .type bt, data := .fields #[.builtin id, .ref q.1] }).get? b = some o := fun b o e => Heap.get?_push_of_some _ e
    refine call_bnd hbt (Heap.get?_push_size _ rfl) hplain hentry (hck _ (X'.keeps k2) ⟨_, some (dictOf es n), ⟨k2 _ _ I'.at_, rfl, rfl, k2 _ _ I'.dict⟩⟩) ?_
    exact h _ _ fun b o e => k2 b o (k b o e)
end
end Mine
end
section
open PySem PySem.W PySem.Calls PyProof.Rows
set_option maxRecDepth 100000
set_option linter.unusedVariables false
namespace Mine
variable [Ban]
set_option linter.unusedSectionVars false
def countF (C : Addr) : CF
  | [.ref k], σ => match σ[k]? with
    | some (.acc C' fs l) => if C' = C ∧ szOk l.length = true then some (.int l.length, σ) else none
    | _ => none
  | _, _ => none
def popF (C : Addr) : CF
  | [.ref k], σ => match σ[k]? with
    | some (.acc C' fs l) => if C' = C ∧ szOk l.length = true then match l.getLast? with
      | some p => some (p, σ.set k (.acc C fs l.dropLast))
      | none => some (.tup [.str "", .str ""], σ)
      else none
    | _ => none
  | _, _ => none
def initF (C : Addr) (j : Nat) : CF
  | [.ref k, p], σ => match putField C j k p σ with
    | some σ₁ => match σ₁[k]? with
      | some (.acc C' fs l) => if C' = C ∧ szOk l.length = true then some (.none, σ₁.set k (.acc C fs [])) else none
      | _ => none
    | none => none
  | _, _ => none
section
variable {G : GC} {d : Nat}
theorem frm_plain {h : Heap} {β : Lay} {σ : List PO} {s : Heap} {fd : FuncData} {L f : Addr} {binds : List (Str × Value)} {ρ : List (Option PV)} (R : Rel G s β σ) (hL : s.get? L = none) (hk : ∀ b o, s.get? b = some o → h.get? b = some o)
    (kind : fd.scope.kind = .function) (glob : fd.globals = mainGlobals) (bui : fd.builtins = builtinsNs) (nocell : ∀ x ∈ fd.scope.names, x.2 ≠ .cell) (hns : h.Ns L (fun y => binds.reverse.lookup y))
    (hv : ∀ (i : Nat) x pv, fd.scope.names[i]? = some (x, .local) → ρ[i]? = some (some pv) → ∃ v, binds.reverse.lookup x = some v ∧ VR h β pv v) : Frm G h β (callEnv fd L f) ρ := by
  have noc : ∀ x, (callEnv fd L f).kindOf x ≠ some .cell := fun x e => nocell _ (mem_of_lookup (show fd.scope.names.lookup x = some .cell from e)) rfl
  refine ⟨kind, glob, bui, ⟨_, hns, hv⟩, fun i x pv e _ => absurd rfl (nocell _ (List.mem_of_getElem? e)), ⟨(dead_own R hL).1, (dead_own R hL).2, soft_dict hns⟩, fun x c e => absurd e (noc x), fun x e => absurd e (noc x), fun x y c e => absurd e (noc x)⟩
theorem count_ok (O : GOk G) {C : Addr} {cd : ClassData} (AC : AccCls G.K C cd) {f : Addr} {fd : FuncData} {p0 p1 p2 p3 p4 : Pos} (SO : SupOk G C cd f fd [.Return (some (.Call (.Attribute (.Call (.Name "super" p0) [] [] p1) "__len__" p2) [] [] p3)) p4])
    (hop : nsIn G.K cStatics "thirdparty.any" = some none) (halong : ks_superIn G.K C C "__len__" = some (some (.builtin "list.__len__"))) (hp : (p2.endLine == p3.line) = true) (hbind : ∀ v, bindArgs fd ⟨[v], []⟩ = pure [(("self" : Str), v)]) :
    SCall G (d + 1) (.ref f) (countF C) := by
  intro A s β σ l vs pv σ' hA R V e Q E h
  unfold countF at e
  split at e
  · rename_i k
    split at e
    · rename_i C' fs l el
      split at e
      · rename_i hc
        obtain ⟨rfl, hz⟩ := hc
        cases e
        obtain ⟨x, rfl, X⟩ := V.one'
        obtain ⟨q, es, n, ws, kw, rfl, hq, hg, W, I⟩ := acc_of R X el
        obtain ⟨oc, od, osl, cc, cda, vs, file, tf, ccl, cdd, ccs, cl, cld, csl, e1, e2, e3, e4, e5, e6, e7⟩ := SO.ex
        have XK := R.base.K O
        refine wpAny_call (ks_codeAny_call_defAt hA.room (XK _ _ e1) rfl (R.base.nolimit O) (codeRec_of XK SO.code) SO.body (BindsTo.of_eq (hbind _)) SO.nocell (fun y hy => by rw [List.mem_singleton.mp hy]; exact SO.self) (fun h₁ hns hk => ?_) SO.co SO.gen SO.kind)
        have R1 : Rel G h₁ β σ := R.keeps hk
        have S1 : Step G s.heap β h₁ β := Step.keeps hk
        refine ks_wpAt_execs_cons (ks_wpAt_Return_some ?_)
        refine super_call (s := { s with heap := h₁, toks := s.toks + ([(("self" : Str), Value.ref q.1)] : List _).length }) O AC SO sup_len (.inr rfl) slot_list_len.plain entry_list_len (by decide) hop halong R1 (S1.vr X) el hns rfl rfl hp
          (fun s' _ _ Q' q' => boundCheck_slot kinds_list.2.2.1 (args_list_len _) q') fun h' tk k' => ?_
        have hl : ws.size = l.length := by rw [← Array.length_toList, W.length]
        show wpAny _ _ (do retInt (← seqSize q.1)) _ _ _
        unfold seqSize
        refine wpAny_bind (wpAny_bind (wpAny_load (k' _ _ (hk _ _ hg)) ?_))
        refine wpAny_pure (wpAny_bind (wpAny_mkInt (wpAny_pure ?_)))
        have kk : ∀ b o, s.heap.get? b = some o → h'.get? b = some o := fun b o e => k' b o (hk b o e)
        rw [hl]
        exact h _ _ β (Step.keeps kk) (R.keeps kk) ⟨_, rfl⟩ (Sh.mk' ..)
      · cases e
    · cases e
  · cases e
theorem init_ok (O : GOk G) {C : Addr} {cd : ClassData} (AC : AccCls G.K C cd) {j : Nat} (KA : AttrOk G C cd j "_initial_size") {f : Addr} {fd : FuncData} {q0 q1 q2 q3 p0 p1 p2 p3 p4 : Pos}
    (SO : SupOk G C cd f fd [.Assign [.Attribute (.Name "self" q0) "_initial_size" q1] (.Name "initial_size" q2) q3, .Expr (.Call (.Attribute (.Call (.Name "super" p0) [] [] p1) "__init__" p2) [] [] p3) p4])
    (hop : nsIn G.K cStatics "thirdparty.any" = some none) (halong : ks_superIn G.K C C "__init__" = some (some (.builtin "list.__init__"))) (hp : (p2.endLine == p3.line) = true) (hbind : ∀ (s : Shared) v w, G.K.In s.heap → BindsTo s fd ⟨[v, w], []⟩ [(("self" : Str), v), (("initial_size" : Str), w)])
    (OS : ScopeOk fd.scope) (h0 : fd.scope.names[(0 : Nat)]? = some (("self" : Str), NameKind.local)) (h1 : fd.scope.names[(1 : Nat)]? = some (("initial_size" : Str), NameKind.local)) (h2 : fd.scope.names.length ≤ 4) :
    SCall G (d + 1) (.ref f) (initF C j) := by
  intro A s β σ l vs pv σ' hA R V e Q E h
  unfold initF at e
  split at e
  · rename_i k p
    split at e
    · rename_i σ₁ ep
      split at e
      · rename_i C' fs l el
        split at e
        · rename_i hc
          obtain ⟨rfl, hz⟩ := hc
          cases e
          obtain ⟨x, w, rfl, X, Wp⟩ := V.two'
          obtain ⟨oc, od, osl, cc, cda, vs, file, tf, ccl, cdd, ccs, cl, cld, csl, e1, e2, e3, e4, e5, e6, e7⟩ := SO.ex
          have XK := R.base.K O
          refine wpAny_call (ks_codeAny_call_defAt hA.room (XK _ _ e1) rfl (R.base.nolimit O) (codeRec_of XK SO.code) SO.body (hbind _ _ _ XK) SO.nocell (fun y hy => by
            rcases List.mem_cons.mp hy with rfl | hy
            · exact SO.self
            · rw [List.mem_singleton.mp hy]; exact kind_at OS.nodup 1 _ _ h1) (fun h₁ hns hk => ?_) SO.co SO.gen SO.kind)
          have R1 : Rel G h₁ β σ := R.keeps hk
          have S1 : Step G s.heap β h₁ β := Step.keeps hk
          have F1 : Frm G h₁ β (callEnv fd s.heap.objs.size f) [some (.ref k), some p] := frm_plain R (heap_fresh _) hk SO.kind SO.glob SO.bui SO.nocell hns fun i y pv ey er => by
            match i with
            | 0 => rw [h0] at ey; cases ey; cases er; exact ⟨x, rfl, S1.vr X⟩
            | 1 => rw [h1] at ey; cases ey; cases er; exact ⟨w, rfl, S1.vr Wp⟩
            | i + 2 => cases er
          refine ks_wpAt_execs_cons ?_
          have st := SS.asg (G := G) (d := d) (p := q3) OS (SE.local_ (p := q2) h1 (kind_at OS.nodup 1 _ _ h1) (by decide)) (SAx.attr (X := Vars) (p := q1) O OS KA (SE.local_ (p := q0) h0 (kind_at OS.nodup 0 _ _ h0) (by decide))) (fun _ => rfl) (fun _ => rfl) (fun _ => rfl)
          refine PySem.wpAt_of_wpAny (st (callEnv fd s.heap.objs.size f) _ _ β _ σ .next [some (.ref k), some p] σ₁ rfl hA.deeper R1 F1 (by
            unfold fAsg eVar aAttr
            simp only [List.getElem?_cons_succ, List.getElem?_cons_zero]
            rw [ep]) _ _ fun v s₂ β₂ S2 R2 F2 L2 H2 => ?_)
          rw [show v = .next from L2]
          obtain ⟨m2, hn2, hm2⟩ := F2.ns
          obtain ⟨xv, hx2, X2⟩ := hm2 0 "self" (.ref k) h0 rfl
          obtain ⟨q, es, n, ws, kw, rfl, hq, hg, W, I⟩ := acc_of R2 X2 el
          refine ks_wpAt_execs_cons (ks_wpAt_Expr_any ?_ (by unfold interactive; rw [show (callEnv fd s.heap.objs.size f).scope.kind = .function from SO.kind]; rfl))
          refine super_call (s := s₂) O AC SO sup_init (.inr rfl) PySem.F.slot_list_init.plain PySem.F.entry_list_init (by decide) hop halong R2 X2 el hn2 hx2 rfl hp
            (fun s' _ _ Q' q' => boundCheck_slot kinds_list.2.2.2.1 (PySem.F.args_list_init_1 _) q') fun h' tk k' => ?_
          have hg' := k' _ _ hg
          have hl : ws.size = l.length := by rw [← Array.length_toList, W.length]
          have hsz : ws.size ≤ sizeLine := by rw [hl]; exact sz_of hz
          refine wpAny_bind ?_
          unfold Builtin.List.listItems
          refine wpAny_bind (wpAny_seqItems hg' rfl (wpAny_pure ?_))
          show wpAny _ _ (updateSeq q.1 (fun _ => #[]) >>= _) _ _ _
          refine wpAny_bind (wpAny_updateSeq hg' rfl ?_ hsz (by simp))
          refine wpAny_bind (wpAny_letGo ?_)
          refine wpAny_pure ?_
          have R3 : Rel G h' β₂ σ₁ := R2.keeps k'
          have S3 : Step G s₂.heap β₂ h' β₂ := Step.keeps k'
          obtain ⟨S4, R4⟩ := acc_turn R3 hq el (Heap.SameBut.update ..) (vs' := #[]) (m := if ((#[] : Array Value).size == ws.size) = true then kw else kw + 1) (by
            rw [Heap.get?_update_self (Obj.mapSeq fun _ => #[]) hg' (by simp [Obj.mapSeq, Obj.isFreed])]
            simp only [Obj.mapSeq]) (l' := []) rfl
          have L0 : s.heap.get? s.heap.objs.size = none := heap_fresh _
          have S12 : Step G s.heap β s₂.heap β₂ := ((S1.toX (X := Vars (callEnv fd s.heap.objs.size f))).trans S2).toStep fun b o eb z => by
            rcases z with z | ⟨y, c1, c2⟩
            · rw [z] at eb
              exact absurd eb (by rw [show (callEnv fd s.heap.objs.size f).locals = s.heap.objs.size from rfl, L0]; simp)
            · exact SO.nocell _ (mem_of_lookup (show fd.scope.names.lookup y = some .cell from c1)) rfl
          exact PySem.wpAt_of_wpAny (wpAny_execs_nil (h _ _ β₂ ((S12.trans S3).trans S4) R4 rfl ((Sh.mk' ..).trans (H2.trans (Sh.mk' ..)))))
        · cases e
      · cases e
    · cases e
  · cases e
theorem pop_ok (O : GOk G) {C fC : Addr} {cd : ClassData} (AC : AccCls G.K C cd) {f : Addr} {fd : FuncData} {q0 q1 q2 q3 q4 q5 q6 q7 q8 q9 p0 p1 p2 p3 p4 : Pos} {k1 k2 k3 k4 : Nat}
    (SO : SupOk G C cd f fd [.If (.Compare (.Call (.Attribute (.Name "self" q0) "part_count" q1) [] [] q2) [.Eq] [.Constant (.int 0) k1 q3] q4) [.Return (some (.Tuple [.Constant (.str "") k2 q5, .Constant (.str "") k3 q6] k4 q7)) q8] [] q9,
      .Return (some (.Call (.Attribute (.Call (.Name "super" p0) [] [] p1) "pop" p2) [] [] p3)) p4])
    (hop : nsIn G.K cStatics "thirdparty.any" = some none) (halong : ks_superIn G.K C C "pop" = some (some (.builtin "list.pop"))) (hp : (p2.endLine == p3.line) = true) (hp2 : (q1.endLine == q2.line) = true) (hbind : ∀ v, bindArgs fd ⟨[v], []⟩ = pure [(("self" : Str), v)])
    (OS : ScopeOk fd.scope) (h0 : fd.scope.names[(0 : Nat)]? = some (("self" : Str), NameKind.local)) (hfc : findIn G.K (.ref C) "part_count" = some (some (.ref fC))) (htc : typeIn G.K (.ref fC) = some (.type "function")) (hnc : ("part_count" : Str) ∉ G.flds C) (hkc : keepIn G.K (.ref fC) = true)
    (cc : SCall G (d + 1) (.ref fC) (countF C))
    (hck : ∀ x : Addr, ∀ sig, Manifest.signature? "list.pop" = some sig → Bind.checkArgs "list.pop" { sig with full := s!"{cd.qualname.toString}.{Bind.lastOf "list.pop"}" } ⟨[.ref x], []⟩ = pure ()) :
    SCall G (d + 2) (.ref f) (popF C) := by
  intro A s β σ l vs pv σ' hA R V e Q E h
  unfold popF at e
  split at e
  · rename_i k
    split at e
    · rename_i C' fs l el
      split at e
      · rename_i hc
        obtain ⟨rfl, hz⟩ := hc
        obtain ⟨x, rfl, X⟩ := V.one'
        obtain ⟨oc, od, osl, ccl', cda, vs, file, tf, ccl, cdd, ccs, cl, cld, csl, e1, e2, e3, e4, e5, e6, e7⟩ := SO.ex
        have XK := R.base.K O
        refine wpAny_call (ks_codeAny_call_defAt hA.room (XK _ _ e1) rfl (R.base.nolimit O) (codeRec_of XK SO.code) SO.body (BindsTo.of_eq (hbind _)) SO.nocell (fun y hy => by rw [List.mem_singleton.mp hy]; exact SO.self) (fun h₁ hns hk => ?_) SO.co SO.gen SO.kind)
        have R1 : Rel G h₁ β σ := R.keeps hk
        have S1 : Step G s.heap β h₁ β := Step.keeps hk
        have F1 : Frm G h₁ β (callEnv fd s.heap.objs.size f) [some (.ref k)] := frm_plain R (heap_fresh _) hk SO.kind SO.glob SO.bui SO.nocell hns fun i y pv ey er => by
          match i with
          | 0 => rw [h0] at ey; cases ey; cases er; exact ⟨x, rfl, S1.vr X⟩
          | i + 1 => cases er
        have hA1 : Fit (A.deeper (callEnv fd s.heap.objs.size f)) (d + 1) := hA.deeper
        have L0 : s.heap.get? s.heap.objs.size = none := heap_fresh _
        refine ks_wpAt_execs_cons (ks_wpAt_If ?_)
        have tst := SC.cmp (G := G) (d := d + 1) (p := q4) OS (SE.meth (p := q2) (apos := q1) (name := "part_count") O OS (SE.local_ (p := q0) h0 (kind_at OS.nodup 0 _ _ h0) (by decide)) (SGet.own O AC.P hfc htc hnc) (.own hkc) SL.nil (fun _ => rfl) cc (fun env => ⟨_, eval_meth hp2 (fun _ => rfl) rfl⟩))
          (SE.int_ (i := 0) (k := k1) (p := q3)) (eqB_ok (n := 1) (by decide)) rfl
        refine PySem.wpAt_of_wpAny (tst (callEnv fd s.heap.objs.size f) _ _ β [some (.ref k)] σ (l.isEmpty) σ rfl hA1 R1 F1 ?_ _ _ fun s₂ β₂ S2 R2 H2 => ?_)
        · unfold cCmp eMeth eVar isA eNil eLit
          simp only [List.getElem?_cons_zero]
          rw [el]
          dsimp only [fieldsOfPO]
          rw [show (C' == C') = true from by simp]
          dsimp only
          unfold countF
          dsimp only
          rw [el]
          dsimp only
          rw [if_pos ⟨rfl, hz⟩]
          dsimp only
          unfold eqB
          rw [eqF]
          cases l <;> simp
          omega
        · cases hl : l with
          | nil =>
            rw [if_pos (by rfl)]
            subst hl
            cases e
            have F2 := F1.go OS rfl R1.base S2
            have tup := SE.tuple_ (G := G) (d := d + 1) (sc := fd.scope) (k := k4) (p := q7) (SL.cons OS (SE.str_ (x := "") (k := k2) (p := q5)) (SL.cons OS (SE.str_ (x := "") (k := k3) (p := q6)) SL.nil (fun _ => rfl)) (fun _ => rfl))
            refine ks_wpAt_execs_cons (ks_wpAt_Return_some (PySem.wpAt_of_wpAny (tup (callEnv fd s.heap.objs.size f) _ s₂ β₂ [some (.ref k)] σ _ σ rfl hA1 R2 F2 rfl _ _ fun v s₃ β₃ S3 R3 V3 H3 => ?_)))
            exact h v s₃ β₃ ((S1.trans S2).trans S3) R3 V3 ((Sh.mk' ..).trans (H2.trans H3))
          | cons y r =>
            rw [if_neg (by simp)]
            refine PySem.wpAt_of_wpAny (wpAny_execs_nil ?_)
            have F2 := F1.go OS rfl R1.base S2
            obtain ⟨m2, hn2, hm2⟩ := F2.ns
            obtain ⟨xv, hx2, X2⟩ := hm2 0 "self" (.ref k) h0 rfl
            obtain ⟨q, es, n, ws, kw, rfl, hq, hg, W, I⟩ := acc_of R2 X2 el
            have hne : l ≠ [] := by rw [hl]; simp
            have hlast : l.getLast? = some (l.getLast hne) := List.getLast?_eq_some_getLast hne
            rw [hlast] at e
            cases e
            refine ks_wpAt_execs_cons (ks_wpAt_Return_some ?_)
            refine super_call (s := s₂) O AC SO sup_pop (.inl rfl) PySem.F.slot_list_pop.plain PySem.F.entry_list_pop (by decide) hop halong R2 X2 el hn2 hx2 rfl hp
              (fun s' X' I' Q' q' => by obtain ⟨ox, od, I'⟩ := I'; exact boundCheck_pop X' I' AC.P.cls SO.nomod SO.typ (hck _) q') fun h' tk k' => ?_
            have hg' := k' _ _ hg
            have hsl : ws.size = l.length := by rw [← Array.length_toList, W.length]
            have hlp : 0 < l.length := List.length_pos_iff.mpr hne
            have hsz : ws.size ≤ sizeLine := by rw [hsl]; exact sz_of hz
            have hpos : 0 < ws.size := by omega
            have hx : ws[ws.size - 1]? = some (ws[ws.size - 1]'(by omega)) := Array.getElem?_eq_getElem _
            obtain ⟨v, hv, rv⟩ := W.get (i := l.length - 1) (p := l.getLast hne) (by rw [List.getElem?_eq_getElem (by omega), List.getLast_eq_getElem])
            have hv' : ws[ws.size - 1]? = some v := by rw [hsl]; simpa using hv
            unfold Builtin.«list.pop»
            refine wpAny_bind (wpAny_of_eq (a := (Value.ref q.1, ([] : List Value))) rfl ?_)
            dsimp only
            refine wpAny_bind (wpAny_pure ?_)
            rw [if_neg (by decide)]
            unfold Builtin.List.listItems
            refine wpAny_bind (wpAny_bind (wpAny_seqItems hg' rfl (wpAny_pure ?_)))
            rw [if_neg (by unfold Array.isEmpty; rw [decide_eq_false (by omega)]; decide)]
            have hsi : seqIndex? (-1) ws.size = some (ws.size - 1) := by
              rw [PySem.seqIndex_neg (by omega) (by omega)]
              congr 1
              omega
            rw [hsi]
            simp only [Option.bind_some, hv', Option.map_some]
            show wpAny _ _ (updateSeq q.1 (·.eraseIdxIfInBounds (ws.size - 1)) >>= _) _ _ _
            refine wpAny_bind (wpAny_updateSeq hg' rfl ?_ hsz (by unfold Array.eraseIdxIfInBounds; rw [dif_pos (by omega)]; rw [Array.size_eraseIdx]; omega))
            refine wpAny_pure ?_
            have R3 : Rel G h' β₂ σ := R2.keeps k'
            have S3 : Step G s₂.heap β₂ h' β₂ := Step.keeps k'
            have hers : (ws.eraseIdxIfInBounds (ws.size - 1)).toList = ws.toList.dropLast := by
              unfold Array.eraseIdxIfInBounds
              rw [dif_pos (by omega), Array.toList_eraseIdx]
              rw [List.eraseIdx_eq_take_drop_succ, List.drop_of_length_le (by rw [Array.length_toList]; omega), List.append_nil, List.dropLast_eq_take, Array.length_toList]
            have W3 : VRs h' β₂ l.dropLast (ws.eraseIdxIfInBounds (ws.size - 1)).toList := by
              rw [hers, List.dropLast_eq_take, List.dropLast_eq_take]
              have := (S3.vrs W).take (l.length - 1)
              rw [show ws.toList.length - 1 = l.length - 1 by rw [Array.length_toList, hsl]]
              exact this
            obtain ⟨S4, R4⟩ := acc_turn R3 hq el (Heap.SameBut.update ..) (vs' := ws.eraseIdxIfInBounds (ws.size - 1)) (m := if ((ws.eraseIdxIfInBounds (ws.size - 1)).size == ws.size) = true then kw else kw + 1) (by
              rw [Heap.get?_update_self (Obj.mapSeq (·.eraseIdxIfInBounds (ws.size - 1))) hg' (by simp [Obj.mapSeq, Obj.isFreed])]
              simp only [Obj.mapSeq]) W3
            exact h v _ β₂ (((S1.trans S2).trans S3).trans S4) R4 ((S3.trans S4).vr rv) ((Sh.mk' ..).trans (H2.trans (Sh.mk' ..)))
      · cases e
    · cases e
  · cases e
end
end Mine
end
section
open PySem PySem.W PySem.Calls PyProof.Rows Builtin Builtin.ObjectAttr Builtin.Getset_descriptor
set_option maxRecDepth 100000
set_option linter.unusedVariables false
namespace Mine
variable [Ban]
set_option linter.unusedSectionVars false
abbrev accObj (C dx : Addr) : Obj := { cls := .ref C, dict := some dx, data := .seq #[] }
structure MakesL (M : Model) (h : Heap) (C : Addr) (K : Frag) : Prop where
  obj : ∃ oc od cd sl, h.get? C = some ⟨oc, od, .cls cd, sl⟩ ∧ cd.abstract = false ∧ cd.hasDel = false ∧ cd.mro.isEmpty = false
  made : Looks M h (Bind.madeBy (.ref C)) (some "list.__new__")
  base : Looks M h (Bind.staticBase (.ref C)) (.ref C)
  self : Looks M h (isSubtype (.ref C) (.ref C)) true
  lst : Looks M h (isSubtype (.ref C) (.type "list")) true
  call : Looks M h (specialOf (.ref C) "__call__") (some (.builtin "type.__call__"))
  typ : Looks M h (isInstance (.ref C) (.type "type")) true
def makesLIn (K : Frag) (C : Addr) : Bool := match K.lookup C with
  | some ⟨_, _, .cls cd, sl⟩ => !cd.abstract && !cd.hasDel && (sl.toList[4]?).join == some (.builtin "list.__new__") && !cd.mro.isEmpty && cd.mro.contains (.ref C) && cd.mro.contains (.type "list") &&
      specialIn K (.ref C) "__call__" == some (some (.builtin "type.__call__")) && instIn K (.ref C) (.type "type") == some true
  | _ => false
theorem makesL_of {K : Frag} {M : Model} {h : Heap} (X : K.In h) {C : Addr} (e : makesLIn K C = true) : MakesL M h C K := by
  unfold makesLIn at e
  split at e
  · rename_i oc od cd sl ho
    simp only [Bool.and_eq_true, Bool.not_eq_true', beq_iff_eq] at e
    obtain ⟨⟨⟨⟨⟨⟨⟨e1, e2⟩, e3⟩, e4⟩, e5⟩, e6⟩, e7⟩, e8⟩ := e
    have hc : clsIn K C = some cd := by unfold clsIn; rw [ho]
    have hm : Looks M h (mroOf (.ref C)) cd.mro := (looks_clsIn X hc).andThen .now
    obtain ⟨c, l, hl⟩ : ∃ c l, cd.mro = c :: l := by cases q : cd.mro with | nil => rw [q] at e4; cases e4 | cons c l => exact ⟨c, l, rfl⟩
    have made : Looks M h (Bind.madeBy (.ref C)) (some "list.__new__") := by
      intro A Q E s k q
      unfold Bind.madeBy
      refine wpAny_bind (hm A _ E s k ?_)
      rw [hl, List.forIn_cons]
      refine wpAny_bind (wpAny_bind (wpAny_bind (wpAny_bind (wpAny_loadPart (k _ _ (X _ _ ho)) (wpAny_pure ?_)))))
      dsimp only
      rw [← Array.getElem?_toList, e3]
      exact wpAny_pure (wpAny_pure (wpAny_pure q))
    refine ⟨⟨oc, od, cd, sl, X _ _ ho, e1, e2, e4⟩, made, ?_, looks_mroIn X ?_, looks_mroIn X ?_, looks_specialIn X e7, looks_instIn X e8⟩
    · intro A Q E s k q
      unfold Bind.staticBase
      refine wpAny_bind (hm A _ E s k ?_)
      rw [hl, List.forIn_cons]
      exact wpAny_bind (wpAny_bind (wpAny_bind (made A _ E s k (wpAny_pure (wpAny_pure (wpAny_pure q))))))
    · unfold mroIn; rw [hc, Option.bind_some, if_neg (by rw [e4]; decide), e5]
    · unfold mroIn; rw [hc, Option.bind_some, if_neg (by rw [e4]; decide), e6]
  · cases e
section
variable {prog : Program} {w : World} {A : Around} {K : Frag} {C : Addr} {R : Result → Shared → Prop} {h : Heap} {g : Array GenState} {d : Drawn} {t : Nat} {os : OsState} {E : Value → Shared → Prop}
theorem lnew_facts : splitId "list.__new__" = some ("list", "__new__") ∧ builtinKind "list.__new__" = some .builtinFn := by decide +kernel
theorem newL {rest : List Value} (Y : MakesL (model prog w) h C K) (ha : argsOk "list.__new__" ⟨.ref C :: rest, []⟩)
    (hq : R (.ok (.ret (.ref (h.objs.size + 1)))) ⟨(h.push emptyDict).push (accObj C h.objs.size), g, d, t, os⟩) :
    codeAny (model prog w) A (.call (.builtin "list.__new__") ⟨.ref C :: rest, []⟩) R ⟨h, g, d, t, os⟩ := by
  obtain ⟨⟨oc, od, cd, sl, hC, e1, e2, e4⟩, made, base, self, lst, call, typ⟩ := Y
  refine codeAny_call_builtin_code (plainId_quiet F.plain_list_new _) ?_
  simp only [checkBuiltinCall, lnew_facts.1, lnew_facts.2]
  rw [if_pos (by rfl)]
  refine wpAny_bind (ks_wpAny_isType_cls hC rfl ?_)
  rw [if_neg (by decide)]
  refine wpAny_bind (lst.at ?_)
  rw [if_neg (by decide)]
  refine wpAny_bind (base.at (wpAny_bind (made.at ?_)))
  dsimp only
  rw [if_neg (by simp)]
  have chk : ∀ {Q : Unit → Shared → Prop} {E : Value → Shared → Prop} {s : Shared}, Q () s → wpAny (model prog w) A.in1 (match Manifest.signature? "list.__new__" with | some sig => Bind.checkArgs "list.__new__" sig ⟨.ref C :: rest, []⟩ | _ => pure ()) Q E s := by
    intro Q E s q
    unfold argsOk at ha
    cases hsig : Manifest.signature? "list.__new__" with
    | none => exact wpAny_pure q
    | some sig =>
      rw [hsig] at ha
      have h2 : Bind.checkArgs "list.__new__" sig ⟨.ref C :: rest, []⟩ = pure () := ha
      dsimp only
      rw [h2]
      exact wpAny_pure q
  refine chk ?_
  refine codeAny_builtin_stack F.entry_list_new rfl fun p st => ?_
  rw [Around.under_plainId F.plain_list_new _]
  dsimp only
  rw [owner_list_new]
  refine wpAny_bind (ks_wpAny_isType_cls hC rfl ?_)
  rw [if_neg (by decide)]
  refine wpAny_bind (lst.at ?_)
  rw [if_neg (by decide)]
  refine wpAny_bind (wpAny_pure ?_)
  rw [if_neg (by simp [typeHasDict])]
  refine wpAny_bind (wpAny_newObj_type (hd := by size_fits) ?_)
  dsimp only
  refine wpAny_bind ?_
  unfold newObj
  dsimp only
  rw [if_neg (by decide)]
  show wpAny _ _ (newObjAsIs _ _ _) _ _ _
  unfold newObjAsIs classHasDel
  refine wpAny_bind (wpAny_alloc (wpAny_bind (wpAny_bind (wpAny_load (Heap.get?_push_of_some _ (Heap.get?_push_of_some _ hC)) (wpAny_pure ?_)))))
  rw [e2]
  refine wpAny_pure (wpAny_pure ?_)
  show R _ _
  rw [Heap.size_push]
  exact hq
theorem make_way {rest : List Value} {fI : Addr} {id : String} {o : Obj} {Q : Value → Shared → Prop} (hC : ∃ oc od cd sl, h.get? C = some ⟨oc, od, .cls cd, sl⟩ ∧ cd.mro.isEmpty = false)
    (made : Looks (model prog w) h (Bind.madeBy (.ref C)) (some id)) (self : Looks (model prog w) h (isSubtype (.ref C) (.ref C)) true) (call : Looks (model prog w) h (specialOf (.ref C) "__call__") (some (.builtin "type.__call__"))) (typ : Looks (model prog w) h (isInstance (.ref C) (.type "type")) true)
    (hi : Looks (model prog w) h (typeLookup (.ref C) "__init__") (some (.ref fI))) (hb : ∀ self, Looks (model prog w) h (bindSpecial (.ref fI) self) (.ref fI, [self])) (ho : o.cls = .ref C) (hfr : o.isFreed = false)
    (hnew : ∀ (A' : Around) (R : Result → Shared → Prop), R (.ok (.ret (.ref (h.objs.size + 1)))) ⟨(h.push emptyDict).push o, g, d, t, os⟩ → codeAny (model prog w) A' (.call (.builtin id) ⟨.ref C :: rest, []⟩) R ⟨h, g, d, t, os⟩)
    (hq : wpAny (model prog w) (A.under (.builtin "type.__call__" ⟨.ref C :: rest, []⟩)) (PySem.call (.ref fI) (.ref (h.objs.size + 1) :: rest)) (fun v s' => v = .none ∧ Q (.ref (h.objs.size + 1)) s') E ⟨(h.push emptyDict).push o, g, d, t, os⟩) :
    wpAny (model prog w) A (PySem.call (.ref C) rest) Q E ⟨h, g, d, t, os⟩ := by
  obtain ⟨oc, od, cd, sl, hC, e4⟩ := hC
  refine wpAny_call (codeAny_of_tree ?_)
  show wpAny _ _ (callAny (.ref C) _) _ _ _
  unfold callAny
  refine wpAny_bind (wpAny_load hC ?_)
  show wpAny _ _ (callAny.viaDunder (.ref C) _) _ _ _
  unfold callAny.viaDunder
  refine wpAny_bind (call.at ?_)
  dsimp only
  rw [tc_bind]
  refine wpAny_bind (wpAny_pure (wpAny_bind (wpAny_pure ?_)))
  rw [if_pos (by rfl)]
  refine wpAny_pure (a := Fin.again (.call (.builtin "type.__call__") ⟨.ref C :: rest, []⟩)) (And.intro rfl ?_)
  refine codeAny_call_builtin_at (Code.quiet_builtin _ (by decide +kernel)) entry_typeCall (check_slot tc_kind tc_split typ (tc_args _ _ _) ?_)
  unfold Builtin.«type.__call__»
  have hm : Looks (model prog w) h (mroOf (.ref C)) cd.mro := ((Looks.ld (part := none) hC).andThen .now).andThen .now
  dsimp only
  rw [if_neg (by simp)]
  refine wpAny_bind (hm.at ?_)
  rw [e4, if_neg (by decide)]
  refine wpAny_bind (made.at ?_)
  dsimp only
  refine wpAny_bind (wpAny_pure ?_)
  refine wpAny_bind (wpAny_holding (wpAny_call (hnew _ _ ?_)))
  dsimp only
  have k : ∀ b o', h.get? b = some o' → ((h.push emptyDict).push o).get? b = some o' := fun b o' e => Heap.get?_push_of_some _ (Heap.get?_push_of_some _ e)
  have hx : ((h.push emptyDict).push o).get? (h.objs.size + 1) = some o := by
    have := Heap.get?_push_size (h.push emptyDict) hfr
    rwa [Heap.size_push] at this
  have t1 : Looks (model prog w) ((h.push emptyDict).push o) (typeOf (.ref (h.objs.size + 1))) (.ref C) := ho ▸ (Looks.ld hx).andThen .now
  have s1 := self.keeps k
  have i1 := hi.keeps k
  have b1 := (hb (.ref (h.objs.size + 1))).keeps k
  have L1 : Looks (model prog w) ((h.push emptyDict).push o) (isInstance (.ref (h.objs.size + 1)) (.ref C)) true := t1.andThen s1
  refine wpAny_bind (L1.at ?_)
  rw [if_neg (by decide)]
  refine wpAny_bind (wpAny_holding ?_)
  show wpAny _ _ (callSpecial? (.ref (h.objs.size + 1)) "__init__" rest) _ _ _
  unfold callSpecial?
  refine wpAny_bind (wpAny_bind (t1.at (i1.at ?_)))
  dsimp only
  refine wpAny_holding (wpAny_bind (b1.at ?_))
  dsimp only
  refine wpAny_bind (wpAny_mono hq (fun v s' hv => ?_) fun _ _ z => z)
  obtain ⟨rfl, hv⟩ := hv
  refine wpAny_pure ?_
  dsimp only
  rw [if_neg (by decide)]
  exact wpAny_pure hv
end
def fMake (mk : PO) (Φ : CF) : CF := fun l σ => match Φ (.ref σ.length :: l) (σ ++ [mk]) with
  | some (.none, σ') => some (.ref σ.length, σ')
  | _ => none
section
variable {G : GC} {d : Nat}
theorem Fit.make {A : Around} {C : Addr} {vs : List Value} (f : Fit A (d + 1)) : Fit (A.under (.builtin "type.__call__" ⟨.ref C :: vs, []⟩)) d :=
  ⟨by have := f.depth; show A.depth + 1 + _ ≤ _; omega, by have := f.units; show A.units + 1 + _ ≤ _; omega, f.hand⟩
theorem made_ok {h : Heap} {β : Lay} {σ : List PO} {o : Obj} {mk : PO} {C : Addr} (R : Rel G h β σ) (ho : o.isFreed = false)
    (hat : ∀ h' : Heap, h'.get? (h.objs.size + 1) = some o → h'.get? h.objs.size = some emptyDict → ObjAt G.flds h' (β ++ [(h.objs.size + 1, h.objs.size)]) (h.objs.size + 1, h.objs.size) mk) :
    Step G h β ((h.push emptyDict).push o) (β ++ [(h.objs.size + 1, h.objs.size)]) ∧ Rel G ((h.push emptyDict).push o) (β ++ [(h.objs.size + 1, h.objs.size)]) (σ ++ [mk]) ∧
      VR ((h.push emptyDict).push o) (β ++ [(h.objs.size + 1, h.objs.size)]) (.ref σ.length) (.ref (h.objs.size + 1)) := by
  have k : ∀ b o', h.get? b = some o' → ((h.push emptyDict).push o).get? b = some o' := fun b o' e => Heap.get?_push_of_some _ (Heap.get?_push_of_some _ e)
  have n1 : h.get? (h.objs.size + 1) = none := Heap.get?_none_of_le (Nat.le_succ _)
  have n2 : h.get? h.objs.size = none := heap_fresh _
  have g1 : ((h.push emptyDict).push o).get? (h.objs.size + 1) = some o := by
    have := Heap.get?_push_size (h.push emptyDict) ho
    rwa [Heap.size_push] at this
  have g2 : ((h.push emptyDict).push o).get? h.objs.size = some emptyDict := Heap.get?_push_of_some _ (Heap.get?_push_size _ rfl)
  exact ⟨Step.push k n1 n2, R.push k n1 n2 (hat _ g1 g2), (h.objs.size + 1, h.objs.size), by rw [← R.len]; simp, rfl⟩
theorem acc_make_ok (O : GOk G) {C fI : Addr} {Φ : CF} (hm : makesLIn G.K C = true) (hi : findIn G.K (.ref C) "__init__" = some (some (.ref fI))) (hf : typeIn G.K (.ref fI) = some (.type "function")) (ha : ∀ vs : List Value, argsOk "list.__new__" ⟨.ref C :: vs, []⟩)
    (c : SCall G d (.ref fI) Φ) : SCall G (d + 1) (.ref C) (fMake (.acc C [] []) Φ) := by
  intro A s β σ l vs pv σ' hA R V e Q E h
  unfold fMake at e
  split at e
  · rename_i σ₁ e1
    cases e
    have X := R.base.K O
    have Y := makesL_of (M := G.M) X hm
    obtain ⟨⟨oc, od, cd, sl, hC, e1', e2', e4'⟩, made, base, self, lst, call, typ⟩ := id Y
    obtain ⟨hh, g, dd, t, os⟩ := s
    obtain ⟨S1, R1, V1⟩ := made_ok (C := C) (o := accObj C hh.objs.size) (mk := .acc C [] []) R rfl fun h' g1 g2 => ⟨[], 0, #[], 0, g1, g2, by cases G.flds C <;> rfl, rfl⟩
    refine make_way (id := "list.__new__") (o := accObj C hh.objs.size) ⟨oc, od, cd, sl, hC, e4'⟩ made self call typ (looks_findIn X hi) (fun self => bind_fn X self hf) rfl rfl (fun A' R hR => newL Y (ha _) hR) ?_
    refine c _ _ _ _ (.ref σ.length :: l) (.ref (hh.objs.size + 1) :: vs) .none σ' hA.make R1 ⟨_, _, rfl, V1, S1.vrs V⟩ e1 _ _ fun v s₂ β₂ S2 R2 V2 H2 => ?_
    exact ⟨V2, h _ _ β₂ (S1.trans S2) R2 (S2.vr V1) ((Sh.mk' ..).trans H2)⟩
  · cases e
theorem inst_make_ok (O : GOk G) {C fI : Addr} {Φ : CF} (hm : makesIn G.K C = true) (hi : findIn G.K (.ref C) "__init__" = some (some (.ref fI))) (hf : typeIn G.K (.ref fI) = some (.type "function"))
    (c : SCall G d (.ref fI) Φ) : SCall G (d + 1) (.ref C) (fMake (.inst C []) Φ) := by
  intro A s β σ l vs pv σ' hA R V e Q E h
  unfold fMake at e
  split at e
  · rename_i σ₁ e1
    cases e
    have X := R.base.K O
    have Y := makes_of (M := G.M) X hm
    obtain ⟨⟨oc, od, cd, sl, hC, e1', e2', e4'⟩, made, base, self, top, call, typ⟩ := id Y
    obtain ⟨hh, g, dd, t, os⟩ := s
    obtain ⟨S1, R1, V1⟩ := made_ok (C := C) (o := instObj C hh.objs.size) (mk := .inst C []) R rfl fun h' g1 g2 => ⟨[], 0, g1, g2, by cases G.flds C <;> rfl⟩
    refine make_way (id := "object.__new__") (o := instObj C hh.objs.size) ⟨oc, od, cd, sl, hC, e4'⟩ made self call typ (looks_findIn X hi) (fun self => bind_fn X self hf) rfl rfl (fun A' R hR => new_K Y (looks_findIn X hi) (.inl rfl) hR) ?_
    refine c _ _ _ _ (.ref σ.length :: l) (.ref (hh.objs.size + 1) :: vs) .none σ' hA.make R1 ⟨_, _, rfl, V1, S1.vrs V⟩ e1 _ _ fun v s₂ β₂ S2 R2 V2 H2 => ?_
    exact ⟨V2, h _ _ β₂ (S1.trans S2) R2 (S2.vr V1) ((Sh.mk' ..).trans H2)⟩
  · cases e
theorem strA_ok (O : GOk G) {C fS : Addr} {Φ : CF} (hs : findIn G.K (.ref C) "__str__" = some (some (.ref fS))) (hf : isFn G.K (.ref fS) = true) (c : SCall G d (.ref fS) Φ) : SCall G (d + 2) (.type "str") (strAF C Φ) := by
  intro A s β σ l vs pv σ' hA R V e Q E h
  unfold strAF at e
  split at e
  · rename_i i
    split at e
    · rename_i C' fs l el
      split at e
      · rename_i hC
        subst hC
        split at e
        · rename_i x σ₁ e1
          cases e
          obtain ⟨v, rfl, X⟩ := V.one'
          obtain ⟨q, es, n, ws, kw, rfl, hq, hg, W, I⟩ := acc_of R X el
          refine kso_call (by have := hA.units; show A.units + 1 + 1 < 9900; omega) (R.base.K O) I hs hf ?_
          refine c A.in1.in1 s β σ [.ref i] [.ref q.1] (.str x) σ' hA.in1.in1 R ⟨_, _, rfl, X, rfl⟩ e1 _ _ fun v s₁ β₁ S1 R1 V1 H1 => ?_
          obtain ⟨t, rfl⟩ := V1
          exact h _ _ β₁ S1 R1 ⟨t, rfl⟩ H1
        · cases e
      · cases e
    · cases e
  · cases e
end
end Mine
end
section
open PySem PySem.W PySem.Calls PyProof.Rows
set_option maxRecDepth 100000
set_option linter.unusedVariables false
namespace Mine
variable [Ban]
set_option linter.unusedSectionVars false
def iaddF : PV → PV → List PO → Option (PV × List PO)
  | .int a, .int b, σ => some (.int (a + b), σ)
  | _, _, _ => none
def max2F : CF
  | [.int a, .int b], σ => some (.int (if b > a then b else a), σ)
  | _, _ => none
def notF (k : PV → List PO → Option (Bool × List PO)) : PV → List PO → Option (PV × List PO) := fun x σ => match k x σ with
  | some (b, σ') => some (.bool (!b), σ')
  | none => none
def eAnd (k : PV → List PO → Option (Bool × List PO)) (f g : FE) : FE := fun ρ σ => match f ρ σ with
  | some (x, σ₁) => match k x σ₁ with
    | some (true, σ₂) => g ρ σ₂
    | some (false, σ₂) => some (x, σ₂)
    | none => none
  | none => none
def eOr (k : PV → List PO → Option (Bool × List PO)) (f g : FE) : FE := fun ρ σ => match f ρ σ with
  | some (x, σ₁) => match k x σ₁ with
    | some (true, σ₂) => some (x, σ₂)
    | some (false, σ₂) => g ρ σ₂
    | none => none
  | none => none
def fNo : FS := fun _ _ => none
def eNo : FE := fun _ _ => none
section
variable {G : GC} {d : Nat} {sc : Scope}
theorem iaddF_ok : SV2 G d (inplaceOp .Add) iaddF := by
  intro A s β σ a b va vb pv σ' hA R Va Vb e Q E h
  cases a <;> cases b <;> first | (cases e; done) | skip
  obtain ⟨t, rfl⟩ := Va
  obtain ⟨u, rfl⟩ := Vb
  cases e
  exact PyProof.Rows.iadd_int (h _ _ β (Step.refl ..) R ⟨_, rfl⟩ (Sh.mk' ..))
theorem max2_ok : SCall G d (.builtin "max") max2F := by
  intro A s β σ l vs pv σ' hA R V e Q E h
  unfold max2F at e
  split at e
  · cases e
    obtain ⟨v, w, rfl, ⟨t, rfl⟩, ⟨u, rfl⟩⟩ := V.two'
    refine max_two_ints hA.hand fun h' tk hk => ?_
    refine h _ _ β (Step.keeps hk) (R.keeps hk) ?_ ⟨rfl, id, fun _ _ e => e⟩
    split
    · exact ⟨_, rfl⟩
    · exact ⟨_, rfl⟩
  · cases e
theorem notF_ok {k : PV → List PO → Option (Bool × List PO)} (c : SV1b G d truthy k) : SV1 G d (unaryOp .Not) (notF k) := by
  intro A s β σ a va pv σ' hA R Va e Q E h
  unfold notF at e
  split at e
  · rename_i b σ₁ e1
    cases e
    exact PyProof.Rows.not_of (c A s β σ a va b _ hA R Va e1 _ _ fun s' β' S1 R1 H1 => h _ _ β' S1 R1 rfl H1)
  · cases e
theorem SE.and_ {x y : Expr} {p : Pos} {f g : FE} {k : PV → List PO → Option (Bool × List PO)} (O : ScopeOk sc) (c : SV1b G d truthy k) (a : SE G d sc x f) (b : SE G d sc y g) : SE G d sc (.BoolOp .And [x, y] p) (eAnd k f g) := by
  intro env A s β ρ σ pv σ' hsc hA R F e Q E h
  unfold eAnd at e
  split at e
  · rename_i x₁ σ₁ e1
    refine BoolOp_and (a env A s β ρ σ x₁ σ₁ hsc hA R F e1 _ _ fun v s₁ β₁ S1 R1 V1 H1 => ?_)
    split at e
    · rename_i σ₂ e2
      refine c A s₁ β₁ σ₁ x₁ v true σ₂ hA R1 V1 e2 _ _ fun s₂ β₂ S2 R2 H2 => ?_
      rw [if_pos rfl]
      refine BoolOp_one ?_
      exact b env A s₂ β₂ ρ σ₂ pv σ' hsc hA R2 (F.go O hsc R.base (S1.trans S2)) e _ _ fun v s₃ β₃ S3 R3 V3 H3 => h v s₃ β₃ ((S1.trans S2).trans S3) R3 V3 ((H1.trans H2).trans H3)
    · rename_i σ₂ e2
      cases e
      refine c A s₁ β₁ σ₁ _ v false _ hA R1 V1 e2 _ _ fun s₂ β₂ S2 R2 H2 => ?_
      rw [if_neg (by decide)]
      exact h v s₂ β₂ (S1.trans S2) R2 (S2.vr V1) (H1.trans H2)
    · cases e
  · cases e
theorem SE.or_ {x y : Expr} {p : Pos} {f g : FE} {k : PV → List PO → Option (Bool × List PO)} (O : ScopeOk sc) (c : SV1b G d truthy k) (a : SE G d sc x f) (b : SE G d sc y g) : SE G d sc (.BoolOp .Or [x, y] p) (eOr k f g) := by
  intro env A s β ρ σ pv σ' hsc hA R F e Q E h
  unfold eOr at e
  split at e
  · rename_i x₁ σ₁ e1
    refine BoolOp_or (a env A s β ρ σ x₁ σ₁ hsc hA R F e1 _ _ fun v s₁ β₁ S1 R1 V1 H1 => ?_)
    split at e
    · rename_i σ₂ e2
      cases e
      refine c A s₁ β₁ σ₁ _ v true _ hA R1 V1 e2 _ _ fun s₂ β₂ S2 R2 H2 => ?_
      rw [if_pos rfl]
      exact h v s₂ β₂ (S1.trans S2) R2 (S2.vr V1) (H1.trans H2)
    · rename_i σ₂ e2
      refine c A s₁ β₁ σ₁ x₁ v false σ₂ hA R1 V1 e2 _ _ fun s₂ β₂ S2 R2 H2 => ?_
      rw [if_neg (by decide)]
      refine BoolOp_one ?_
      exact b env A s₂ β₂ ρ σ₂ pv σ' hsc hA R2 (F.go O hsc R.base (S1.trans S2)) e _ _ fun v s₃ β₃ S3 R3 V3 H3 => h v s₃ β₃ ((S1.trans S2).trans S3) R3 V3 ((H1.trans H2).trans H3)
    · cases e
  · cases e
theorem SS.no {t : Env → Sem Flow} : SS G d sc t fNo := by
  intro env A s β ρ σ fl ρ' σ' hsc hA R F e
  cases e
theorem SE.no {x : Expr} : SE G d sc x eNo := by
  intro env A s β ρ σ pv σ' hsc hA R F e
  cases e
end
end Mine
end
section
open PySem PySem.W PySem.Calls PyProof.Rows
set_option maxRecDepth 100000
set_option linter.unusedVariables false
namespace Mine
variable [Ban]
set_option linter.unusedSectionVars false
def SCode (G : GC) (d : Nat) (f : Value) (Φ : List PV → List PO → Option (PV × List PO)) : Prop :=
  ∀ (A : Around) (s : Shared) (β : Lay) (σ : List PO) (l : List PV) (vs : List Value) (pv : PV) (σ' : List PO), Fit A d → Rel G s.heap β σ → VRs s.heap β l vs → Φ l σ = some (pv, σ') →
    ∀ (W : Result → Shared → Prop),
    (∀ v s' β', Step G s.heap β s'.heap β' → Rel G s'.heap β' σ' → VR s'.heap β' pv v → Sh s s' → W (.ok (.ret v)) s') → codeAny G.M A (.call f ⟨vs, []⟩) W s
section
variable {G : GC} {d : Nat} {sc : Scope}
theorem SCode.defp (O : GOk G) {f : Addr} {fd : FuncData} {body : List Stmt} {params : List Str} {dpv : List PV} (D : DefOk G f fd body params dpv) {g : FS} (x : SSp G d (DefEnv fd) (execs body) g) :
    SCode G (d + 1) (.ref f) (runBody dpv params.length fd.scope.names.length g) := by
  intro A s β σ l₀ vs₀ pv σ' hA R V₀ e W h
  unfold runBody at e
  split at e
  · rename_i hl₀
    have hvs₀ : vs₀.length + dpv.length = params.length := by rw [V₀.length, hl₀]
    obtain ⟨dvs, hbindto, Vd⟩ := D.bind s β vs₀ R.base hvs₀
    have V := V₀.append Vd
    generalize hL : l₀ ++ dpv = l at V e
    generalize hW : vs₀ ++ dvs = vs at V hbindto
    have hl : l.length = params.length := by rw [← hL, List.length_append, hl₀]
    have hvs : vs.length = params.length := by rw [V.length, hl]
    obtain ⟨oc, od, osl, hlook⟩ := D.look
    have B := R.base
    have nodupP : params.Nodup := by
      have nd := D.sc.nodup
      have : params = (fd.scope.names.map (·.1)).take params.length := by
        apply List.ext_getElem?
        intro i
        by_cases hi : i < params.length
        · rw [List.getElem?_take_of_lt hi, List.getElem?_map]
          obtain ⟨k, hk, _⟩ := D.first i _ (List.getElem?_eq_getElem hi)
          rw [hk, List.getElem?_eq_getElem hi]; rfl
        · rw [List.getElem?_eq_none (by omega), List.getElem?_eq_none (by rw [List.length_take]; omega)]
      rw [this]
      exact nd.sublist (List.take_sublist _ _)
    have hz : ((params.zip vs).map (·.1)) = params := by rw [List.map_fst_zip]; omega
    have ndz : ((params.zip vs).map (·.1)).Nodup := by rw [hz]; exact nodupP
    refine (call_cellsB (binds := params.zip vs) hA.room (B.K O _ _ hlook) rfl (B.nolimit O) (codeRec_of (B.K O) D.code) D.body hbindto D.clo (fun y hy => ?_) (fun s₁ I => ?_) D.co D.gen D.kind)
    · obtain ⟨i, hi, hy'⟩ := List.mem_iff_getElem.mp hy
      rw [List.getElem_zip] at hy'
      obtain ⟨k, hk, hk'⟩ := D.first i y.1 (by rw [← hy']; exact List.getElem?_eq_getElem _)
      have hlk := kind_at D.sc.nodup i _ _ hk
      rcases hk' with rfl | rfl
      · exact .inl hlk
      · exact .inr ⟨hlk, cellsFrom_has _ _ _ (.inl (List.mem_of_getElem? hk))⟩
    · generalize hE : callEnvC fd s.heap.objs.size f = env at I ⊢
      have eS : env.scope = fd.scope := by rw [← hE]; rfl
      have eP : DefEnv fd env := ⟨eS, by rw [← hE]; rfl, by rw [← hE]; rfl⟩
      have eL : env.locals = s.heap.objs.size := by rw [← hE]; rfl
      have eC : env.cells = cellsFrom (s.heap.objs.size + 1) fd.scope.names [] := by rw [← hE]; rfl
      have keep : ∀ b o, s.heap.get? b = some o → s₁.heap.get? b = some o := I.toInCall.keep
      have R1 : Rel G s₁.heap β σ := R.keeps keep
      have S1 : Step G s.heap β s₁.heap β := Step.keeps keep
      have V1 := S1.vrs V
      have Sh1 : Sh s s₁ := by obtain ⟨h', tk, rfl⟩ := I.toInCall.same; exact Sh.mk' ..
      have deadIn : ∀ b, s.heap.get? b = none → ¬ In b β ∧ G.h₀.get? b = none := fun b e => by
        refine ⟨fun i => ?_, ?_⟩
        · obtain ⟨o, q, _⟩ := R.soft i
          rw [e] at q; cases q
        cases q : G.h₀.get? b with
        | none => rfl
        | some o =>
          by_cases tb : G.TB b
          · obtain ⟨w, hw, e'⟩ := tb
            obtain ⟨_, _, _, _, _, _, dd, _⟩ := B.tab w hw
            rw [e'] at dd; rw [dd.2] at e; cases e
          · rw [B.old b o q tb] at e; cases e
      have nL : s.heap.get? env.locals = none := eL ▸ heap_fresh _
      have cellAbove : ∀ x c, env.cells.lookup x = some c → s.heap.get? c = none ∧ c ≠ env.locals := fun x c hc => by
        have ab := I.above x c (mem_of_lookup hc)
        exact ⟨Heap.get?_none_of_le (by rw [← eL]; exact Nat.le_of_lt ab), Nat.ne_of_gt ab⟩
      have F1 : Frm G s₁.heap β env (l.map some ++ List.replicate (fd.scope.names.length - params.length) none) := by
        refine ⟨by rw [eS]; exact D.kind, by rw [← hE]; exact D.glob, by rw [← hE]; exact D.bui, ⟨_, I.toInCall.ns, fun i x pv e1 e2 => ?_⟩, fun i x pv e1 e2 => ?_, ⟨(deadIn _ nL).1, (deadIn _ nL).2, soft_dict I.toInCall.ns⟩, fun x c e1 e2 => ?_, fun x e1 => ?_, fun x y c k1 k2 e1 e2 => ?_⟩
        · rw [eS] at e1
          have hi : i < l.length := by
            rcases Nat.lt_or_ge i l.length with q | q
            · exact q
            · rw [List.getElem?_append_right (by simpa using q), List.getElem?_replicate] at e2
              split at e2 <;> cases e2
          rw [List.getElem?_append_left (by simpa using hi), List.getElem?_map] at e2
          obtain ⟨p, hp, e2⟩ := Option.map_eq_some_iff.mp e2
          cases e2
          obtain ⟨v, hv, rv⟩ := V1.get hp
          obtain ⟨k, hk, _⟩ := D.first i _ (List.getElem?_eq_getElem (by omega : i < params.length))
          rw [hk] at e1
          cases e1
          refine ⟨v, ((bindL_of (by show env.scope.names.lookup _ = _; rw [eS]; exact kind_at D.sc.nodup i _ _ hk) _ _ ndz v).1 ?_), rv⟩
          exact zip_mem (List.getElem?_eq_getElem _) hv
        · rw [eS] at e1
          have hi : i < l.length := by
            rcases Nat.lt_or_ge i l.length with q | q
            · exact q
            · rw [List.getElem?_append_right (by simpa using q), List.getElem?_replicate] at e2
              split at e2 <;> cases e2
          rw [List.getElem?_append_left (by simpa using hi), List.getElem?_map] at e2
          obtain ⟨p, hp, e2⟩ := Option.map_eq_some_iff.mp e2
          cases e2
          obtain ⟨v, hv, rv⟩ := V1.get hp
          obtain ⟨k, hk, _⟩ := D.first i _ (List.getElem?_eq_getElem (by omega : i < params.length))
          rw [hk] at e1
          cases e1
          have hkd : env.kindOf params[i] = some .cell := by show env.scope.names.lookup _ = _; rw [eS]; exact kind_at D.sc.nodup i _ _ hk
          obtain ⟨c, hc⟩ := Option.isSome_iff_exists.mp (cellsFrom_has (x := params[i]) fd.scope.names (s.heap.objs.size + 1) [] (.inl (List.mem_of_getElem? hk)))
          rw [← eC] at hc
          refine ⟨c, v, hc, ?_, rv⟩
          have := I.cell _ c hc
          rw [(bindC_of (by rw [hkd]; decide) _ _ ndz v).1 (zip_mem (List.getElem?_eq_getElem _) hv)] at this
          exact this
        · have ab := cellAbove x c e2
          have ic := I.cell x c e2
          exact ⟨⟨(deadIn _ ab.1).1, (deadIn _ ab.1).2, soft_cell ic⟩, ab.2, _, ic⟩
        · have hm : (x, NameKind.cell) ∈ fd.scope.names := by
            have : fd.scope.names.lookup x = some .cell := by rw [← eS]; exact e1
            exact mem_of_lookup this
          obtain ⟨c, hc⟩ := Option.isSome_iff_exists.mp (cellsFrom_has (x := x) fd.scope.names (s.heap.objs.size + 1) [] (.inl hm))
          exact ⟨c, eC ▸ hc⟩
        · exact name_of_addr I.apart (mem_of_lookup e1) (mem_of_lookup e2)
      have back : ∀ {h' : Heap} {β' : Lay}, StepF G env s₁.heap β h' β' → Step G s.heap β h' β' := fun S =>
        ((S1.toX (X := Vars env)).trans S).toStep fun b o eb v => by
          rcases v with rfl | ⟨x, _, c⟩
          · rw [nL] at eb; cases eb
          · rw [(cellAbove x b c).1] at eb; cases eb
      split at e
      · rename_i p ρ' σ₂ e1
        cases e
        refine x env _ s₁ β _ σ (.ret pv) ρ' σ' eP hA.deeper R1 F1 e1 _ _ fun v s₂ β₂ S2 R2 F2 L2 H2 => ?_
        obtain ⟨u, rfl, rr⟩ := L2
        exact h u s₂ β₂ (back S2) R2 rr (Sh1.trans H2)
      · rename_i ρ' σ₂ e1
        cases e
        refine x env _ s₁ β _ σ .next ρ' σ' eP hA.deeper R1 F1 e1 _ _ fun v s₂ β₂ S2 R2 F2 L2 H2 => ?_
        rw [show v = .next from L2]
        exact h .none s₂ β₂ (back S2) R2 rfl (Sh1.trans H2)
      · cases e
  · cases e
theorem SCode.def_ (O : GOk G) {f : Addr} {fd : FuncData} {body : List Stmt} {params : List Str} {dpv : List PV} (D : DefOk G f fd body params dpv) {g : FS} (x : SX G d fd.scope body g) :
    SCode G (d + 1) (.ref f) (runBody dpv params.length fd.scope.names.length g) :=
  SCode.defp O D fun env A s β ρ σ fl ρ' σ' h1 => x env A s β ρ σ fl ρ' σ' h1.1
theorem SCode.call {f : Value} {Φ : List PV → List PO → Option (PV × List PO)} (c : SCode G d f Φ) : SCall G d f Φ := by
  intro A s β σ l vs pv σ' hA R V e Q E h
  exact wpAny_call (c A s β σ l vs pv σ' hA R V e _ fun v s' β' S1 R1 V1 H1 => h v s' β' S1 R1 V1 H1)
theorem get_bind_list {prog : Program} {w : World} {A : Around} {E : Value → Shared → Prop} {s : Shared} {K : Frag} {x C f : Addr} {ox : Obj} {od : Option Obj} {name : Str} {expr : Bool} {Q : Value → Shared → Prop} {g : Value} (X : K.In s.heap) (I : InstAt s.heap x ox C od) (hga : findIn K (.ref C) "__getattribute__" = some (some (.builtin "list.__getattribute__"))) (hno : findIn K (.ref C) "__getattr__" = some none)
    (hm : mroIn K C (.type "list") = some true) (hf : findObj K C od name = some (.bind g (.ref f))) (hg : g = .builtin "function.__get__") (hfn : isFn K (.ref f) = true)
    (h : Q (.ref s.heap.objs.size) { s with heap := s.heap.push (methodObj (.ref f) (.ref x)), toks := s.toks + 1 }) : wpAny (model prog w) A (getAttr (.ref x) name expr) Q E s := by
  obtain ⟨hh', gg, d, t, os⟩ := s
  have L0 := I.type (M := model prog w)
  have L1 := looks_findIn (M := model prog w) X hga
  have L2 := looks_findIn (M := model prog w) X hno
  have L3 := looks_find (M := model prog w) X I hf
  have sub : Looks (model prog w) hh' (isInstance (.ref x) (.type "list")) true := L0.andThen (looks_mroIn X hm)
  subst hg
  unfold getAttr getAttrBy
  refine wpAny_bind (wpAny_mkText (wpAny_holding (wpAny_bind (L0.at (wpAny_bind (L1.at ?_))))))
  show wpAny _ _ (getAttrByItsOwn (.ref x) (.str name t) (.ref C) (.builtin "list.__getattribute__") true expr) _ _ _
  unfold getAttrByItsOwn hookBefore callGetattribute boundAndCalled
  refine wpAny_bind (L2.at ?_)
  refine wpAny_bind (wpAny_attempt (wpAny_holding ?_))
  rw [if_neg (by simp [onTheHeap])]
  refine wpAny_bind (wpAny_of_eq (F.slot_list_getattribute.bind _) ?_)
  refine wpAny_call (codeAny_call_builtin F.slot_list_getattribute.plain PySem.F.entry_list_ga (@check_slot (model prog w) _ _ _ "list.__getattribute__" "list" "__getattribute__" (.ref x) [.str name t] [] _ kind_lga split_lga sub (F.args_list_getattribute_2 _ _) ?_))
  refine wpAny_bind (wpAny_pure (wpAny_bind (wpAny_pure (wpAny_bind (L0.at (wpAny_bind (L3.at ?_)))))))
  show wpAny _ _ (holding [.ref f] (call (.builtin "function.__get__") [.ref f, .ref x, .ref C]) >>= ret) _ _ _
  refine wpAny_bind (wpAny_holding (wpAny_call (fn_get X (beq_iff_eq.mp hfn) ?_)))
  refine wpAny_pure ?_
  show wpAny _ _ (handedOut _) _ _ _
  rw [handedOut_of rfl]
  exact wpAny_pure h
end
end Mine
end
section
open PySem PySem.W PySem.Calls PyProof.Rows
set_option maxRecDepth 100000
set_option linter.unusedVariables false
namespace Mine
variable [Ban]
set_option linter.unusedSectionVars false
def eStar (C : Addr) (Φ : List PV → List PO → Option (PV × List PO)) (f g : FE) : FE := fun ρ σ => match f ρ σ with
  | some (x, σ₁) => match isA C x σ₁ with
    | true => match g ρ σ₁ with
      | some (.tup l, σ₂) => if szOk l.length = true then Φ (x :: l) σ₂ else none
      | _ => none
    | false => none
  | none => none
theorem eval_starMeth {o e : Expr} {name : Str} {apos pos p : Pos} {env : Env} (hb : ∀ whole, attributeBase o name env whole = whole) :
    eval (.Call (.Attribute o name apos) [.Starred e p] [] pos) env = (do
      let ov ← eval o env
      standAt apos.atName
      let (f, first) ← holding [ov] (do pure (← getAttr ov name true, ([] : List Value)))
      callWith pos f first (backTo pos [(true, eval e env)]) []) := by
  have m : ∀ ov, methodCall o name apos pos env ov 1 (backTo pos [(true, eval e env)]) [] = (do
      let (f, first) ← holding [ov] (do pure (← getAttr ov name true, ([] : List Value)))
      callWith pos f first (backTo pos [(true, eval e env)]) []) := by
    intro ov
    unfold methodCall calleeOf methodCallPos
    have hf : methodCallForm 1 (backTo pos [(true, eval e env)]) [] = false := rfl
    rw [hf]
    rfl
  have e' : eval (.Call (.Attribute o name apos) [.Starred e p] [] pos) env = (do
      let ov ← attributeBase o name env (eval o env)
      standAt apos.atName
      methodCall o name apos pos env ov 1 (backTo pos [(true, eval e env)]) []) := rfl
  rw [e', hb]
  simp only [m]
section
variable {G : GC} {d : Nat} {sc : Scope}
theorem bind_any {prog : Program} {w : World} {A : Around} {E : Value → Shared → Prop} {s : Shared} {K : Frag} {x C f : Addr} {cd : ClassData} {ox : Obj} {es : List DictEntry} {n : Nat} {name : Str} {expr : Bool} {Q : Value → Shared → Prop} (X : K.In s.heap) (I : InstAt s.heap x ox C (some (dictOf es n))) (P : PlainCls K C cd)
    (ha : findIn K (.ref C) name = some (some (.ref f))) (hfn : isFn K (.ref f) = true) (hgf : specialIn K (.ref f) "__get__" = some (some (.builtin "function.__get__"))) (ht : takesIn K (.ref f) = some false) (hc : copiedNames.contains name = false) (hl : getL name es = some none)
    (h : Q (.ref s.heap.objs.size) { s with heap := s.heap.push (methodObj (.ref f) (.ref x)), toks := s.toks + 1 }) : wpAny (model prog w) A (getAttr (.ref x) name expr) Q E s := by
  have hd : hasDictIn K C = true := by unfold hasDictIn; rw [P.cls]; exact P.dict
  have fo := findObj_fn hd ha hgf ht hc (od := dictOf es n) (by rw [lookIn_dict, hl])
  rcases P.get with hg | ⟨hg, hm⟩
  · exact get_bind X I hg fo P.noget (wpAny_call (fn_get (s := { s with toks := s.toks + 1 }) X (beq_iff_eq.mp hfn) (handed_on rfl h)))
  · exact get_bind_list X I hg P.noget hm fo rfl hfn h
theorem SE.star (O : GOk G) (OS : ScopeOk sc) {C f : Addr} {cd : ClassData} {o x : Expr} {name : Str} {apos p p' : Pos} {fo fx : FE} {Φ : List PV → List PO → Option (PV × List PO)} (P : PlainCls G.K C cd)
    (ha : findIn G.K (.ref C) name = some (some (.ref f))) (hfn : isFn G.K (.ref f) = true) (hgf : specialIn G.K (.ref f) "__get__" = some (some (.builtin "function.__get__"))) (ht : takesIn G.K (.ref f) = some false) (hc : copiedNames.contains name = false) (hn : name ∉ G.flds C) (hk : fnIn G.K f = true)
    (a : SE G d sc o fo) (b : SE G d sc x fx) (c : SCode G d (.ref f) Φ) (hb : ∀ env whole, attributeBase o name env whole = whole) :
    SE G d sc (.Call (.Attribute o name apos) [.Starred x p'] [] p) (eStar C Φ fo fx) := by
  intro env A s β ρ σ pv σ' hsc hA R F e Q E h
  unfold eStar at e
  split at e
  · rename_i y σ₁ e1
    split at e
    · rename_i t
      split at e
      · rename_i l σ₂ e2
        split at e
        · rename_i hz
          rw [eval_starMeth (hb env)]
          refine wpAny_bind (a env A s β ρ σ y σ₁ hsc hA R F e1 _ _ fun v s₁ β₁ S1 R1 V1 H1 => ?_)
          cases y <;> simp only [isA] at t <;> first | (cases t; done) | skip
          rename_i i
          split at t
          · rename_i oo eo
            split at t
            · rename_i C' fs ef
              have hC : C' = C := by simpa using t
              subst hC
              obtain ⟨q, ox, es, n, rfl, hq, I, hd, hfs⟩ := inst_of R1 V1 eo ef
              obtain ⟨n1, n2⟩ := hfs.none hn
              refine wpAny_bind (wpAny_standAt (wpAny_bind (wpAny_holding (wpAny_bind ?_))))
              refine bind_any (R1.base.K O) I P ha hfn hgf ht hc (by unfold getL; rw [n1, n2]; rfl) (wpAny_pure ?_)
              have up : ∀ b o, s₁.heap.get? b = some o → (s₁.heap.push (methodObj (.ref f) (.ref q.1))).get? b = some o := fun b o e => Heap.get?_push_of_some _ e
              have hm : (s₁.heap.push (methodObj (.ref f) (.ref q.1))).get? s₁.heap.objs.size = some (methodObj (.ref f) (.ref q.1)) := Heap.get?_push_size _ rfl
              generalize hM : s₁.heap.push (methodObj (.ref f) (.ref q.1)) = hh at up hm ⊢
              have SM : Step G s₁.heap β₁ hh β₁ := Step.keeps up
              have RM : Rel G hh β₁ σ₁ := R1.keeps up
              have nI : ¬ In s₁.heap.objs.size β₁ := fun i => by
                obtain ⟨o, z, _⟩ := R1.soft i
                rw [heap_fresh] at z; cases z
              have nT : ¬ G.TB s₁.heap.objs.size := fun tb => by
                obtain ⟨w, hw, e'⟩ := tb
                obtain ⟨_, _, _, _, _, _, dd, _⟩ := R1.base.tab w hw
                rw [e'] at dd
                have := dd.2
                rw [heap_fresh] at this; cases this
              generalize hqq : s₁.heap.objs.size = qq at hm nI nT ⊢
              refine ks_call rfl (P := fun h => MethP G.K qq f (.ref q.1) h) (keeps_M hk) (ks_lone ?_)
              refine b env A _ β₁ ρ σ₁ (.tup l) σ₂ hsc hA RM (F.go OS hsc R.base (S1.trans SM)) e2 _ _ fun u s₂ β₂ S2 R2 V2 H2 => ?_
              obtain ⟨ta, td, tvs, tn, tsl, rfl, hta, _, Vt⟩ := V2
              have hsz : tvs.size ≤ sizeLine := by
                have := Vt.length
                rw [Array.length_toList] at this
                rw [this]; exact sz_of hz
              have hmq : s₂.heap.get? qq = some (methodObj (.ref f) (.ref q.1)) := S2.keep _ _ hm nI nT
              unfold StarOf notIterableAtAll
              refine wpAny_bind (wpAny_specialOf (show s₂.TypeIs (.ref ta) "tuple" from ⟨_, hta, rfl⟩) PySem.F.slot_tuple_iter.lookup (wpAny_pure ⟨rfl, ?_⟩))
              refine wpAny_collect_seq ta (.inr rfl) hta rfl rfl (fun h' hk' => ?_) hsz
              have S3 : Step G s₂.heap β₂ h' β₂ := Step.keeps hk'
              have R3 : Rel G h' β₂ σ₂ := R2.keeps hk'
              refine ⟨⟨hk' _ _ hmq, R3.base.K O⟩, ?_⟩
              refine wpAny_call (ks_codeAny_call_bound (hk' _ _ hmq) ?_)
              refine c A _ β₂ σ₂ (.ref i :: l) _ pv σ' hA R3 ⟨_, _, rfl, ⟨q, S2.get _ _ hq, rfl⟩, S3.vrs Vt⟩ e _ fun v s₄ β₄ S4 R4 V4 H4 => ?_
              exact h v s₄ β₄ ((((S1.trans SM).trans S2).trans S3).trans S4) R4 V4 ((((H1.trans (Sh.mk' ..)).trans H2).trans (Sh.mk' ..)).trans H4)
            · cases t
          · cases t
        · cases e
      · cases e
    · cases e
  · cases e
end
end Mine
end
section
open PySem PySem.W PySem.Calls PyProof.Rows
open PySem.SeqAt (EqAt RcAt RcNeAt)
set_option maxRecDepth 100000
set_option linter.unusedVariables false
namespace Mine
variable [Ban]
set_option linter.unusedSectionVars false
structure LitL (G : GC) (a : Addr) (ns : List Int) : Prop where
  at_ : ∃ d n sl vs, G.h₀.get? a = some ⟨.type "list", d, .seq vs n, sl⟩ ∧ ∀ h β, VRs h β (ns.map .int) vs.toList
  ntb : ¬ G.TB a
def isLit (a : Addr) : PV → Bool
  | .lit (.ref b) => b == a
  | _ => false
def neLit (a : Addr) (ns : List Int) : PV → PV → List PO → Option Bool := fun x y σ => match isLit a x, y with
  | true, .ref i => match σ[i]? with
    | some (.list []) => some (!ns.isEmpty)
    | _ => none
  | _, _ => none
def idxLit (a : Addr) (ns : List Int) : PV → PV → List PO → Option (PV × List PO) := fun x y σ => match isLit a x, y with
  | true, .int k => match pyAt (ns.map .int) k with
    | some p => some (p, σ)
    | none => none
  | _, _ => none
def eSliceLit (a : Addr) (ns : List Int) (f x y : FE) : FE := fun ρ σ => match f ρ σ with
  | some (u, σ₁) => match isLit a u with
    | true => match x ρ σ₁ with
      | some (x, σ₂) => match y ρ σ₂ with
        | some (y, σ₃) => match partOf x, partOf y with
          | some lo, some hi => match szOk ns.length with
            | true => some (.ref σ₃.length, σ₃ ++ [.list (sliceL (ns.map .int) lo hi)])
            | false => none
          | _, _ => none
        | none => none
      | none => none
    | false => none
  | none => none
section
variable {G : GC} {d : Nat} {sc : Scope} {a : Addr} {ns : List Int}
theorem LitL.get (L : LitL G a ns) {h : Heap} (β : Lay) (B : Base G h) : ∃ vs, h.IsList a vs ∧ VRs h β (ns.map .int) vs.toList := by
  obtain ⟨d, n, sl, vs, e, V⟩ := L.at_
  exact ⟨vs, ⟨_, B.old _ _ e L.ntb, rfl, n, rfl⟩, V h β⟩
theorem isLit_val {x : PV} {v : Value} {h : Heap} {β : Lay} (e : isLit a x = true) (V : VR h β x v) : v = .ref a := by
  unfold isLit at e
  split at e
  · rename_i b
    have : b = a := by simpa using e
    subst this
    exact V
  · cases e
theorem LitL.notIn (L : LitL G a ns) {h : Heap} {β : Lay} {σ : List PO} (R : Rel G h β σ) : ¬ In a β := fun i => by
  obtain ⟨_, _, _, _, e, _⟩ := L.at_
  rw [R.fresh a i] at e; cases e
theorem neLit_ok (L : LitL G a ns) : SV2b G d (compareOp .NotEq) (neLit a ns) := by
  intro A s β σ x y va vb r hA R Va Vb e Q E h
  unfold neLit at e
  split at e
  · rename_i i hx
    rw [isLit_val hx Va]
    split at e
    · rename_i el
      cases e
      obtain ⟨vs, L1, r1⟩ := L.get β R.base
      obtain ⟨a', vs', rfl, L2, r2, p2⟩ := isList_of R Vb el
      have na : a ≠ a' := fun z => L.notIn R (z ▸ (In.of_get p2).1)
      have h2 : vs'.size = 0 := by rw [← Array.length_toList, r2.length]; rfl
      have h1 : vs.size = ns.length := by rw [← Array.length_toList, r1.length, List.length_map]
      have sm : A.units + 1 < cLine := hA.small (n := 1) (by omega)
      have Y : RcNeAt A s (.ref a) (.ref a') (!ns.isEmpty) := by
        by_cases hn : ns = []
        · subst hn
          have hs : vs.size = vs'.size := by rw [h1, h2]; rfl
          have Y := RcNeAt.lists (A := A) (e := fun _ => true) L1 L2 hs (by omega) (fun j q1 q2 => by omega)
          have hr : (List.range vs.size).all (fun _ => true) = true := by simp
          rw [hr] at Y
          exact Y
        · have hs : (vs.size != vs'.size) = true := by
            rw [bne_iff_ne, h1, h2]
            intro q
            exact hn (List.eq_nil_of_length_eq_zero q)
          have Y := RcNeAt.lists_lengths (A := A) L1 L2 hs (by omega)
          have : (!ns.isEmpty) = true := by cases ns with
            | nil => exact absurd rfl hn
            | cons _ _ => rfl
          rw [this]
          exact Y
      exact Y _ _ _ _ (h s β (Step.refl ..) R (Sh.refl s))
    · cases e
  · cases e
theorem idxLit_ok (L : LitL G a ns) {value slice : Expr} (hs : ∀ o i, subscripted slice false o i = operate [o, i] (getItem o i)) : SV2 G d (subscriptTail value slice) (idxLit a ns) := by
  intro A s β σ x y va vb pv σ' hA R Va Vb e Q E h
  unfold idxLit at e
  split at e
  · rename_i k hx
    rw [isLit_val hx Va]
    split at e
    · rename_i p ep
      cases e
      obtain ⟨vs, L1, W⟩ := L.get β R.base
      obtain ⟨u, rfl⟩ := Vb
      obtain ⟨hb, hp⟩ := pyAt_get ep
      refine tail_any L1.typeIs PySem.F.slot_list_getitem.lookup ?_ (hs _ _)
      rcases hp with ⟨h0, hp⟩ | ⟨h0, h1, hp⟩
      · obtain ⟨v, hv, rv⟩ := W.get hp
        exact wpAny_getItem_list L1 h0 (by omega) (by simpa using hv) (h v s β (Step.refl ..) R rv (Sh.refl s))
      · obtain ⟨v, hv, rv⟩ := W.get hp
        have hs : vs.size = (ns.map PV.int).length := by rw [← Array.length_toList, W.length]
        exact wpAny_getItem_list_neg L1 h0 (by rw [hs]; exact h1) (by omega) (by rw [hs]; simpa using hv) (h v s β (Step.refl ..) R rv (Sh.refl s))
    · cases e
  · cases e
theorem SE.idxLit (L : LitL G a ns) {value slice : Expr} {p : Pos} {f g : FE} (O : ScopeOk sc) (x : SE G d sc value f) (y : SE G d sc slice g) (hs : ∀ o i, subscripted slice false o i = operate [o, i] (getItem o i)) :
    SE G d sc (.Subscript value slice p) (eBin (Mine.idxLit a ns) f g) :=
  ST.bind2 O x y (fun _ => idxLit_ok L hs) fun _ _ _ _ _ _ h => Subscript_ h
theorem SE.sliceLit (L : LitL G a ns) {value : Expr} {lo hi : Option Expr} {p p' : Pos} {f x y : FE} (O : ScopeOk sc) (u : SE G d sc value f) (hx : SP G d sc lo x) (hy : SP G d sc hi y) : SE G d sc (.Subscript value (.Slice lo hi none p') p) (eSliceLit a ns f x y) := by
  intro env A s β ρ σ pv σ' hsc hA R F e Q E h
  unfold eSliceLit at e
  split at e
  · rename_i u₁ σ₁ e1
    split at e
    · rename_i hl
      split at e
      · rename_i x₁ σ₂ e2
        split at e
        · rename_i y₁ σ₃ e3
          split at e
          · rename_i lo' hi' p1 p2
            split at e
            · rename_i hz
              cases e
              refine Subscript_ (u env A s β ρ σ u₁ σ₁ hsc hA R F e1 _ _ fun vo s₁ β₁ S1 R1 V1 H1 => ?_)
              rw [isLit_val hl V1]
              refine wpAny_Slice (hx env A s₁ β₁ ρ σ₁ x₁ σ₂ hsc hA R1 (F.go O hsc R.base S1) e2 _ _ fun vl s₂ β₂ S2 R2 V2 H2 => ?_)
              refine hy env A s₂ β₂ ρ σ₂ y₁ σ₃ hsc hA R2 (F.go O hsc R.base (S1.trans S2)) e3 _ _ fun vu s₃ β₃ S3 R3 V3 H3 => ?_
              rw [evalPart_none]
              refine wpAny_pure ?_
              obtain ⟨vs, LL, W⟩ := L.get β₃ R3.base
              have k : ∀ b o, s₃.heap.get? b = some o → (s₃.heap.push { cls := .type "slice", data := .fields #[vl, vu, .none] }).get? b = some o := fun b o e => Heap.get?_push_of_some _ e
              have hs : vs.size = (ns.map PV.int).length := by rw [← Array.length_toList, W.length]
              have hs' : vs.size = ns.length := by rw [hs, List.length_map]
              refine tail_any (LL.push _).typeIs PySem.F.slot_list_getitem.lookup (wpAny_getItem_list_slice (LL.push _) (Heap.IsSliceOf.new ..) (partOf_is (S3.vr V2) p1) (partOf_is V3 p2) .none (by simp) ?_ (by rw [hs']; exact sz_of hz)) rfl
              have S4 : Step G s₃.heap β₃ (s₃.heap.push { cls := .type "slice", data := .fields #[vl, vu, .none] }) β₃ := Step.keeps k
              have W' : VRs (s₃.heap.push { cls := .type "slice", data := .fields #[vl, vu, .none] }) β₃ (sliceL (ns.map .int) lo' hi') (slicePick vs lo' hi' none).toList := by
                rw [slicePick_plain]
                show VRs _ _ _ (List.toArray _).toList
                rw [List.toList_toArray, hs]
                exact ((S4.vrs W).drop _).take _
              obtain ⟨S5, R5, V5⟩ := pushList (R3.keeps k) W'
              exact h _ _ _ ((((S1.trans S2).trans S3).trans S4).trans S5) R5 V5 (((H1.trans H2).trans H3).trans (Sh.mk' ..))
            · cases e
          · cases e
        · cases e
      · cases e
    · cases e
  · cases e
end
end Mine
end
section
open PySem PySem.W PySem.Calls PyProof.Rows
set_option maxRecDepth 100000
set_option linter.unusedVariables false
namespace Mine
variable [Ban]
set_option linter.unusedSectionVars false
def stAt (l : List Stmt) (n : Nat) : Stmt := l.getD n (.Pass ⟨0, 0, 0, 0⟩)
def defBody : Stmt → List Stmt
  | .FunctionDef _ _ body _ _ _ _ _ _ _ => body
  | _ => []
def defScope : Stmt → Scope
  | .FunctionDef _ _ _ _ _ _ sc _ _ _ => sc
  | _ => ⟨.function, [], false, false, []⟩
def clsBody : Stmt → List Stmt
  | .ClassDef _ _ _ body _ _ _ _ _ _ _ => body
  | _ => []
end Mine
end
section
open PySem PySem.W PySem.Calls PyProof.Rows
set_option maxRecDepth 100000
set_option linter.unusedVariables false
namespace Mine
variable [Ban]
set_option linter.unusedSectionVars false
section
variable {G : GC} {d d' : Nat} {sc : Scope}
theorem SCall.mono {f : Value} {Φ : List PV → List PO → Option (PV × List PO)} (c : SCall G d f Φ) (h : d ≤ d') : SCall G d' f Φ :=
  fun A s β σ l vs pv σ' hA => c A s β σ l vs pv σ' (hA.le h)
theorem SCode.mono {f : Value} {Φ : List PV → List PO → Option (PV × List PO)} (c : SCode G d f Φ) (h : d ≤ d') : SCode G d' f Φ :=
  fun A s β σ l vs pv σ' hA => c A s β σ l vs pv σ' (hA.le h)
theorem SV1b.mono {t : Value → Sem Bool} {k : PV → List PO → Option (Bool × List PO)} (c : SV1b G d t k) (h : d ≤ d') : SV1b G d' t k :=
  fun A s β σ a va r σ' hA => c A s β σ a va r σ' (hA.le h)
theorem swaps_ok {elt : Expr} {gens : List Comprehension} {scope : Scope} {pos py : Pos} {y : Str} {l : Nat} (hk : sc.kind = .function) (hl : sc.names.lookup y = some .local) (hline : (py.line == pos.line) = true)
    (hn : (scope.names.any fun x => x.1 == y && (x.2 == .local || x.2 == .cell)) = false) (env : Env) (h : env.scope = sc) : swapsWith (.ListComp elt gens scope pos) (some (.Name y py)) l env = pure true := by
  have e1 : env.blockKind = .function := by
    unfold Env.blockKind
    rw [h, hk]
    rfl
  have e2 : env.kindOf y = some .local := by show env.scope.names.lookup y = _; rw [h]; exact hl
  show (pure (env.blockKind == .function && env.kindOf y == some .local && py.line == pos.line && !(scope.names.any fun x => x.1 == y && (x.2 == .local || x.2 == .cell))) : Sem Bool) = pure true
  rw [e1, e2, hline, hn]
  rfl
def compChk (scope sc : Scope) (mp : List (Option Nat)) : Bool :=
  decide ((((relS scope sc).names).map (·.1)).Nodup) && (scope.kind == .function) && (sc.kind == .function) && (scope.names.all fun x => x.2 != .cell) &&
    (scope.names.all fun x => x.2 != .local || scope.names.lookup x.1 == some .local) && (scope.names.all fun x => x.2 != .free || sc.names.lookup x.1 == some .cell) &&
    (List.range mp.length).all fun j => match mp[j]?, (relS scope sc).names[j]? with
      | some (some i), some (x, k) => k == .cell && sc.names[i]? == some (x, .cell)
      | some (some _), none => false
      | _, _ => true
theorem CompOk.of {scope sc : Scope} {mp : List (Option Nat)} (h : compChk scope sc mp = true) : CompOk scope sc mp := by
  unfold compChk at h
  simp only [Bool.and_eq_true, List.all_eq_true, decide_eq_true_eq] at h
  obtain ⟨⟨⟨⟨⟨⟨h1, h2⟩, h3⟩, h4⟩, h5⟩, h6⟩, h7⟩ := h
  refine ⟨⟨h1⟩, by simpa using h2, by simpa using h3, fun x hx e => ?_, fun x hx e => ?_, fun x hx e => ?_, fun j x hj i hi => ?_, fun j x hj i hi => ?_⟩
  · have := h4 x hx
    rw [e] at this; exact absurd this (by decide)
  · have := h5 x hx
    rw [e] at this; simpa using this
  · have := h6 x hx
    rw [e] at this; simpa using this
  · have := h7 j (List.mem_range.mpr (List.getElem?_eq_some_iff.mp hi).1)
    rw [hi, hj] at this
    simpa using this
  · have := h7 j (List.mem_range.mpr (List.getElem?_eq_some_iff.mp hi).1)
    rw [hi, hj] at this
    simp at this
def fdAt (K : Frag) (a : Addr) : FuncData := match K.lookup a with
  | some ⟨_, _, .func fd, _⟩ => fd
  | _ => default
end
end Mine
end
section
open PySem PySem.W PySem.Calls PyProof.Rows
set_option maxRecDepth 100000
set_option linter.unusedVariables false
namespace Mine
variable [Ban]
set_option linter.unusedSectionVars false
section
variable {G : GC}
theorem m_join : SGet G "join" (.builtin "str.join") isS :=
  SGet.str fun A s x t pl Q E h => getMethod_builtin (typeIs_str _ _ _) PySem.F.plainAttrs_str PySem.F.slot_str_join PySem.F.type_str_join (fun _ e => nomatch e) h
theorem m_split : SGet G "split" (.builtin "str.split") isS :=
  SGet.str fun A s x t pl Q E h => getMethod_builtin (typeIs_str _ _ _) PySem.F.plainAttrs_str PySem.F.slot_str_split PySem.F.type_str_split (fun _ e => nomatch e) h
theorem m_isspace : SGet G "isspace" (.builtin "str.isspace") isS :=
  SGet.str fun A s x t pl Q E h => by with_reducible exact GM.isspace h
theorem m_append : SGet G "append" (.builtin "list.append") isL := by
  refine SGet.list ?_
  intro A s l o pl Q E ho hc hd h
  exact Calls.getMethod_list_append ho hc hd h
end
end Mine
end
section
open PySem PySem.W PySem.Calls PyProof.Rows
set_option maxRecDepth 100000
set_option linter.unusedVariables false
namespace Mine
variable [Ban]
set_option linter.unusedSectionVars false
section
variable {G : GC} {d : Nat} {sc : Scope}
theorem SE.compK {elt target iter : Expr} {ifs : List Expr} {scope : Scope} {pos : Pos} {mp : List (Option Nat)} {n : Nat} {tgt : FA} {tst : FB} {ef f : FE} (hc : compChk scope sc mp = true) (O : ScopeOk sc)
    (u : SE G d sc iter f) (B : ScopeOk (relS scope sc) → SAL G d (relS scope sc) target tgt ∧ STs G d (relS scope sc) ifs tst ∧ SE G d (relS scope sc) elt ef)
    (hs : ∀ env v, foldedSetIterable iter env v = pure v) : SE G d sc (.ListComp elt [⟨target, iter, ifs, 0⟩] scope pos) (fComp n mp tgt tst ef f) :=
  have K := CompOk.of hc
  have b := B K.inner
  SE.comp K O u b.1 b.2.1 b.2.2 hs
theorem SS.asgCompK {elt target iter : Expr} {ifs : List Expr} {scope : Scope} {pos : Pos} {mp : List (Option Nat)} {n : Nat} {tgt : FA} {tst : FB} {ef f : FE} {y : Str} {py p : Pos} {i : Nat} (hc : compChk scope sc mp = true) (O : ScopeOk sc)
    (hi : sc.names[i]? = some (y, .local))
    (u : SE G d sc iter f) (B : ScopeOk (relS scope sc) → SAL G d (relS scope sc) target tgt ∧ STs G d (relS scope sc) ifs tst ∧ SE G d (relS scope sc) elt ef)
    (hl : sc.names.lookup y = some .local) (hline : (py.line == pos.line) = true) (hn : (scope.names.any fun x => x.1 == y && (x.2 == .local || x.2 == .cell)) = false)
    (hs : ∀ env v, foldedSetIterable iter env v = pure v) : SS G d sc (exec (.Assign [.Name y py] (.ListComp elt [⟨target, iter, ifs, 0⟩] scope pos) p)) (fAsg (fComp n mp tgt tst ef f) (aVar i)) :=
  have K := CompOk.of hc
  have b := B K.inner
  SS.asgComp K O hi u b.1 b.2.1 b.2.2 (swaps_ok K.okind hl hline hn) hs
end
end Mine
end
section
open PySem PySem.W PySem.Calls PyProof.Rows
set_option maxRecDepth 100000
set_option linter.unusedVariables false
namespace Mine
variable [Ban]
set_option linter.unusedSectionVars false
def dropK (as : List Addr) (K : Frag) : Frag := K.filter fun x => !as.contains x.1
theorem lookup_mem' {α : Type} {a : Addr} {v : α} : ∀ {l : List (Addr × α)}, l.lookup a = some v → (a, v) ∈ l
  | (b, u) :: l, h => by
    rw [List.lookup_cons] at h
    split at h
    · rename_i e
      cases h
      have : a = b := by simpa using e
      subst this
      exact .head _
    · exact .tail _ (lookup_mem' h)
theorem lookup_filter {α : Type} {a : Addr} {v : α} {p : Addr × α → Bool} (hp : ∀ x y : Addr × α, x.1 = y.1 → p x = p y) : ∀ {l : List (Addr × α)}, (l.filter p).lookup a = some v → l.lookup a = some v ∧ p (a, v) = true
  | [], h => by cases h
  | (b, u) :: l, h => by
    rw [List.lookup_cons]
    by_cases q : p (b, u) = true
    · rw [List.filter_cons_of_pos q, List.lookup_cons] at h
      split at h
      · rename_i e
        cases h
        have : a = b := by simpa using e
        subst this
        simp [q]
      · rename_i e
        exact lookup_filter hp h
    · rw [List.filter_cons_of_neg q] at h
      have r := lookup_filter hp h
      split
      · rename_i e
        have : a = b := by simpa using e
        subst this
        rw [hp (a, u) (a, v) rfl] at q
        exact absurd r.2 q
      · exact r
theorem dropK_in {as : List Addr} {K : Frag} {h : Heap} (X : K.In h) : (dropK as K).In h := fun a o e =>
  X a o (lookup_filter (fun x y e => by rw [e]) e).1
theorem dropK_not {as : List Addr} {K : Frag} {a : Addr} {o : Obj} (e : (dropK as K).lookup a = some o) : a ∉ as := by
  have := (lookup_filter (fun x y e => by rw [e]) e).2
  simpa using this
def scopeChk (sc : Scope) (params : List Str) : Bool :=
  decide ((sc.names.map (·.1)).Nodup) && sc.kind == .function && !sc.isGenerator && !sc.isCoroutine &&
    (List.range params.length).all fun i => match params[i]?, sc.names[i]? with
      | some x, some (y, k) => x == y && (k == .local || k == .cell)
      | _, _ => false
def fnChk (K : Frag) (a : Addr) (params : List Str) : Bool :=
  fnIn K a && codeIn K (fdAt K a).code (fdAt K a).qualname && (fdAt K a).closure.isEmpty && (fdAt K a).globals == mainGlobals && (fdAt K a).builtins == builtinsNs && scopeChk (fdAt K a).scope params
section
variable {G : GC} {a : Addr} {body : List Stmt} {params : List Str} {dpv : List PV}
theorem fnIn_look {K : Frag} (h : fnIn K a = true) : ∃ oc od osl, K.lookup a = some ⟨oc, od, .func (fdAt K a), osl⟩ := by
  unfold fnIn at h
  unfold fdAt
  split at h
  · rename_i e
    rw [e]
    exact ⟨_, _, _, rfl⟩
  · cases h
theorem DefOk.mk0 (O : GOk G) (hc : fnChk G.K a params = true) (hb : (fdAt G.K a).body = .stmts body)
    (hbind : ∀ vs : List Value, vs.length + dpv.length = params.length → ∃ dvs, (∀ S, peek G.K S (bindArgs (fdAt G.K a) ⟨vs, []⟩) = some (params.zip (vs ++ dvs))) ∧ ∀ h β, VRs h β dpv dvs) :
    DefOk G a (fdAt G.K a) body params dpv := by
  unfold fnChk scopeChk at hc
  simp only [Bool.and_eq_true, List.all_eq_true, decide_eq_true_eq, Bool.not_eq_true'] at hc
  obtain ⟨⟨⟨⟨⟨h1, h2⟩, h3⟩, h4⟩, h5⟩, ⟨⟨⟨⟨h6, h7⟩, h8⟩, h9⟩, h10⟩⟩ := hc
  refine ⟨fnIn_look h1, hb, h2, by simpa using h3, by simpa using h4, by simpa using h5, fun s β vs B hl => ?_, h9, h8, by simpa using h7, ⟨h6⟩, fun i x hx => ?_⟩
  · obtain ⟨dvs, e1, e2⟩ := hbind vs hl
    exact ⟨dvs, kp_binds (B.K O) e1, e2 _ _⟩
  · have := h10 i (List.mem_range.mpr (List.getElem?_eq_some_iff.mp hx).1)
    rw [hx] at this
    split at this
    · rename_i x' y k e1 e2
      cases e1
      simp only [Bool.and_eq_true, Bool.or_eq_true, beq_iff_eq] at this
      obtain ⟨rfl, hk⟩ := this
      exact ⟨k, e2, hk⟩
    · cases this
end
end Mine
end
section
open PySem PySem.W PySem.Calls PyProof.Rows
set_option maxRecDepth 100000
set_option linter.unusedVariables false
namespace Mine
variable [Ban]
set_option linter.unusedSectionVars false
def closChk (K : Frag) (file : Str) (C : Addr) (fd : FuncData) : Bool := match fd.closure, fd.code with
  | [(x, cc)], .ref cda => x == ("__class__" : Str) && (match K.lookup cda with
      | some ⟨_, _, .fields vs, _⟩ => (match (vs[(2 : Nat)]? : Option Value) with
        | some (.str f _) => file == f
        | _ => false)
      | _ => false) && (match K.lookup cc with
      | some ⟨_, _, .cell (some (.ref C')), _⟩ => C' == C
      | _ => false)
  | _, _ => false
def selfFst (fd : FuncData) : Bool := match (fd.params.posonlyargs ++ fd.params.args).head? with
  | some ar => ar.arg == ("self" : Str)
  | none => false
def supChk (K : Frag) (file : Str) (C a : Addr) : Bool :=
  fnIn K a && closChk K file C (fdAt K a) && codeIn K (fdAt K a).code (fdAt K a).qualname && (fdAt K a).globals == mainGlobals && (fdAt K a).builtins == builtinsNs && selfFst (fdAt K a) &&
    !(fdAt K a).scope.isCoroutine && !(fdAt K a).scope.isGenerator && (fdAt K a).scope.kind == .function && ((fdAt K a).scope.names.all fun x => x.2 != .cell) &&
    (fdAt K a).scope.names.lookup ("super" : Str) == some .globalImplicit && (fdAt K a).scope.names.lookup ("__class__" : Str) == some .free && (fdAt K a).scope.names.lookup ("self" : Str) == some .local
section
variable {G : GC} {C a : Addr} {cd : ClassData} {body : List Stmt}
theorem SupOk.mk0 (hc : supChk G.K G.prog.main.file C a = true) (hb : (fdAt G.K a).body = .stmts body) (gsup : G.mg "super" = none) (bsup : G.mb "super" = some (.type "super"))
    (top : (G.prog.main.scope.names.lookup ("super" : Str)).isSome = false) (sub : mroIn G.K C (.ref C) = some true) (nomod : mroIn G.K C (.type "module") = some false) (typ : typeIn G.K (.ref C) = some (.type "type")) :
    SupOk G C cd a (fdAt G.K a) body := by
  unfold supChk at hc
  simp only [Bool.and_eq_true, Bool.not_eq_true', beq_iff_eq] at hc
  obtain ⟨⟨⟨⟨⟨⟨⟨⟨⟨⟨⟨⟨h1, h2⟩, h3⟩, h4⟩, h5⟩, h6⟩, h7⟩, h8⟩, h9⟩, h10⟩, h11⟩, h12⟩, h13⟩ := hc
  obtain ⟨oc, od, osl, hl⟩ := fnIn_look h1
  refine ⟨?_, hb, h3, h4, h5, ?_, h7, h8, h9, fun x hx e => ?_, h11, h12, h13, gsup, bsup, top, sub, nomod, typ⟩
  · unfold closChk at h2
    split at h2
    · rename_i x cc cda e1 e2
      simp only [Bool.and_eq_true, beq_iff_eq] at h2
      obtain ⟨⟨rfl, q1⟩, q2⟩ := h2
      split at q1
      · rename_i ccl cdd vs ccs e3
        split at q1
        · rename_i f tf e4
          split at q2
          · rename_i cl cld C' csl e5
            have : C' = C := by simpa using q2
            subst this
            exact ⟨oc, od, osl, cc, cda, vs, f, tf, ccl, cdd, ccs, cl, cld, csl, hl, e1, e2, e3, e4, by simpa using q1, e5⟩
          · cases q2
        · cases q1
      · cases q1
    · cases h2
  · unfold selfFst at h6
    split at h6
    · rename_i ar e
      exact ⟨ar, e, by simpa using h6⟩
    · cases h6
  · rw [List.all_eq_true] at h10
    have := h10 x hx
    rw [e] at this
    exact absurd this (by decide)
end
end Mine
end
section
open PySem PySem.W PySem.Calls PyProof.Rows
set_option maxRecDepth 100000
set_option linter.unusedVariables false
namespace Mine
variable [Ban]
set_option linter.unusedSectionVars false
theorem pass_obj (C : Addr) (self : Value) : refuseLoop self "__setattr__" [.ref C, .type "object"] = pure () := by
  rw [refuseLoop_ref]; kernel_rfl
theorem pass_list (C : Addr) (self : Value) : refuseLoop self "__setattr__" [.ref C, .type "list", .type "object"] = pure () := by
  rw [refuseLoop_ref]; kernel_rfl
theorem na_list (C : Addr) (vs : List Value) : argsOk "list.__new__" ⟨.ref C :: vs, []⟩ := by
  unfold argsOk; kernel_rfl
theorem ck_list_pop (x : Addr) : (match Manifest.signature? "list.pop" with
    | some sig => Bind.checkArgs "list.pop" { sig with full := s!"{("_Accumulator" : Str).toString}.{Bind.lastOf "list.pop"}" } ⟨[.ref x], []⟩
    | none => pure ()) = pure () := by kernel_rfl
theorem ck_pop {cd : ClassData} (h : cd.qualname = "_Accumulator") (x : Addr) (sig) (e : Manifest.signature? "list.pop" = some sig) : Bind.checkArgs "list.pop" { sig with full := s!"{cd.qualname.toString}.{Bind.lastOf "list.pop"}" } ⟨[.ref x], []⟩ = pure () := by
  have := ck_list_pop x
  rw [e] at this
  rw [h]
  exact this
def cdOf (K : Frag) (C : Addr) : ClassData := (clsIn K C).getD default
def clsChk (K : Frag) (C : Addr) (mro : List Value) : Bool := (clsIn K C).isSome && (cdOf K C).hasDict && (cdOf K C).mro == mro && findIn K (.ref C) "__getattr__" == some none && findIn K (.ref C) "__setattr__" == some (some (.builtin "object.__setattr__"))
theorem plain_obj {K : Frag} {C : Addr} (h : clsChk K C [.ref C, .type "object"] = true) (hg : findIn K (.ref C) "__getattribute__" = some (some (.builtin "object.__getattribute__"))) : PlainCls K C (cdOf K C) := by
  unfold clsChk at h
  simp only [Bool.and_eq_true, beq_iff_eq] at h
  obtain ⟨⟨⟨⟨h1, h2⟩, h3⟩, h4⟩, h5⟩ := h
  obtain ⟨cd, hc⟩ := Option.isSome_iff_exists.mp h1
  refine ⟨?_, h2, .inl hg, h4, h5, fun self => by rw [h3]; exact pass_obj C self, by rw [h3]; simp⟩
  unfold cdOf
  rw [hc]; rfl
theorem plain_lst {K : Frag} {C : Addr} (h : clsChk K C [.ref C, .type "list", .type "object"] = true) (hg : findIn K (.ref C) "__getattribute__" = some (some (.builtin "list.__getattribute__"))) (hm : mroIn K C (.type "list") = some true) : PlainCls K C (cdOf K C) := by
  unfold clsChk at h
  simp only [Bool.and_eq_true, beq_iff_eq] at h
  obtain ⟨⟨⟨⟨h1, h2⟩, h3⟩, h4⟩, h5⟩ := h
  obtain ⟨cd, hc⟩ := Option.isSome_iff_exists.mp h1
  refine ⟨?_, h2, .inr ⟨hg, hm⟩, h4, h5, fun self => by rw [h3]; exact pass_list C self, by rw [h3]; simp⟩
  unfold cdOf
  rw [hc]; rfl
end Mine
end
section
open PySem PySem.W PySem.Calls PyProof.Rows
set_option maxRecDepth 100000
set_option linter.unusedVariables false
namespace Mine
variable [Ban]
set_option linter.unusedSectionVars false
theorem len_1 {α : Type} : ∀ {l : List α}, l.length = 1 → ∃ a, l = [a]
  | [a], _ => ⟨a, rfl⟩
theorem len_2 {α : Type} : ∀ {l : List α}, l.length = 2 → ∃ a b, l = [a, b]
  | [a, b], _ => ⟨a, b, rfl⟩
theorem len_3 {α : Type} : ∀ {l : List α}, l.length = 3 → ∃ a b c, l = [a, b, c]
  | [a, b, c], _ => ⟨a, b, c, rfl⟩
theorem len_4 {α : Type} : ∀ {l : List α}, l.length = 4 → ∃ a b c d, l = [a, b, c, d]
  | [a, b, c, d], _ => ⟨a, b, c, d, rfl⟩
theorem len_5 {α : Type} : ∀ {l : List α}, l.length = 5 → ∃ a b c d e, l = [a, b, c, d, e]
  | [a, b, c, d, e], _ => ⟨a, b, c, d, e, rfl⟩
def nsStr (K : Frag) (x s : Str) : Bool := match nsIn K mainGlobals x with
  | some (some (.str y _)) => y == s
  | _ => false
theorem nsStr_of {K : Frag} {x s : Str} (h : nsStr K x s = true) : ∃ t, nsIn K mainGlobals x = some (some (.str s t)) := by
  unfold nsStr at h
  split at h
  · rename_i y t e
    have : y = s := by simpa using h
    subst this
    exact ⟨t, e⟩
  · cases h
def strsChk : List Value → List Str → Bool
  | [], [] => true
  | .str y _ :: r, s :: l => y == s && strsChk r l
  | _, _ => false
theorem strsChk_of {h : Heap} {β : Lay} : ∀ {vs : List Value} {l : List Str}, strsChk vs l = true → VRs h β (l.map .str) vs
  | [], [], _ => rfl
  | .str y t :: r, s :: l, e => by
    unfold strsChk at e
    simp only [Bool.and_eq_true, beq_iff_eq] at e
    obtain ⟨rfl, e⟩ := e
    exact ⟨_, _, rfl, ⟨t, rfl⟩, strsChk_of e⟩
def tupChk (K : Frag) (a : Addr) (l : List Str) : Bool := match K.lookup a with
  | some ⟨.type T, _, .seq vs _, _⟩ => T == "tuple" && strsChk vs.toList l
  | _ => false
section
variable {G : GC}
theorem tupChk_of (O : GOk G) {a : Addr} {l : List Str} (e : tupChk G.K a l = true) (h : Heap) (β : Lay) (B : Base G h) : VR h β (.tup (l.map .str)) (.ref a) := by
  unfold tupChk at e
  split at e
  · rename_i T d vs n sl q
    simp only [Bool.and_eq_true, beq_iff_eq] at e
    obtain ⟨rfl, e⟩ := e
    exact ⟨a, d, vs, n, sl, rfl, B.K O _ _ q, (fun n => by have e1 := O.nb a n; have e2 := O.X _ _ q; rw [e1] at e2; cases e2), strsChk_of e⟩
  · cases e
theorem mgv (O : GOk G) {x : Str} {v : Value} (e : nsIn G.K mainGlobals x = some (some v)) : G.mg x = some v := mg_of O.X O.g e
theorem mgn (O : GOk G) {x : Str} (e : nsIn G.K mainGlobals x = some none) : G.mg x = none := mg_none_of O.X O.g e
theorem mgs (O : GOk G) {x s : Str} (e : nsStr G.K x s = true) : ∃ t, G.mg x = some (.str s t) := let ⟨t, h⟩ := nsStr_of e; ⟨t, mgv O h⟩
end
end Mine
end
section
open PySem PySem.W PySem.Calls PyProof.Rows PySem.W.X
set_option maxRecDepth 100000
set_option linter.unusedVariables false
namespace Mine
variable [Ban]
set_option linter.unusedSectionVars false
def codeEnough (vs : Array Value) (P : Addr) : Bool := (vs.getD 11 .none) == .ref P && (vs[(11 : Nat)]? == some (.ref P)) &&
  (match vs.getD 18 .none with
    | .str _ _ => true
    | _ => false) &&
  (match vs.getD 7 .none with
    | .int _ _ => true
    | _ => false) &&
  (match vs.getD 9 .none with
    | .bool _ => true
    | _ => false) &&
  (match vs.getD 10 .none with
    | .int _ _ => true
    | _ => false)
def tabChk (K : Frag) (c P : Addr) : Bool := c != P && (match K.lookup c with
  | some ⟨.type T, _, .fields vs, _⟩ => T == "code" && codeEnough vs P
  | _ => false) && (match K.lookup P with
  | some ⟨.none, none, .fields ps, sl⟩ => ps.toList.isEmpty && sl.toList.isEmpty
  | _ => false)
theorem tab_of {K : Frag} {h : Heap} (X : K.In h) {c P : Addr} (e : tabChk K c P = true) : h.TableAt c P #[] ∧ h.IsCode c P #[] := by
  unfold tabChk at e
  simp only [Bool.and_eq_true, bne_iff_ne] at e
  obtain ⟨⟨e0, e1⟩, e2⟩ := e
  split at e1
  · rename_i T d vs sl q
    split at e2
    · rename_i ps sl' q'
      simp only [Bool.and_eq_true, beq_iff_eq, List.isEmpty_iff] at e1 e2
      obtain ⟨rfl, e1⟩ := e1
      obtain ⟨p1, p2⟩ := e2
      have p1 : ps = #[] := by rw [← Array.toList_inj]; simpa using p1
      have p2 : sl' = #[] := by rw [← Array.toList_inj]; simpa using p2
      subst p1 p2
      unfold codeEnough at e1
      simp only [Bool.and_eq_true, beq_iff_eq] at e1
      obtain ⟨⟨⟨⟨⟨a1, a2⟩, a3⟩, a4⟩, a5⟩, a6⟩ := e1
      have gc := X _ _ q
      have gP := X _ _ q'
      refine ⟨⟨⟨_, vs, gc, rfl, rfl, a2⟩, gP⟩, ?_⟩
      split at a3
      · rename_i f tf b3
        split at a4
        · rename_i fl tg b4
          split at a5
          · rename_i inF b5
            split at a6
            · rename_i tx tt b6
              exact ⟨_, vs, f, tf, fl, tg, inF, tx, tt, _, gc, rfl, a1, b3, b4, b5, b6, gP, rfl, trivial, e0⟩
            · cases a6
          · cases a5
        · cases a4
      · cases a3
    · cases e2
  · cases e1
theorem tabOk_start {K : Frag} {h : Heap} (X : K.In h) {t : TabSpec} (e : tabChk K t.c t.P = true) : TabOk h h t := by
  obtain ⟨a, b⟩ := tab_of X e
  exact ⟨#[], #[], #[], a, by simp, b, a, .inl rfl⟩
section
variable {G : GC}
theorem oldK_of {h' : Heap} {β' : Lay} (S : Step G G.h₀ [] h' β') (B : Base G h') : OldK G.h₀ h' := by
  refine ⟨fun b o e => ?_, S.there⟩
  by_cases t : G.TB b
  · obtain ⟨x, hx, rfl⟩ := t
    obtain ⟨ps, ps₀, more, q1, rfl, q3, q4, _⟩ := B.tab x hx
    have := Option.some.inj (e.symm.trans q1.2)
    subst this
    exact .inr (.inl ⟨q1.isCodeTable, rfl, ps₀, more, rfl, q4.2⟩)
  · exact .inl (S.keep b o e (fun i => by obtain ⟨p, hp, _⟩ := i; cases hp) t)
theorem rel_start (hn : ∀ a, ¬ Ban.no a) (hb : ∀ t ∈ G.tabs, TabOk G.h₀ G.h₀ t) : Rel G G.h₀ [] [] :=
  ⟨⟨fun _ _ e _ => e, hb, fun a n => absurd n (hn a)⟩, rfl, fun i p o e _ => by simp at e, fun i j p q e _ _ => by simp at e, fun b i => by obtain ⟨p, hp, _⟩ := i; cases hp⟩
theorem litL_of {a : Addr} {vs : List Value} {ns : List Int} (hL : G.h₀.IsList a vs.toArray) (hI : IntsAre vs ns) (ht : ∀ t ∈ G.tabs, TabOk G.h₀ G.h₀ t) : LitL G a ns := by
  obtain ⟨d, n, sl, e⟩ := isList_open hL
  refine ⟨⟨d, n, sl, _, e, fun h β => ?_⟩, ?_⟩
  · clear e hL
    induction hI with
    | nil => rfl
    | cons t _ _ ih => exact ⟨_, _, rfl, ⟨_, rfl⟩, ih⟩
  · rintro ⟨t, h1, rfl⟩
    obtain ⟨ps, ps₀, more, q1, _⟩ := ht t h1
    have := q1.2
    rw [e] at this
    cases this
theorem law_done (hn : ∀ a, ¬ Ban.no a) {fa a : Addr} {ns : List Int} {Φ : CF} {d : Nat} (hd : d ≤ 20) (c : SCall G d (.ref fa) Φ) (L : LitL G a ns) (ht : ∀ t ∈ G.tabs, TabOk G.h₀ G.h₀ t) {s₁ : Shared} (hs : s₁.heap = G.h₀) (hg : s₁.gens = #[])
    (pure : ∃ σ', Φ [.lit (.ref a)] [] = some (.bool true, σ')) {Q : Value → Shared → Prop} {E : Value → Shared → Prop}
    (hQ : ∀ s', OldK s₁.heap s'.heap → s'.os = s₁.os → AllBare s'.gens → Q (.bool true) s') : wpAny G.M callerA (call (.ref fa) [.ref a]) Q E s₁ := by
  obtain ⟨σ', pe⟩ := pure
  have R := rel_start hn ht
  refine c callerA s₁ [] [] [.lit (.ref a)] [.ref a] (.bool true) σ' ⟨?_, ?_, rfl⟩ (hs ▸ R) ⟨_, _, rfl, rfl, rfl⟩ pe Q E fun v s' β' S1 R1 V1 H1 => ?_
  · show 1 + claimMargin + 3 * d ≤ 900
    have : claimMargin ≤ 500 := by decide
    omega
  · show 4 + 30 * d ≤ 9000
    omega
  · rw [show v = .bool true from V1]
    rw [hs] at S1
    exact hQ s' (hs ▸ oldK_of S1 R1.base) H1.os (H1.bare (by rw [hg]; exact AllBare.empty))
end
end Mine
end
section
open PySem PySem.W PySem.Calls PyProof.Rows
set_option maxRecDepth 100000
set_option linter.unusedVariables false
namespace Mine
theorem pa_pat : PlainAttrs "re.Pattern" :=
  ⟨⟨"object.__getattribute__", by rw [typeLookup_type, builtinLookup_eq_fast]; kernel_rfl, by decide +kernel⟩, by rw [typeLookup_type, builtinLookup_eq_fast]; kernel_rfl⟩
theorem sl_split : Slot "re.Pattern" "split" "re.Pattern.split" :=
  .of (owner := "re.Pattern") (n := "split") (by rw [typeLookup_type, builtinLookup_eq_fast]; kernel_rfl) (by decide +kernel) (by decide +kernel) (by decide +kernel)
    (by first | exact .inl (by decide +kernel) | exact .inr (by decide +kernel)) (by rw [isSubtype_type]; kernel_rfl)
theorem ty_split : typeOf (.builtin "re.Pattern.split") = pure (.type "method_descriptor") := by show builtinType _ = _; rw [builtinType_eq_fast]; kernel_rfl
theorem en_split : entryFor table "re.Pattern.split" = some Builtin.«re.Pattern.split» := entryFor_of_tree (by kernel_rfl)
theorem ow_pat : Manifest.owners.lookup (String.ofList ['n', 'r', 'e', 't', 't', 'a', 'P', '.', 'e', 'r'].reverse) = some Manifest.sig_re_Pattern := by kernel_rfl
theorem ar_split (a b : Value) : argsOk "re.Pattern.split" ⟨[a, b], []⟩ := by
  unfold argsOk; rw [signature?_of (id := "re.Pattern.split") (n := ['t', 'i', 'l', 'p', 's']) (o := ['n', 'r', 'e', 't', 't', 'a', 'P', '.', 'e', 'r']) (by kernel_rfl) ow_pat]; kernel_rfl
end Mine
end
section
open PySem PySem.W PySem.Calls PyProof.Rows
set_option maxRecDepth 100000
set_option linter.unusedVariables false
namespace Mine
open Sre
def rxC : Array Nat := #[14, 4, 0, 1, 4294967295, 17, 0, 24, 11, 1, 4294967295, 13, 6, 16, 32, 16, 9, 0, 1, 17, 1, 1]
def ws (c : Nat) : Bool := c == 32 || c == 9
theorem rx_accepts (c : Nat) (seen : Sre.Seen) : ∃ seen', accepts rxC 11 c seen = .ok (ws c, seen') := by
  have h0 : accepts rxC 11 c seen = inSet rxC c rxC.size 13 true seen := rfl
  rw [h0]
  have h1 : inSet rxC c rxC.size 13 true seen = if c == 32 then .ok (true, seen.add 16) else inSet rxC c 21 15 true (seen.add 16) := rfl
  have h2 : ∀ seen, inSet rxC c 21 15 true seen = if c == 9 then .ok (true, seen.add 16) else inSet rxC c 20 17 true (seen.add 16) := fun _ => rfl
  have h3 : ∀ seen, inSet rxC c 20 17 true seen = .ok (false, seen.add 0) := fun _ => rfl
  rw [h1, h2, h3]
  unfold ws
  by_cases a : (c == 32) = true
  · rw [if_pos a, a]; exact ⟨_, rfl⟩
  · rw [if_neg a]
    simp only [Bool.not_eq_true] at a
    rw [a]
    by_cases b : (c == 9) = true
    · rw [if_pos b, b]; exact ⟨_, rfl⟩
    · rw [if_neg b]
      simp only [Bool.not_eq_true] at b
      rw [b]; exact ⟨_, rfl⟩
def cnt (T : Array Nat) : Nat → Nat → Nat
  | 0, _ => 0
  | n + 1, p => if ws (T.getD p 0) = true then 1 + cnt T n (p + 1) else 0
theorem cnt_le (T : Array Nat) : ∀ n p, cnt T n p ≤ n
  | 0, _ => Nat.le_refl _
  | n + 1, p => by
    have := cnt_le T n (p + 1)
    unfold cnt; split <;> omega
theorem rx_run (T : Array Nat) : ∀ (n p found : Nat) (seen : Sre.Seen), ∃ seen', run rxC T 11 n p found seen = .ok (found + cnt T n p, seen')
  | 0, _, found, seen => ⟨seen, rfl⟩
  | n + 1, p, found, seen => by
    obtain ⟨s1, h1⟩ := rx_accepts (T.getD p 0) seen
    have e : run rxC T 11 (n + 1) p found seen = (do
      let (yes, seen) ← accepts rxC 11 (T.getD p 0) seen
      if yes then run rxC T 11 n (p + 1) (found + 1) seen else pure (found, seen)) := rfl
    rw [e, h1]
    by_cases h : ws (T.getD p 0) = true
    · obtain ⟨s2, h2⟩ := rx_run T n (p + 1) (found + 1) s1
      refine ⟨s2, ?_⟩
      show (if ws (T.getD p 0) = true then run rxC T 11 n (p + 1) (found + 1) s1 else pure (found, s1)) = _
      rw [if_pos h, h2, cnt, if_pos h]
      congr 2; omega
    · refine ⟨s1, ?_⟩
      show (if ws (T.getD p 0) = true then run rxC T 11 n (p + 1) (found + 1) s1 else pure (found, s1)) = _
      rw [if_neg h, cnt, if_neg h]; rfl
theorem runFor_done {m : M} (h : m.outcome.isSome = true) : ∀ n, M.runFor n m = m
  | 0 => rfl
  | n + 1 => by rw [M.runFor, if_pos h]
theorem runFor_step {m : M} (h : m.outcome = none) (n : Nat) : M.runFor (n + 1) m = M.runFor n m.step := by
  rw [M.runFor, if_neg (by rw [h]; decide)]
theorem runFor_add : ∀ (a b : Nat) (m : M), M.runFor (a + b) m = M.runFor b (M.runFor a m)
  | 0, b, m => by rw [Nat.zero_add]; rfl
  | a + 1, b, m => by
    cases h : m.outcome with
    | none => rw [show a + 1 + b = (a + b) + 1 by omega, runFor_step h, runFor_step h]; exact runFor_add a b m.step
    | some o =>
      have h' : m.outcome.isSome = true := by rw [h]; rfl
      rw [runFor_done h', runFor_done h', runFor_done h']
def Ends (m mf : M) (k : Nat) : Prop := mf.outcome.isSome = true ∧ ∀ N, k ≤ N → M.runFor N m = mf
theorem Ends.step {m mf : M} {k : Nat} (h : m.outcome = none) (e : Ends m.step mf k) : Ends m mf (k + 1) := by
  refine ⟨e.1, fun N hN => ?_⟩
  obtain ⟨N', rfl⟩ : ∃ N', N = N' + 1 := ⟨N - 1, by omega⟩
  rw [runFor_step h]; exact e.2 N' (by omega)
theorem Ends.done {m : M} (h : m.outcome.isSome = true) : Ends m m 0 := ⟨h, fun N _ => runFor_done h N⟩
theorem Ends.mono {m mf : M} {k k' : Nat} (e : Ends m mf k) (h : k ≤ k') : Ends m mf k' := ⟨e.1, fun N hN => e.2 N (by omega)⟩
def atS (T : Array Nat) (lim s : Nat) (ft ma : Bool) (mks : Array (Option Nat)) (seen : Sre.Seen) : M :=
  { code := rxC, text := T, lim, start := s, lastStart := lim, mustAdvance := ma, pc := 5, pos := s, handed := s, outermost := ft, marks := mks, lastmark := -1, lastindex := -1, frames := [{ wait := .nextStart, pc := 5, pos := s, outermost := ft }], weight := 1, seen }
theorem st_mark0 {T : Array Nat} {lim s : Nat} {ft ma : Bool} {mks : Array (Option Nat)} {seen : Sre.Seen} : (atS T lim s ft ma mks seen).step =
    { atS T lim s ft ma (mks.setIfInBounds 0 (some s)) (seen.add 17) with lastmark := 0, pc := 7 } := rfl
def at7 (T : Array Nat) (lim s : Nat) (ft ma : Bool) (mks : Array (Option Nat)) (seen : Sre.Seen) : M := { atS T lim s ft ma mks seen with lastmark := 0, pc := 7 }
theorem st_rep {T : Array Nat} {lim s : Nat} {ft ma : Bool} {mks : Array (Option Nat)} {seen : Sre.Seen} : ∃ seen', (at7 T lim s ft ma mks seen).step =
    if lim ≤ s then { at7 T lim s ft ma mks (seen.add 24) with answer := some false } else
    if cnt T (min 4294967295 (lim - s)) s < 1 then { at7 T lim s ft ma mks seen' with answer := some false } else
    { at7 T lim s ft ma mks seen' with pc := 19, pos := s + cnt T (min 4294967295 (lim - s)) s, handed := s + cnt T (min 4294967295 (lim - s)) s, weight := 2, frames := { wait := .giveBack, pc := 7, pos := s + cnt T (min 4294967295 (lim - s)) s, outermost := ft, count := (cnt T (min 4294967295 (lim - s)) s : Nat), kept := { lastmark := 0, lastindex := -1, whole := false, marks := #[] } } :: [{ wait := .nextStart, pc := 5, pos := s, outermost := ft }] } := by
  have hr : ((lim : Int) - (s : Int)).toNat = lim - s := by omega
  obtain ⟨s2, h2⟩ := rx_run T (min 4294967295 (lim - s)) s 0 ((seen.add 24).add 13)
  refine ⟨s2, ?_⟩
  have e : (at7 T lim s ft ma mks seen).step = (if ((1 : Nat) : Int) > (lim : Int) - (s : Int) then { at7 T lim s ft ma mks (seen.add 24) with answer := some false } else
     match run rxC T 11 (min 4294967295 ((lim : Int) - (s : Int)).toNat) s 0 ((seen.add 24).add 13) with
     | .error why => M.stick { at7 T lim s ft ma mks (seen.add 24) with answer := none } why
     | .ok (n, seen) => if n < 1 then { at7 T lim s ft ma mks seen with answer := some false } else
        M.afterRun { at7 T lim s ft ma mks seen with pos := s + n } .giveBack n (M.keep { at7 T lim s ft ma mks seen with pos := s + n } false)) := rfl
  rw [e, hr, h2]
  by_cases hl : lim ≤ s
  · rw [if_pos hl, if_pos (by omega)]
  · rw [if_neg hl, if_neg (by omega)]
    simp only [Nat.zero_add]
    by_cases hc : cnt T (min 4294967295 (lim - s)) s < 1
    · rw [if_pos hc, if_pos hc]
    · rw [if_neg hc, if_neg hc]; rfl
end Mine
end
section
open PySem PySem.W PySem.Calls PyProof.Rows
set_option maxRecDepth 100000
set_option linter.unusedVariables false
namespace Mine
open Sre
section
variable {T : Array Nat} {lim s : Nat} {ft ma : Bool} {a b : Option Nat} {seen : Sre.Seen}
theorem go_fail (hl : s < lim) : (M.step { at7 T lim s ft ma #[a, b] seen with answer := some false }) = atS T lim (s + 1) false false #[a, b] seen := by
  have e : (M.step { at7 T lim s ft ma #[a, b] seen with answer := some false }) = if s < lim then atS T lim (s + 1) false false #[a, b] seen else { at7 T lim s ft ma #[a, b] seen with pc := 5, frames := [], weight := 0, answer := some false } := rfl
  rw [e, if_pos hl]
theorem go_stop (hl : ¬ s < lim) : (M.step { at7 T lim s ft ma #[a, b] seen with answer := some false }) = { at7 T lim s ft ma #[a, b] seen with pc := 5, frames := [], weight := 0, answer := some false } := by
  have e : (M.step { at7 T lim s ft ma #[a, b] seen with answer := some false }) = if s < lim then atS T lim (s + 1) false false #[a, b] seen else { at7 T lim s ft ma #[a, b] seen with pc := 5, frames := [], weight := 0, answer := some false } := rfl
  rw [e, if_neg hl]
structure Found (T : Array Nat) (lim s : Nat) (mf : M) (p e : Nat) : Prop where
  out : mf.outcome = some .matched
  start : mf.start = p
  handed : mf.handed = e
  marks : mf.marks = #[some p, some e]
  last : mf.lastmark = 1
def at19 (T : Array Nat) (lim s : Nat) (ft ma : Bool) (mks : Array (Option Nat)) (seen : Sre.Seen) (c : Nat) : M :=
  { at7 T lim s ft ma mks seen with pc := 19, pos := s + c, handed := s + c, weight := 2, frames := { wait := .giveBack, pc := 7, pos := s + c, outermost := ft, count := (c : Nat), kept := { lastmark := 0, lastindex := -1, whole := false, marks := #[] } } :: [{ wait := .nextStart, pc := 5, pos := s, outermost := ft }] }
theorem st_mark1 {c : Nat} : (at19 T lim s ft ma #[some s, b] seen c).step = { at19 T lim s ft ma #[some s, some (s + c)] (seen.add 17) c with lastmark := 1, lastindex := 1, pc := 21 } := by kernel_rfl
theorem go_found {c : Nat} (hc : 1 ≤ c) : ∃ mf, Ends (at19 T lim s ft ma #[some s, b] seen c) mf 5 ∧ Found T lim s mf s (s + c) := by
  let m1 : M := { at19 T lim s ft ma #[some s, some (s + c)] (seen.add 17) c with lastmark := 1, lastindex := 1, pc := 21 }
  have e1 : (at19 T lim s ft ma #[some s, b] seen c).step = m1 := st_mark1
  let m2 : M := { m1 with seen := (seen.add 17).add 1, answer := some true }
  have e2 : m1.step = m2 := by
    have h : m1.step = if (ft && ((false && s + c != lim) || (ma && s + c == s))) = true then { m1 with seen := (seen.add 17).add 1, answer := some false } else m2 := rfl
    rw [h, if_neg]
    have : (s + c == s) = false := by rw [beq_eq_false_iff_ne]; omega
    rw [this]; simp
  let m3 : M := { m2 with pc := 7, frames := [{ wait := .nextStart, pc := 5, pos := s, outermost := ft }], weight := 1 }
  have e3 : m2.step = m3 := rfl
  let m4 : M := { m3 with pc := 5, pos := s, frames := [], weight := 0 }
  have e4 : m3.step = m4 := rfl
  let m5 : M := { m4 with outcome := some .matched }
  have e5 : m4.step = m5 := rfl
  refine ⟨m5, ?_, ⟨rfl, rfl, rfl, rfl, rfl⟩⟩
  refine Ends.step rfl ?_
  rw [e1]
  refine Ends.step rfl ?_
  rw [e2]
  refine Ends.step rfl ?_
  rw [e3]
  refine Ends.step rfl ?_
  rw [e4]
  refine Ends.step rfl ?_
  rw [e5]
  exact Ends.done rfl
theorem go_dead {m : M} (h : m.outcome = none) (h2 : m.answer = some false) (h3 : m.frames = []) : ∃ mf, Ends m mf 1 ∧ mf.outcome = some .failed := by
  have e : m.step = { m with outcome := some .failed } := by
    unfold M.step
    rw [if_neg (by rw [h]; decide), h2, h3]
    simp
  refine ⟨_, Ends.step h (by rw [e]; exact Ends.done rfl), rfl⟩
theorem rx_from (hlim : lim ≤ 4294967295) : ∀ (d s : Nat) (ft ma : Bool) (a b : Option Nat) (seen : Sre.Seen), lim - s = d → s ≤ lim →
    (∃ mf, Ends (atS T lim s ft ma #[a, b] seen) mf (3 * d + 7) ∧ mf.outcome = some .failed ∧ ∀ j, s ≤ j → j < lim → ws (T.getD j 0) = false) ∨
    (∃ mf p, Ends (atS T lim s ft ma #[a, b] seen) mf (3 * d + 7) ∧ s ≤ p ∧ p < lim ∧ (∀ j, s ≤ j → j < p → ws (T.getD j 0) = false) ∧ ws (T.getD p 0) = true ∧ Found T lim s mf p (p + cnt T (lim - p) p)) := by
  intro d
  induction d with
  | zero =>
    intro s ft ma a b seen hd hs
    have : s = lim := by omega
    subst this
    left
    have e1 : (atS T s s ft ma #[a, b] seen).step = at7 T s s ft ma #[some s, b] (seen.add 17) := rfl
    obtain ⟨s2, e2⟩ := st_rep (T := T) (lim := s) (s := s) (ft := ft) (ma := ma) (mks := #[some s, b]) (seen := seen.add 17)
    rw [if_pos (Nat.le_refl _)] at e2
    obtain ⟨mf, E, ho⟩ := go_dead (m := { at7 T s s ft ma #[some s, b] ((seen.add 17).add 24) with pc := 5, frames := [], weight := 0, answer := some false }) rfl rfl rfl
    refine ⟨mf, ?_, ho, fun j h1 h2 => by omega⟩
    refine Ends.mono (k := 4) ?_ (by omega)
    refine Ends.step rfl ?_
    rw [e1]
    refine Ends.step rfl ?_
    rw [e2]
    refine Ends.step rfl ?_
    rw [go_stop (by omega)]
    exact E
  | succ d ih =>
    intro s ft ma a b seen hd hs
    have e1 : (atS T lim s ft ma #[a, b] seen).step = at7 T lim s ft ma #[some s, b] (seen.add 17) := rfl
    obtain ⟨s2, e2⟩ := st_rep (T := T) (lim := lim) (s := s) (ft := ft) (ma := ma) (mks := #[some s, b]) (seen := seen.add 17)
    rw [if_neg (by omega), show min 4294967295 (lim - s) = lim - s by omega] at e2
    by_cases hw : ws (T.getD s 0) = true
    · right
      have hc : 1 ≤ cnt T (lim - s) s := by
        rw [hd, cnt, if_pos hw]; omega
      rw [if_neg (by omega)] at e2
      obtain ⟨mf, E, F⟩ := go_found (T := T) (lim := lim) (s := s) (ft := ft) (ma := ma) (b := b) (seen := s2) hc
      refine ⟨mf, s, ?_, Nat.le_refl _, by omega, fun j h1 h2 => by omega, hw, F⟩
      refine Ends.mono (k := 7) ?_ (by omega)
      refine Ends.step rfl ?_
      rw [e1]
      refine Ends.step rfl ?_
      rw [e2]
      exact E
    · have hc : cnt T (lim - s) s < 1 := by
        rw [hd, cnt, if_neg hw]; omega
      rw [if_pos hc] at e2
      have hw' : ws (T.getD s 0) = false := by simpa using hw
      have lift : ∀ mf k, Ends (atS T lim (s + 1) false false #[some s, b] s2) mf k → Ends (atS T lim s ft ma #[a, b] seen) mf (k + 3) := by
        intro mf k E
        refine Ends.mono (k := k + 1 + 1 + 1) ?_ (by omega)
        refine Ends.step rfl ?_
        rw [e1]
        refine Ends.step rfl ?_
        rw [e2]
        refine Ends.step rfl ?_
        rw [go_fail (by omega)]
        exact E
      rcases ih (s + 1) false false (some s) b s2 (by omega) (by omega) with ⟨mf, E, ho, hj⟩ | ⟨mf, p, E, h1, h2, h3, h4, F⟩
      · left
        refine ⟨mf, (lift mf _ E).mono (by omega), ho, fun j j1 j2 => ?_⟩
        rcases Nat.lt_or_ge s j with h | h
        · exact hj j (by omega) j2
        · have : j = s := by omega
          subst this; exact hw'
      · right
        refine ⟨mf, p, (lift mf _ E).mono (by omega), by omega, h2, fun j j1 j2 => ?_, h4, ⟨F.out, F.start, F.handed, F.marks, F.last⟩⟩
        rcases Nat.lt_or_ge s j with h | h
        · exact h3 j (by omega) j2
        · have : j = s := by omega
          subst this; exact hw'
theorem rx_search (hlim : lim ≤ 1000000) (hs : s ≤ lim) : 
    (∃ mf, Ends (forSearch rxC T 1 s lim ma) mf (3 * lim + 8) ∧ mf.outcome = some .failed ∧ ∀ j, s ≤ j → j < lim → ws (T.getD j 0) = false) ∨
    (∃ mf p, Ends (forSearch rxC T 1 s lim ma) mf (3 * lim + 8) ∧ s ≤ p ∧ p < lim ∧ (∀ j, s ≤ j → j < p → ws (T.getD j 0) = false) ∧ ws (T.getD p 0) = true ∧ Found T lim s mf p (p + cnt T (lim - p) p)) := by
  have e : forSearch rxC T 1 s lim ma = if (decide (s > lim) || decide (lim - s < 1)) = true then { atS T lim s true ma #[none, none] (({} : Sre.Seen).add 14) with frames := [], weight := 0, lastStart := 0, answer := some false } else atS T lim s true ma #[none, none] (({} : Sre.Seen).add 14) := rfl
  rw [e]
  by_cases h : lim - s < 1
  · left
    rw [if_pos (by simp [h])]
    obtain ⟨mf, E, ho⟩ := go_dead (m := { atS T lim s true ma #[none, none] (({} : Sre.Seen).add 14) with frames := [], weight := 0, lastStart := 0, answer := some false }) rfl rfl rfl
    exact ⟨mf, E.mono (by omega), ho, fun j h1 h2 => by omega⟩
  · rw [if_neg (by simp; omega)]
    rcases rx_from (T := T) (lim := lim) (by omega) (lim - s) s true ma none none (({} : Sre.Seen).add 14) rfl hs with ⟨mf, E, ho, hj⟩ | ⟨mf, p, E, h1, h2, h3, h4, F⟩
    · exact .inl ⟨mf, E.mono (by omega), ho, hj⟩
    · exact .inr ⟨mf, p, E.mono (by omega), h1, h2, h3, h4, F⟩
end
end Mine
end
section
open PySem PySem.W PySem.Calls PyProof.Rows
set_option maxRecDepth 100000
set_option linter.unusedVariables false
namespace Mine
open Builtin.Re Builtin
section
variable {M : Model} {A : Around} {E : Value → Shared → Prop} {s : Shared}
theorem drive_ok {mf : Sre.M} {Q : Sre.M → Shared → Prop} (hQ : Q mf s) : ∀ (turns k : Nat) (m : Sre.M), Ends m mf k → k < 4 * turns → wpAny M A (reDrive turns m) Q E s := by
  intro turns
  induction turns with
  | zero => intro k m e h; omega
  | succ n ih =>
    intro k m e h
    unfold reDrive
    show wpAny M A (if (Sre.M.runFor 4 m).outcome.isSome = true then pure (Sre.M.runFor 4 m) else do rule "sre.turn"; reDrive n (Sre.M.runFor 4 m)) Q E s
    by_cases hs : (Sre.M.runFor 4 m).outcome.isSome = true
    · rw [if_pos hs]
      have h1 := e.2 (4 + k) (by omega)
      rw [runFor_add, runFor_done hs] at h1
      rw [h1]; exact wpAny_pure hQ
    · rw [if_neg hs]
      have hk : 4 < k := by
        rcases Nat.lt_or_ge 4 k with h2 | h2
        · exact h2
        · rw [e.2 4 h2] at hs; exact absurd e.1 hs
      refine wpAny_bind (wpAny_rule ?_)
      refine ih (k - 4) _ ⟨e.1, fun N hN => ?_⟩ (by omega)
      rw [← runFor_add]; exact e.2 _ (by omega)
theorem rules_ok {c : Nat → Bool} {f : Nat → String} {Q : PUnit → Shared → Prop} (hQ : Q ⟨⟩ s) (l : List Nat) :
    wpAny M A (forIn l PUnit.unit (fun i _ => if c i = true then do rule (f i); pure (ForInStep.yield PUnit.unit) else pure (ForInStep.yield PUnit.unit))) Q E s := by
  refine wpAny_forIn_list _ (fun _ _ s' => s' = s) _ ?_ ?_ _ _ rfl
  · rintro x rest b s' rfl
    by_cases h : c x = true
    · rw [if_pos h]; exact wpAny_bind (wpAny_rule (wpAny_pure rfl))
    · rw [if_neg h]; exact wpAny_pure rfl
  · rintro b s' rfl; exact hQ
theorem end_ok {m mf : Sre.M} {k : Nat} {Q : Option Sre.M → Shared → Prop} (e : Ends m mf k) (hk : k < 4 * 2 ^ 64) (hQ : (mf.outcome = some .matched ∧ Q (some mf) s) ∨ (mf.outcome = some .failed ∧ Q none s)) : wpAny M A (reRunToEnd m) Q E s := by
  unfold reRunToEnd
  refine wpAny_bind (drive_ok ?_ (2 ^ 64) k m e hk)
  refine wpAny_bind (rules_ok ?_ _)
  rcases hQ with ⟨h, q⟩ | ⟨h, q⟩
  · rw [h]; exact wpAny_pure q
  · rw [h]; exact wpAny_pure q
structure PatAt (h : Heap) (a c : Addr) : Prop where
  ob : ∃ o vs, h.get? a = some o ∧ o.cls = .type "re.Pattern" ∧ o.dict = none ∧ o.data = .fields vs ∧ vs.getD 6 .none = rawInt 0 ∧ vs.getD 2 .none = rawInt 1 ∧ vs.getD 5 .none = .ref c
  code : ∃ o items n, h.get? c = some o ∧ o.data = .seq items n ∧ (items.map reRawOf).map (·.toNat) = rxC
theorem whole_ok {a c : Addr} {x : Str} {t : Tok} {Q : ReTarget → Shared → Prop} (p : PatAt s.heap a c) (h : Q { pattern := .ref a, string := .str x t, code := rxC, text := x.cps, kind := 0, groups := 1, pos := 0, lim := x.cps.size } s) : wpAny M A (reWholeTarget (.ref a) (.str x t)) Q E s := by
  obtain ⟨o, vs, h1, h2, h3, h4, h5, h6, h7⟩ := p.ob
  obtain ⟨oc, items, n, c1, c2, c3⟩ := p.code
  unfold reWholeTarget
  refine wpAny_bind (wpAny_fieldsOf h1 h4 ?_)
  unfold reTextOf
  refine wpAny_bind (wpAny_bind (wpAny_pure (wpAny_pure ?_)))
  simp only [h5, h6, h7]
  unfold reNoCollectionInside
  refine wpAny_bind (wpAny_pure ?_)
  unfold reRawItems
  refine wpAny_bind (wpAny_bind (wpAny_seqItems c1 c2 (wpAny_pure ?_)))
  refine wpAny_pure ?_
  simp only [Option.getD_some, c3]
  exact h
end
end Mine
end
section
open PySem PySem.W PySem.Calls PyProof.Rows
set_option maxRecDepth 100000
set_option linter.unusedVariables false
namespace Mine
def wO {α β : Type} (o : Option (α × β)) (Q : α → β → Prop) : Prop := ∃ p s, o = some (p, s) ∧ Q p s
def w1 {α : Type} (o : Option α) (Q : α → Prop) : Prop := ∃ p, o = some p ∧ Q p
def wS (o : Option (Fl × List (Option PV) × List PO)) (Q : Fl → List (Option PV) → List PO → Prop) : Prop := ∃ a b c, o = some (a, b, c) ∧ Q a b c
section
variable {α β γ : Type}
theorem wO_some {p : α} {s : β} {Q : α → β → Prop} : wO (some (p, s)) Q = Q p s := by
  apply propext; constructor
  · rintro ⟨p', s', e, h⟩; cases e; exact h
  · intro h; exact ⟨_, _, rfl, h⟩
theorem wO_none {Q : α → β → Prop} : wO (none : Option (α × β)) Q = False := by
  apply propext; constructor
  · rintro ⟨p', s', e, h⟩; cases e
  · exact False.elim
theorem w1_some {p : α} {Q : α → Prop} : w1 (some p) Q = Q p := by
  apply propext; constructor
  · rintro ⟨p', e, h⟩; cases e; exact h
  · intro h; exact ⟨_, rfl, h⟩
theorem w1_none {Q : α → Prop} : w1 (none : Option α) Q = False := by
  apply propext; constructor
  · rintro ⟨p', e, h⟩; cases e
  · exact False.elim
theorem wS_some {p b c} {Q : Fl → List (Option PV) → List PO → Prop} : wS (some (p, b, c)) Q = Q p b c := by
  apply propext; constructor
  · rintro ⟨_, _, _, e, h⟩; cases e; exact h
  · intro h; exact ⟨_, _, _, rfl, h⟩
theorem wS_none {Q : Fl → List (Option PV) → List PO → Prop} : wS none Q = False := by
  apply propext; constructor
  · rintro ⟨_, _, _, e, h⟩; cases e
  · exact False.elim
theorem wO.mono {o : Option (α × β)} {Q Q' : α → β → Prop} (h : wO o Q) (k : ∀ p s, Q p s → Q' p s) : wO o Q' := let ⟨p, s, e, q⟩ := h; ⟨p, s, e, k _ _ q⟩
theorem w1.mono {o : Option α} {Q Q' : α → Prop} (h : w1 o Q) (k : ∀ p, Q p → Q' p) : w1 o Q' := let ⟨p, e, q⟩ := h; ⟨p, e, k _ q⟩
theorem wS.mono {o} {Q Q' : Fl → List (Option PV) → List PO → Prop} (h : wS o Q) (k : ∀ p b s, Q p b s → Q' p b s) : wS o Q' := let ⟨p, b, s, e, q⟩ := h; ⟨p, b, s, e, k _ _ _ q⟩
theorem wO_ite {c : Prop} [Decidable c] {o o' : Option (α × β)} {Q : α → β → Prop} : wO (if c then o else o') Q = if c then wO o Q else wO o' Q := by split <;> rfl
theorem if_none {c : Prop} [Decidable c] {o : Option (α × β)} {Q : α → β → Prop} : wO (if c then o else none) Q = (c ∧ wO o Q) := by
  by_cases h : c
  · rw [if_pos h]; exact propext ⟨fun x => ⟨h, x⟩, fun x => x.2⟩
  · rw [if_neg h, wO_none]; exact propext ⟨False.elim, fun x => h x.1⟩
theorem szOk_eq {n : Nat} : (szOk n = true) = (n ≤ 1000000) := by simp [szOk]
theorem strOk_eq {n : Nat} : (strOk n = true) = (n ≤ 100000) := by simp [strOk]
end
section
variable {ρ : List (Option PV)} {σ : List PO}
theorem p_var {i : Nat} {Q : PV → List PO → Prop} : wO (eVar i ρ σ) Q = w1 (ρ[i]?) fun o => w1 o fun p => Q p σ := by
  unfold eVar
  cases h : ρ[i]? with
  | none => simp only [wO_none, w1_none]
  | some o => cases o with
    | none => simp only [wO_none, w1_none, w1_some]
    | some p => simp only [wO_some, w1_some]
theorem p_lit {p : PV} {Q : PV → List PO → Prop} : wO (eLit p ρ σ) Q = Q p σ := wO_some
theorem p_bin {g} {a b : FE} {Q : PV → List PO → Prop} : wO (eBin g a b ρ σ) Q = wO (a ρ σ) fun x σ₁ => wO (b ρ σ₁) fun y σ₂ => wO (g x y σ₂) Q := by
  unfold eBin
  cases a ρ σ with
  | none => simp only [wO_none]
  | some r => obtain ⟨x, s⟩ := r; simp only [wO_some]; cases b ρ s with
    | none => simp only [wO_none]
    | some r => obtain ⟨y, t⟩ := r; simp only [wO_some]
theorem p_un {g} {a : FE} {Q : PV → List PO → Prop} : wO (eUn g a ρ σ) Q = wO (a ρ σ) fun x σ₁ => wO (g x σ₁) Q := by
  unfold eUn
  cases a ρ σ with
  | none => simp only [wO_none]
  | some r => obtain ⟨x, s⟩ := r; simp only [wO_some]
theorem p_if {c : FB} {a b : FE} {Q : PV → List PO → Prop} : wO (eIf c a b ρ σ) Q = wO (c ρ σ) fun r σ₁ => if r = true then wO (a ρ σ₁) Q else wO (b ρ σ₁) Q := by
  unfold eIf
  cases c ρ σ with
  | none => simp only [wO_none]
  | some r => obtain ⟨x, s⟩ := r; cases x <;> simp [wO_some]
theorem p_cmpE {k} {a b : PV} {Q : PV → List PO → Prop} : wO (eCmp k a b σ) Q = w1 (k a b σ) fun r => Q (.bool r) σ := by
  unfold eCmp
  cases k a b σ with
  | none => simp only [wO_none, w1_none]
  | some r => simp only [wO_some, w1_some]
theorem p_cmp {k} {f g : FE} {Q : Bool → List PO → Prop} : wO (cCmp k f g ρ σ) Q = wO (f ρ σ) fun x σ₁ => wO (g ρ σ₁) fun y σ₂ => w1 (k x y σ₂) fun r => Q r σ₂ := by
  unfold cCmp
  cases f ρ σ with
  | none => simp only [wO_none]
  | some r => obtain ⟨x, s⟩ := r; simp only [wO_some]; cases g ρ s with
    | none => simp only [wO_none]
    | some r => obtain ⟨y, t⟩ := r; simp only [wO_some]; cases k x y t with
      | none => simp only [wO_none, w1_none]
      | some r => simp only [wO_some, w1_some]
theorem p_not {f : FB} {Q : Bool → List PO → Prop} : wO (cNot f ρ σ) Q = wO (f ρ σ) fun b σ₁ => Q (!b) σ₁ := by
  unfold cNot
  cases f ρ σ with
  | none => simp only [wO_none]
  | some r => obtain ⟨x, s⟩ := r; simp only [wO_some]
theorem p_and {f g : FB} {Q : Bool → List PO → Prop} : wO (cAnd f g ρ σ) Q = wO (f ρ σ) fun b σ₁ => if b = true then wO (g ρ σ₁) Q else Q false σ₁ := by
  unfold cAnd
  cases f ρ σ with
  | none => simp only [wO_none]
  | some r => obtain ⟨x, s⟩ := r; cases x <;> simp [wO_some]
theorem p_or {f g : FB} {Q : Bool → List PO → Prop} : wO (cOr f g ρ σ) Q = wO (f ρ σ) fun b σ₁ => if b = true then Q true σ₁ else wO (g ρ σ₁) Q := by
  unfold cOr
  cases f ρ σ with
  | none => simp only [wO_none]
  | some r => obtain ⟨x, s⟩ := r; cases x <;> simp [wO_some]
theorem p_val {k} {f : FE} {Q : Bool → List PO → Prop} : wO (cVal k f ρ σ) Q = wO (f ρ σ) fun x σ₁ => wO (k x σ₁) Q := by
  unfold cVal
  cases f ρ σ with
  | none => simp only [wO_none]
  | some r => obtain ⟨x, s⟩ := r; simp only [wO_some]
theorem p_true {Q : Bool → List PO → Prop} : wO (fTrue ρ σ) Q = Q true σ := wO_some
theorem p_eAnd {k} {f g : FE} {Q : PV → List PO → Prop} : wO (eAnd k f g ρ σ) Q = wO (f ρ σ) fun x σ₁ => wO (k x σ₁) fun b σ₂ => if b = true then wO (g ρ σ₂) Q else Q x σ₂ := by
  unfold eAnd
  cases f ρ σ with
  | none => simp only [wO_none]
  | some r => obtain ⟨x, s⟩ := r; simp only [wO_some]; cases k x s with
    | none => simp only [wO_none]
    | some r => obtain ⟨b, t⟩ := r; cases b <;> simp [wO_some]
theorem p_eOr {k} {f g : FE} {Q : PV → List PO → Prop} : wO (eOr k f g ρ σ) Q = wO (f ρ σ) fun x σ₁ => wO (k x σ₁) fun b σ₂ => if b = true then Q x σ₂ else wO (g ρ σ₂) Q := by
  unfold eOr
  cases f ρ σ with
  | none => simp only [wO_none]
  | some r => obtain ⟨x, s⟩ := r; simp only [wO_some]; cases k x s with
    | none => simp only [wO_none]
    | some r => obtain ⟨b, t⟩ := r; cases b <;> simp [wO_some]
theorem p_notF {k} {x : PV} {Q : PV → List PO → Prop} : wO (notF k x σ) Q = wO (k x σ) fun b σ₁ => Q (.bool (!b)) σ₁ := by
  unfold notF
  cases k x σ with
  | none => simp only [wO_none]
  | some r => obtain ⟨b, t⟩ := r; simp only [wO_some]
theorem p_nil {Q : List PV → List PO → Prop} : wO (eNil ρ σ) Q = Q [] σ := wO_some
theorem p_cons {f : FE} {g : FEs} {Q : List PV → List PO → Prop} : wO (eCons f g ρ σ) Q = wO (f ρ σ) fun x σ₁ => wO (g ρ σ₁) fun l σ₂ => Q (x :: l) σ₂ := by
  unfold eCons
  cases f ρ σ with
  | none => simp only [wO_none]
  | some r => obtain ⟨x, s⟩ := r; simp only [wO_some]; cases g ρ s with
    | none => simp only [wO_none]
    | some r => obtain ⟨y, t⟩ := r; simp only [wO_some]
theorem p_tup {f : FEs} {Q : PV → List PO → Prop} : wO (eTup f ρ σ) Q = wO (f ρ σ) fun l σ₁ => l.length ≤ 1000000 ∧ Q (.tup l) σ₁ := by
  unfold eTup
  cases f ρ σ with
  | none => simp only [wO_none]
  | some r => obtain ⟨x, s⟩ := r; simp only [wO_some]; rw [← szOk_eq]; cases szOk x.length <;> simp [wO_some, wO_none]
theorem p_list {f : FEs} {Q : PV → List PO → Prop} : wO (eList f ρ σ) Q = wO (f ρ σ) fun l σ₁ => l.length ≤ 1000000 ∧ Q (.ref σ₁.length) (σ₁ ++ [.list l]) := by
  unfold eList
  cases f ρ σ with
  | none => simp only [wO_none]
  | some r => obtain ⟨x, s⟩ := r; simp only [wO_some]; rw [← szOk_eq]; cases szOk x.length <;> simp [wO_some, wO_none]
theorem p_call {Φ : CF} {g : FEs} {Q : PV → List PO → Prop} : wO (eCall Φ g ρ σ) Q = wO (g ρ σ) fun l σ₁ => wO (Φ l σ₁) Q := by
  unfold eCall
  cases g ρ σ with
  | none => simp only [wO_none]
  | some r => obtain ⟨x, s⟩ := r; simp only [wO_some]
theorem p_meth {test} {Φ : CF} {f : FE} {g : FEs} {Q : PV → List PO → Prop} : wO (eMeth test Φ f g ρ σ) Q = wO (f ρ σ) fun x σ₁ => test x σ₁ = true ∧ wO (g ρ σ₁) fun l σ₂ => wO (Φ (x :: l) σ₂) Q := by
  unfold eMeth
  cases f ρ σ with
  | none => simp only [wO_none]
  | some r => obtain ⟨x, s⟩ := r; simp only [wO_some]; cases test x s with
    | false => simp [wO_none]
    | true => simp only [true_and]; cases g ρ s with
      | none => simp only [wO_none]
      | some r => obtain ⟨y, t⟩ := r; simp only [wO_some]
theorem p_star {C : Addr} {Φ : CF} {f g : FE} {Q : PV → List PO → Prop} : wO (eStar C Φ f g ρ σ) Q = wO (f ρ σ) fun x σ₁ => isA C x σ₁ = true ∧ wO (g ρ σ₁) fun t σ₂ => ∃ l, t = .tup l ∧ l.length ≤ 1000000 ∧ wO (Φ (x :: l) σ₂) Q := by
  unfold eStar
  cases f ρ σ with
  | none => simp only [wO_none]
  | some r => obtain ⟨x, s⟩ := r; simp only [wO_some]; cases isA C x s with
    | false => simp [wO_none]
    | true => simp only [true_and]; cases g ρ s with
      | none => simp only [wO_none]
      | some r => obtain ⟨y, t⟩ := r; cases y with
        | tup l => simp only [wO_some, if_none, szOk_eq, PV.tup.injEq, exists_eq_left']
        | _ => simp [wO_some, wO_none]
def fld (C : Addr) (j : Nat) (x : PV) (σ : List PO) : Option PV := match x with
  | .ref i => (σ[i]?).bind fun o => (fieldsOfPO o).bind fun r => if r.1 = C then (r.2[j]?).bind fun p => if handedPV p = true then some p else none else none
  | _ => none
theorem p_attr {C : Addr} {j : Nat} {f : FE} {Q : PV → List PO → Prop} : wO (eAttr C j f ρ σ) Q = wO (f ρ σ) fun x σ₁ => w1 (fld C j x σ₁) fun p => Q p σ₁ := by
  unfold eAttr fld
  cases f ρ σ with
  | none => simp only [wO_none]
  | some r =>
    obtain ⟨x, s⟩ := r
    simp only [wO_some]
    cases x with
    | ref i =>
      cases h : s[i]? with
      | none => simp [wO_none, w1_none, h]
      | some o =>
        cases h2 : fieldsOfPO o with
        | none => simp [wO_none, w1_none, h, h2]
        | some r =>
          obtain ⟨C', fs⟩ := r
          by_cases h3 : C' = C
          · cases h4 : fs[j]? with
            | none => simp [wO_none, w1_none, h, h2, h3, h4]
            | some p => cases h5 : handedPV p <;> simp [wO_none, wO_some, w1_none, w1_some, h, h2, h3, h4, h5]
          · simp [wO_none, w1_none, h, h2, h3]
    | _ => simp [wO_none, w1_none]
theorem p_skip {Q} : wS (fSkip ρ σ) Q = Q .next ρ σ := wS_some
theorem p_brk {Q} : wS (fBrk ρ σ) Q = Q .brk ρ σ := wS_some
theorem p_cont {Q} : wS (fCont ρ σ) Q = Q .cont ρ σ := wS_some
theorem p_retN {Q} : wS (fRetN ρ σ) Q = Q (.ret .none) ρ σ := wS_some
theorem p_seq {f g : FS} {Q} : wS (fSeq f g ρ σ) Q = wS (f ρ σ) fun fl ρ₁ σ₁ => match fl with
    | .next => wS (g ρ₁ σ₁) Q
    | .brk => Q .brk ρ₁ σ₁
    | .cont => Q .cont ρ₁ σ₁
    | .ret p => Q (.ret p) ρ₁ σ₁ := by
  unfold fSeq
  cases f ρ σ with
  | none => simp only [wS_none]
  | some r => obtain ⟨x, s, t⟩ := r; cases x <;> simp only [wS_some]
theorem p_fif {c : FB} {f g : FS} {Q} : wS (fIf c f g ρ σ) Q = wO (c ρ σ) fun r σ₁ => if r = true then wS (f ρ σ₁) Q else wS (g ρ σ₁) Q := by
  unfold fIf
  cases c ρ σ with
  | none => simp only [wS_none, wO_none]
  | some r => obtain ⟨x, s⟩ := r; cases x <;> simp [wO_some]
theorem p_ret {f : FE} {Q} : wS (fRet f ρ σ) Q = wO (f ρ σ) fun p σ₁ => Q (.ret p) ρ σ₁ := by
  unfold fRet
  cases f ρ σ with
  | none => simp only [wS_none, wO_none]
  | some r => obtain ⟨x, s⟩ := r; simp only [wO_some, wS_some]
theorem p_exp {f : FE} {Q} : wS (fExp f ρ σ) Q = wO (f ρ σ) fun p σ₁ => p = .none ∧ Q .next ρ σ₁ := by
  unfold fExp
  cases f ρ σ with
  | none => simp only [wS_none, wO_none]
  | some r => obtain ⟨x, s⟩ := r; cases x <;> simp [wO_some, wS_some, wS_none]
theorem p_asg {f : FE} {g : FA} {Q} : wS (fAsg f g ρ σ) Q = wO (f ρ σ) fun p σ₁ => wO (g p ρ σ₁) fun ρ₁ σ₂ => Q .next ρ₁ σ₂ := by
  unfold fAsg
  cases f ρ σ with
  | none => simp only [wS_none, wO_none]
  | some r => obtain ⟨x, s⟩ := r; simp only [wO_some]; cases g x ρ s with
    | none => simp only [wS_none, wO_none]
    | some r => obtain ⟨y, t⟩ := r; simp only [wO_some, wS_some]
theorem p_aug {i : Nat} {k} {f : FE} {Q} : wS (fAug i k f ρ σ) Q = w1 (ρ[i]?) fun o => w1 o fun x => wO (f ρ σ) fun y σ₁ => wO (k x y σ₁) fun z σ₂ => Q .next (ρ.set i (some z)) σ₂ := by
  unfold fAug
  cases h : ρ[i]? with
  | none => simp only [wS_none, w1_none]
  | some o => cases o with
    | none => simp only [wS_none, w1_none, w1_some]
    | some x =>
      simp only [w1_some]
      cases f ρ σ with
      | none => simp only [wS_none, wO_none]
      | some r => obtain ⟨y, s⟩ := r; simp only [wO_some]; cases k x y s with
        | none => simp only [wS_none, wO_none]
        | some r => obtain ⟨z, t⟩ := r; simp only [wO_some, wS_some]
theorem p_aVar {i : Nat} {p : PV} {Q : List (Option PV) → List PO → Prop} : wO (aVar i p ρ σ) Q = Q (ρ.set i (some p)) σ := wO_some
theorem p_aPair {a b : FA} {p : PV} {Q : List (Option PV) → List PO → Prop} : wO (aPair a b p ρ σ) Q = ∃ x y, p = .tup [x, y] ∧ wO (a x ρ σ) fun ρ₁ σ₁ => wO (b y ρ₁ σ₁) Q := by
  unfold aPair
  split
  · rename_i x y
    cases h : a x ρ σ with
    | none => rw [wO_none]; refine propext ⟨False.elim, ?_⟩; rintro ⟨x', y', e, k⟩; cases e; rw [h, wO_none] at k; exact k
    | some r =>
      obtain ⟨ρ₁, s⟩ := r
      refine propext ⟨fun k => ⟨x, y, rfl, by rw [h, wO_some]; exact k⟩, ?_⟩
      rintro ⟨x', y', e, k⟩; cases e; rw [h, wO_some] at k; exact k
  · rename_i h
    rw [wO_none]
    exact propext ⟨False.elim, fun ⟨x, y, e, _⟩ => h x y e⟩
theorem p_run {dpv : List PV} {ar sz : Nat} {f : FS} {l : List PV} {Q : PV → List PO → Prop} : wO (runBody dpv ar sz f l σ) Q = (l.length + dpv.length = ar ∧ wS (f ((l ++ dpv).map some ++ List.replicate (sz - ar) none) σ) fun fl _ σ' => match fl with
    | .ret p => Q p σ'
    | .next => Q .none σ'
    | _ => False) := by
  unfold runBody
  by_cases h : l.length + dpv.length = ar
  · rw [if_pos h]
    simp only [h, true_and]
    cases f ((l ++ dpv).map some ++ List.replicate (sz - ar) none) σ with
    | none => simp only [wS_none, wO_none]
    | some r => obtain ⟨x, s, t⟩ := r; cases x <;> simp only [wO_some, wS_some, wO_none]
  · rw [if_neg h, wO_none]
    simp [h]
end
end Mine
end
section
open PySem PySem.W PySem.Calls PyProof.Rows
set_option maxRecDepth 100000
set_option linter.unusedVariables false
namespace Mine
theorem smallR {a b c : Int} (ha : -1000000 ≤ a ∧ a ≤ 1000000) (hb : -1000000 ≤ b ∧ b ≤ 1000000) (hc : c = 1 ∨ c = -1) : Builtin.Range.small a b c = true := by
  have h : -(2000001 : Int) ≤ Builtin.Range.rangeSize a b c ∧ Builtin.Range.rangeSize a b c ≤ 2000001 := by
    unfold Builtin.Range.rangeSize
    rcases hc with rfl | rfl
    · simp only [show (1 : Int) > 0 by decide, if_true, Int.ediv_one]
      split <;> omega
    · simp only [show ¬ ((-1 : Int) > 0) by decide, if_false, Int.neg_neg, Int.ediv_one]
      split <;> omega
  unfold Builtin.Range.small Builtin.Range.rangeFitsLong
  rcases hc with rfl | rfl
  · simp only [Bool.and_eq_true, Bool.or_eq_true, decide_eq_true_eq, show (1 : Int) > 0 by decide, if_true]
    refine ⟨⟨⟨⟨?_, ?_⟩, ?_⟩, ?_⟩, .inr ?_⟩ <;> omega
  · simp only [Bool.and_eq_true, Bool.or_eq_true, decide_eq_true_eq, show ¬ ((-1 : Int) > 0) by decide, if_false]
    refine ⟨⟨⟨⟨?_, ?_⟩, ?_⟩, ?_⟩, .inr ?_⟩ <;> omega
theorem rngLen_up {a b : Int} : rngLen a b 1 = if a < b then b - a else 0 := by
  unfold rngLen Builtin.Range.rangeSize
  simp only [show (1 : Int) > 0 by decide, if_true, Int.ediv_one]
  split <;> omega
theorem rngLen_down {a b : Int} : rngLen a b (-1) = if b < a then a - b else 0 := by
  unfold rngLen Builtin.Range.rangeSize
  simp only [show ¬ ((-1 : Int) > 0) by decide, if_false, Int.neg_neg, Int.ediv_one, gt_iff_lt]
  split <;> omega
section
variable {Q : Fl → List (Option PV) → List PO → Prop}
theorem turns_up {i : Nat} {body els : FS} {b : Int} (I : Int → List (Option PV) → List PO → Prop)
    (hb : ∀ k ρ σ, k < b → I k ρ σ → wS (body (ρ.set i (some (.int k))) σ) fun fl ρ' σ' => match fl with
      | .next => I (k + 1) ρ' σ'
      | .cont => I (k + 1) ρ' σ'
      | .brk => Q .next ρ' σ'
      | .ret p => Q (.ret p) ρ' σ')
    (he : ∀ k ρ σ, b ≤ k → I k ρ σ → wS (els ρ σ) Q) :
    ∀ n (k : Int) ρ σ, (b - k).toNat < n → I k ρ σ → wS (turns n (aVar i) body els (.rng k (if k < b then b - k else 0) 1) ρ σ) Q := by
  intro n
  induction n with
  | zero => intro k ρ σ h; omega
  | succ n ih =>
    intro k ρ σ h hI
    unfold turns PIt.next
    by_cases hk : k < b
    · simp only [hk, if_true, show 0 < b - k by omega, aVar]
      obtain ⟨fl, ρ', σ', e, q⟩ := hb k ρ σ hk hI
      rw [e]
      have e2 : (PIt.rng (k + 1) (b - k - 1) 1) = .rng (k + 1) (if k + 1 < b then b - (k + 1) else 0) 1 := by
        congr 1; split <;> omega
      cases fl with
      | next => simp only; rw [e2]; exact ih (k + 1) ρ' σ' (by omega) q
      | cont => simp only; rw [e2]; exact ih (k + 1) ρ' σ' (by omega) q
      | brk => exact ⟨_, _, _, rfl, q⟩
      | ret p => exact ⟨_, _, _, rfl, q⟩
    · simp only [hk, if_false, show ¬ ((0 : Int) < 0) by omega]
      exact he k ρ σ (by omega) hI
theorem turns_down {i : Nat} {body els : FS} {b : Int} (I : Int → List (Option PV) → List PO → Prop)
    (hb : ∀ k ρ σ, b < k → I k ρ σ → wS (body (ρ.set i (some (.int k))) σ) fun fl ρ' σ' => match fl with
      | .next => I (k - 1) ρ' σ'
      | .cont => I (k - 1) ρ' σ'
      | .brk => Q .next ρ' σ'
      | .ret p => Q (.ret p) ρ' σ')
    (he : ∀ k ρ σ, k ≤ b → I k ρ σ → wS (els ρ σ) Q) :
    ∀ n (k : Int) ρ σ, (k - b).toNat < n → I k ρ σ → wS (turns n (aVar i) body els (.rng k (if b < k then k - b else 0) (-1)) ρ σ) Q := by
  intro n
  induction n with
  | zero => intro k ρ σ h; omega
  | succ n ih =>
    intro k ρ σ h hI
    unfold turns PIt.next
    by_cases hk : b < k
    · simp only [hk, if_true, show 0 < k - b by omega, aVar]
      obtain ⟨fl, ρ', σ', e, q⟩ := hb k ρ σ hk hI
      rw [e]
      have e2 : (PIt.rng (k + -1) (k - b - 1) (-1)) = .rng (k - 1) (if b < k - 1 then k - 1 - b else 0) (-1) := by
        congr 1; split <;> omega
      cases fl with
      | next => simp only; rw [e2]; exact ih (k - 1) ρ' σ' (by omega) q
      | cont => simp only; rw [e2]; exact ih (k - 1) ρ' σ' (by omega) q
      | brk => exact ⟨_, _, _, rfl, q⟩
      | ret p => exact ⟨_, _, _, rfl, q⟩
    · simp only [hk, if_false, show ¬ ((0 : Int) < 0) by omega]
      exact he k ρ σ (by omega) hI
theorem p_range1 {n : Int} {σ : List PO} {Q : PV → List PO → Prop} : wO (rangeF [.int n] σ) Q = (smallI n = true ∧ Q (.rng 0 n 1) σ) := by
  simp only [rangeF, if_none, wO_some]
theorem p_range2 {a b : Int} {σ : List PO} {Q : PV → List PO → Prop} : wO (rangeF [.int a, .int b] σ) Q = ((smallI a && smallI b) = true ∧ Q (.rng a b 1) σ) := by
  simp only [rangeF, if_none, wO_some]
theorem p_range3 {a b c : Int} {σ : List PO} {Q : PV → List PO → Prop} : wO (rangeF [.int a, .int b, .int c] σ) Q = ((smallI a && smallI b && (c == -1)) = true ∧ Q (.rng a b c) σ) := by
  simp only [rangeF, if_none, wO_some]
theorem for_up {i : Nat} {f : FE} {body els : FS} {ρ : List (Option PV)} {σ : List PO} {a b : Int} (I : Int → List (Option PV) → List PO → Prop) (hf : wO (f ρ σ) fun p σ₁ => p = .rng a b 1 ∧ (-1000000 ≤ a ∧ a ≤ 1000000) ∧ (-1000000 ≤ b ∧ b ≤ 1000000) ∧ (b - a < 1000) ∧ I a ρ σ₁)
    (hb : ∀ k ρ σ, k < b → I k ρ σ → wS (body (ρ.set i (some (.int k))) σ) fun fl ρ' σ' => match fl with
      | .next => I (k + 1) ρ' σ'
      | .cont => I (k + 1) ρ' σ'
      | .brk => Q .next ρ' σ'
      | .ret p => Q (.ret p) ρ' σ')
    (he : ∀ k ρ σ, b ≤ k → I k ρ σ → wS (els ρ σ) Q) : wS (fFor 1000 (aVar i) f body els ρ σ) Q := by
  obtain ⟨p, σ₁, e, rfl, h1, h2, h3, h4⟩ := hf
  unfold fFor
  rw [e]
  simp only [iterOf, smallR h1 h2 (.inl rfl), if_true, rngLen_up]
  exact turns_up I hb he 1000 a ρ σ₁ (by omega) h4
theorem for_down {i : Nat} {f : FE} {body els : FS} {ρ : List (Option PV)} {σ : List PO} {a b : Int} (I : Int → List (Option PV) → List PO → Prop) (hf : wO (f ρ σ) fun p σ₁ => p = .rng a b (-1) ∧ (-1000000 ≤ a ∧ a ≤ 1000000) ∧ (-1000000 ≤ b ∧ b ≤ 1000000) ∧ (a - b < 1000) ∧ I a ρ σ₁)
    (hb : ∀ k ρ σ, b < k → I k ρ σ → wS (body (ρ.set i (some (.int k))) σ) fun fl ρ' σ' => match fl with
      | .next => I (k - 1) ρ' σ'
      | .cont => I (k - 1) ρ' σ'
      | .brk => Q .next ρ' σ'
      | .ret p => Q (.ret p) ρ' σ')
    (he : ∀ k ρ σ, k ≤ b → I k ρ σ → wS (els ρ σ) Q) : wS (fFor 1000 (aVar i) f body els ρ σ) Q := by
  obtain ⟨p, σ₁, e, rfl, h1, h2, h3, h4⟩ := hf
  unfold fFor
  rw [e]
  simp only [iterOf, smallR h1 h2 (.inr rfl), if_true, rngLen_down]
  exact turns_down I hb he 1000 a ρ σ₁ (by omega) h4
def mkS (l : List Nat) : Str := ⟨⟨l⟩⟩
theorem turns_str {i : Nat} {body els : FS} {w : List Nat} (I : Nat → List (Option PV) → List PO → Prop)
    (hb : ∀ k c ρ σ, w[k]? = some c → I k ρ σ → wS (body (ρ.set i (some (.str (mkS [c])))) σ) fun fl ρ' σ' => match fl with
      | .next => I (k + 1) ρ' σ'
      | .cont => I (k + 1) ρ' σ'
      | .brk => Q .next ρ' σ'
      | .ret p => Q (.ret p) ρ' σ')
    (he : ∀ ρ σ, I w.length ρ σ → wS (els ρ σ) Q) :
    ∀ n (k : Nat) ρ σ, w.length - k < n → k ≤ w.length → I k ρ σ → wS (turns n (aVar i) body els (.str (mkS w) k) ρ σ) Q := by
  intro n
  induction n with
  | zero => intro k ρ σ h; omega
  | succ n ih =>
    intro k ρ σ h hk hI
    unfold turns PIt.next
    have e0 : (mkS w).cps[k]? = w[k]? := by simp [mkS]
    simp only [e0]
    cases hc : w[k]? with
    | none =>
      simp only
      have : w.length ≤ k := by simpa using hc
      have : k = w.length := by omega
      subst this
      exact he ρ σ hI
    | some c =>
      simp only [aVar]
      have hlt : k < w.length := by
        have := List.getElem?_eq_some_iff.1 hc
        exact this.1
      obtain ⟨fl, ρ', σ', e, q⟩ := hb k c ρ σ hc hI
      show wS (match body (ρ.set i (some (.str (mkS [c])))) σ with
        | some (.next, ρ₂, σ₂) => turns n (aVar i) body els (.str (mkS w) (k + 1)) ρ₂ σ₂
        | some (.cont, ρ₂, σ₂) => turns n (aVar i) body els (.str (mkS w) (k + 1)) ρ₂ σ₂
        | some (.brk, ρ₂, σ₂) => some (.next, ρ₂, σ₂)
        | some (.ret v, ρ₂, σ₂) => some (.ret v, ρ₂, σ₂)
        | none => none) Q
      rw [e]
      cases fl with
      | next => exact ih (k + 1) ρ' σ' (by omega) (by omega) q
      | cont => exact ih (k + 1) ρ' σ' (by omega) (by omega) q
      | brk => exact ⟨_, _, _, rfl, q⟩
      | ret p => exact ⟨_, _, _, rfl, q⟩
theorem for_str {i : Nat} {f : FE} {body els : FS} {ρ : List (Option PV)} {σ : List PO} {w : List Nat} (I : Nat → List (Option PV) → List PO → Prop) (hf : wO (f ρ σ) fun p σ₁ => p = .str (mkS w) ∧ w.length < 1000 ∧ (∀ c ∈ w, c < 128) ∧ I 0 ρ σ₁)
    (hb : ∀ k c ρ σ, w[k]? = some c → I k ρ σ → wS (body (ρ.set i (some (.str (mkS [c])))) σ) fun fl ρ' σ' => match fl with
      | .next => I (k + 1) ρ' σ'
      | .cont => I (k + 1) ρ' σ'
      | .brk => Q .next ρ' σ'
      | .ret p => Q (.ret p) ρ' σ')
    (he : ∀ ρ σ, I w.length ρ σ → wS (els ρ σ) Q) : wS (fFor 1000 (aVar i) f body els ρ σ) Q := by
  obtain ⟨p, σ₁, e, rfl, h1, h2, h3⟩ := hf
  unfold fFor
  rw [e]
  have ha : ((mkS w).cps.all (· < 128)) = true := by
    simp only [mkS, List.all_toArray', List.all_eq_true, decide_eq_true_eq]
    exact h2
  simp only [iterOf, ha, if_true]
  exact turns_str I hb he 1000 0 ρ σ₁ (by omega) (by omega) h3
end
def Its (P : List PO → Prop) : PIt → List PV → Prop
  | it, [] => ∀ σ, P σ → it.next σ = some none
  | it, p :: l => ∃ it', (∀ σ, P σ → it.next σ = some (some (p, it'))) ∧ Its P it' l
theorem cturns_pure {tgt : FA} {tst : FB} {elt : FE} {σ : List PO} {items0 : List PV} (g : PV → Option PV) (J : List (Option PV) → Prop)
    (hs : ∀ p ∈ items0, ∀ ρ', J ρ' → ∀ acc, wO (tgt p ρ' (σ ++ [.list acc])) fun ρ₁ σ₁ => σ₁ = σ ++ [.list acc] ∧ J ρ₁ ∧ wO (tst ρ₁ (σ ++ [.list acc])) fun b σ₂ => σ₂ = σ ++ [.list acc] ∧
      if b = true then wO (elt ρ₁ (σ ++ [.list acc])) fun q σ₃ => σ₃ = σ ++ [.list acc] ∧ g p = some q else g p = none) :
    ∀ (items : List PV) n it ρ acc, (∀ p ∈ items, p ∈ items0) → Its (fun σ' => ∃ acc, σ' = σ ++ [.list acc]) it items → items.length < n → acc.length + items.length ≤ 1000000 → J ρ →
      cturns n tgt tst elt σ.length it ρ (σ ++ [.list acc]) = some (σ ++ [.list (acc ++ items.filterMap g)]) := by
  intro items
  induction items with
  | nil =>
    intro n it ρ acc hm hI hn ha hJ
    cases n with
    | zero => simp at hn
    | succ n =>
      unfold cturns
      rw [hI _ ⟨acc, rfl⟩]
      simp
  | cons p l ih =>
    intro n it ρ acc hm hI hn ha hJ
    cases n with
    | zero => simp at hn
    | succ n =>
      obtain ⟨it', hI1, hI2⟩ := hI
      unfold cturns
      rw [hI1 _ ⟨acc, rfl⟩]
      obtain ⟨ρ₁, σ₁, e1, rfl, hJ1, b, σ₂, e2, rfl, q⟩ := hs p (hm p (List.mem_cons_self ..)) ρ hJ acc
      simp only [e1, e2]
      simp only [List.length_cons] at hn ha
      cases b with
      | false =>
        simp only at q ⊢
        rw [ih n it' ρ₁ acc (fun x hx => hm x (List.mem_cons_of_mem _ hx)) hI2 (by omega) (by omega) hJ1]
        have q' : g p = none := by simpa using q
        rw [List.filterMap_cons_none q']
      | true =>
        rw [if_pos rfl] at q
        obtain ⟨r, σ₃, e3, rfl, q⟩ := q
        simp only [e3]
        have e4 : (σ ++ [PO.list acc])[σ.length]? = some (.list acc) := by simp
        have e5 : szOk acc.length = true := by rw [szOk_eq]; omega
        have e6 : (σ ++ [PO.list acc]).set σ.length (.list (acc ++ [r])) = σ ++ [.list (acc ++ [r])] := by simp
        simp only [e4, e5, if_true, e6]
        rw [ih n it' ρ₁ (acc ++ [r]) (fun x hx => hm x (List.mem_cons_of_mem _ hx)) hI2 (by omega) (by simp; omega) hJ1]
        rw [List.filterMap_cons_some q]
        simp
theorem comp_pure {mp : List (Option Nat)} {tgt : FA} {tst : FB} {elt f : FE} {ρ : List (Option PV)} {σ₀ : List PO} {items : List PV} (g : PV → Option PV) (J : List (Option PV) → Prop) {Q : PV → List PO → Prop}
    (hf : wO (f ρ σ₀) fun x σ => ∃ it, iterOf σ x = some it ∧ Its (fun σ' => ∃ acc, σ' = σ ++ [.list acc]) it items ∧ items.length < 1000 ∧ J (fInner mp ρ) ∧
      (∀ p ∈ items, ∀ ρ', J ρ' → ∀ acc, wO (tgt p ρ' (σ ++ [.list acc])) fun ρ₁ σ₁ => σ₁ = σ ++ [.list acc] ∧ J ρ₁ ∧ wO (tst ρ₁ (σ ++ [.list acc])) fun b σ₂ => σ₂ = σ ++ [.list acc] ∧
        if b = true then wO (elt ρ₁ (σ ++ [.list acc])) fun q σ₃ => σ₃ = σ ++ [.list acc] ∧ g p = some q else g p = none) ∧ Q (.ref σ.length) (σ ++ [.list (items.filterMap g)])) :
    wO (fComp 1000 mp tgt tst elt f ρ σ₀) Q := by
  obtain ⟨x, σ, e, it, h1, h2, h3, h4, h5, h6⟩ := hf
  unfold fComp
  rw [e]
  simp only [h1]
  rw [cturns_pure g J h5 items 1000 it _ [] (fun _ h => h) h2 h3 (by simp; omega) h4]
  exact ⟨_, _, rfl, h6⟩
theorem its_rng {P : List PO → Prop} {b : Int} : ∀ (n : Nat) (a : Int), (b - a).toNat = n → Its P (.rng a (if a < b then b - a else 0) 1) ((List.range n).map fun (j : Nat) => .int (a + j)) := by
  intro n
  induction n with
  | zero =>
    intro a h σ _
    unfold PIt.next
    simp only [show ¬ (a < b) by omega, if_false, show ¬ ((0 : Int) < 0) by omega]
  | succ n ih =>
    intro a h
    rw [List.range_succ_eq_map, List.map_cons]
    refine ⟨.rng (a + 1) (if a + 1 < b then b - (a + 1) else 0) 1, ?_, ?_⟩
    · intro σ _
      unfold PIt.next
      simp only [show a < b by omega, if_true, show 0 < b - a by omega]
      have e : a + ((0 : Nat) : Int) = a := by simp
      rw [e]
      have e2 : (PIt.rng (a + 1) (b - a - 1) 1) = .rng (a + 1) (if a + 1 < b then b - (a + 1) else 0) 1 := by
        congr 1; split <;> omega
      rw [e2]
    · have := ih (a + 1) (by omega)
      rw [List.map_map]
      have e : ((fun (j : Nat) => PV.int (a + j)) ∘ Nat.succ) = fun (j : Nat) => PV.int (a + 1 + j) := by
        funext j
        simp only [Function.comp, Nat.succ_eq_add_one]
        congr 1; omega
      rw [e]; exact this
theorem its_list {P : List PO → Prop} {i : Nat} {l : List PV} (h : ∀ σ, P σ → σ[i]? = some (.list l)) : ∀ (r : List PV) (k : Nat), l.drop k = r → Its P (.seq i k) r := by
  intro r
  induction r with
  | nil =>
    intro k e σ hσ
    unfold PIt.next
    simp only [h σ hσ]
    have : l.length ≤ k := List.drop_eq_nil_iff.1 e
    simp only [List.getElem?_eq_none this]
  | cons p r ih =>
    intro k e
    have hlt : k < l.length := by
      rcases Nat.lt_or_ge k l.length with h | h
      · exact h
      · rw [List.drop_eq_nil_of_le h] at e; cases e
    have e2 := List.drop_eq_getElem_cons hlt
    rw [e] at e2
    cases e2
    refine ⟨.seq i (k + 1), ?_, ih (k + 1) rfl⟩
    intro σ hσ
    unfold PIt.next
    simp only [h σ hσ, List.getElem?_eq_getElem hlt]
end Mine
end
section
open PySem PySem.W PySem.Calls PyProof.Rows
set_option maxRecDepth 100000
set_option linter.unusedVariables false
namespace Mine
theorem mkS_len (a : List Nat) : (mkS a).length = a.length := rfl
theorem mkS_app (a b : List Nat) : mkS a ++ mkS b = mkS (a ++ b) := by
  show Str.mk (⟨a⟩ ++ ⟨b⟩) = Str.mk ⟨a ++ b⟩
  congr 1
  apply Array.toList_inj.mp
  simp
theorem mkS_inj {a b : List Nat} : mkS a = mkS b ↔ a = b := by
  constructor
  · intro h
    have := congrArg (fun s : Str => s.cps.toList) h
    exact this
  · intro h; rw [h]
theorem mkS_beq (a b : List Nat) : (mkS a == mkS b) = (a == b) := by
  by_cases h : a = b
  · subst h; simp
  · have : mkS a ≠ mkS b := fun e => h (mkS_inj.1 e)
    rw [beq_eq_false_iff_ne.2 h, beq_eq_false_iff_ne.2 this]
theorem mkS_toList (s : Str) : mkS s.cps.toList = s := by
  cases s with | mk c => cases c with | mk l => rfl
theorem mkS_item {a : List Nat} {k : Int} : Txt.item (mkS a) k = mkS [((if k < 0 then k + a.length else k).toNat |> fun j => if 0 ≤ (if k < 0 then k + a.length else k) then a.getD j 0 else 0)] := by
  unfold Txt.item Txt.charAt seqIndex?
  have e : (mkS a).length = a.length := rfl
  rw [e]
  show Str.mk _ = Str.mk ⟨_⟩
  congr 1
  by_cases h : 0 ≤ (if k < 0 then k + (a.length : Int) else k)
  · by_cases h2 : (if k < 0 then k + (a.length : Int) else k) < a.length
    · simp only [h, h2, decide_true, Bool.and_true, if_true]
      simp [mkS]
    · simp only [h, h2, decide_true, decide_false, Bool.and_false, if_true, Bool.false_eq_true, if_false]
      have h3 : ¬ ((if k < 0 then k + (a.length : Int) else k).toNat < a.length) := by omega
      rw [List.getD_eq_getElem?_getD, List.getElem?_eq_none (by omega)]
      rfl
  · simp only [h, decide_false, Bool.false_and, Bool.false_eq_true, if_false]
    rfl
theorem mkS_item0 {c : Nat} {a : List Nat} : Txt.item (mkS (c :: a)) 0 = mkS [c] := by rw [mkS_item]; simp
theorem mkS_itemN {k : Nat} {a : List Nat} : Txt.item (mkS a) k = mkS [a.getD k 0] := by
  rw [mkS_item]
  simp only [show ¬ ((k : Int) < 0) by omega, if_false, show (0 : Int) ≤ k by omega, if_true, Int.toNat_natCast]
theorem mkS_itemL {c : Nat} {a : List Nat} : Txt.item (mkS (a ++ [c])) (-1) = mkS [c] := by
  rw [mkS_item]
  simp only [List.length_append, List.length_cons, List.length_nil]
  rw [if_pos (by decide : (-1 : Int) < 0), if_pos (by omega)]
  have : ((-1 : Int) + ((a.length + (0 + 1) : Nat) : Int)).toNat = a.length := by omega
  rw [this]
  simp
theorem mkS_mul {a : List Nat} {n : Int} : Txt.mul (mkS a) n = mkS ((List.replicate n.toNat a).flatten) := by
  have key : ∀ (m : Nat) (acc : Array Nat), (List.replicate m (⟨a⟩ : Array Nat)).foldl (· ++ ·) acc = acc ++ ⟨(List.replicate m a).flatten⟩ := by
    intro m
    induction m with
    | zero => intro acc; simp
    | succ m ih =>
      intro acc
      rw [List.replicate_succ, List.foldl_cons, ih, List.replicate_succ, List.flatten_cons]
      apply Array.toList_inj.mp
      simp
  unfold Txt.mul
  split
  · rename_i h
    have : n.toNat = 0 := by omega
    rw [this]; rfl
  · split
    · rename_i h1 h
      simp only [Bool.or_eq_true, beq_iff_eq] at h
      rcases h with h | h
      · subst h
        show mkS a = _
        simp
      · have : a = [] := List.eq_nil_of_length_eq_zero h
        subst this
        have : (List.replicate n.toNat ([] : List Nat)).flatten = [] := by simp
        rw [this]
    · show Str.mk _ = Str.mk _
      congr 1
      have := key n.toNat #[]
      rw [show (mkS a).cps = ⟨a⟩ from rfl, this]
      apply Array.toList_inj.mp
      simp
def ljoin (s : List Nat) : List (List Nat) → List Nat
  | [] => []
  | [x] => x
  | x :: y :: r => x ++ s ++ ljoin s (y :: r)
theorem mkS_join (s : List Nat) : ∀ ls : List (List Nat), Txt.join (mkS s) (ls.map mkS) = mkS (ljoin s ls) := by
  intro ls
  unfold Txt.join
  rw [StrLaws.glued_eq_join]
  induction ls with
  | nil => rfl
  | cons x r ih =>
    cases r with
    | nil => rfl
    | cons y r =>
      show mkS x ++ mkS s ++ Str.join (mkS s) (mkS y :: r.map mkS) = mkS (x ++ s ++ ljoin s (y :: r))
      have : Str.join (mkS s) (mkS y :: r.map mkS) = mkS (ljoin s (y :: r)) := ih
      rw [this, mkS_app, mkS_app]
theorem ljoin_nil : ∀ ls : List (List Nat), ljoin [] ls = ls.flatten
  | [] => rfl
  | [x] => by simp [ljoin]
  | x :: y :: r => by rw [ljoin, ljoin_nil (y :: r)]; simp
theorem mkS_isspace {a : List Nat} : Txt.isspace (mkS a) = (!a.isEmpty && a.all Unicode.isSpace) := by
  unfold Txt.isspace
  have e1 : (mkS a).length = a.length := rfl
  have e2 : (mkS a).cps = ⟨a⟩ := rfl
  rw [e1, e2]
  cases a <;> simp
abbrev WP := List Nat × List Nat
def pvP (p : WP) : PV := .tup [.str (mkS p.1), .str (mkS p.2)]
def flat (ps : List WP) : List Nat := ps.flatMap fun p => p.1 ++ p.2
theorem flat_app (a b : List WP) : flat (a ++ b) = flat a ++ flat b := List.flatMap_append
theorem flat_cons (p : WP) (b : List WP) : flat (p :: b) = p.1 ++ p.2 ++ flat b := List.flatMap_cons
theorem pairsOf_map (ps : List WP) : pairsOf (ps.map pvP) = some (ps.map fun p => (mkS p.1, mkS p.2)) := by
  induction ps with
  | nil => rfl
  | cons p r ih => show (pairsOf (r.map pvP)).map _ = _; rw [ih]; rfl
theorem totL_map (ps : List WP) : totL (ps.map fun p => (mkS p.1, mkS p.2)) = (flat ps).length := by
  unfold totL flat
  rw [List.map_map, List.length_flatMap]
  congr 1
  apply List.map_congr_left
  intro p _
  simp [mkS_len]
theorem glued_map (ps : List WP) : gluedOf (ps.map fun p => (mkS p.1, mkS p.2)) = mkS (flat ps) := by
  unfold gluedOf
  have e0 : ("" : Str) = mkS [] := by decide +kernel
  rw [List.map_map, e0]
  have e : ((fun p : Str × Str => Txt.join (mkS []) [p.1, p.2]) ∘ fun p : WP => (mkS p.1, mkS p.2)) = mkS ∘ fun p : WP => p.1 ++ p.2 := by
    funext p
    have := mkS_join [] [p.1, p.2]
    simpa [ljoin] using this
  rw [e, ← List.map_map, mkS_join, ljoin_nil]
  rfl
end Mine
end
section
open PySem PySem.W PySem.Calls PyProof.Rows
set_option maxRecDepth 100000
set_option linter.unusedVariables false
namespace Mine
def rxS : Nat → List Nat → List (List Nat)
  | 0, l => [l]
  | n + 1, l => match l.dropWhile (fun c => !ws c) with
    | [] => [l]
    | c :: r => l.takeWhile (fun c => !ws c) :: (c :: r).takeWhile ws :: rxS n ((c :: r).dropWhile ws)
theorem arr_getD (l : List Nat) (j : Nat) : (⟨l⟩ : Array Nat).getD j 0 = l.getD j 0 := by
  unfold Array.getD
  rw [List.getD_eq_getElem?_getD]
  by_cases h : j < l.length
  · simp [h]
  · simp [h]
theorem tw_take {p : Nat → Bool} (l : List Nat) : l.takeWhile p = l.take (l.takeWhile p).length := List.prefix_iff_eq_take.1 (List.takeWhile_prefix p)
theorem dw_drop {p : Nat → Bool} (l : List Nat) : l.dropWhile p = l.drop (l.takeWhile p).length := by
  have h : l.takeWhile p ++ l.dropWhile p = l := List.takeWhile_append_dropWhile
  have := List.drop_left (l₁ := l.takeWhile p) (l₂ := l.dropWhile p)
  rw [h] at this
  exact this.symm
theorem cnt_tw (l : List Nat) : ∀ (n p : Nat), l.length - p = n → cnt ⟨l⟩ n p = ((l.drop p).takeWhile ws).length
  | 0, p, h => by rw [List.drop_eq_nil_of_le (by omega)]; rfl
  | n + 1, p, h => by
    have hp : p < l.length := by omega
    have e : l.getD p 0 = l[p] := by rw [List.getD_eq_getElem?_getD, List.getElem?_eq_getElem hp]; rfl
    rw [cnt, arr_getD, e, List.drop_eq_getElem_cons hp, List.takeWhile_cons]
    split
    · rw [cnt_tw l n (p + 1) (by omega), List.length_cons]; omega
    · rfl
theorem tw_len (l : List Nat) {p : Nat} (hp : p < l.length) (h2 : ws (l.getD p 0) = true) : ∀ (n s : Nat), p - s = n → s ≤ p → (∀ j, s ≤ j → j < p → ws (l.getD j 0) = false) → ((l.drop s).takeWhile fun c => !ws c).length = p - s
  | 0, s, h, hs, h1 => by
    have : s = p := by omega
    subst this
    have e : l.getD s 0 = l[s] := by rw [List.getD_eq_getElem?_getD, List.getElem?_eq_getElem hp]; rfl
    rw [e] at h2
    rw [List.drop_eq_getElem_cons hp, List.takeWhile_cons, h2]
    simp
  | n + 1, s, h, hs, h1 => by
    have hs2 : s < l.length := by omega
    have e : l.getD s 0 = l[s] := by rw [List.getD_eq_getElem?_getD, List.getElem?_eq_getElem hs2]; rfl
    have := h1 s (Nat.le_refl _) (by omega)
    rw [e] at this
    rw [List.drop_eq_getElem_cons hs2, List.takeWhile_cons, this]
    have ih := tw_len l hp h2 n (s + 1) (by omega) (by omega) (fun j j1 j2 => h1 j (by omega) j2)
    simp only [Bool.not_false, if_true, List.length_cons, ih]
    omega
theorem dw_all {p : Nat → Bool} : ∀ (l : List Nat), (∀ x ∈ l, p x = true) → l.dropWhile p = []
  | [], _ => rfl
  | a :: r, h => by rw [List.dropWhile_cons, if_pos (h a (by simp))]; exact dw_all r fun x hx => h x (List.mem_cons_of_mem _ hx)
theorem dw_nil (l : List Nat) (s : Nat) (h : ∀ j, s ≤ j → j < l.length → ws (l.getD j 0) = false) : (l.drop s).dropWhile (fun c => !ws c) = [] := by
  apply dw_all
  intro x hx
  obtain ⟨i, hi⟩ := List.getElem?_of_mem hx
  rw [List.getElem?_drop] at hi
  have hlt := (List.getElem?_eq_some_iff.1 hi).1
  have := h (s + i) (by omega) hlt
  rw [List.getD_eq_getElem?_getD, hi] at this
  simpa using this
theorem rxS_end {l : List Nat} {s f : Nat} (h : ∀ j, s ≤ j → j < l.length → ws (l.getD j 0) = false) : rxS f (l.drop s) = [l.drop s] := by
  cases f with
  | zero => rfl
  | succ f => rw [rxS, dw_nil l s h]
theorem rxS_step {l : List Nat} {s f p : Nat} (h0 : s ≤ p) (hp : p < l.length) (h1 : ∀ j, s ≤ j → j < p → ws (l.getD j 0) = false) (h2 : ws (l.getD p 0) = true) :
    rxS (f + 1) (l.drop s) = (l.drop s).take (p - s) :: (l.drop p).take (cnt ⟨l⟩ (l.length - p) p) :: rxS f (l.drop (p + cnt ⟨l⟩ (l.length - p) p)) := by
  have hl := tw_len l hp h2 (p - s) s rfl h0 h1
  have hd : (l.drop s).dropWhile (fun c => !ws c) = l.drop p := by
    rw [dw_drop, hl, List.drop_drop]; congr 1; omega
  have ht : (l.drop s).takeWhile (fun c => !ws c) = (l.drop s).take (p - s) := by rw [tw_take, hl]
  have hc := cnt_tw l (l.length - p) p rfl
  rw [hc]
  rw [rxS, hd, ht]
  have hne := List.drop_eq_getElem_cons hp
  rw [hne]
  simp only
  rw [← hne]
  congr 1
  congr 1
  · exact tw_take _
  · rw [dw_drop, List.drop_drop]
theorem cnt_pos {l : List Nat} {p : Nat} (hp : p < l.length) (h2 : ws (l.getD p 0) = true) : 1 ≤ cnt ⟨l⟩ (l.length - p) p := by
  obtain ⟨n, hn⟩ : ∃ n, l.length - p = n + 1 := ⟨l.length - p - 1, by omega⟩
  rw [hn, cnt, arr_getD, if_pos h2]; omega
end Mine
end
section
open PySem PySem.W PySem.Calls PyProof.Rows
set_option maxRecDepth 100000
set_option linter.unusedVariables false
namespace Mine
open Builtin.Re Builtin
section
variable {M : Model} {A : Around} {E : Value → Shared → Prop} {s : Shared}
def Strs : List Value → List (List Nat) → Prop
  | [], [] => True
  | v :: vs, l :: ls => (∃ t, v = .str (mkS l) t) ∧ Strs vs ls
  | _, _ => False
theorem Strs.snoc : ∀ {vs : List Value} {ls : List (List Nat)} {l : List Nat} {t : Tok}, Strs vs ls → Strs (vs ++ [.str (mkS l) t]) (ls ++ [l])
  | [], [], l, t, _ => ⟨⟨t, rfl⟩, trivial⟩
  | v :: vs, m :: ls, l, t, h => ⟨h.1, Strs.snoc h.2⟩
  | [], _ :: _, _, _, h => h.elim
  | _ :: _, [], _, _, h => h.elim
theorem Strs.len : ∀ {vs : List Value} {ls : List (List Nat)}, Strs vs ls → vs.length = ls.length
  | [], [], _ => rfl
  | v :: vs, m :: ls, h => by rw [List.length_cons, List.length_cons, Strs.len h.2]
  | [], _ :: _, h => h.elim
  | _ :: _, [], h => h.elim
theorem rxS_len : ∀ (n : Nat) (l : List Nat), (rxS n l).length ≤ 2 * n + 1
  | 0, l => by simp [rxS]
  | n + 1, l => by
    rw [rxS]
    split
    · simp
    · have := rxS_len n ((List.cons ‹Nat› ‹List Nat›).dropWhile ws)
      simp only [List.length_cons] at this ⊢; omega
theorem extr (l : List Nat) (b e : Nat) : (⟨(⟨l⟩ : Array Nat).extract b e⟩ : Str) = mkS ((l.drop b).take (e - b)) := by
  unfold mkS
  congr 1
  apply Array.toList_inj.mp
  simp [Array.toList_extract]
theorem slice_ok {l : List Nat} {b e : Nat} {Q : Value → Shared → Prop} (hl : l.length ≤ 1000000) (h : ∀ t k, Q (.str (mkS ((l.drop b).take (e - b))) t) { s with toks := k }) : wpAny M A (reSlice ⟨l⟩ 0 b e) Q E s := by
  unfold reSlice
  rw [if_pos (by rfl)]
  have sz : (1000000 : Nat) ≤ sizeLine := by decide
  refine wpAny_mkStr ?_ ?_
  · rw [extr]; exact h _ _
  · rw [extr, mkS_len]; simp; omega
theorem split_run {a c : Addr} {l : List Nat} {t : Tok} {Q : Fin → Shared → Prop} (p : PatAt s.heap a c) (hl : l.length ≤ 100000)
    (h : ∀ vs k, Strs vs (rxS (l.length + 1) l) → Q (.done (.ret (.ref s.heap.objs.size))) { s with heap := s.heap.push { cls := .type "list", data := .seq vs.toArray }, toks := k }) : wpAny M A («re.Pattern.split» ⟨[.ref a, .str (mkS l) t], []⟩) Q E s := by
  unfold «re.Pattern.split»
  simp only []
  refine wpAny_bind (wpAny_of_eq (show reNamed "re.Pattern.split" "split" ["string", "maxsplit"] 1 [.str (mkS l) t] [] = pure [some (.str (mkS l) t), none] by rfl) ?_)
  refine wpAny_bind (wpAny_pure ?_)
  refine wpAny_bind (whole_ok p ?_)
  refine wpAny_bind (wpAny_forIn_list _ (fun rest st s' => ∃ k D f, s' = { s with toks := k } ∧ st.2.1 = st.2.2.1 ∧ st.2.1 ≤ l.length ∧ Strs st.1.toList D ∧
    (st.2.2.2.2.2 = false → l.length - st.2.1 + 1 ≤ rest.length ∧ l.length - st.2.1 < f ∧ rxS (l.length + 1) l = D ++ rxS f (l.drop st.2.1)) ∧ (st.2.2.2.2.2 = true → rxS (l.length + 1) l = D ++ [l.drop st.2.1])) _ ?_ ?_ _ _ ?_)
  · rintro x rest ⟨out, st, la, mu, n, ov⟩ s1 ⟨k, D, f, rfl, e1, e2, e3, e4, e5⟩
    simp only at e1 e2 e3 e4 e5 ⊢
    subst e1
    cases ov with
    | true =>
      simp only [Bool.not_true, Bool.false_eq_true, if_false]
      exact wpAny_pure ⟨k, D, f, rfl, rfl, e2, e3, (fun h => by cases h), e5⟩
    | false =>
      obtain ⟨r1, r2, r3⟩ := e4 rfl
      simp only [Bool.not_false, if_true]
      simp only [show ((0 : Int) != 0) = false from rfl, Bool.false_and, Bool.false_eq_true, if_false]
      obtain ⟨f, rfl⟩ : ∃ f', f = f' + 1 := ⟨f - 1, by omega⟩
      have hbig : 3 * l.length + 8 < 4 * 2 ^ 64 := by omega
      have hcps : (mkS l).cps = ⟨l⟩ := rfl
      simp only [hcps]
      unfold reNextFound
      simp only [List.size_toArray]
      rcases rx_search (T := ⟨l⟩) (lim := l.length) (s := st) (ma := mu) (by omega) e2 with ⟨mf, E1, ho, hj⟩ | ⟨mf, p, E1, h1, h2, h3, h4, F⟩
      · refine wpAny_bind (end_ok E1 hbig (.inr ⟨ho, ?_⟩))
        simp only
        refine wpAny_pure ⟨k, D, f + 1, rfl, rfl, e2, e3, (fun h => by cases h), fun _ => ?_⟩
        rw [r3, rxS_end (fun j j1 j2 => by rw [← arr_getD]; exact hj j j1 j2)]
      · have h3' : ∀ j, st ≤ j → j < p → ws (l.getD j 0) = false := fun j j1 j2 => by rw [← arr_getD]; exact h3 j j1 j2
        have h4' : ws (l.getD p 0) = true := by rw [← arr_getD]; exact h4
        have hc := cnt_pos h2 h4'
        have hle := cnt_le ⟨l⟩ (l.length - p) p
        refine wpAny_bind (end_ok E1 hbig (.inl ⟨F.out, ?_⟩))
        simp only
        refine wpAny_bind (slice_ok (by omega) fun t1 k1 => ?_)
        rw [List.range_one]
        refine wpAny_bind ?_
        rw [List.forIn_cons]
        unfold reMachineGroup
        rw [if_neg (by rw [F.last]; decide)]
        have m1 : mf.marks.getD (2 * (0 + 1 - 1)) none = some p := by rw [F.marks]; rfl
        have m2 : mf.marks.getD (2 * (0 + 1 - 1) + 1) none = some (p + cnt ⟨l⟩ (l.length - p) p) := by rw [F.marks]; rfl
        rw [m1, m2]
        simp only
        rw [if_neg (by omega)]
        refine wpAny_bind (wpAny_bind (slice_ok (by omega) fun t2 k2 => wpAny_pure ?_))
        simp only [List.forIn_nil]
        refine wpAny_pure (wpAny_pure ?_)
        rw [F.start, F.handed]
        simp only [List.length_cons] at r1
        refine ⟨k2, D ++ [(l.drop st).take (p - st)] ++ [(l.drop p).take (cnt ⟨l⟩ (l.length - p) p)], f, rfl, rfl, by simp only; omega, ?_, fun _ => ⟨by simp only; omega, by simp only; omega, ?_⟩, fun h => by cases h⟩
        · simp only [Array.toList_push]
          have := (e3.snoc (l := (l.drop st).take (p - st)) (t := t1)).snoc (l := (l.drop p).take (p + cnt ⟨l⟩ (l.length - p) p - p)) (t := t2)
          rw [Nat.add_sub_cancel_left] at this
          rw [Nat.add_sub_cancel_left]
          exact this
        · rw [r3, rxS_step h1 h2 h3' h4']
          simp
  · rintro ⟨out, st, la, mu, n, ov⟩ s1 ⟨k, D, f, rfl, e1, e2, e3, e4, e5⟩
    simp only at e1 e2 e3 e4 e5 ⊢
    subst e1
    cases ov with
    | false =>
      have := (e4 rfl).1
      simp at this
    | true =>
      simp only [Bool.not_true, Bool.false_eq_true, if_false]
      have hcps : (mkS l).cps = ⟨l⟩ := rfl
      simp only [hcps, List.size_toArray]
      refine wpAny_bind (slice_ok (by omega) fun t1 k1 => ?_)
      have hlen : (out.push (Value.str (mkS ((l.drop st).take (l.length - st))) t1)).toList.length ≤ sizeLine := by
        have h1 := e3.len
        have h2 := rxS_len (l.length + 1) l
        rw [e5 rfl] at h2
        have sz : (1000000 : Nat) ≤ sizeLine := by decide
        simp only [List.length_append, List.length_cons, List.length_nil] at h2
        rw [Array.toList_push, List.length_append, h1]
        simp only [List.length_cons, List.length_nil]
        omega
      refine wpAny_bind (wpAny_newList ?_ hlen)
      refine wpAny_pure ?_
      rw [Array.toList_push]
      refine h _ k1 ?_
      rw [e5 rfl]
      have := e3.snoc (l := (l.drop st).take (l.length - st)) (t := t1)
      rw [List.take_of_length_le (by simp)] at this
      rw [List.take_of_length_le (by simp)]
      exact this
  · refine ⟨s.toks, [], l.length + 1, rfl, rfl, by simp, trivial, fun _ => ⟨?_, by simp, by simp⟩, fun h => by cases h⟩
    simp [reMostMatches, mkS]; omega
end
end Mine
end
section
open PySem PySem.W PySem.Calls PyProof.Rows
set_option maxRecDepth 100000
set_option linter.unusedVariables false
namespace Mine
open Builtin.Re Builtin
def patChk (K : Frag) (a c : Addr) : Bool := (match K.lookup a with
    | some ⟨.type T, none, .fields vs, _⟩ => T == "re.Pattern" && vs.getD 6 .none == rawInt 0 && vs.getD 2 .none == rawInt 1 && vs.getD 5 .none == .ref c
    | _ => false) && (match K.lookup c with
    | some ⟨_, _, .seq items _, _⟩ => (items.map reRawOf).map (·.toNat) == rxC
    | _ => false)
theorem pat_of {K : Frag} {h : Heap} (X : K.In h) {a c : Addr} (e : patChk K a c = true) : PatAt h a c := by
  unfold patChk at e
  rw [Bool.and_eq_true] at e
  obtain ⟨e1, e2⟩ := e
  split at e1
  · rename_i T vs sl q
    split at e2
    · rename_i cl d items n sl' q'
      simp only [Bool.and_eq_true, beq_iff_eq] at e1 e2
      exact ⟨⟨_, vs, X _ _ q, by rw [e1.1.1.1], rfl, rfl, e1.1.1.2, e1.1.2, e1.2⟩, ⟨_, items, n, X _ _ q', rfl, e2⟩⟩
    · cases e2
  · cases e1
def isP (a : Addr) : PV → List PO → Bool
  | .lit (.ref b), _ => b == a
  | _, _ => false
def rxF (a : Addr) : CF
  | [.lit (.ref b), .str x], σ => if b = a ∧ x.length ≤ 100000 then some (.ref σ.length, σ ++ [.list ((rxS (x.length + 1) x.cps.toList).map fun l => .str (mkS l))]) else none
  | _, _ => none
section
variable [Ban] {G : GC}
theorem vrs_of_strs {h : Heap} {β : Lay} : ∀ {vs : List Value} {ls : List (List Nat)}, Strs vs ls → VRs h β (ls.map fun l => .str (mkS l)) vs
  | [], [], _ => rfl
  | v :: vs, l :: ls, e => ⟨v, vs, rfl, e.1, vrs_of_strs e.2⟩
  | [], _ :: _, h => h.elim
  | _ :: _, [], h => h.elim
theorem m_psplit (O : GOk G) {a c : Addr} (e : patChk G.K a c = true) : SGet G "split" (.builtin "re.Pattern.split") (isP a) := by
  intro A s β σ x vx pl R V ht Q E h
  unfold isP at ht
  split at ht
  · rename_i b
    rw [beq_iff_eq] at ht
    subst ht
    obtain ⟨o, vs, h1, h2, h3, h4, _⟩ := (pat_of (R.base.K O) e).ob
    have V' : vx = .ref b := V
    subst V'
    refine getMethod_builtin ⟨o, h1, h2⟩ pa_pat sl_split ty_split (fun a e => ?_) (h _ β (Step.refl ..) R rfl (Sh.refl s))
    cases e; exact ⟨o, h1, h3⟩
  · cases ht
theorem psplit_ok (O : GOk G) {a c : Addr} (e : patChk G.K a c = true) {d : Nat} : SCall G d (.builtin "re.Pattern.split") (rxF a) := by
  intro A s β σ l vs pv σ' hA R V ev Q E h
  unfold rxF at ev
  split at ev
  · rename_i b x
    split at ev
    · rename_i hc
      obtain ⟨rfl, hx⟩ := hc
      cases ev
      obtain ⟨v1, v2, rfl, V1, t, rfl⟩ := V.two'
      have V1' : v1 = .ref b := V1
      subst V1'
      have P := pat_of (R.base.K O) e
      obtain ⟨o, ws, h1, h2, _⟩ := P.ob
      have hx2 : mkS x.cps.toList = x := mkS_toList x
      have hl : x.length = x.cps.toList.length := by rw [← hx2]; rfl
      refine wpAny_call_entry sl_split ⟨o, h1, h2⟩ en_split ?_ (ar_split _ _)
      rw [← hx2]
      refine split_run P (by rw [← hl]; exact hx) fun vs k hs => ⟨_, rfl, ?_⟩
      rw [hl] at *
      obtain ⟨S, R', V2⟩ := pushList (vs := vs.toArray) R (by rw [List.toList_toArray]; exact vrs_of_strs hs)
      exact h _ _ _ S R' V2 (Sh.mk' ..)
    · cases ev
  · cases ev
end
end Mine
end
section
open PySem PySem.W PySem.Calls PyProof.Rows
set_option maxRecDepth 100000
set_option linter.unusedVariables false
namespace Mine
def fExpS (f : FE) : FS := fun ρ σ => match f ρ σ with
  | some (.str _, σ₁) => some (.next, ρ, σ₁)
  | _ => none
def pop0F : CF
  | [.ref i, .int k], σ => match σ[i]? with
    | some (.list (p :: l)) => if k = 0 ∧ szOk l.length = true then some (p, σ.set i (.list l)) else none
    | _ => none
  | _, _ => none
def aFront (f b : FE) : FA := fun p ρ σ => match p with
  | .ref j => match f ρ σ with
    | some (.ref i, σ₁) => match b ρ σ₁ with
      | some (y, σ₂) => match partOf y, σ₂[i]?, σ₂[j]? with
        | some hi, some (.list l), some (.list m) => if i ≠ j ∧ szOk l.length = true ∧ szOk m.length = true then some (ρ, σ₂.set i (.list (m ++ l.drop (hi.elim l.length (clipAt l.length))))) else none
        | _, _, _ => none
      | none => none
    | _ => none
  | _ => none
section
variable [Ban] {G : GC} {d : Nat} {sc : Scope}
theorem SS.expS {x : Expr} {p : Pos} {f : FE} (O : ScopeOk sc) (a : SE G d sc x f) (hs : ∀ env, swapsWith x none p.line env = pure false) : SS G d sc (exec (.Expr x p)) (fExpS f) := by
  intro env A s β ρ σ fl ρ' σ' hsc hA R F e Q E h
  unfold fExpS at e
  split at e
  · rename_i x1 σ₁ e1
    cases e
    refine wpAny_Expr (a env A s β _ σ (.str x1) _ hsc hA R F e1 _ _ fun v s₁ β₁ S1 R1 V1 H1 => ?_) (by unfold interactive; rw [F.kind]; rfl) (hs env)
    obtain ⟨t, rfl⟩ := V1
    exact h _ s₁ β₁ S1.toF R1 (F.go O hsc R.base S1) rfl H1
  · cases e
theorem list_turn {h h' : Heap} {β : Lay} {σ : List PO} (R : Rel G h β σ) {i : Nat} {a : Addr} {l l' : List PV} {vs' : Array Value} {m : Nat} (hp : β[i]? = some (a, a)) (e : σ[i]? = some (.list l)) (hs : Heap.SameBut a h h')
    (hg : h'.get? a = some ⟨.type "list", none, .seq vs' m, #[]⟩) (W : VRs h β l' vs'.toList) : Step G h β h' β ∧ Rel G h' β (σ.set i (.list l')) := by
  have S : Step G h β h' β := Step.set R (In.of_get hp).1 hs ⟨_, hg⟩
  exact ⟨S, R.set hp (.inl rfl) hs fun tp oth => ⟨rfl, vs', m, hg, S.vrs W⟩⟩
theorem pop0_ok : SCall G d (.builtin "list.pop") pop0F := by
  intro A s β σ l vs pv σ' hA R V ev Q E h
  unfold pop0F at ev
  split at ev
  · rename_i i k
    split at ev
    · rename_i p l el
      split at ev
      · rename_i hc
        obtain ⟨rfl, hz⟩ := hc
        cases ev
        obtain ⟨v1, v2, rfl, V1, t, rfl⟩ := V.two'
        obtain ⟨q, hq, rfl⟩ := V1
        obtain ⟨e1, ws, n, e2, W⟩ := R.at_ i q _ hq el
        obtain ⟨q1, q2⟩ := q
        dsimp only at e1
        subst e1
        obtain ⟨w0, wr, ew, V0, VR'⟩ := W
        have hL : s.heap.IsList q2 ws := ⟨_, e2, rfl, n, rfl⟩
        have hws : ws = ⟨w0 :: wr⟩ := by rw [← Array.toList_inj]; exact ew
        subst hws
        have hl := VR'.length
        have := of_decide_eq_true (show decide (l.length ≤ 1000000) = true from hz)
        have sz : sizeLine = 16777216 := by decide
        refine wpAny_call_entry F.slot_list_pop hL.typeIs F.entry_list_pop ?_ (F.args_list_pop_2 _ _)
        show wpAny _ _ (do
          let i ← asIndex (.int 0 t)
          if !Builtin.List.listFitsIndex i then rule "list.pop.index-too-large"; raiseError "OverflowError" "Python int too large to convert to C ssize_t"
          let xs ← Builtin.List.listItems (.ref q2)
          if xs.isEmpty then rule "list.pop.empty"; raiseError "IndexError" "pop from empty list"
          match (seqIndex? i xs.size).bind fun k => xs[k]?.map (k, ·) with
          | some (k, x) => Builtin.List.listUpdate (.ref q2) (·.eraseIdxIfInBounds k); ret x
          | none => rule "list.pop.out-of-range"; raiseError "IndexError" "pop index out of range") _ _ _
        refine wpAny_bind (wpAny_of_eq (rfl : asIndex (.int 0 t) = pure 0) ?_)
        rw [if_neg (by decide)]
        unfold Builtin.List.listItems
        refine wpAny_bind (wpAny_bind (wpAny_seqItems e2 rfl (wpAny_pure ?_)))
        simp only [Option.getD_some]
        rw [if_neg (by simp)]
        have e5 : ((seqIndex? 0 (⟨w0 :: wr⟩ : Array Value).size).bind fun k => Option.map (fun x => (k, x)) (⟨w0 :: wr⟩ : Array Value)[k]?) = some (0, w0) := by simp [seqIndex?]
        rw [e5]
        show wpAny _ _ (updateSeq q2 (·.eraseIdxIfInBounds 0) >>= fun _ => ret w0) _ _ _
        have e6 : (⟨w0 :: wr⟩ : Array Value).eraseIdxIfInBounds 0 = ⟨wr⟩ := by
          apply Array.toList_inj.mp
          simp [Array.eraseIdxIfInBounds]
        have hsz : (⟨w0 :: wr⟩ : Array Value).size ≤ sizeLine := by simp; omega
        refine wpAny_bind (wpAny_updateSeq e2 rfl ?_ hsz (by rw [e6]; simp; omega))
        refine wpAny_pure ⟨_, rfl, ?_⟩
        obtain ⟨S5, R5⟩ := list_turn (h' := s.heap.update q2 (Obj.mapSeq (·.eraseIdxIfInBounds 0))) R hq el (l' := l) (vs' := ⟨wr⟩) (m := (if ((⟨wr⟩ : Array Value).size == (⟨w0 :: wr⟩ : Array Value).size) = true then n else n + 1)) (Heap.SameBut.update ..) (by
          rw [Heap.get?_update_self _ e2 (by simp [Obj.mapSeq, Obj.isFreed])]
          simp only [Obj.mapSeq, e6]) VR'
        exact h _ _ β S5 R5 (S5.vr V0) (Sh.mk' ..)
      · cases ev
    · cases ev
  · cases ev
theorem setItem_front {prog : Program} {w : World} {A : Around} {E : Value → Shared → Prop} {s : Shared} {sl x m : Addr} {vu : Value} {hi : Option Int} {xs ys : Array Value} {k : Nat} {om : Obj} {km : Nat} {Q : Unit → Shared → Prop} (hx : s.heap.get? x = some ⟨.type "list", none, .seq xs k, #[]⟩) (hsl : s.heap.IsSliceOf sl .none vu .none)
    (pu : IsPart vu hi) (hm : s.heap.get? m = some om) (hmc : om.cls = .type "list") (hmd : om.data = .seq ys km) (ne : x ≠ m) (h1 : xs.size ≤ 1000000) (h2 : ys.size ≤ 1000000)
    (h : ∀ h' k', Heap.SameBut x s.heap h' → h'.get? x = some ⟨.type "list", none, .seq (ys ++ xs.extract (hi.elim xs.size (clipAt xs.size)) xs.size) k', #[]⟩ → Q () { s with heap := h' }) :
    wpAny (model prog w) A (setItem (.ref x) (.ref sl) (.ref m)) Q E s := by
  obtain ⟨os, hos, hcs, hds⟩ := id hsl
  have hTs : s.TypeIs (.ref sl) "slice" := ⟨os, hos, hcs⟩
  have hTx : s.TypeIs (.ref x) "list" := ⟨_, hx, rfl⟩
  have sz : sizeLine = 16777216 := by decide
  unfold setItem
  refine wpAny_holding ?_
  refine wpAny_bind (wpAny_sequenceKey hTx (by decide) ?_)
  refine wpAny_bind (wpAny_callSpecial?_slot (name := Str.ofString "__setitem__") hTx slot_list_setitem
    (wpAny_call_entry slot_list_setitem hTx entry_list_setitem ?_ (args_list_setitem _ _ _)))
  show wpAny _ _ (Builtin.List.listSubscript? (.ref sl) >>= _) _ _ s
  refine wpAny_bind ?_
  unfold Builtin.List.listSubscript?
  refine wpAny_bind (wpAny_specialOf hTs slice_no_index ?_)
  simp only [Option.isNone_none, if_true]
  refine wpAny_pure ?_
  show wpAny _ _ (typeOf (.ref sl) >>= _) _ _ s
  refine wpAny_bind (wpAny_typeOf hTs ?_)
  rw [if_neg (by decide)]
  rw [listSliceParts_eq]
  refine wpAny_bind (wpAny_bind (wpAny_field hos hds (x := .none) rfl (wpAny_bind (wpAny_listPart (k := none) .none ?_))))
  rw [if_neg (show ¬ ((rawPart none == rawInt 0) = true) from Bool.false_ne_true)]
  refine wpAny_bind (wpAny_field hos hds (x := .none) rfl (wpAny_bind (wpAny_listPart (k := none) .none ?_)))
  refine wpAny_bind (wpAny_field hos hds (x := vu) rfl (wpAny_bind (wpAny_listPart pu (wpAny_pure ?_))))
  dsimp only
  rw [if_neg (by unfold Builtin.List.listSameRef; simpa using ne)]
  refine wpAny_bind ?_
  unfold Builtin.List.listAllItems
  refine wpAny_bind (wpAny_typeOf (T := "list") ⟨om, hm, hmc⟩ ?_)
  rw [if_pos (by decide)]
  unfold Builtin.List.listItems
  refine wpAny_bind (wpAny_seqItems hm hmd (wpAny_pure ?_))
  refine wpAny_bind (wpAny_bind (wpAny_seqItems hx rfl (wpAny_pure ?_)))
  refine wpAny_bind (wpAny_of_eq (sliceIndices_raw none hi none xs.size (by simp)) ?_)
  rw [sliceBounds_plain]
  dsimp only
  rw [if_pos (by decide)]
  refine wpAny_bind (wpAny_rule ?_)
  rw [if_neg (by unfold Builtin.List.listTooLong; rw [decide_eq_false (by omega)]; decide)]
  have e2 : (max ((((none : Option Int).elim 0 (clipAt xs.size) : Nat) : Int)) (((hi.elim xs.size (clipAt xs.size) : Nat) : Int))).toNat = hi.elim xs.size (clipAt xs.size) := by
    show (max (0 : Int) _).toNat = _
    rw [Int.max_eq_right (by omega)]
    exact Int.toNat_natCast _
  have key : ∀ F : Array Value → Array Value, F xs = ys ++ xs.extract (hi.elim xs.size (clipAt xs.size)) xs.size → ∀ rem : List Value, wpAny (model prog w) A.in1 (updateSeq x F >>= fun _ => letGo rem >>= fun _ => ret .none) (fun fin s' => ∃ v, fin = .done (.ret v) ∧ wpAny (model prog w) A (pure ()) Q E s') E s := by
    intro F hF rem
    refine wpAny_bind (wpAny_updateSeq hx rfl ?_ (by omega) (by rw [hF, Array.size_append, Array.size_extract]; omega))
    refine wpAny_bind (wpAny_letGo ?_)
    refine wpAny_pure ⟨_, rfl, wpAny_pure (h _ (if ((ys ++ xs.extract (hi.elim xs.size (clipAt xs.size)) xs.size).size == xs.size) = true then k else k + 1) (Heap.SameBut.update ..) ?_)⟩
    rw [Heap.get?_update_self _ hx (by simp [Obj.mapSeq, Obj.isFreed])]
    simp only [Obj.mapSeq]
    rw [hF]
  refine key _ ?_ _
  rw [e2]
  simp
end
end Mine
end
section
open PySem PySem.W PySem.Calls PyProof.Rows
set_option maxRecDepth 100000
set_option linter.unusedVariables false
namespace Mine
section
variable [Ban] {G : GC} {d : Nat} {sc : Scope}
theorem SAx.front {X : Env → Addr → Prop} (O : GOk G) {value : Expr} {hi : Option Expr} {p p' : Pos} {f b : FE} (OS : ScopeOk sc) (u : SE G d sc value f) (y : SP G d sc hi b) : SAx G X d sc (.Subscript value (.Slice none hi none p') p) (aFront f b) := by
  intro env A s β ρ σ pv v ρ' σ' hsc hA R F V e Q E h
  unfold aFront at e
  split at e
  · rename_i j
    split at e
    · rename_i i σ₁ e1
      split at e
      · rename_i y₁ σ₂ e2
        split at e
        · rename_i hi' l m p1 ei ej
          split at e
          · rename_i hz
            obtain ⟨hij, hz1, hz2⟩ := hz
            cases e
            rw [assign_Subscript]
            refine wpAny_bind (wpAny_holding (u env A s β _ σ (.ref i) σ₁ hsc hA R F e1 _ _ fun vo s₁ β₁ S1 R1 V1 H1 => ?_))
            refine wpAny_bind (wpAny_holding (wpAny_Slice ?_))
            rw [evalPart_none]
            refine wpAny_pure ?_
            refine y env A s₁ β₁ _ σ₁ y₁ σ₂ hsc hA R1 (F.go OS hsc R.base S1) e2 _ _ fun vu s₂ β₂ S2 R2 V2 H2 => ?_
            refine wpAny_pure ?_
            refine wpAny_bind (wpAny_standAt (wpAny_bind (wpAny_holding ?_)))
            have k : ∀ b o, s₂.heap.get? b = some o → (s₂.heap.push { cls := .type "slice", data := .fields #[.none, vu, .none] }).get? b = some o := fun b o e => Heap.get?_push_of_some _ e
            have S4 : Step G s₂.heap β₂ (s₂.heap.push { cls := .type "slice", data := .fields #[.none, vu, .none] }) β₂ := Step.keeps k
            have R4 := R2.keeps k
            obtain ⟨q, hq, rfl⟩ := S4.vr (S2.vr V1)
            obtain ⟨q0, ws, n, hg, W⟩ := R4.at_ i q _ hq ei
            obtain ⟨q1, q2⟩ := q
            dsimp only at q0
            subst q0
            obtain ⟨q', hq', rfl⟩ := S4.vr (S2.vr (S1.vr V))
            obtain ⟨q0', ms, n', hg', W'⟩ := R4.at_ j q' _ hq' ej
            obtain ⟨q1', q2'⟩ := q'
            dsimp only at q0'
            subst q0'
            have ne : q2 ≠ q2' := (R4.apart i j _ _ hq hq' hij).1
            have hs : ws.size = l.length := by rw [← Array.length_toList, W.length]
            have hs2 : ms.size = m.length := by rw [← Array.length_toList, W'.length]
            refine setItem_front (s := ⟨_, s₂.gens, s₂.drawn, s₂.toks, s₂.os⟩) hg (Heap.IsSliceOf.new ..) (partOf_is V2 p1) hg' rfl rfl ne (by rw [hs]; exact of_decide_eq_true hz1) (by rw [hs2]; exact of_decide_eq_true hz2) fun h' k' hsb hgx => ?_
            obtain ⟨S5, R5⟩ := list_turn R4 hq ei hsb hgx (l' := m ++ l.drop (hi'.elim l.length (clipAt l.length))) (by
              rw [Array.toList_append, Array.toList_extract, hs]
              refine VRs.append W' ?_
              rw [List.extract_eq_take_drop, List.take_of_length_le (by rw [List.length_drop, Array.length_toList, hs]; exact Nat.le_refl _)]
              exact W.drop _)
            have ST := ((S1.trans S2).trans S4).trans S5
            exact wpAny_release (h _ β₂ ST.toX R5 (F.go (s' := ⟨h', s₂.gens, s₂.drawn, s₂.toks, s₂.os⟩) OS hsc R.base ST) ((H1.trans H2).trans (Sh.mk' ..)))
          · cases e
        · cases e
      · cases e
    · cases e
  · cases e
end
end Mine
end
section
open PySem PySem.W PySem.Calls PyProof.Rows
set_option maxRecDepth 100000
set_option linter.unusedVariables false
namespace Mine
section
variable {prog : Program} {w : World} {A : Around} {E : Value → Shared → Prop} {s : Shared}
theorem en_iter : entryFor table "iter" = some Builtin.«iter» := entryFor_of_tree (by kernel_rfl)
theorem ar_iter (a : Value) : argsOk "iter" ⟨[a], []⟩ := by unfold argsOk; kernel_rfl
theorem iter_call {l : Addr} {xs : Array Value} {Q : Value → Shared → Prop} (hl : s.heap.IsList l xs)
    (h : Q (.ref s.heap.objs.size) { s with heap := s.heap.push { cls := .type "list_iterator", data := .fields #[.ref l, .int 0 0] } }) :
    wpAny (model prog w) A (call (.builtin "iter") [.ref l]) Q E s := by
  refine call_function_entry (by decide +kernel) (by decide +kernel) en_iter (ar_iter _) ?_
  unfold Builtin.«iter»
  refine wpAny_bind (m := someArgs "iter" 1 2 _) (wpAny_of_eq (a := [Value.ref l]) (by first | rfl | kernel_rfl) ?_)
  show wpAny _ _ (pyIter (.ref l) >>= _) _ _ _
  refine wpAny_bind (wpAny_pyIter_list hl ?_)
  exact wpAny_pure ⟨_, rfl, h⟩
theorem rep_two {l : Addr} {v : Value} {k : Nat} {u : Tok} {Q : Value → Shared → Prop} (hl : s.heap.get? l = some { cls := .type "list", dict := none, data := .seq #[v] k, slots := #[] })
    (h : Q (.ref s.heap.objs.size) { s with heap := s.heap.push { cls := .type "list", data := .seq #[v, v] } }) : wpAny (model prog w) A (binaryOp .Mult (.ref l) (.int 2 u)) Q E s :=
  wpAny_binaryOp_repeat_ref (T := "list") (U := "int") (by decide) ⟨_, hl, rfl⟩ (fun s' => typeIs_int s' 2 u) noFill_list_mul F.fills_int_mul F.slot_int_rmul repeat_list F.slot_int_index.lookup
    (call_meets F.slot_int_rmul (typeIs_int s 2 u) F.entry_int_rmul (F.args_int_rmul_2 _ _) (int___rmul___int_list 2 u l #[v] k)
      ⟨hl, rfl, ⟨_, hl, rfl⟩, call_meets F.slot_list_mul ⟨_, hl, rfl⟩ F.entry_list_mul (F.args_list_mul_2 _ _)
        (AutoListH.list___mul___list_int_3 l #[v] k 2 u (by decide) (by show ¬ (1 * 2 > (2 ^ 63 - 1) / 8); decide) (by show ¬ Builtin.List.listTooLong (1 * 2) = true; simp [Builtin.List.listTooLong, sizeLine]))
        ⟨hl, h⟩⟩)
theorem iter_self {it l : Addr} {k : Nat} {Q : Value → Shared → Prop} (hit : s.heap.IsListIter it l k) (h : Q (.ref it) s) : wpAny (model prog w) A (pyIter (.ref it)) Q E s := by
  obtain ⟨o, ho, hc, hd⟩ := hit
  have hT : s.TypeIs (.ref it) "list_iterator" := ⟨o, ho, hc⟩
  refine wpAny_pyIter_slot hT slot_listiter_iter (wpAny_call_entry slot_listiter_iter hT entry_listiter_iter ?_ (args_listiter_iter _))
  show wpAny _ _ (ret (.ref it)) _ _ s
  exact wpAny_pure ⟨_, rfl, "list_iterator", _, hT, slot_listiter_next.lookup, h⟩
end
abbrev zs3 (h : Heap) (it : Addr) : Heap := h.push { cls := .type "tuple", data := .seq #[.ref it, .ref it] }
abbrev zs4 (h : Heap) (it : Addr) : Heap := (zs3 h it).push { cls := .type "tuple", data := .seq #[.none, .none] }
abbrev zs5 (h : Heap) (it : Addr) : Heap := (zs4 h it).push { cls := .type "zip", data := .fields #[.none, .bool false, .bool false, .ref h.objs.size, .ref (zs3 h it).objs.size] }
theorem meets_zip_self (it l : Addr) :
    Meets (Builtin.«zip.__new__» ⟨[.type "zip", .ref it, .ref it], []⟩) (fun _ R s => s.heap.IsListIter it l 0 ∧
      R (.ok (.ret (.ref (zs4 s.heap it).objs.size))) { s with heap := zs5 s.heap it }) :=
  .of_wp fun prog w A R s h => by
    obtain ⟨hp, g, d, tk, os⟩ := s; obtain ⟨hl1, h⟩ := h
    have hsub := sub_zip
    have hL1 : Heap.IsListIter (Shared.heap ⟨hp, g, d, tk, os⟩) it l 0 := hl1
    wp_walk using iter_self hL1, iter_self hL1
    exact ⟨_, rfl, h⟩
section
variable {prog : Program} {w : World} {A : Around} {E : Value → Shared → Prop} {s : Shared}
theorem call_zip_self {it l : Addr} {Q : Value → Shared → Prop} (hit : s.heap.IsListIter it l 0)
    (h : ∀ h', IsZip h' (s.heap.objs.size + 2) s.heap.objs.size (s.heap.objs.size + 1) .none → IsPair h' s.heap.objs.size (.ref it) (.ref it) →
      IsPair h' (s.heap.objs.size + 1) .none .none → h'.objs.size = s.heap.objs.size + 3 → (∀ c o, s.heap.get? c = some o → h'.get? c = some o) → Q (.ref (s.heap.objs.size + 2)) { s with heap := h' }) :
    wpAny (model prog w) A (call (.type "zip") [.ref it, .ref it]) Q E s := by
  refine callType_new F.called_zip (by decide) (F.typeCall_zip_2 _ _) (F.newCall_zip_2 _ _) (fun obj => F.args_object_init_3 obj _ _) F.entry_zip_new
    (meets_zip_self it l) ⟨hit, ?_⟩
  have z3 : (zs3 s.heap it).objs.size = s.heap.objs.size + 1 := Heap.size_push ..
  have z4 : (zs4 s.heap it).objs.size = s.heap.objs.size + 2 := by rw [Heap.size_push, z3]
  have z5 : (zs5 s.heap it).objs.size = s.heap.objs.size + 3 := by rw [Heap.size_push, z4]
  have g5 : (zs5 s.heap it).get? (zs4 s.heap it).objs.size = some _ := Heap.get?_push_size _ rfl
  have g4 : (zs5 s.heap it).get? (zs3 s.heap it).objs.size = some _ := Heap.get?_push_of_some _ (Heap.get?_push_size _ rfl)
  have g3 : (zs5 s.heap it).get? s.heap.objs.size = some _ := Heap.get?_push_of_some _ (Heap.get?_push_of_some _ (Heap.get?_push_size _ rfl))
  show _ ∧ _
  rw [z3, z4] at g5
  rw [z3] at g4
  rw [z4]
  exact ⟨⟨_, g5, rfl⟩, h _ g5 g3 g4 z5 fun c o x => Heap.get?_push_of_some _ (Heap.get?_push_of_some _ (Heap.get?_push_of_some _ x))⟩
structure ZSelf (z TI TO i l : Addr) : Prop where
  TIz : TI ≠ z
  TOz : TO ≠ z
  iz : i ≠ z
  TITO : TI ≠ TO
  TIi : TI ≠ i
  TOi : TO ≠ i
  lz : l ≠ z
  lTO : l ≠ TO
  li : l ≠ i
theorem zself_item {z TI TO i l : Addr} {k : Nat} {xs : Array Value} {x y a b : Value} {Q : Option Value → Shared → Prop} (D : ZSelf z TI TO i l)
    (hz : IsZip s.heap z TI TO .none) (hTI : IsPair s.heap TI (.ref i) (.ref i)) (hTO : IsPair s.heap TO a b)
    (h1 : s.heap.IsListIter i l k) (hl : s.heap.IsList l xs) (hx : xs[k]? = some x) (hy : xs[k + 1]? = some y)
    (hQ : ∀ h', IsZip h' z TI TO (rawInt s.heap.objs.size) → IsPair h' TO x y → h'.IsListIter i l (k + 2) → IsPair h' s.heap.objs.size x y → h'.objs.size = s.heap.objs.size + 1 →
      (∀ c o, c ≠ z → c ≠ TO → c ≠ i → s.heap.get? c = some o → h'.get? c = some o) → Q (some (.ref s.heap.objs.size)) { s with heap := h' }) :
    wpAny (model prog w) A (pyNext (.ref z)) Q E s := by
  have hT : s.TypeIs (.ref z) "zip" := ⟨_, hz, rfl⟩
  unfold pyNext
  refine wpAny_bind (wpAny_attempt (wpAny_callSpecial?_slot (name := Str.ofString "__next__") hT F.slot_zip_next
    (wpAny_call_entry F.slot_zip_next hT F.entry_zip_next ?_ (F.args_zip_next_1 _))))
  show wpAny _ _ (field (.ref z) 2 >>= _) _ _ _
  refine wpAny_bind (wpAny_field hz rfl (x := .bool false) rfl ?_)
  show wpAny _ _ (field (.ref z) 3 >>= _) _ _ _
  refine wpAny_bind (wpAny_field hz rfl (x := .ref TI) rfl ?_)
  refine wpAny_bind (wpAny_seqItems hTI rfl ?_)
  show wpAny _ _ (Builtin.SmallTypes.ownedTupleIsFree (.ref z) >>= _) _ _ _
  refine wpAny_bind ?_
  unfold Builtin.SmallTypes.ownedTupleIsFree
  refine wpAny_bind (wpAny_field hz rfl (x := .none) rfl (wpAny_pure ?_))
  simp only [if_true]
  refine wpAny_bind (wpAny_rule ?_)
  refine wpAny_bind (wpAny_field hz rfl (x := .ref TO) rfl ?_)
  refine wpAny_bind (wpAny_setField_rec hz (by simp) fun g1 hz1 hs1 => ?_)
  replace hz1 : IsZip g1 z TI TO .ellipsis := hz1
  refine wpAny_bind ?_
  simp only [List.zipIdx_cons, List.zipIdx_nil, List.forIn_cons, List.forIn_nil]
  refine wpAny_bind (wpAny_bind (wpAny_onRaise ?_))
  show wpAny _ _ (Builtin.SmallTypes.nextOf (.ref i) >>= _) _ _ _
  refine wpAny_bind (wpAny_nextOf_list_item (h1.extBut hs1.extBut D.iz) (hl.extBut hs1.extBut D.lz) hx fun g2 h2 hs2 => wpAny_pure ?_)
  have hTO2 : IsPair g2 TO a b := hs2.extBut _ _ D.TOi (hs1.extBut _ _ D.TOz hTO)
  refine wpAny_bind (wpAny_seqItems hTO2 rfl ?_)
  refine wpAny_bind (wpAny_updateSeq_pair hTO2 fun g3 hTO3 hs3 => ?_)
  replace hTO3 : IsPair g3 TO x b := hTO3
  refine wpAny_bind (wpAny_letGo (wpAny_pure ?_))
  refine wpAny_bind (wpAny_bind (wpAny_onRaise ?_))
  show wpAny _ _ (Builtin.SmallTypes.nextOf (.ref i) >>= _) _ _ _
  refine wpAny_bind (wpAny_nextOf_list_item (h2.extBut hs3.extBut D.TOi.symm) (((hl.extBut hs1.extBut D.lz).extBut hs2.extBut D.li).extBut hs3.extBut D.lTO) hy fun g4 h4 hs4 => wpAny_pure ?_)
  have hTO4 : IsPair g4 TO x b := hs4.extBut _ _ D.TOi hTO3
  refine wpAny_bind (wpAny_seqItems hTO4 rfl ?_)
  refine wpAny_bind (wpAny_updateSeq_pair hTO4 fun g5 hTO5 hs5 => ?_)
  replace hTO5 : IsPair g5 TO x y := hTO5
  refine wpAny_bind (wpAny_letGo (wpAny_pure (wpAny_pure ?_)))
  refine wpAny_bind (wpAny_seqItems hTO5 rfl ?_)
  refine wpAny_bind (wpAny_newTuple ?_)
  have hsz : g5.objs.size = s.heap.objs.size := by rw [hs5.1, hs4.1, hs3.1, hs2.1, hs1.1]
  have hz5 : IsZip g5 z TI TO .ellipsis := hs5.extBut _ _ D.TOz.symm (hs4.extBut _ _ D.iz.symm (hs3.extBut _ _ D.TOz.symm (hs2.extBut _ _ D.iz.symm hz1)))
  have hk5 : ∀ c o, c ≠ z → c ≠ TO → c ≠ i → s.heap.get? c = some o → g5.get? c = some o := fun c o c1 c2 c3 e =>
    hs5.extBut _ _ c2 (hs4.extBut _ _ c3 (hs3.extBut _ _ c2 (hs2.extBut _ _ c3 (hs1.extBut _ _ c1 e))))
  have h5 : g5.IsListIter i l (k + 2) := h4.extBut hs5.extBut D.TOi.symm
  have hzlt : z < g5.objs.size := Heap.lt_size hz5
  show wpAny _ _ (Builtin.SmallTypes.ownedTupleHandOut (.ref z) (.ref g5.objs.size) >>= _) _ _ _
  refine wpAny_bind ?_
  unfold Builtin.SmallTypes.ownedTupleHandOut
  have hz6 : IsZip (g5.push { cls := .type "tuple", data := .seq #[x, y] }) z TI TO .ellipsis := Heap.get?_push_of_some _ hz5
  refine wpAny_bind (wpAny_setField_rec hz6 (by simp) fun g7 hz7 hs7 => ?_)
  replace hz7 : IsZip g7 z TI TO (rawInt g5.objs.size) := hz7
  refine wpAny_setField_rec hz7 (by simp) fun g8 hz8 hs8 => ?_
  replace hz8 : IsZip g8 z TI TO (rawInt g5.objs.size) := hz8
  have up : ∀ c o, c ≠ z → g5.get? c = some o → g8.get? c = some o := fun c o c1 e => hs8.extBut _ _ c1 (hs7.extBut _ _ c1 (Heap.get?_push_of_some _ e))
  have hT8 : IsPair g8 g5.objs.size x y := hs8.extBut _ _ (Nat.ne_of_gt hzlt) (hs7.extBut _ _ (Nat.ne_of_gt hzlt) (Heap.get?_push_size _ rfl))
  have z8 : g8.objs.size = g5.objs.size + 1 := by rw [hs8.1, hs7.1, Heap.size_push]
  rw [hsz] at hz8 hT8 z8
  refine wpAny_pure ⟨_, rfl, ?_⟩
  show wpAny _ _ (pure (some (Value.ref g5.objs.size))) _ _ _
  rw [hsz]
  exact wpAny_pure (hQ g8 hz8 (up _ _ D.TOz hTO5) (h5.at fun o e => up _ o D.iz e) hT8 z8 fun c o c1 c2 c3 e => up c o c1 (hk5 c o c1 c2 c3 e))
theorem zself_end {z TI TO i l : Addr} {k : Nat} {xs : Array Value} {a b : Value} {Q : Option Value → Shared → Prop} (hh : A.handled = none) (D : ZSelf z TI TO i l)
    (hz : IsZip s.heap z TI TO .none) (hTI : IsPair s.heap TI (.ref i) (.ref i)) (hTO : IsPair s.heap TO a b)
    (h1 : s.heap.IsListIter i l k) (hl : s.heap.IsList l xs) (hx : xs[k]? = none)
    (hQ : ∀ h', (∀ c o, c ≠ z → c ≠ i → s.heap.get? c = some o → h'.get? c = some o) → Q none { s with heap := h' }) :
    wpAny (model prog w) A (pyNext (.ref z)) Q E s := by
  have hT : s.TypeIs (.ref z) "zip" := ⟨_, hz, rfl⟩
  unfold pyNext
  refine wpAny_bind (wpAny_attempt (wpAny_callSpecial?_slot (name := Str.ofString "__next__") hT F.slot_zip_next
    (wpAny_call_entry F.slot_zip_next hT F.entry_zip_next ?_ (F.args_zip_next_1 _))))
  show wpAny _ _ (field (.ref z) 2 >>= _) _ _ _
  refine wpAny_bind (wpAny_field hz rfl (x := .bool false) rfl ?_)
  show wpAny _ _ (field (.ref z) 3 >>= _) _ _ _
  refine wpAny_bind (wpAny_field hz rfl (x := .ref TI) rfl ?_)
  refine wpAny_bind (wpAny_seqItems hTI rfl ?_)
  show wpAny _ _ (Builtin.SmallTypes.ownedTupleIsFree (.ref z) >>= _) _ _ _
  refine wpAny_bind ?_
  unfold Builtin.SmallTypes.ownedTupleIsFree
  refine wpAny_bind (wpAny_field hz rfl (x := .none) rfl (wpAny_pure ?_))
  simp only [if_true]
  refine wpAny_bind (wpAny_rule ?_)
  refine wpAny_bind (wpAny_field hz rfl (x := .ref TO) rfl ?_)
  refine wpAny_bind (wpAny_setField_rec hz (by simp) fun g1 hz1 hs1 => ?_)
  replace hz1 : IsZip g1 z TI TO .ellipsis := hz1
  refine wpAny_bind ?_
  simp only [List.zipIdx_cons, List.zipIdx_nil, List.forIn_cons, List.forIn_nil]
  refine wpAny_bind (wpAny_bind (wpAny_onRaise ?_))
  show wpAny _ _ (Builtin.SmallTypes.nextOf (.ref i) >>= _) _ _ _
  refine wpAny_bind (wpAny_nextOf_list_end hh (h1.extBut hs1.extBut D.iz) (hl.extBut hs1.extBut D.lz) hx fun g2 e hs2 he => ?_)
  obtain ⟨oe, hoe, hce⟩ := he
  have hz2 : IsZip g2 z TI TO .ellipsis := hs2 _ _ D.iz.symm hz1
  have hez : e ≠ z := fun x => by subst x; rw [hz2] at hoe; cases hoe; simp at hce
  refine wpAny_setField_rec hz2 (by simp) fun g3 _ hs3 => ?_
  refine wpAny_bind (wpAny_isInstance (T := "StopIteration") (b := true) ⟨oe, hs3.extBut _ _ hez hoe, hce⟩ isSubtype_stop ?_)
  exact wpAny_pure (hQ g3 fun c o c1 c3 x => hs3.extBut _ _ c1 (hs2 _ _ c3 (hs1.extBut _ _ c1 x)))
end
end Mine
end
section
open PySem PySem.W PySem.Calls PyProof.Rows
set_option maxRecDepth 100000
set_option linter.unusedVariables false
namespace Mine
structure Pass (B B' : Ban) (h h' : Heap) : Prop where
  tup : ∀ b o, h.get? b = some o → o.cls = .type "tuple" → ¬ B.no b → h'.get? b = some o ∧ ¬ B'.no b
  rng : ∀ b o, h.get? b = some o → o.cls = .type "range" → h'.get? b = some o
mutual
theorem VR.pass {B B' : Ban} {h h' : Heap} {β : Lay} (P : Pass B B' h h') : ∀ (p : PV) (v : Value), @VR B h β p v → @VR B' h' β p v
  | .none, _, e => e
  | .bool _, _, e => e
  | .int _, _, e => e
  | .str _, _, e => e
  | .tup l, _, ⟨a, d, vs, n, sl, e, g, nb, r⟩ => ⟨a, d, vs, n, sl, e, (P.tup _ _ g rfl nb).1, (P.tup _ _ g rfl nb).2, VRs.pass P l _ r⟩
  | .ref _, _, ⟨p, e, r⟩ => ⟨p, e, r⟩
  | .rng _ _ _, _, ⟨r, t, u, w, e, g⟩ => ⟨r, t, u, w, e, P.rng _ _ g rfl⟩
  | .lit _, _, e => e
theorem VRs.pass {B B' : Ban} {h h' : Heap} {β : Lay} (P : Pass B B' h h') : ∀ (l : List PV) (vs : List Value), @VRs B h β l vs → @VRs B' h' β l vs
  | [], _, e => e
  | p :: l, _, ⟨v, r, e, a, b⟩ => ⟨v, r, e, VR.pass P p v a, VRs.pass P l r b⟩
end
theorem FsR.pass {B B' : Ban} {h h' : Heap} {β : Lay} (P : Pass B B' h h') : ∀ (ns : List Str) (l : List PV) (es : List DictEntry), @FsR B h β ns l es → @FsR B' h' β ns l es
  | [], [], _, e => e
  | _ :: _, [], _, e => e
  | [], _ :: _, _, e => e
  | _ :: ns, p :: l, _, ⟨e, r, a, b, c, d⟩ => ⟨e, r, a, b, VR.pass P p _ c, FsR.pass P ns l r d⟩
theorem ObjAt.pass {B B' : Ban} {h h' : Heap} {β : Lay} {fl : Addr → List Str} {p : Addr × Addr} {o : PO} (P : Pass B B' h h') (k1 : ∀ q, h.get? p.1 = some q → h'.get? p.1 = some q) (k2 : ∀ q, h.get? p.2 = some q → h'.get? p.2 = some q)
    (x : @ObjAt B fl h β p o) : @ObjAt B' fl h' β p o := by
  cases o with
  | list l => obtain ⟨e, vs, n, a, b⟩ := x; exact ⟨e, vs, n, k1 _ a, VRs.pass P _ _ b⟩
  | inst C fs => obtain ⟨es, n, a, b, c⟩ := x; exact ⟨es, n, k1 _ a, k2 _ b, FsR.pass P _ _ _ c⟩
  | acc C fs l => obtain ⟨es, n, vs, k, a, b, c, d⟩ := x; exact ⟨es, n, vs, k, k1 _ a, k2 _ b, FsR.pass P _ _ _ c, VRs.pass P _ _ d⟩
theorem Rel.pass {B B' : Ban} {G : GC} {h h' : Heap} {β : Lay} {σ : List PO} (P : Pass B B' h h') (R : @Rel B G h β σ) (hb : @Base B' G h') (k : ∀ b o, In b β → h.get? b = some o → h'.get? b = some o) : @Rel B' G h' β σ :=
  ⟨hb, @Rel.len B _ _ _ _ R, fun i p o e1 e2 => ObjAt.pass P (fun q => k _ q (In.of_get e1).1) (fun q => k _ q (In.of_get e1).2) (@Rel.at_ B _ _ _ _ R i p o e1 e2), @Rel.apart B _ _ _ _ R, @Rel.fresh B _ _ _ _ R⟩
theorem Frm.pass {B B' : Ban} {G : GC} {h h' : Heap} {β : Lay} {env : Env} {ρ : List (Option PV)} (P : Pass B B' h h') (F : @Frm B G h β env ρ) (hn : (env.scope.names.map (·.1)).Nodup) (k : ∀ b o, Vars env b → h.get? b = some o → h'.get? b = some o) : @Frm B' G h' β env ρ := by
  have ow : ∀ b', Vars env b' → Own G h β b' → Own G h' β b' := fun b' v O' => by
    obtain ⟨o, e, s⟩ := O'.soft
    exact ⟨O'.notIn, O'.fresh, o, k _ _ v e, s⟩
  obtain ⟨m', hns, hm⟩ := @Frm.ns B _ _ _ _ _ F
  obtain ⟨oL, es, ep, hL, r⟩ := hns
  refine ⟨@Frm.kind B _ _ _ _ _ F, @Frm.glob B _ _ _ _ _ F, @Frm.bui B _ _ _ _ _ F, ⟨m', ⟨oL, es, ep, k _ _ (.inl rfl) hL, r⟩, fun i x pv w1 w2 => ?_⟩, fun i x pv w1 w2 => ?_, ow _ (.inl rfl) (@Frm.own B _ _ _ _ _ F), fun x c w1 w2 => ?_, @Frm.chas B _ _ _ _ _ F, @Frm.inj B _ _ _ _ _ F⟩
  · obtain ⟨v, aa, bb⟩ := hm i x pv w1 w2
    exact ⟨v, aa, VR.pass P _ _ bb⟩
  · obtain ⟨c, v, aa, ⟨oc, eo, dc⟩, rr⟩ := @Frm.cell B _ _ _ _ _ F i x pv w1 w2
    exact ⟨c, v, aa, ⟨oc, k _ _ (.inr ⟨x, kind_at hn i x _ w1, aa⟩) eo, dc⟩, VR.pass P _ _ rr⟩
  · obtain ⟨aa, bb, v, oc, eo, dc⟩ := @Frm.cown B _ _ _ _ _ F x c w1 w2
    exact ⟨ow _ (.inr ⟨x, w1, w2⟩) aa, bb, v, oc, k _ _ (.inr ⟨x, w1, w2⟩) eo, dc⟩
abbrev banned (B : Ban) (c : Addr) : Ban := ⟨fun a => B.no a ∨ a = c⟩
theorem ok_ban {B : Ban} {G : GC} (O : @GOk B G) {c : Addr} (h : G.h₀.get? c = none) : @GOk (banned B c) G :=
  @GOk.mk (banned B c) G O.X O.ntb O.g O.b O.lim O.n1 O.n2 O.n3 fun a n => by
    rcases n with n | rfl
    · exact O.nb a n
    · exact h
theorem ok_unban {B : Ban} {G : GC} {c : Addr} {h : Heap} (b : @Base (banned B c) G h) : @Base B G h :=
  ⟨@Base.old (banned B c) _ _ b, @Base.tab (banned B c) _ _ b, fun a n => @Base.no (banned B c) _ _ b a (.inl n)⟩
end Mine
end
section
open PySem PySem.W PySem.Calls PyProof.Rows
set_option maxRecDepth 100000
set_option linter.unusedVariables false
namespace Mine
def zturns : Nat → FA → FS → Nat → Nat → FS
  | 0, _, _, _, _ => fun _ _ => none
  | n + 1, tgt, body, i, k => fun ρ σ => match σ[i]? with
    | some (.list l) => match l[k]? with
      | none => some (.next, ρ, σ)
      | some p => match l[k + 1]? with
        | none => none
        | some q => match tgt (.tup [p, q]) ρ σ with
          | none => none
          | some (ρ₁, σ₁) => match body ρ₁ σ₁ with
            | some (.next, ρ₂, σ₂) => zturns n tgt body i (k + 2) ρ₂ σ₂
            | some (.cont, ρ₂, σ₂) => zturns n tgt body i (k + 2) ρ₂ σ₂
            | some (.brk, ρ₂, σ₂) => some (.next, ρ₂, σ₂)
            | some (.ret v, ρ₂, σ₂) => some (.ret v, ρ₂, σ₂)
            | none => none
    | _ => none
def fZip (n : Nat) (f : FE) (tgt : FA) (body : FS) : FS := fun ρ σ => match f ρ σ with
  | some (.ref i, σ₁) => zturns n tgt body i 0 ρ σ₁
  | _ => none
section
variable {prog : Program} {w : World} {A : Around} {E : Value → Shared → Prop} {s : Shared}
theorem cw_zip {x : Sem Value} {pos : Pos} {Q : Value → Shared → Prop}
    (h : wpAny (model prog w) A x (fun v s₁ => StarOf (model prog w) A E v (fun vs s₂ => wpAny (model prog w) A (call (.type "zip") vs) Q E s₂) s₁) E s) :
    wpAny (model prog w) A (callWith pos (.type "zip") [] (backTo pos [(true, x)]) []) Q E s :=
  ks_call rfl (P := fun _ => True) (fun h _ => ⟨.machine, .inr (.inl rfl), Looks.of_pure rfl⟩) (ks_lone (wpAny_mono h (fun v s₁ z => by
    unfold StarOf at z ⊢
    refine wpAny_mono z (fun b s₂ y => ⟨y.1, ?_⟩) fun _ _ e => e
    exact wpAny_mono y.2 (fun vs s₃ q => ⟨trivial, q⟩) fun _ _ e => e) fun _ _ e => e))
theorem star_list {l : Addr} {vs : Array Value} {k : Nat} {Q : List Value → Shared → Prop} (hl : s.heap.get? l = some { cls := .type "list", dict := none, data := .seq vs k, slots := #[] }) (hz : vs.size ≤ sizeLine)
    (h : ∀ h', (∀ b o, s.heap.get? b = some o → h'.get? b = some o) → Q vs.toList { s with heap := h' }) : StarOf (model prog w) A E (.ref l) Q s := by
  unfold StarOf notIterableAtAll
  refine wpAny_bind (wpAny_specialOf (show s.TypeIs (.ref l) "list" from ⟨_, hl, rfl⟩) PySem.F.slot_list_iter.lookup (wpAny_pure ⟨rfl, ?_⟩))
  exact wpAny_collect_seq l (.inl rfl) hl rfl rfl h hz
end
structure ZMade (h h' : Heap) (z TI TO it l : Addr) : Prop where
  keep : ∀ b o, h.get? b = some o → h'.get? b = some o
  zip : IsZip h' z TI TO .none
  ti : IsPair h' TI (.ref it) (.ref it)
  to : IsPair h' TO .none .none
  iter : h'.IsListIter it l 0
  fz : h.get? z = none
  fTI : h.get? TI = none
  fTO : h.get? TO = none
  fi : h.get? it = none
  ap : ZSelf z TI TO it l
section
variable [B : Ban] {G : GC} {d : Nat} {sc : Scope}
theorem zip_make (O : GOk G) (OS : ScopeOk sc) {zipE iterE parts : Expr} {k2 : Nat} {p2 p3 p4 p5 p6 p7 : Pos} {f : FE} (uz : SE G d sc zipE (eLit (.lit (.type "zip")))) (ui : SE G d sc iterE (eLit (.lit (.builtin "iter")))) (u : SE G d sc parts f)
    (us : Unstarred [parts]) (usc : Unstarred [.Call iterE [parts] [] p3]) (hez : ∀ env x, eval (.Call zipE [.Starred x p6] [] p7) env = (do callWith p7 (← eval zipE env) [] (backTo p7 [(true, eval x env)]) []))
    (hei : ∀ env, eval (.Call iterE [parts] [] p3) env = (do callWith p3 (← eval iterE env) [] (backTo p3 (starEach [parts] env)) []))
    {env : Env} {A : Around} {s : Shared} {β : Lay} {ρ : List (Option PV)} {σ σ₁ : List PO} {i : Nat} {L : List PV} (hsc : env.scope = sc) (hA : Fit A d) (R : Rel G s.heap β σ) (F : Frm G s.heap β env ρ) (e : f ρ σ = some (.ref i, σ₁)) (el : σ₁[i]? = some (.list L))
    {Q : Value → Shared → Prop} {E : Value → Shared → Prop}
    (h : ∀ z TI TO it l h₀ s' β', Step G s.heap β h₀ β' → Rel G h₀ β' σ₁ → β'[i]? = some (l, l) → ZMade h₀ s'.heap z TI TO it l → Sh s s' → Q (.ref z) s') :
    wpAny G.M A (eval (.Call zipE [.Starred (.BinOp (.List [.Call iterE [parts] [] p3] p4) .Mult (.Constant (.int 2) k2 p2) p5) p6] [] p7) env) Q E s := by
  rw [hez]
  refine wpAny_bind (uz env A s β ρ σ _ σ hsc hA R F rfl _ _ fun v s₁ β₁ S1 R1 V1 H1 => ?_)
  rw [show v = .type "zip" from V1]
  refine cw_zip ?_
  have F1 := F.go OS hsc R.base S1
  refine wpAny_BinOp ?_
  refine List_ ?_
  refine spliced_more ?_ (usc env)
  rw [hei]
  refine wpAny_bind (ui env A s₁ β₁ ρ σ _ σ hsc hA R1 F1 rfl _ _ fun v s₂ β₂ S2 R2 V2 H2 => ?_)
  rw [show v = .builtin "iter" from V2]
  have F2 := F1.go OS hsc R1.base S2
  refine cw_ok O (.builtin _) (SL.cons OS u SL.nil (fun env => us env)) us hsc hA R2 F2 (l := [.ref i]) (σ' := σ₁) (by unfold eCons eNil; rw [e]) fun vs s₃ β₃ S3 R3 V3 H3 => ?_
  obtain ⟨v, r, rfl, ⟨q, hq, rfl⟩, hr⟩ := V3
  rw [show r = [] from hr]
  obtain ⟨q1, q2⟩ := q
  obtain ⟨q0, ws, n, hg, W⟩ := R3.at_ i _ _ hq el
  dsimp only at q0
  subst q0
  refine iter_call (l := q2) ⟨_, hg, rfl, n, rfl⟩ ?_
  have k4 : ∀ b o, s₃.heap.get? b = some o → (s₃.heap.push { cls := .type "list_iterator", data := .fields #[.ref q2, .int 0 0] }).get? b = some o := fun b o e => Heap.get?_push_of_some _ e
  have z4 : (s₃.heap.push { cls := .type "list_iterator", data := .fields #[.ref q2, .int 0 0] }).objs.size = s₃.heap.objs.size + 1 := Heap.size_push ..
  have i4 : (s₃.heap.push { cls := .type "list_iterator", data := .fields #[.ref q2, .int 0 0] }).get? s₃.heap.objs.size = some { cls := .type "list_iterator", data := .fields #[.ref q2, .int 0 0] } := Heap.get?_push_size _ rfl
  generalize hit : s₃.heap.objs.size = it at i4 z4
  have fit : s₃.heap.get? it = none := hit ▸ heap_fresh _
  generalize s₃.heap.push { cls := .type "list_iterator", data := .fields #[.ref q2, .int 0 0] } = h4 at k4 z4 i4
  refine spliced_none ?_
  refine wpAny_newList ?_ (by simp [sizeLine])
  have k5 : ∀ b o, h4.get? b = some o → (h4.push { cls := .type "list", data := .seq ([Value.ref it] : List Value).toArray }).get? b = some o := fun b o e => Heap.get?_push_of_some _ e
  have z5 : (h4.push { cls := .type "list", data := .seq ([Value.ref it] : List Value).toArray }).objs.size = it + 2 := by rw [Heap.size_push, z4]
  have i5 : (h4.push { cls := .type "list", data := .seq ([Value.ref it] : List Value).toArray }).get? h4.objs.size = some { cls := .type "list", dict := none, data := .seq #[.ref it] 0, slots := #[] } := Heap.get?_push_size _ rfl
  rw [z4] at i5
  show wpAny _ _ _ _ _ _
  rw [show ({ heap := h4, gens := s₃.gens, drawn := s₃.drawn, toks := s₃.toks, os := s₃.os } : Shared).heap.objs.size = it + 1 from z4]
  generalize (h4.push { cls := .type "list", data := .seq ([Value.ref it] : List Value).toArray }) = h5 at k5 z5 i5
  refine wpAny_Constant_int ?_
  refine rep_two i5 ?_
  have k6 : ∀ b o, h5.get? b = some o → (h5.push { cls := .type "list", data := .seq #[.ref it, .ref it] }).get? b = some o := fun b o e => Heap.get?_push_of_some _ e
  have z6 : (h5.push { cls := .type "list", data := .seq #[.ref it, .ref it] }).objs.size = it + 3 := by rw [Heap.size_push, z5]
  have i6 : (h5.push { cls := .type "list", data := .seq #[.ref it, .ref it] }).get? h5.objs.size = some { cls := .type "list", dict := none, data := .seq #[.ref it, .ref it] 0, slots := #[] } := Heap.get?_push_size _ rfl
  rw [z5] at i6
  show StarOf _ _ _ (.ref h5.objs.size) _ _
  rw [z5]
  generalize (h5.push { cls := .type "list", data := .seq #[.ref it, .ref it] }) = h6 at k6 z6 i6
  refine star_list i6 (by simp [sizeLine]) fun h7 k7 => ?_
  have up : ∀ b o, s₃.heap.get? b = some o → h7.get? b = some o := fun b o e => k7 _ _ (k6 _ _ (k5 _ _ (k4 _ _ e)))
  have it7 : h7.IsListIter it q2 0 := ⟨_, k7 _ _ (k6 _ _ (k5 _ _ i4)), rfl, rfl⟩
  refine call_zip_self it7 fun h8 a1 a2 a3 a4 k8 => ?_
  dsimp only at a1 a2 a3 a4 k8 ⊢
  have itlt : @LT.lt Nat _ it h7.objs.size := by obtain ⟨o, e, _⟩ := it7; exact Heap.lt_size e
  have llt : @LT.lt Nat _ q2 h7.objs.size := Heap.lt_size (up _ _ hg)
  have fr : ∀ n : Nat, h7.objs.size ≤ n → s₃.heap.get? n = none := fun n hn => by
    cases hh : s₃.heap.get? n with
    | none => rfl
    | some o => exact absurd (Heap.lt_size (up _ _ hh)) (Nat.not_lt.2 hn)
  have li : q2 ≠ it := fun z => by rw [z, fit] at hg; cases hg
  have n1 : ∀ k : Nat, h7.objs.size ≤ h7.objs.size + k := fun k => Nat.le_add_right _ _
  have ap : ZSelf (h7.objs.size + 2) h7.objs.size (h7.objs.size + 1) it q2 :=
    { TIz := Nat.ne_of_lt (Nat.lt_add_of_pos_right (by decide)), TOz := Nat.ne_of_lt (Nat.lt_succ_self _), iz := Nat.ne_of_lt (Nat.lt_of_lt_of_le itlt (n1 2)), TITO := Nat.ne_of_lt (Nat.lt_succ_self _),
      TIi := Nat.ne_of_gt itlt, TOi := Nat.ne_of_gt (Nat.lt_of_lt_of_le itlt (n1 1)), lz := Nat.ne_of_lt (Nat.lt_of_lt_of_le llt (n1 2)), lTO := Nat.ne_of_lt (Nat.lt_of_lt_of_le llt (n1 1)), li := li }
  exact h (h7.objs.size + 2) h7.objs.size (h7.objs.size + 1) it q2 s₃.heap _ β₃ ((S1.trans S2).trans S3) R3 hq ⟨fun b o e => k8 _ _ (up _ _ e), a1, a2, a3, it7.at (fun o e => k8 _ _ e), fr _ (n1 2), fr _ (n1 0), fr _ (n1 1), fit, ap⟩
    (((H1.trans H2).trans H3).trans (Sh.mk' ..))
end
end Mine
end
section
open PySem PySem.W PySem.Calls PyProof.Rows
set_option maxRecDepth 100000
set_option linter.unusedVariables false
namespace Mine
theorem StepX.then_buts {G : GC} {X W : Addr → Prop} {h h₁ h₂ : Heap} {β β₁ : Lay} (S : StepX G X h β h₁ β₁) (hk : ∀ b o, ¬ W b → h₁.get? b = some o → h₂.get? b = some o) (hn : ∀ b, W b → h.get? b = none) : StepX G X h β h₂ β₁ := by
  have ne : ∀ b o, h.get? b = some o → ¬ W b := fun b o e w => by rw [hn b w] at e; cases e
  refine ⟨S.ext, fun b o e n t x => hk b o (ne b o e) (S.keep b o e n t x), fun b o e => ?_, fun b o e c => hk b o (ne b o e) (S.tup b o e c), S.new⟩
  obtain ⟨o', e'⟩ := S.there b o e
  exact ⟨o', hk b o' (ne b o e) e'⟩
theorem Base.buts {B B' : Ban} {G : GC} {W : Addr → Prop} {h h' : Heap} (b : @Base B G h) (hk : ∀ c o, ¬ W c → h.get? c = some o → h'.get? c = some o) (hn : ∀ c, W c → G.h₀.get? c = none) (hc : ∀ c, W c → ∀ o, h.get? c = some o → o.cls ≠ .type "code")
    (no : ∀ a, B'.no a → ∃ o, h'.get? a = some o ∧ IsT o) : @Base B' G h' :=
  @Base.mk B' G h' (fun c o e n => hk c o (fun w => by rw [hn c w] at e; cases e) (@Base.old B _ _ b c o e n))
    (fun t ht => (@Base.tab B _ _ b t ht).at (wr := W) (fun c o e w => hk c o w e) fun c w o e => ⟨hc c w o e, fun z => by
      obtain ⟨_, _, _, q, _⟩ := @Base.tab B _ _ b t ht
      have := q.2
      rw [← z, hn c w] at this; cases this⟩) no
section
variable [B : Ban] {G : GC} {d : Nat} {sc : Scope}
theorem SS.forZip (O : GOk G) (OS : ScopeOk sc) {zipE iterE parts : Expr} {elts : List Expr} {kt k2 : Nat} {pt p2 p3 p4 p5 p6 p7 p : Pos} {body : List Stmt} {n : Nat} {f : FE} {tgt : FA} {b : FS} (uz : SE G d sc zipE (eLit (.lit (.type "zip")))) (ui : SE G d sc iterE (eLit (.lit (.builtin "iter")))) (u : SE G d sc parts f)
    (us : Unstarred [parts]) (usc : Unstarred [.Call iterE [parts] [] p3]) (hez : ∀ env x, eval (.Call zipE [.Starred x p6] [] p7) env = (do callWith p7 (← eval zipE env) [] (backTo p7 [(true, eval x env)]) []))
    (hei : ∀ env, eval (.Call iterE [parts] [] p3) env = (do callWith p3 (← eval iterE env) [] (backTo p3 (starEach [parts] env)) []))
    (t : ∀ B' : Ban, @GOk B' G → @SA B' G d sc (.Tuple elts kt pt) tgt) (x : ∀ B' : Ban, @GOk B' G → @SX B' G d sc body b)
    (hs : ∀ env v, foldedSetIterable (.Call zipE [.Starred (.BinOp (.List [.Call iterE [parts] [] p3] p4) .Mult (.Constant (.int 2) k2 p2) p5) p6] [] p7) env v = pure v) :
    SS G d sc (exec (.For (.Tuple elts kt pt) (.Call zipE [.Starred (.BinOp (.List [.Call iterE [parts] [] p3] p4) .Mult (.Constant (.int 2) k2 p2) p5) p6] [] p7) body [] p)) (fZip n f tgt b) := by
  intro env A s β ρ σ fl ρ' σ' hsc hA R F e Q E h
  unfold fZip at e
  split at e
  · rename_i i σ₁ e1
    cases n with
    | zero => cases e
    | succ n₀ =>
    obtain ⟨L, el⟩ : ∃ L, σ₁[i]? = some (.list L) := by
      simp only [zturns] at e
      split at e
      · rename_i l el; exact ⟨l, el⟩
      · cases e
    refine wpAny_For ?_ (hs env)
    refine zip_make O OS uz ui u us usc hez hei hsc hA R F e1 el fun z TI TO it l h₀ s₁ β₁ S0 R0 hq Z H1 => ?_
    refine wpAny_pyIter_zip Z.zip ?_
    have F0 : Frm G h₀ β₁ env ρ := F.go (s' := ⟨h₀, s.gens, s.drawn, s.toks, s.os⟩) OS hsc R.base S0
    have no0 : ∀ c, h₀.get? c = none → s.heap.get? c = none ∧ G.h₀.get? c = none ∧ ¬ In c β₁ ∧ ¬ Vars env c := fun c hc => by
      refine ⟨?_, ?_, fun i => ?_, fun v => ?_⟩
      · cases q : s.heap.get? c with
        | none => rfl
        | some o => obtain ⟨o', e'⟩ := S0.there c o q; rw [e'] at hc; cases hc
      · cases q : G.h₀.get? c with
        | none => rfl
        | some o =>
          by_cases tb : G.TB c
          · obtain ⟨w, hw, e⟩ := tb
            obtain ⟨_, _, _, _, _, _, dd, _⟩ := R0.base.tab w hw
            rw [e] at dd; rw [dd.2] at hc; cases hc
          · rw [R0.base.old c o q tb] at hc; cases hc
      · obtain ⟨o, e, _⟩ := R0.soft i; rw [e] at hc; cases hc
      · obtain ⟨o, e⟩ := vars_there F0 v; rw [e] at hc; cases hc
    obtain ⟨nz0, nzh, nzI, nzV⟩ := no0 z Z.fz
    obtain ⟨nT0, nTh, nTI, nTV⟩ := no0 TI Z.fTI
    obtain ⟨nO0, nOh, nOI, nOV⟩ := no0 TO Z.fTO
    obtain ⟨ni0, nih, niI, niV⟩ := no0 it Z.fi
    have O' : @GOk (banned B TO) G := ok_ban O nOh
    have t' := t (banned B TO) O'
    have x' := x (banned B TO) O'
    have P0 : Pass B (banned B TO) h₀ s₁.heap := ⟨fun b o e c nb => ⟨Z.keep b o e, fun q => q.elim nb fun q => by subst q; rw [Z.fTO] at e; cases e⟩, fun b o e c => Z.keep b o e⟩
    have hto : ∃ o, s₁.heap.get? TO = some o ∧ IsT o := ⟨_, Z.to, .inl ⟨rfl, _, _, rfl⟩⟩
    have B1 : @Base (banned B TO) G s₁.heap := @Base.mk (banned B TO) G s₁.heap (fun b o e n => Z.keep b o (R0.base.old b o e n)) (fun t ht => (R0.base.tab t ht).keeps Z.keep) fun a n => by
      rcases n with n | rfl
      · obtain ⟨o, e, q⟩ := R0.base.no a n; exact ⟨o, Z.keep _ _ e, q⟩
      · exact hto
    have R1 : @Rel (banned B TO) G s₁.heap β₁ σ₁ := R0.pass P0 B1 fun b o _ e => Z.keep b o e
    have hnd : (env.scope.names.map (·.1)).Nodup := hsc ▸ OS.nodup
    have F1 : @Frm (banned B TO) G s₁.heap β₁ env ρ := F0.pass P0 hnd fun b o _ e => Z.keep b o e
    have S1 : StepF G env s.heap β s₁.heap β₁ := (S0.trans (Step.keeps Z.keep)).toX
    let J : Nat → Shared → Prop := fun m s' => ∃ k β' ρ₁ σ₂, zturns m tgt b i k ρ₁ σ₂ = some (fl, ρ', σ') ∧ StepF G env s.heap β s'.heap β' ∧ @Rel (banned B TO) G s'.heap β' σ₂ ∧ @Frm (banned B TO) G s'.heap β' env ρ₁ ∧
      IsZip s'.heap z TI TO .none ∧ IsPair s'.heap TI (.ref it) (.ref it) ∧ (∃ a b, IsPair s'.heap TO a b) ∧ s'.heap.IsListIter it l k ∧ β'[i]? = some (l, l) ∧ ¬ In z β' ∧ ¬ In it β' ∧ Sh s s'
    have J0 : J (n₀ + 1) s₁ := ⟨0, β₁, ρ, σ₁, e, S1, R1, F1, Z.zip, Z.ti, ⟨_, _, Z.to⟩, Z.iter, hq, nzI, niI, H1⟩
    have tbz : ¬ G.TB z := fun q => by obtain ⟨o, e⟩ := R0.base.tb_old q; rw [nzh] at e; cases e
    have tbi : ¬ G.TB it := fun q => by obtain ⟨o, e⟩ := R0.base.tb_old q; rw [nih] at e; cases e
    refine codeAny_forLoop_any J (fun m s' hJ => ?_) (n₀ + 1) J0
    obtain ⟨k, β', ρ₁, σ₂, em, Sm, Rm, Fm, hz, hTI, ⟨a, b₀, hTO⟩, hit, hqm, nIz, nIi, Hm⟩ := hJ
    cases m with
    | zero => cases em
    | succ m =>
      simp only [zturns] at em
      split at em
      · rename_i l' el'
        obtain ⟨_, vs, nn, hgl, W⟩ := @Rel.at_ (banned B TO) _ _ _ _ Rm i _ _ hqm el'
        dsimp only at hgl
        have hL : s'.heap.IsList l vs := ⟨_, hgl, rfl, nn, rfl⟩
        have hlen : vs.size = l'.length := by rw [← Array.length_toList, @VRs.length (banned B TO) _ _ _ _ W]
        obtain ⟨oi, hoi, hci, hdi⟩ := id hit
        split at em
        · rename_i ek
          cases em
          refine zself_end hA.hand Z.ap hz hTI hTO hit hL ?_ fun h' kp => ?_
          · have := List.getElem?_eq_none_iff.1 ek
            exact Array.getElem?_eq_none (by rw [hlen]; exact this)
          · let Wd : Addr → Prop := fun c => c = z ∨ c = it
            have kW : ∀ c o, ¬ Wd c → s'.heap.get? c = some o → h'.get? c = some o := fun c o w e => kp c o (fun q => w (.inl q)) (fun q => w (.inr q)) e
            have soft : ∀ c o, s'.heap.get? c = some o → Wd c → o.cls = .type "zip" ∨ o.cls = .type "list_iterator" := fun c o e w => by
              rcases w with rfl | rfl
              · rw [hz] at e; cases e; exact .inl rfl
              · rw [hoi] at e; cases e; exact .inr hci
            have P2 : Pass (banned B TO) B s'.heap h' := ⟨fun c o e q nb => ⟨kW c o (fun w => by rcases soft c o e w with y | y <;> exact absurd (y.symm.trans q) (by decide)) e, fun y => nb (.inl y)⟩, fun c o e q => kW c o (fun w => by rcases soft c o e w with y | y <;> exact absurd (y.symm.trans q) (by decide)) e⟩
            have B2 : @Base B G h' := Base.buts (B := banned B TO) (W := Wd) (@Rel.base (banned B TO) _ _ _ _ Rm) kW (fun c w => by rcases w with rfl | rfl; exact nzh; exact nih) (fun c w o e q => by rcases soft c o e w with y | y <;> exact absurd (y.symm.trans q) (by decide)) fun c n => by
              obtain ⟨o, e, q⟩ := @Base.no (banned B TO) _ _ (@Rel.base (banned B TO) _ _ _ _ Rm) c (.inl n)
              refine ⟨o, kW c o (fun w => ?_) e, q⟩
              rcases soft c o e w with y | y <;> rcases q with ⟨q, _⟩ | ⟨q, _⟩ <;> exact absurd (y.symm.trans q) (by decide)
            have R2 : @Rel B G h' β' σ' := Rm.pass P2 B2 fun c o i e => kW c o (fun w => by rcases w with rfl | rfl; exact nIz i; exact nIi i) e
            have F2 : @Frm B G h' β' env ρ' := Fm.pass P2 hnd fun c o v e => kW c o (fun w => by rcases w with rfl | rfl; exact nzV v; exact niV v) e
            have S2 : StepF G env s.heap β h' β' := Sm.then_buts (W := Wd) kW fun c w => by rcases w with rfl | rfl; exact nz0; exact ni0
            exact wpAny_execs_nil (h .next _ β' S2 R2 F2 rfl (Hm.trans (Sh.mk' ..)))
        · rename_i pk ek
          split at em
          · cases em
          · rename_i qk ek2
            obtain ⟨xv, hxv, rx⟩ := @VRs.get (banned B TO) _ _ _ _ W _ _ ek
            obtain ⟨yv, hyv, ry⟩ := @VRs.get (banned B TO) _ _ _ _ W _ _ ek2
            refine zself_item Z.ap hz hTI hTO hit hL (by rw [← Array.getElem?_toList]; exact hxv) (by rw [← Array.getElem?_toList]; exact hyv) fun h' a1 a2 a3 a4 a5 kp => ?_
            refine wpAny_letOwnedTupleGo_zip a1 fun h'' c1 hs'' => ?_
            generalize hT : s'.heap.objs.size = T at a1 a4 a5 hs'' ⊢
            have fT : s'.heap.get? T = none := hT ▸ heap_fresh _
            have Tz : T ≠ z := fun q => by rw [q, hz] at fT; cases fT
            have TTO : T ≠ TO := fun q => by rw [q, hTO] at fT; cases fT
            let Wd : Addr → Prop := fun c => c = z ∨ c = it ∨ c = TO
            have kW : ∀ c o, ¬ Wd c → s'.heap.get? c = some o → h''.get? c = some o := fun c o w e => (hs''.2 c (fun q => w (.inl q))).trans (kp c o (fun q => w (.inl q)) (fun q => w (.inr (.inr q))) (fun q => w (.inr (.inl q))) e)
            have soft : ∀ c o, s'.heap.get? c = some o → Wd c → (o.cls = .type "zip" ∨ o.cls = .type "list_iterator") ∨ c = TO := fun c o e w => by
              rcases w with rfl | rfl | rfl
              · rw [hz] at e; cases e; exact .inl (.inl rfl)
              · rw [hoi] at e; cases e; exact .inl (.inr hci)
              · exact .inr rfl
            have P2 : Pass (banned B TO) (banned B TO) s'.heap h'' := ⟨fun c o e q nb => ⟨kW c o (fun w => by
                rcases soft c o e w with (y | y) | y
                · exact absurd (y.symm.trans q) (by decide)
                · exact absurd (y.symm.trans q) (by decide)
                · exact nb (.inr y)) e, nb⟩, fun c o e q => kW c o (fun w => by
                rcases soft c o e w with (y | y) | y
                · exact absurd (y.symm.trans q) (by decide)
                · exact absurd (y.symm.trans q) (by decide)
                · subst y; rw [hTO] at e; cases e; exact absurd (show Value.type "tuple" = Value.type "range" from q) (by decide)) e⟩
            have hTO2 : IsPair h'' TO xv yv := (hs''.2 TO Z.ap.TOz).trans a2
            have B2 : @Base (banned B TO) G h'' := Base.buts (B := banned B TO) (W := Wd) (@Rel.base (banned B TO) _ _ _ _ Rm) kW (fun c w => by rcases w with rfl | rfl | rfl; exact nzh; exact nih; exact nOh) (fun c w o e q => by
                rcases soft c o e w with (y | y) | y
                · exact absurd (y.symm.trans q) (by decide)
                · exact absurd (y.symm.trans q) (by decide)
                · subst y; rw [hTO] at e; cases e; exact absurd (show Value.type "tuple" = Value.type "code" from q) (by decide)) fun c n => by
              by_cases hc : c = TO
              · subst hc; exact ⟨_, hTO2, .inl ⟨rfl, _, _, rfl⟩⟩
              · obtain ⟨o, e, q⟩ := @Base.no (banned B TO) _ _ (@Rel.base (banned B TO) _ _ _ _ Rm) c n
                refine ⟨o, kW c o (fun w => ?_) e, q⟩
                rcases soft c o e w with (y | y) | y
                · rcases q with ⟨q, _⟩ | ⟨q, _⟩ <;> exact absurd (y.symm.trans q) (by decide)
                · rcases q with ⟨q, _⟩ | ⟨q, _⟩ <;> exact absurd (y.symm.trans q) (by decide)
                · exact hc y
            have nIO : ¬ In TO β' := fun i => by
              obtain ⟨o, e, q⟩ := @Rel.soft (banned B TO) _ _ _ _ Rm _ i
              rw [hTO] at e; cases e
              exact q.1 (.inl ⟨rfl, _, _, rfl⟩)
            have R3 : @Rel (banned B TO) G h'' β' σ₂ := Rm.pass P2 B2 fun c o i e => kW c o (fun w => by rcases w with rfl | rfl | rfl; exact nIz i; exact nIi i; exact nIO i) e
            have F3 : @Frm (banned B TO) G h'' β' env ρ₁ := Fm.pass P2 hnd fun c o v e => kW c o (fun w => by rcases w with rfl | rfl | rfl; exact nzV v; exact niV v; exact nOV v) e
            have S3 : StepF G env s.heap β h'' β' := Sm.then_buts (W := Wd) kW fun c w => by rcases w with rfl | rfl | rfl; exact nz0; exact ni0; exact nO0
            have hT3 : IsPair h'' T xv yv := (hs''.2 T Tz).trans a4
            have nbT : ¬ (banned B TO).no T := fun q => by
              obtain ⟨o, e, _⟩ := @Base.no (banned B TO) _ _ (@Rel.base (banned B TO) _ _ _ _ Rm) T q
              rw [fT] at e; cases e
            have V3 : @VR (banned B TO) h'' β' (.tup [pk, qk]) (.ref T) := ⟨T, none, #[xv, yv], 0, #[], rfl, hT3, nbT, xv, [yv], rfl, VR.pass P2 _ _ rx, yv, [], rfl, VR.pass P2 _ _ ry, rfl⟩
            have hit3 : h''.IsListIter it l (k + 2) := a3.at fun o e => (hs''.2 it Z.ap.iz).trans e
            have hTI3 : IsPair h'' TI (.ref it) (.ref it) := kW _ _ (fun w => by rcases w with w | w | w; exact Z.ap.TIz w; exact Z.ap.TIi w; exact Z.ap.TITO w) hTI
            split at em
            · cases em
            · rename_i ρ₂ σ₃ e2
              refine t' env A ⟨h'', s'.gens, s'.drawn, s'.toks, s'.os⟩ β' ρ₁ σ₂ (.tup [pk, qk]) (.ref T) ρ₂ σ₃ hsc hA R3 F3 V3 e2 _ _ fun s₄ β₄ S4 R4 F4 H4 => ?_
              have z4 : IsZip s₄.heap z TI TO .none := S4.keep _ _ c1 nIz tbz nzV
              have TI4 : IsPair s₄.heap TI (.ref it) (.ref it) := S4.tup _ _ hTI3 (.inl ⟨rfl, _, _, rfl⟩)
              have TO4 : IsPair s₄.heap TO xv yv := S4.tup _ _ hTO2 (.inl ⟨rfl, _, _, rfl⟩)
              have it4 : s₄.heap.IsListIter it l (k + 2) := hit3.at fun o e => S4.keep _ _ e nIi tbi niV
              have nIz4 : ¬ In z β₄ := S4.notIn c1 nIz
              have nIi4 : ¬ In it β₄ := by obtain ⟨o, e, _⟩ := hit3; exact S4.notIn e nIi
              have Hx : Sh s s₄ := (Hm.trans (Sh.mk' h'' s'.drawn s'.toks)).trans H4
              have go : ∀ (fl' : Fl) ρ₃ σ₄ (s₅ : Shared) β₅, StepF G env s₄.heap β₄ s₅.heap β₅ → @Rel (banned B TO) G s₅.heap β₅ σ₄ → @Frm (banned B TO) G s₅.heap β₅ env ρ₃ → Sh s₄ s₅ → zturns m tgt b i (k + 2) ρ₃ σ₄ = some (fl, ρ', σ') → ∃ m', m' < m + 1 ∧ J m' s₅ := by
                intro fl' ρ₃ σ₄ s₅ β₅ S5 R5 F5 H5 em'
                refine ⟨m, Nat.lt_succ_self m, k + 2, β₅, ρ₃, σ₄, em', (S3.trans S4).trans S5, R5, F5, S5.keep _ _ z4 nIz4 tbz nzV, S5.tup _ _ TI4 (.inl ⟨rfl, _, _, rfl⟩), ⟨_, _, S5.tup _ _ TO4 (.inl ⟨rfl, _, _, rfl⟩)⟩,
                  it4.at fun o e => S5.keep _ _ e nIi4 tbi niV, S5.get _ _ (S4.get _ _ hqm), S5.notIn z4 nIz4, by obtain ⟨o, e, _⟩ := it4; exact S5.notIn e nIi4, Hx.trans H5⟩
              have out : ∀ (h5 : Heap) (β₅ : Lay) ρ₃ σ₄, @Rel (banned B TO) G h5 β₅ σ₄ → @Frm (banned B TO) G h5 β₅ env ρ₃ → @Rel B G h5 β₅ σ₄ ∧ @Frm B G h5 β₅ env ρ₃ ∧ Pass (banned B TO) B h5 h5 := by
                intro h5 β₅ ρ₃ σ₄ R5 F5
                have P5 : Pass (banned B TO) B h5 h5 := ⟨fun c o e q nb => ⟨e, fun y => nb (.inl y)⟩, fun c o e q => e⟩
                exact ⟨R5.pass P5 (ok_unban (@Rel.base (banned B TO) _ _ _ _ R5)) fun _ _ _ e => e, F5.pass P5 hnd fun _ _ _ e => e, P5⟩
              split at em
              · rename_i ρ₃ σ₄ e3
                refine x' env A s₄ β₄ ρ₂ σ₃ .next ρ₃ σ₄ hsc hA R4 F4 e3 _ _ fun v' s₅ β₅ S5 R5 F5 L5 H5 => ?_
                rw [show v' = .next from L5]
                exact go .next ρ₃ σ₄ s₅ β₅ S5 R5 F5 H5 em
              · rename_i ρ₃ σ₄ e3
                refine x' env A s₄ β₄ ρ₂ σ₃ .cont ρ₃ σ₄ hsc hA R4 F4 e3 _ _ fun v' s₅ β₅ S5 R5 F5 L5 H5 => ?_
                rw [show v' = .cont from L5]
                exact go .cont ρ₃ σ₄ s₅ β₅ S5 R5 F5 H5 em
              · rename_i ρ₃ σ₄ e3
                cases em
                refine x' env A s₄ β₄ ρ₂ σ₃ .brk ρ' σ' hsc hA R4 F4 e3 _ _ fun v' s₅ β₅ S5 R5 F5 L5 H5 => ?_
                rw [show v' = .brk from L5]
                obtain ⟨r5, f5, _⟩ := out _ _ _ _ R5 F5
                exact h _ s₅ β₅ ((S3.trans S4).trans S5) r5 f5 rfl (Hx.trans H5)
              · rename_i w ρ₃ σ₄ e3
                cases em
                refine x' env A s₄ β₄ ρ₂ σ₃ (.ret w) ρ' σ' hsc hA R4 F4 e3 _ _ fun v' s₅ β₅ S5 R5 F5 L5 H5 => ?_
                obtain ⟨u', rfl, rr⟩ := L5
                obtain ⟨r5, f5, p5⟩ := out _ _ _ _ R5 F5
                exact h _ s₅ β₅ ((S3.trans S4).trans S5) r5 f5 ⟨u', rfl, VR.pass p5 _ _ rr⟩ (Hx.trans H5)
              · cases em
      · cases em
  · cases e
end
end Mine
end
section
open PySem PySem.W PySem.Calls PyProof.Rows
set_option maxRecDepth 100000
set_option linter.unusedVariables false
namespace Mine
variable [Ban]
set_option linter.unusedSectionVars false
def listLitF (a : Addr) (ns : List Int) : CF
  | [x], σ => if isLit a x = true ∧ szOk ns.length = true then some (.ref σ.length, σ ++ [.list (ns.map .int)]) else none
  | _, _ => none
def addLF : PV → PV → List PO → Option (PV × List PO)
  | .ref i, .ref j, σ => match σ[i]?, σ[j]? with
    | some (.list l), some (.list m) => if szOk l.length = true ∧ szOk m.length = true then some (.ref σ.length, σ ++ [.list (l ++ m)]) else none
    | _, _ => none
  | _, _, _ => none
section
variable {G : GC} {d : Nat}
theorem geB_ok : SV2b G d (compareOp .GtE) geB := by
  intro A s β σ a b va vb r hA R Va Vb e Q E h
  cases a <;> cases b <;> first | (cases e; done) | skip
  obtain ⟨t, rfl⟩ := Va
  obtain ⟨u, rfl⟩ := Vb
  cases e
  exact PyProof.Rows.ge_int (h s β (Step.refl ..) R (Sh.refl s))
theorem m_lpop : SGet G "pop" (.builtin "list.pop") isL := by
  refine SGet.list ?_
  intro A s l o pl Q E ho hc hd h
  exact getMethod_builtin ⟨o, ho, hc⟩ PySem.F.plainAttrs_list PySem.F.slot_list_pop PySem.F.type_list_pop (fun a e => by cases e; exact ⟨o, ho, hd⟩) h
theorem listLit_ok {a : Addr} {ns : List Int} (L : LitL G a ns) : SCall G d (.type "list") (listLitF a ns) := by
  intro A s β σ l vs pv σ' hA R V ev Q E h
  unfold listLitF at ev
  split at ev
  · rename_i x
    split at ev
    · rename_i hc
      cases ev
      obtain ⟨v, rfl, Vx⟩ := V.one'
      rw [isLit_val hc.1 Vx]
      obtain ⟨ws, ⟨o, ho, hoc, n, hod⟩, W⟩ := L.get β R.base
      have hsz : ws.size ≤ sizeLine := by
        have := W.length
        rw [Array.length_toList, List.length_map] at this
        rw [this]; exact sz_of hc.2
      refine call_list_seq a (.inl rfl) ho hoc hod (fun h' c' k g => ?_) hsz
      have S : Step G s.heap β h' (β ++ [(s.heap.objs.size, s.heap.objs.size)]) := Step.push k (heap_fresh _) (heap_fresh _)
      exact h _ _ _ S (R.push k (heap_fresh _) (heap_fresh _) ⟨rfl, ws, c', g, S.vrs W⟩) ⟨(s.heap.objs.size, s.heap.objs.size), by rw [← R.len]; simp, rfl⟩ (Sh.mk' ..)
    · cases ev
  · cases ev
theorem addL_ok : SV2 G d (binaryOp .Add) addLF := by
  intro A s β σ x y vx vy pv σ' hA R Vx Vy ev Q E h
  unfold addLF at ev
  split at ev
  · rename_i i j
    split at ev
    · rename_i l m el em
      split at ev
      · rename_i hc
        cases ev
        obtain ⟨p, hp, rfl⟩ := Vx
        obtain ⟨p0, ws, n, hg, W⟩ := R.at_ i p _ hp el
        obtain ⟨p1, p2⟩ := p
        dsimp only at p0
        subst p0
        obtain ⟨q, hq, rfl⟩ := Vy
        obtain ⟨q0, us, k, hg2, U⟩ := R.at_ j q _ hq em
        obtain ⟨q1, q2⟩ := q
        dsimp only at q0
        subst q0
        have h1 := W.length
        have h2 := U.length
        rw [Array.length_toList] at h1 h2
        have hz1 := of_decide_eq_true (show decide (l.length ≤ 1000000) = true from hc.1)
        have hz2 := of_decide_eq_true (show decide (m.length ≤ 1000000) = true from hc.2)
        have sz : sizeLine = 16777216 := by decide
        obtain ⟨S, R', V'⟩ := pushList (vs := ws ++ us) R (by rw [Array.toList_append]; exact VRs.append W U)
        exact concat_meets ⟨_, hg, rfl⟩ ⟨_, hg2, rfl⟩ noFill_list_add seq_list_add PySem.F.slot_list_add PySem.F.entry_list_add (PySem.F.args_list_add_2 _ _) (list_addW p2 q2 ws us n k none none #[] #[] (by omega))
          ⟨hg, hg2, h _ _ _ S R' V' (Sh.mk' ..)⟩
      · cases ev
    · cases ev
  · cases ev
end
end Mine
end
section
open PySem PySem.W PySem.Calls PyProof.Rows
set_option maxRecDepth 100000
set_option linter.unusedVariables false
namespace Mine
def aBack (f g : FE) : FA := fun p ρ σ => match f ρ σ with
  | some (.ref i, σ₁) => match g ρ σ₁ with
    | some (.int k, σ₂) => match σ₂[i]? with
      | some (.list l) => if k < 0 ∧ -(l.length : Int) ≤ k ∧ -1000000 ≤ k then some (ρ, σ₂.set i (.list (l.set (k + l.length).toNat p))) else none
      | _ => none
    | _ => none
  | _ => none
def mulIF : PV → PV → List PO → Option (PV × List PO)
  | .int a, .int b, σ => if -100000 ≤ a ∧ a ≤ 100000 ∧ -100000 ≤ b ∧ b ≤ 100000 then some (.int (a * b), σ) else none
  | _, _, _ => none
section
variable [Ban] {G : GC} {d : Nat} {sc : Scope}
theorem VRs.put {h : Heap} {β : Lay} {p : PV} {v : Value} (V : VR h β p v) : ∀ {l : List PV} {vs : List Value} {j : Nat}, VRs h β l vs → VRs h β (l.set j p) (vs.set j v)
  | [], [], j, _ => by simp; trivial
  | a :: l, x :: vs, 0, W => by
    obtain ⟨w0, wr, ew, V0, W'⟩ := W
    cases ew
    exact ⟨_, _, rfl, V, W'⟩
  | a :: l, x :: vs, j + 1, W => by
    obtain ⟨w0, wr, ew, V0, W'⟩ := W
    cases ew
    exact ⟨_, _, rfl, V0, VRs.put V W'⟩
theorem SAx.back {X : Env → Addr → Prop} (O : GOk G) {value slice : Expr} {p : Pos} {f g : FE} (OS : ScopeOk sc) (u : SE G d sc value f) (y : SE G d sc slice g)
    (he : ∀ env v, assign (.Subscript value slice p) env v = (do
      let ov ← holding [v] (eval value env)
      let iv ← holding [v, ov] (eval slice env)
      standAt p
      holding [v, ov, iv] (setItem ov iv v)
      release [v, ov, iv] [])) : SAx G X d sc (.Subscript value slice p) (aBack f g) := by
  intro env A s β ρ σ pv v ρ' σ' hsc hA R F V e Q E h
  unfold aBack at e
  split at e
  · rename_i i σ₁ e1
    split at e
    · rename_i k σ₂ e2
      split at e
      · rename_i l el
        split at e
        · rename_i hk
          obtain ⟨k0, k1, k2⟩ := hk
          cases e
          rw [he]
          refine wpAny_bind (wpAny_holding (u env A s β _ σ (.ref i) σ₁ hsc hA R F e1 _ _ fun vo s₁ β₁ S1 R1 V1 H1 => ?_))
          refine wpAny_bind (wpAny_holding (y env A s₁ β₁ _ σ₁ (.int k) σ₂ hsc hA R1 (F.go OS hsc R.base S1) e2 _ _ fun vk s₂ β₂ S2 R2 V2 H2 => ?_))
          refine wpAny_bind (wpAny_standAt (wpAny_bind (wpAny_holding ?_)))
          obtain ⟨t, rfl⟩ := V2
          obtain ⟨q, hq, rfl⟩ := S2.vr V1
          obtain ⟨q0, ws, n, hg, W⟩ := R2.at_ i q _ hq el
          obtain ⟨q1, q2⟩ := q
          dsimp only at q0
          subst q0
          have hs : ws.size = l.length := by rw [← Array.length_toList, W.length]
          refine ki_setBack (n := n) hg k0 (by omega) (by omega) ?_
          obtain ⟨S5, R5⟩ := list_turn (h' := s₂.heap.update q2 (Obj.mapSeq (·.setIfInBounds (k + ws.size).toNat v))) R2 hq el (l' := l.set (k + l.length).toNat pv) (vs' := ws.setIfInBounds (k + ws.size).toNat v) (m := n) (Heap.SameBut.update ..) (by
            rw [Heap.get?_update_self _ hg (by simp [Obj.mapSeq, Obj.isFreed])]
            simp [Obj.mapSeq]) (by
            rw [Array.toList_setIfInBounds, hs]
            exact VRs.put (S2.vr (S1.vr V)) W)
          have ST := (S1.trans S2).trans S5
          exact wpAny_release (h _ β₂ ST.toX R5 (F.go (s' := ⟨_, s₂.gens, s₂.drawn, s₂.toks, s₂.os⟩) OS hsc R.base ST) ((H1.trans H2).trans (Sh.mk' ..)))
        · cases e
      · cases e
    · cases e
  · cases e
theorem mulI_ok : SV2 G d (binaryOp .Mult) mulIF := by
  intro A s β σ a b va vb pv σ' hA R Va Vb e Q E h
  cases a <;> cases b <;> first | (cases e; done) | skip
  rename_i x n
  obtain ⟨t, rfl⟩ := Va
  obtain ⟨u, rfl⟩ := Vb
  simp only [mulIF] at e
  split at e
  · rename_i hb
    cases e
    obtain ⟨h1, h2, h3, h4⟩ := hb
    refine PyProof.Rows.mul_int (h _ _ β (Step.refl ..) R ⟨_, rfl⟩ (Sh.mk' ..)) ?_
    exact IntMulOk.of_left (intBits_le_64 (by omega) (by omega))
  · cases e
theorem SE.and3 {x y z : Expr} {p : Pos} {f g j : FE} {k k2 : PV → List PO → Option (Bool × List PO)} (O : ScopeOk sc) (c : SV1b G d truthy k) (c2 : SV1b G d truthy k2) (a : SE G d sc x f) (b : SE G d sc y g) (b3 : SE G d sc z j) : SE G d sc (.BoolOp .And [x, y, z] p) (eAnd k f (eAnd k2 g j)) := by
  intro env A s β ρ σ pv σ' hsc hA R F e Q E h
  unfold eAnd at e
  split at e
  · rename_i x₁ σ₁ e1
    refine BoolOp_and (a env A s β ρ σ x₁ σ₁ hsc hA R F e1 _ _ fun v s₁ β₁ S1 R1 V1 H1 => ?_)
    split at e
    · rename_i σ₂ e2
      refine c A s₁ β₁ σ₁ x₁ v true σ₂ hA R1 V1 e2 _ _ fun s₂ β₂ S2 R2 H2 => ?_
      rw [if_pos rfl]
      exact SE.and_ (p := p) O c2 b b3 env A s₂ β₂ ρ σ₂ pv σ' hsc hA R2 (F.go O hsc R.base (S1.trans S2)) e _ _ fun v s₃ β₃ S3 R3 V3 H3 => h v s₃ β₃ ((S1.trans S2).trans S3) R3 V3 ((H1.trans H2).trans H3)
    · rename_i σ₂ e2
      cases e
      refine c A s₁ β₁ σ₁ _ v false _ hA R1 V1 e2 _ _ fun s₂ β₂ S2 R2 H2 => ?_
      rw [if_neg (by decide)]
      exact h v s₂ β₂ (S1.trans S2) R2 (S2.vr V1) (H1.trans H2)
    · cases e
  · cases e
end
end Mine
end
section
open PySem PySem.W PySem.Calls PyProof.Rows
set_option maxRecDepth 100000
set_option linter.unusedVariables false
set_option linter.unusedSectionVars false
namespace Mine
variable [Ban]
def pv_law_SIGNS : PV := .tup [.str ";, ", .str ", ;", .str " ;,", .str ";, \t", .str ",\t ", .str "\t ;", .str ";,", .str "; "]
def pv_law_BLANKS : PV := .tup [.str " ", .str "  ", .str "\t", .str " \t"]
def pv_law_ENDS : PV := .tup [.str "", .str ",", .str ";"]
def b_init_a : List Stmt := defBody (stAt (clsBody (stAt PySem.Challenge.pw_dw5002_04.main.body 7)) 0)
def s_init_a : Scope := defScope (stAt (clsBody (stAt PySem.Challenge.pw_dw5002_04.main.body 7)) 0)
theorem o_init_a : ScopeOk s_init_a := ⟨by decide +kernel⟩
def b_push : List Stmt := defBody (stAt (clsBody (stAt PySem.Challenge.pw_dw5002_04.main.body 7)) 1)
def s_push : Scope := defScope (stAt (clsBody (stAt PySem.Challenge.pw_dw5002_04.main.body 7)) 1)
theorem o_push : ScopeOk s_push := ⟨by decide +kernel⟩
def b_pop_from : List Stmt := defBody (stAt (clsBody (stAt PySem.Challenge.pw_dw5002_04.main.body 7)) 2)
def s_pop_from : Scope := defScope (stAt (clsBody (stAt PySem.Challenge.pw_dw5002_04.main.body 7)) 2)
theorem o_pop_from : ScopeOk s_pop_from := ⟨by decide +kernel⟩
def b_part_count : List Stmt := defBody (stAt (clsBody (stAt PySem.Challenge.pw_dw5002_04.main.body 7)) 8)
def s_part_count : Scope := defScope (stAt (clsBody (stAt PySem.Challenge.pw_dw5002_04.main.body 7)) 8)
theorem o_part_count : ScopeOk s_part_count := ⟨by decide +kernel⟩
def b_pop : List Stmt := defBody (stAt (clsBody (stAt PySem.Challenge.pw_dw5002_04.main.body 7)) 3)
def s_pop : Scope := defScope (stAt (clsBody (stAt PySem.Challenge.pw_dw5002_04.main.body 7)) 3)
theorem o_pop : ScopeOk s_pop := ⟨by decide +kernel⟩
def b_len : List Stmt := defBody (stAt (clsBody (stAt PySem.Challenge.pw_dw5002_04.main.body 7)) 4)
def s_len : Scope := defScope (stAt (clsBody (stAt PySem.Challenge.pw_dw5002_04.main.body 7)) 4)
theorem o_len : ScopeOk s_len := ⟨by decide +kernel⟩
def b_str : List Stmt := defBody (stAt (clsBody (stAt PySem.Challenge.pw_dw5002_04.main.body 7)) 5)
def s_str : Scope := defScope (stAt (clsBody (stAt PySem.Challenge.pw_dw5002_04.main.body 7)) 5)
theorem o_str : ScopeOk s_str := ⟨by decide +kernel⟩
def b_reset : List Stmt := defBody (stAt (clsBody (stAt PySem.Challenge.pw_dw5002_04.main.body 7)) 6)
def s_reset : Scope := defScope (stAt (clsBody (stAt PySem.Challenge.pw_dw5002_04.main.body 7)) 6)
theorem o_reset : ScopeOk s_reset := ⟨by decide +kernel⟩
def b_is_onlyws : List Stmt := defBody (stAt (clsBody (stAt PySem.Challenge.pw_dw5002_04.main.body 7)) 7)
def s_is_onlyws : Scope := defScope (stAt (clsBody (stAt PySem.Challenge.pw_dw5002_04.main.body 7)) 7)
theorem o_is_onlyws : ScopeOk s_is_onlyws := ⟨by decide +kernel⟩
def b_init_v : List Stmt := defBody (stAt (clsBody (stAt PySem.Challenge.pw_dw5002_04.main.body 6)) 0)
def s_init_v : Scope := defScope (stAt (clsBody (stAt PySem.Challenge.pw_dw5002_04.main.body 6)) 0)
theorem o_init_v : ScopeOk s_init_v := ⟨by decide +kernel⟩
def b_newline : List Stmt := defBody (stAt (clsBody (stAt PySem.Challenge.pw_dw5002_04.main.body 6)) 3)
def s_newline : Scope := defScope (stAt (clsBody (stAt PySem.Challenge.pw_dw5002_04.main.body 6)) 3)
theorem o_newline : ScopeOk s_newline := ⟨by decide +kernel⟩
def b_vstr : List Stmt := defBody (stAt (clsBody (stAt PySem.Challenge.pw_dw5002_04.main.body 6)) 1)
def s_vstr : Scope := defScope (stAt (clsBody (stAt PySem.Challenge.pw_dw5002_04.main.body 6)) 1)
theorem o_vstr : ScopeOk s_vstr := ⟨by decide +kernel⟩
def b_chunk : List Stmt := defBody (stAt (clsBody (stAt PySem.Challenge.pw_dw5002_04.main.body 6)) 8)
def s_chunk : Scope := defScope (stAt (clsBody (stAt PySem.Challenge.pw_dw5002_04.main.body 6)) 8)
theorem o_chunk : ScopeOk s_chunk := ⟨by decide +kernel⟩
def b_split : List Stmt := defBody (stAt (clsBody (stAt PySem.Challenge.pw_dw5002_04.main.body 6)) 7)
def s_split : Scope := defScope (stAt (clsBody (stAt PySem.Challenge.pw_dw5002_04.main.body 6)) 7)
theorem o_split : ScopeOk s_split := ⟨by decide +kernel⟩
def b_lchunks : List Stmt := defBody (stAt PySem.Challenge.pw_dw5002_04.main.body 12)
def s_lchunks : Scope := defScope (stAt PySem.Challenge.pw_dw5002_04.main.body 12)
theorem o_lchunks : ScopeOk s_lchunks := ⟨by decide +kernel⟩
def b_lranks : List Stmt := defBody (stAt PySem.Challenge.pw_dw5002_04.main.body 13)
def s_lranks : Scope := defScope (stAt PySem.Challenge.pw_dw5002_04.main.body 13)
theorem o_lranks : ScopeOk s_lranks := ⟨by decide +kernel⟩
def b_lspans : List Stmt := defBody (stAt PySem.Challenge.pw_dw5002_04.main.body 14)
def s_lspans : Scope := defScope (stAt PySem.Challenge.pw_dw5002_04.main.body 14)
theorem o_lspans : ScopeOk s_lspans := ⟨by decide +kernel⟩
def b_law : List Stmt := defBody (stAt PySem.Challenge.pw_dw5002_04.main.body 15)
def s_law : Scope := defScope (stAt PySem.Challenge.pw_dw5002_04.main.body 15)
theorem o_law : ScopeOk s_law := ⟨by decide +kernel⟩
def genPos_len : List Stmt → Pos
  | [.Return (some (.Call _ (.GeneratorExp _ _ _ p :: _) _ _)) _] => p
  | _ => ⟨0, 0, 0, 0⟩
def t_len : TabSpec := ⟨166, 162, genPos_len b_len, "_Accumulator.__len__.<locals>.<genexpr>"⟩
def genPos_str : List Stmt → Pos
  | [.Return (some (.Call _ (.GeneratorExp _ _ _ p :: _) _ _)) _] => p
  | _ => ⟨0, 0, 0, 0⟩
def t_str : TabSpec := ⟨173, 169, genPos_str b_str, "_Accumulator.__str__.<locals>.<genexpr>"⟩
structure Facts (G : GC) (cdV cdA : ClassData) : Prop where
  O : GOk G
  PV : PlainCls G.K 116 cdV
  AC : AccCls G.K 200 cdA
  BM : BMainOk G
  ap : TabsApart G
  hop : nsIn G.K cStatics "thirdparty.any" = some none
  a_initial_size : AttrOk G 200 cdA 0 "_initial_size"
  S_init : SupOk G 200 cdA 137 (fdAt G.K 137) b_init_a
  al_init : ks_superIn G.K 200 200 "__init__" = some (some (.builtin "list.__init__"))
  bi_init : ∀ (s : Shared) v w, G.K.In s.heap → BindsTo s (fdAt G.K 137) ⟨[v, w], []⟩ [(("self" : Str), v), (("initial_size" : Str), w)]
  e_init_a : (fdAt G.K 137).scope = s_init_a
  mk_acc : makesLIn G.K 200 = true
  fi_acc : findIn G.K (.ref 200) "__init__" = some (some (.ref 137))
  ty_init : typeIn G.K (.ref 137) = some (.type "function")
  na_acc : ∀ vs : List Value, argsOk "list.__new__" ⟨.ref 200 :: vs, []⟩
  m_appendA : SGet G "append" (.builtin "list.append") (isA 200)
  k_push : DefOk G 144 (fdAt G.K 144) b_push ["self", "fws", "string"] []
  e_push : (fdAt G.K 144).scope = s_push
  k_pop_from : DefOk G 152 (fdAt G.K 152) b_pop_from ["self", "i"] []
  e_pop_from : (fdAt G.K 152).scope = s_pop_from
  S_count : SupOk G 200 cdA 197 (fdAt G.K 197) b_part_count
  al_len : ks_superIn G.K 200 200 "__len__" = some (some (.builtin "list.__len__"))
  bi_count : ∀ v, bindArgs (fdAt G.K 197) ⟨[v], []⟩ = pure [(("self" : Str), v)]
  S_pop : SupOk G 200 cdA 160 (fdAt G.K 160) b_pop
  al_pop : ks_superIn G.K 200 200 "pop" = some (some (.builtin "list.pop"))
  bi_pop : ∀ v, bindArgs (fdAt G.K 160) ⟨[v], []⟩ = pure [(("self" : Str), v)]
  e_pop : (fdAt G.K 160).scope = s_pop
  fi_count : findIn G.K (.ref 200) "part_count" = some (some (.ref 197))
  ty_count : typeIn G.K (.ref 197) = some (.type "function")
  nf_count : ("part_count" : Str) ∉ G.flds 200
  p_part_count : keepIn G.K (.ref 197) = true
  ck_pop : ∀ x : Addr, ∀ sig, Manifest.signature? "list.pop" = some sig → Bind.checkArgs "list.pop" { sig with full := s!"{cdA.qualname.toString}.{Bind.lastOf "list.pop"}" } ⟨[.ref x], []⟩ = pure ()
  k_len : DefOk G 167 (fdAt G.K 167) b_len ["self"] []
  e_len : (fdAt G.K 167).scope = s_len
  cd_len : (fdAt G.K 167).code = .ref 166
  qn_len : (fdAt G.K 167).qualname ++ ".<locals>." ++ "<genexpr>" = t_len.qual
  ht_len : t_len ∈ G.tabs
  g_sum : G.mg "sum" = none
  b_sum : G.mb "sum" = some (.builtin "sum")
  g_len : G.mg "len" = none
  b_len : G.mb "len" = some (.builtin "len")
  fi_len : findIn G.K (.ref 200) "__len__" = some (some (.ref 167))
  ty_len : typeIn G.K (.ref 167) = some (.type "function")
  k_str : DefOk G 174 (fdAt G.K 174) b_str ["self"] []
  e_str : (fdAt G.K 174).scope = s_str
  cd_str : (fdAt G.K 174).code = .ref 173
  qn_str : (fdAt G.K 174).qualname ++ ".<locals>." ++ "<genexpr>" = t_str.qual
  ht_str : t_str ∈ G.tabs
  g_EMPTY : ∃ te, G.mg "EMPTYSTRING" = some (.str "" te)
  fi_str : findIn G.K (.ref 200) "__str__" = some (some (.ref 174))
  fn_str : isFn G.K (.ref 174) = true
  k_reset : DefOk G 182 (fdAt G.K 182) b_reset ["self", "startval"] [.none]
  e_reset : (fdAt G.K 182).scope = s_reset
  k_reset1 : DefOk G 182 (fdAt G.K 182) b_reset ["self", "startval"] []
  g_str : G.mg "str" = none
  b_str : G.mb "str" = some (.type "str")
  k_is_onlyws : DefOk G 189 (fdAt G.K 189) b_is_onlyws ["self"] []
  e_is_onlyws : (fdAt G.K 189).scope = s_is_onlyws
  g_Accumulator : G.mg "_Accumulator" = some (.ref 200)
  p_Accumulator : keepIn G.K (.ref 200) = true
  a_current_line : AttrOk G 116 cdV 5 "_current_line"
  a_lines : AttrOk G 116 cdV 4 "_lines"
  a_splitchars : AttrOk G 116 cdV 3 "_splitchars"
  a_continuation_ws_len : AttrOk G 116 cdV 2 "_continuation_ws_len"
  a_continuation_ws : AttrOk G 116 cdV 1 "_continuation_ws"
  a_maxlen : AttrOk G 116 cdV 0 "_maxlen"
  k_init_v : DefOk G 57 (fdAt G.K 57) b_init_v ["self", "headerlen", "maxlen", "continuation_ws", "splitchars"] []
  e_init_v : (fdAt G.K 57).scope = s_init_v
  mk_vf : makesIn G.K 116 = true
  fi_vf : findIn G.K (.ref 116) "__init__" = some (some (.ref 57))
  ty_vf : typeIn G.K (.ref 57) = some (.type "function")
  m_reset : SGet G "reset" (.ref 182) (isA 200)
  p_reset : keepIn G.K (.ref 182) = true
  m_is_onlyws : SGet G "is_onlyws" (.ref 189) (isA 200)
  p_is_onlyws : keepIn G.K (.ref 189) = true
  m_push : SGet G "push" (.ref 144) (isA 200)
  p_push : keepIn G.K (.ref 144) = true
  s1_push : findIn G.K (.ref 200) "push" = some (some (.ref 144))
  s2_push : isFn G.K (.ref 144) = true
  s3_push : specialIn G.K (.ref 144) "__get__" = some (some (.builtin "function.__get__"))
  s4_push : takesIn G.K (.ref 144) = some false
  s5_push : ("push" : Str) ∉ G.flds 200
  s6_push : fnIn G.K 144 = true
  m_pop : SGet G "pop" (.ref 160) (isA 200)
  p_pop : keepIn G.K (.ref 160) = true
  k_newline : DefOk G 78 (fdAt G.K 78) b_newline ["self"] []
  e_newline : (fdAt G.K 78).scope = s_newline
  m_newline : SGet G "newline" (.ref 78) (isA 116)
  p_newline : keepIn G.K (.ref 78) = true
  k_vstr : DefOk G 64 (fdAt G.K 64) b_vstr ["self", "linesep"] []
  e_vstr : (fdAt G.K 64).scope = s_vstr
  m_pop_from : SGet G "pop_from" (.ref 152) (isA 200)
  p_pop_from : keepIn G.K (.ref 152) = true
  g_range : G.mg "range" = none
  b_range : G.mb "range" = some (.type "range")
  m_part_count : SGet G "part_count" (.ref 197) (isA 200)
  k_chunk : DefOk G 113 (fdAt G.K 113) b_chunk ["self", "fws", "string"] []
  e_chunk : (fdAt G.K 113).scope = s_chunk
  g_zip : G.mg "zip" = none
  b_zip : G.mb "zip" = some (.type "zip")
  g_iter : G.mg "iter" = none
  b_iter : G.mb "iter" = some (.builtin "iter")
  m_append_chunk : SGet G "_append_chunk" (.ref 113) (isA 116)
  p_append_chunk : keepIn G.K (.ref 113) = true
  g_twin_re_1 : G.mg "_twin_re_1" = some (.ref 43)
  pat : patChk G.K 43 42 = true
  k_split : DefOk G 106 (fdAt G.K 106) b_split ["self", "fws", "string", "splitchars"] []
  e_split : (fdAt G.K 106).scope = s_split
  g_law_BLANKS : G.mg "_law_BLANKS" = some (.ref 206)
  r_law_BLANKS : ∀ h β, Base G h → VR h β pv_law_BLANKS (.ref 206)
  g_law_ENDS : G.mg "_law_ENDS" = some (.ref 207)
  r_law_ENDS : ∀ h β, Base G h → VR h β pv_law_ENDS (.ref 207)
  k_lchunks : DefOk G 214 (fdAt G.K 214) b_lchunks ["numbers", "opening"] []
  e_lchunks : (fdAt G.K 214).scope = s_lchunks
  k_lranks : DefOk G 219 (fdAt G.K 219) b_lranks ["chunks", "signs"] []
  e_lranks : (fdAt G.K 219).scope = s_lranks
  k_lspans : DefOk G 226 (fdAt G.K 226) b_lspans ["chunks", "ranks", "depth"] []
  e_lspans : (fdAt G.K 226).scope = s_lspans
  g_law_spans : G.mg "_law_spans" = some (.ref 226)
  p_law_spans : keepIn G.K (.ref 226) = true
  m_str : SGet G "_str" (.ref 64) (isA 116)
  p_str : keepIn G.K (.ref 64) = true
  m_ascii_split : SGet G "_ascii_split" (.ref 106) (isA 116)
  p_ascii_split : keepIn G.K (.ref 106) = true
  g_ValueFormatter : G.mg "_ValueFormatter" = some (.ref 116)
  p_ValueFormatter : keepIn G.K (.ref 116) = true
  g_law_ranks : G.mg "_law_ranks" = some (.ref 219)
  p_law_ranks : keepIn G.K (.ref 219) = true
  g_law_chunks : G.mg "_law_chunks" = some (.ref 214)
  p_law_chunks : keepIn G.K (.ref 214) = true
  g_law_SIGNS : G.mg "_law_SIGNS" = some (.ref 205)
  r_law_SIGNS : ∀ h β, Base G h → VR h β pv_law_SIGNS (.ref 205)
  g_list : G.mg "list" = none
  b_list : G.mb "list" = some (.type "list")
  k_law : DefOk G 231 (fdAt G.K 231) b_law ["script"] []
  e_law : (fdAt G.K 231).scope = s_law
def FactsAll (G : GC) (cdV cdA : ClassData) : Prop := ∀ B' : Ban, @GOk B' G → @Facts B' G cdV cdA
theorem c_init_a {G : GC} {cdV cdA : ClassData} (w : Facts G cdV cdA) : SCall G 1 (.ref 137) (initF 200 0) :=
  init_ok w.O w.AC w.a_initial_size w.S_init w.hop w.al_init rfl w.bi_init (by rw [w.e_init_a]; exact o_init_a) (by rw [w.e_init_a]; kernel_rfl) (by rw [w.e_init_a]; kernel_rfl) (by rw [w.e_init_a]; decide +kernel)
theorem c_acc {G : GC} {cdV cdA : ClassData} (w : Facts G cdV cdA) : SCall G 2 (.ref 200) (fMake (.acc 200 [] []) (initF 200 0)) := acc_make_ok w.O w.mk_acc w.fi_acc w.ty_init w.na_acc (c_init_a w)
theorem v_push_0 {G : GC} {d : Nat} {p : Pos} : SE G d s_push (.Name "self" p) (eVar 0) := SE.local_ (by kernel_rfl) (by kernel_rfl) (by kernel_rfl)
theorem v_push_1 {G : GC} {d : Nat} {p : Pos} : SE G d s_push (.Name "fws" p) (eVar 1) := SE.local_ (by kernel_rfl) (by kernel_rfl) (by kernel_rfl)
theorem v_push_2 {G : GC} {d : Nat} {p : Pos} : SE G d s_push (.Name "string" p) (eVar 2) := SE.local_ (by kernel_rfl) (by kernel_rfl) (by kernel_rfl)
def f_push : FS := (fSeq (fExp (eMeth (isA 200) (appendAF 200) (eVar 0) (eCons (eTup (eCons (eVar 1) (eCons (eVar 2) eNil))) eNil))) fSkip)
theorem x_push {G : GC} {cdV cdA : ClassData} (w : Facts G cdV cdA) : SX G 0 s_push b_push (f_push) :=
  (SX.cons (SS.exp_ o_push (SE.meth w.O o_push v_push_0 w.m_appendA (.builtin _) (SL.cons o_push (SE.tuple_ (SL.cons o_push v_push_1 (SL.cons o_push v_push_2 SL.nil (fun _ => rfl)) (fun _ => rfl))) SL.nil (fun _ => rfl)) (fun _ => rfl) (appendA_ok w.O w.AC) (fun _ => ⟨_, eval_meth rfl (fun _ => rfl) rfl⟩)) (fun _ => rfl)) SX.nil)
def F_push : CF := runBody [] 3 3 (f_push)
theorem c_push {G : GC} {cdV cdA : ClassData} (w : Facts G cdV cdA) : SCall G 1 (.ref 144) (F_push) := by
  have h := SCall.def_ w.O w.k_push (g := f_push) (by rw [w.e_push]; exact x_push w)
  rw [w.e_push] at h
  exact h
theorem cc_push {G : GC} {cdV cdA : ClassData} (w : Facts G cdV cdA) : SCode G 1 (.ref 144) (F_push) := by
  have h := SCode.def_ w.O w.k_push (g := f_push) (by rw [w.e_push]; exact x_push w)
  rw [w.e_push] at h
  exact h
theorem v_pop_from_0 {G : GC} {d : Nat} {p : Pos} : SE G d s_pop_from (.Name "self" p) (eVar 0) := SE.local_ (by kernel_rfl) (by kernel_rfl) (by kernel_rfl)
theorem v_pop_from_1 {G : GC} {d : Nat} {p : Pos} : SE G d s_pop_from (.Name "i" p) (eVar 1) := SE.local_ (by kernel_rfl) (by kernel_rfl) (by kernel_rfl)
theorem v_pop_from_2 {G : GC} {d : Nat} {p : Pos} : SE G d s_pop_from (.Name "popped" p) (eVar 2) := SE.local_ (by kernel_rfl) (by kernel_rfl) (by kernel_rfl)
def f_pop_from : FS := (fSeq (fAsg (eSliceA 200 (eVar 0) (eVar 1) (eLit .none)) (aVar 2)) (fSeq (fAsg (eList eNil) (aSliceA 200 (eVar 0) (eVar 1))) (fSeq (fRet (eVar 2)) fSkip)))
theorem x_pop_from {G : GC} {cdV cdA : ClassData} (w : Facts G cdV cdA) : SX G 0 s_pop_from b_pop_from (f_pop_from) :=
  (SX.cons (SS.asg o_pop_from (SE.sliceA w.O w.AC o_pop_from v_pop_from_0 (SP.some_ v_pop_from_1) SP.none_) (SA.local_ (i := 2) o_pop_from (by kernel_rfl)) (fun _ => rfl) (fun _ => rfl) (fun _ => rfl)) (SX.cons (SS.asg o_pop_from (SE.list_ SL.nil) (SAx.sliceA w.O w.AC o_pop_from v_pop_from_0 (SP.some_ v_pop_from_1)) (fun _ => rfl) (fun _ => rfl) (fun _ => rfl)) (SX.cons (SS.ret_ o_pop_from v_pop_from_2) SX.nil)))
def F_pop_from : CF := runBody [] 2 3 (f_pop_from)
theorem c_pop_from {G : GC} {cdV cdA : ClassData} (w : Facts G cdV cdA) : SCall G 1 (.ref 152) (F_pop_from) := by
  have h := SCall.def_ w.O w.k_pop_from (g := f_pop_from) (by rw [w.e_pop_from]; exact x_pop_from w)
  rw [w.e_pop_from] at h
  exact h
theorem c_count {G : GC} {cdV cdA : ClassData} (w : Facts G cdV cdA) : SCall G 1 (.ref 197) (countF 200) := count_ok w.O w.AC w.S_count w.hop w.al_len rfl w.bi_count
theorem c_pop {G : GC} {cdV cdA : ClassData} (w : Facts G cdV cdA) : SCall G 2 (.ref 160) (popF 200) :=
  pop_ok w.O w.AC w.S_pop w.hop w.al_pop rfl rfl w.bi_pop (by rw [w.e_pop]; exact o_pop) (by rw [w.e_pop]; kernel_rfl) w.fi_count w.ty_count w.nf_count w.p_part_count (c_count w) w.ck_pop
def F_len : CF := runBody [] 1 2 (fLenBody 200 0)
theorem x_len {G : GC} {cdV cdA : ClassData} (w : Facts G cdV cdA) : SSp G 1 (DefEnv (fdAt G.K 167)) (execs b_len) (fLenBody 200 0) := by
  intro env A s β ρ σ fl ρ' σ' h1
  refine len_body (c := .none) w.O w.BM w.ap w.AC w.ht_len w.a_initial_size o_len (by kernel_rfl) (by kernel_rfl) w.g_sum w.b_sum w.g_len w.b_len rfl (by kernel_rfl) (by decide +kernel) (by decide +kernel) (by kernel_rfl) (by kernel_rfl) (by kernel_rfl) (by kernel_rfl) (by kernel_rfl) env A s β ρ σ fl ρ' σ' ⟨h1.1.trans w.e_len, h1.2.1.trans w.cd_len, ?_⟩
  rw [h1.2.2]; exact w.qn_len
theorem c_len {G : GC} {cdV cdA : ClassData} (w : Facts G cdV cdA) : SCall G 2 (.ref 167) F_len := by
  have h := SCall.defp w.O w.k_len (x_len w)
  rw [w.e_len] at h
  exact h
theorem c_lenb {G : GC} {cdV cdA : ClassData} (w : Facts G cdV cdA) : SCall G 3 (.builtin "len") (lenF 200 F_len) := len_ok w.O w.fi_len w.ty_len (c_len w)
theorem c_truth {G : GC} {cdV cdA : ClassData} (w : Facts G cdV cdA) : SV1b G 3 truthy (truAF 200 F_len) := truA_ok w.O w.AC w.fi_len w.ty_len (c_len w)
def F_str : CF := runBody [] 1 2 (fStrBody 200)
theorem x_str {G : GC} {cdV cdA : ClassData} (w : Facts G cdV cdA) : SSp G 1 (DefEnv (fdAt G.K 174)) (execs b_str) (fStrBody 200) := by
  intro env A s β ρ σ fl ρ' σ' h1
  obtain ⟨te, hte⟩ := w.g_EMPTY
  refine str_body (p9 := ⟨0, 0, 0, 0⟩) w.O w.BM w.ap w.AC w.ht_str o_str (by kernel_rfl) (by kernel_rfl) hte rfl rfl rfl (by kernel_rfl) (by decide +kernel) (by decide +kernel) (by kernel_rfl) (by kernel_rfl) (by kernel_rfl) (by kernel_rfl) (by kernel_rfl) env A s β ρ σ fl ρ' σ' ⟨h1.1.trans w.e_str, h1.2.1.trans w.cd_str, ?_⟩
  rw [h1.2.2]; exact w.qn_str
theorem c_str {G : GC} {cdV cdA : ClassData} (w : Facts G cdV cdA) : SCall G 2 (.ref 174) F_str := by
  have h := SCall.defp w.O w.k_str (x_str w)
  rw [w.e_str] at h
  exact h
theorem c_strA {G : GC} {cdV cdA : ClassData} (w : Facts G cdV cdA) : SCall G 4 (.type "str") (strAF 200 F_str) := strA_ok w.O w.fi_str w.fn_str (c_str w)
theorem v_reset_0 {G : GC} {d : Nat} {p : Pos} : SE G d s_reset (.Name "self" p) (eVar 0) := SE.local_ (by kernel_rfl) (by kernel_rfl) (by kernel_rfl)
theorem v_reset_1 {G : GC} {d : Nat} {p : Pos} : SE G d s_reset (.Name "startval" p) (eVar 1) := SE.local_ (by kernel_rfl) (by kernel_rfl) (by kernel_rfl)
def f_reset : FS := (fSeq (fIf (cCmp isNoneB (eVar 1) (eLit .none)) (fSeq (fAsg (eList eNil) (aVar 1)) fSkip) fSkip) (fSeq (fAsg (eVar 1) (aSliceA 200 (eVar 0) (eLit .none))) (fSeq (fAsg (eLit (.int 0)) (aAttr 200 0 (eVar 0))) fSkip)))
theorem x_reset {G : GC} {cdV cdA : ClassData} (w : Facts G cdV cdA) : SX G 0 s_reset b_reset (f_reset) :=
  (SX.cons (SS.if_ o_reset (SC.cmp o_reset v_reset_1 SE.none_ isNoneB_ok rfl) (SX.cons (SS.asg o_reset (SE.list_ SL.nil) (SA.local_ (i := 1) o_reset (by kernel_rfl)) (fun _ => rfl) (fun _ => rfl) (fun _ => rfl)) SX.nil) SX.nil) (SX.cons (SS.asg o_reset v_reset_1 (SAx.sliceA w.O w.AC o_reset v_reset_0 SP.none_) (fun _ => rfl) (fun _ => rfl) (fun _ => rfl)) (SX.cons (SS.asg o_reset SE.int_ (SAx.attr w.O o_reset w.a_initial_size v_reset_0) (fun _ => rfl) (fun _ => rfl) (fun _ => rfl)) SX.nil)))
def F_reset : CF := runBody [.none] 2 2 (f_reset)
theorem c_reset {G : GC} {cdV cdA : ClassData} (w : Facts G cdV cdA) : SCall G 1 (.ref 182) (F_reset) := by
  have h := SCall.def_ w.O w.k_reset (g := f_reset) (by rw [w.e_reset]; exact x_reset w)
  rw [w.e_reset] at h
  exact h
def F_reset1 : CF := runBody [] 2 2 f_reset
theorem c_reset1 {G : GC} {cdV cdA : ClassData} (w : Facts G cdV cdA) : SCall G 1 (.ref 182) F_reset1 := by
  have h := SCall.def_ w.O w.k_reset1 (g := f_reset) (by rw [w.e_reset]; exact x_reset w)
  rw [w.e_reset] at h
  exact h
theorem v_is_onlyws_0 {G : GC} {d : Nat} {p : Pos} : SE G d s_is_onlyws (.Name "self" p) (eVar 0) := SE.local_ (by kernel_rfl) (by kernel_rfl) (by kernel_rfl)
def f_is_onlyws : FS := (fSeq (fRet (eAnd truF (eBin (eCmp (eqB 5)) (eAttr 200 0 (eVar 0)) (eLit (.int 0))) (eOr truF (eUn (notF (truAF 200 F_len)) (eVar 0)) (eMeth isS isspaceF (eCall (strAF 200 F_str) (eCons (eVar 0) eNil)) eNil)))) fSkip)
theorem x_is_onlyws {G : GC} {cdV cdA : ClassData} (w : Facts G cdV cdA) : SX G 4 s_is_onlyws b_is_onlyws (f_is_onlyws) :=
  (SX.cons (SS.ret_ o_is_onlyws (SE.and_ o_is_onlyws truF_ok (SE.cmp o_is_onlyws (SE.attr w.O w.a_initial_size v_is_onlyws_0 (fun _ _ => rfl)) SE.int_ (eqB_ok (by decide)) rfl) (SE.or_ o_is_onlyws truF_ok (SE.un v_is_onlyws_0 (notF_ok ((c_truth w).mono (by decide)))) (SE.meth w.O o_is_onlyws (SE.call w.O o_is_onlyws (.type _) (SE.builtin_ w.O (by kernel_rfl) w.g_str w.b_str (by decide +kernel) (by kernel_rfl)) (SL.cons o_is_onlyws v_is_onlyws_0 SL.nil (fun _ => rfl)) (fun _ => rfl) (c_strA w) (fun _ => rfl)) m_isspace (.builtin _) SL.nil (fun _ => rfl) isspace_ok (fun _ => ⟨_, eval_meth rfl (fun _ => by kernel_rfl) rfl⟩))))) SX.nil)
def F_is_onlyws : CF := runBody [] 1 2 (f_is_onlyws)
theorem c_is_onlyws {G : GC} {cdV cdA : ClassData} (w : Facts G cdV cdA) : SCall G 5 (.ref 189) (F_is_onlyws) := by
  have h := SCall.def_ w.O w.k_is_onlyws (g := f_is_onlyws) (by rw [w.e_is_onlyws]; exact x_is_onlyws w)
  rw [w.e_is_onlyws] at h
  exact h
theorem v_init_v_0 {G : GC} {d : Nat} {p : Pos} : SE G d s_init_v (.Name "self" p) (eVar 0) := SE.local_ (by kernel_rfl) (by kernel_rfl) (by kernel_rfl)
theorem v_init_v_1 {G : GC} {d : Nat} {p : Pos} : SE G d s_init_v (.Name "headerlen" p) (eVar 1) := SE.local_ (by kernel_rfl) (by kernel_rfl) (by kernel_rfl)
theorem v_init_v_2 {G : GC} {d : Nat} {p : Pos} : SE G d s_init_v (.Name "maxlen" p) (eVar 2) := SE.local_ (by kernel_rfl) (by kernel_rfl) (by kernel_rfl)
theorem v_init_v_3 {G : GC} {d : Nat} {p : Pos} : SE G d s_init_v (.Name "continuation_ws" p) (eVar 3) := SE.local_ (by kernel_rfl) (by kernel_rfl) (by kernel_rfl)
theorem v_init_v_4 {G : GC} {d : Nat} {p : Pos} : SE G d s_init_v (.Name "splitchars" p) (eVar 4) := SE.local_ (by kernel_rfl) (by kernel_rfl) (by kernel_rfl)
def f_init_v : FS := (fSeq (fAsg (eVar 2) (aAttr 116 0 (eVar 0))) (fSeq (fAsg (eVar 3) (aAttr 116 1 (eVar 0))) (fSeq (fAsg (eCall (lenF 200 F_len) (eCons (eVar 3) eNil)) (aAttr 116 2 (eVar 0))) (fSeq (fAsg (eVar 4) (aAttr 116 3 (eVar 0))) (fSeq (fAsg (eList eNil) (aAttr 116 4 (eVar 0))) (fSeq (fAsg (eCall (fMake (.acc 200 [] []) (initF 200 0)) (eCons (eVar 1) eNil)) (aAttr 116 5 (eVar 0))) fSkip))))))
theorem x_init_v {G : GC} {cdV cdA : ClassData} (w : Facts G cdV cdA) : SX G 3 s_init_v b_init_v (f_init_v) :=
  (SX.cons (SS.asg o_init_v v_init_v_2 (SAx.attr w.O o_init_v w.a_maxlen v_init_v_0) (fun _ => rfl) (fun _ => rfl) (fun _ => rfl)) (SX.cons (SS.asg o_init_v v_init_v_3 (SAx.attr w.O o_init_v w.a_continuation_ws v_init_v_0) (fun _ => rfl) (fun _ => rfl) (fun _ => rfl)) (SX.cons (SS.asg o_init_v (SE.call w.O o_init_v (.builtin _) (SE.builtin_ w.O (by kernel_rfl) w.g_len w.b_len (by decide +kernel) (by kernel_rfl)) (SL.cons o_init_v v_init_v_3 SL.nil (fun _ => rfl)) (fun _ => rfl) (c_lenb w) (fun _ => rfl)) (SAx.attr w.O o_init_v w.a_continuation_ws_len v_init_v_0) (fun _ => rfl) (fun _ => rfl) (fun _ => rfl)) (SX.cons (SS.asg o_init_v v_init_v_4 (SAx.attr w.O o_init_v w.a_splitchars v_init_v_0) (fun _ => rfl) (fun _ => rfl) (fun _ => rfl)) (SX.cons (SS.asg o_init_v (SE.list_ SL.nil) (SAx.attr w.O o_init_v w.a_lines v_init_v_0) (fun _ => rfl) (fun _ => rfl) (fun _ => rfl)) (SX.cons (SS.asg o_init_v (SE.call w.O o_init_v (.own w.p_Accumulator) (SE.global_ (pv := .lit (.ref 200)) w.O (by kernel_rfl) w.g_Accumulator (fun _ _ _ => rfl) (by kernel_rfl)) (SL.cons o_init_v v_init_v_1 SL.nil (fun _ => rfl)) (fun _ => rfl) ((c_acc w).mono (by decide)) (fun _ => rfl)) (SAx.attr w.O o_init_v w.a_current_line v_init_v_0) (fun _ => rfl) (fun _ => rfl) (fun _ => rfl)) SX.nil))))))
def F_init_v : CF := runBody [] 5 7 (f_init_v)
theorem c_init_v {G : GC} {cdV cdA : ClassData} (w : Facts G cdV cdA) : SCall G 4 (.ref 57) (F_init_v) := by
  have h := SCall.def_ w.O w.k_init_v (g := f_init_v) (by rw [w.e_init_v]; exact x_init_v w)
  rw [w.e_init_v] at h
  exact h
theorem c_vf {G : GC} {cdV cdA : ClassData} (w : Facts G cdV cdA) : SCall G 5 (.ref 116) (fMake (.inst 116 []) F_init_v) := inst_make_ok w.O w.mk_vf w.fi_vf w.ty_vf (c_init_v w)
theorem v_newline_0 {G : GC} {d : Nat} {p : Pos} : SE G d s_newline (.Name "self" p) (eVar 0) := SE.local_ (by kernel_rfl) (by kernel_rfl) (by kernel_rfl)
theorem v_newline_1 {G : GC} {d : Nat} {p : Pos} : SE G d s_newline (.Name "end_of_line" p) (eVar 1) := SE.local_ (by kernel_rfl) (by kernel_rfl) (by kernel_rfl)
def f_newline : FS := (fSeq (fAsg (eMeth (isA 200) (popF 200) (eAttr 116 5 (eVar 0)) eNil) (aVar 1)) (fSeq (fIf (cCmp (neB 5) (eVar 1) (eTup (eCons (eLit (.str " ")) (eCons (eLit (.str "")) eNil)))) (fSeq (fExp (eStar 200 F_push (eAttr 116 5 (eVar 0)) (eVar 1))) fSkip) fSkip) (fSeq (fIf (cCmp gtB (eCall (lenF 200 F_len) (eCons (eAttr 116 5 (eVar 0)) eNil)) (eLit (.int 0))) (fSeq (fIf (cAnd (cVal truF (eMeth (isA 200) F_is_onlyws (eAttr 116 5 (eVar 0)) eNil)) (cVal truF (eAttr 116 4 (eVar 0)))) (fSeq fNo fSkip) (fSeq (fExp (eMeth isL appendF (eAttr 116 4 (eVar 0)) (eCons (eCall (strAF 200 F_str) (eCons (eAttr 116 5 (eVar 0)) eNil)) eNil))) fSkip)) fSkip) fSkip) (fSeq (fExp (eMeth (isA 200) F_reset (eAttr 116 5 (eVar 0)) eNil)) fSkip))))
theorem x_newline {G : GC} {cdV cdA : ClassData} (w : Facts G cdV cdA) : SX G 5 s_newline b_newline (f_newline) :=
  (SX.cons (SS.asg o_newline (SE.meth w.O o_newline (SE.attr w.O w.a_current_line v_newline_0 (fun _ _ => rfl)) w.m_pop (.own w.p_pop) SL.nil (fun _ => rfl) ((c_pop w).mono (by decide)) (fun _ => ⟨_, eval_meth rfl (fun _ => rfl) rfl⟩)) (SA.local_ (i := 1) o_newline (by kernel_rfl)) (fun _ => rfl) (fun _ => rfl) (fun _ => rfl)) (SX.cons (SS.if_ o_newline (SC.cmp o_newline v_newline_1 (SE.tuple_ (SL.cons o_newline SE.str_ (SL.cons o_newline SE.str_ SL.nil (fun _ => rfl)) (fun _ => rfl))) (neB_ok (by decide)) rfl) (SX.cons (SS.exp_ o_newline (SE.star w.O o_newline w.AC.P w.s1_push w.s2_push w.s3_push w.s4_push (by decide +kernel) w.s5_push w.s6_push (SE.attr w.O w.a_current_line v_newline_0 (fun _ _ => rfl)) v_newline_1 ((cc_push w).mono (by decide)) (fun _ _ => rfl)) (fun _ => rfl)) SX.nil) SX.nil) (SX.cons (SS.if_ o_newline (SC.cmp o_newline (SE.call w.O o_newline (.builtin _) (SE.builtin_ w.O (by kernel_rfl) w.g_len w.b_len (by decide +kernel) (by kernel_rfl)) (SL.cons o_newline (SE.attr w.O w.a_current_line v_newline_0 (fun _ _ => rfl)) SL.nil (fun _ => rfl)) (fun _ => rfl) ((c_lenb w).mono (by decide)) (fun _ => rfl)) SE.int_ gtB_ok rfl) (SX.cons (SS.if_ o_newline (SC.and2 o_newline (SC.val (SE.meth w.O o_newline (SE.attr w.O w.a_current_line v_newline_0 (fun _ _ => rfl)) w.m_is_onlyws (.own w.p_is_onlyws) SL.nil (fun _ => rfl) (c_is_onlyws w) (fun _ => ⟨_, eval_meth rfl (fun _ => rfl) rfl⟩)) truF_ok (fun _ _ => rfl)) (SC.val (SE.attr w.O w.a_lines v_newline_0 (fun _ _ => rfl)) truF_ok (fun _ _ => rfl))) (SX.cons SS.no SX.nil) (SX.cons (SS.exp_ o_newline (SE.meth w.O o_newline (SE.attr w.O w.a_lines v_newline_0 (fun _ _ => rfl)) m_append (.builtin _) (SL.cons o_newline (SE.call w.O o_newline (.type _) (SE.builtin_ w.O (by kernel_rfl) w.g_str w.b_str (by decide +kernel) (by kernel_rfl)) (SL.cons o_newline (SE.attr w.O w.a_current_line v_newline_0 (fun _ _ => rfl)) SL.nil (fun _ => rfl)) (fun _ => rfl) ((c_strA w).mono (by decide)) (fun _ => rfl)) SL.nil (fun _ => rfl)) (fun _ => rfl) appendF_ok (fun _ => ⟨_, eval_meth rfl (fun _ => rfl) rfl⟩)) (fun _ => rfl)) SX.nil)) SX.nil) SX.nil) (SX.cons (SS.exp_ o_newline (SE.meth w.O o_newline (SE.attr w.O w.a_current_line v_newline_0 (fun _ _ => rfl)) w.m_reset (.own w.p_reset) SL.nil (fun _ => rfl) ((c_reset w).mono (by decide)) (fun _ => ⟨_, eval_meth rfl (fun _ => rfl) rfl⟩)) (fun _ => rfl)) SX.nil))))
def F_newline : CF := runBody [] 1 4 (f_newline)
theorem c_newline {G : GC} {cdV cdA : ClassData} (w : Facts G cdV cdA) : SCall G 6 (.ref 78) (F_newline) := by
  have h := SCall.def_ w.O w.k_newline (g := f_newline) (by rw [w.e_newline]; exact x_newline w)
  rw [w.e_newline] at h
  exact h
theorem v_vstr_0 {G : GC} {d : Nat} {p : Pos} : SE G d s_vstr (.Name "self" p) (eVar 0) := SE.local_ (by kernel_rfl) (by kernel_rfl) (by kernel_rfl)
theorem v_vstr_1 {G : GC} {d : Nat} {p : Pos} : SE G d s_vstr (.Name "linesep" p) (eVar 1) := SE.local_ (by kernel_rfl) (by kernel_rfl) (by kernel_rfl)
def f_vstr : FS := (fSeq (fExp (eMeth (isA 116) F_newline (eVar 0) eNil)) (fSeq (fRet (eMeth isS joinF (eVar 1) (eCons (eAttr 116 4 (eVar 0)) eNil))) fSkip))
theorem x_vstr {G : GC} {cdV cdA : ClassData} (w : Facts G cdV cdA) : SX G 6 s_vstr b_vstr (f_vstr) :=
  (SX.cons (SS.exp_ o_vstr (SE.meth w.O o_vstr v_vstr_0 w.m_newline (.own w.p_newline) SL.nil (fun _ => rfl) (c_newline w) (fun _ => ⟨_, eval_meth rfl (fun _ => rfl) rfl⟩)) (fun _ => rfl)) (SX.cons (SS.ret_ o_vstr (SE.meth w.O o_vstr v_vstr_1 m_join (.builtin _) (SL.cons o_vstr (SE.attr w.O w.a_lines v_vstr_0 (fun _ _ => rfl)) SL.nil (fun _ => rfl)) (fun _ => rfl) join_ok (fun _ => ⟨_, eval_meth rfl (fun _ => rfl) rfl⟩))) SX.nil))
def F_vstr : CF := runBody [] 2 2 (f_vstr)
theorem c_vstr {G : GC} {cdV cdA : ClassData} (w : Facts G cdV cdA) : SCall G 7 (.ref 64) (F_vstr) := by
  have h := SCall.def_ w.O w.k_vstr (g := f_vstr) (by rw [w.e_vstr]; exact x_vstr w)
  rw [w.e_vstr] at h
  exact h
theorem v_chunk_0 {G : GC} {d : Nat} {p : Pos} : SE G d s_chunk (.Name "self" p) (eVar 0) := SE.local_ (by kernel_rfl) (by kernel_rfl) (by kernel_rfl)
theorem v_chunk_1 {G : GC} {d : Nat} {p : Pos} : SE G d s_chunk (.Name "fws" p) (eVar 1) := SE.local_ (by kernel_rfl) (by kernel_rfl) (by kernel_rfl)
theorem v_chunk_2 {G : GC} {d : Nat} {p : Pos} : SE G d s_chunk (.Name "string" p) (eVar 2) := SE.local_ (by kernel_rfl) (by kernel_rfl) (by kernel_rfl)
theorem v_chunk_3 {G : GC} {d : Nat} {p : Pos} : SE G d s_chunk (.Name "ch" p) (eVar 3) := SE.local_ (by kernel_rfl) (by kernel_rfl) (by kernel_rfl)
theorem v_chunk_4 {G : GC} {d : Nat} {p : Pos} : SE G d s_chunk (.Name "i" p) (eVar 4) := SE.local_ (by kernel_rfl) (by kernel_rfl) (by kernel_rfl)
theorem v_chunk_5 {G : GC} {d : Nat} {p : Pos} : SE G d s_chunk (.Name "prevpart" p) (eVar 5) := SE.local_ (by kernel_rfl) (by kernel_rfl) (by kernel_rfl)
theorem v_chunk_6 {G : GC} {d : Nat} {p : Pos} : SE G d s_chunk (.Name "part" p) (eVar 6) := SE.local_ (by kernel_rfl) (by kernel_rfl) (by kernel_rfl)
theorem v_chunk_7 {G : GC} {d : Nat} {p : Pos} : SE G d s_chunk (.Name "remainder" p) (eVar 7) := SE.local_ (by kernel_rfl) (by kernel_rfl) (by kernel_rfl)
def f_chunk : FS := (fSeq (fExp (eMeth (isA 200) F_push (eAttr 116 5 (eVar 0)) (eCons (eVar 1) (eCons (eVar 2) eNil)))) (fSeq (fIf (cCmp gtB (eCall (lenF 200 F_len) (eCons (eAttr 116 5 (eVar 0)) eNil)) (eAttr 116 0 (eVar 0))) (fSeq (fFor 1000 (aVar 3) (eAttr 116 3 (eVar 0)) (fSeq (fFor 1000 (aVar 4) (eCall rangeF (eCons (eBin subF (eMeth (isA 200) (countF 200) (eAttr 116 5 (eVar 0)) eNil) (eLit (.int 1))) (eCons (eLit (.int 0)) (eCons (eUn negF (eLit (.int 1))) eNil)))) (fSeq (fIf (cVal truF (eMeth isS isspaceF (eVar 3) eNil)) (fSeq (fAsg (eBin idxF (eBin (idxAF 200) (eAttr 116 5 (eVar 0)) (eVar 4)) (eLit (.int 0))) (aVar 1)) (fSeq (fIf (cAnd (cVal truF (eVar 1)) (cCmp (eqB 5) (eBin idxF (eVar 1) (eLit (.int 0))) (eVar 3))) (fSeq fBrk fSkip) fSkip) fSkip)) fSkip) (fSeq (fAsg (eBin idxF (eBin (idxAF 200) (eAttr 116 5 (eVar 0)) (eBin subF (eVar 4) (eLit (.int 1)))) (eLit (.int 1))) (aVar 5)) (fSeq (fIf (cAnd (cVal truF (eVar 5)) (cCmp (eqB 5) (eBin idxF (eVar 5) (eUn negF (eLit (.int 1)))) (eVar 3))) (fSeq fBrk fSkip) fSkip) fSkip))) (fSeq fCont fSkip)) (fSeq fBrk fSkip)) (fSeq (fAsg (eMeth (isA 200) (popF 200) (eAttr 116 5 (eVar 0)) eNil) (aPair (aVar 1) (aVar 6))) (fSeq (fIf (cCmp gtB (eAttr 200 0 (eAttr 116 5 (eVar 0))) (eLit (.int 0))) (fSeq (fExp (eMeth (isA 116) F_newline (eVar 0) eNil)) (fSeq (fIf (cNot (cVal truF (eVar 1))) (fSeq (fAsg (eLit (.str " ")) (aVar 1)) fSkip) fSkip) fSkip)) fSkip) (fSeq (fExp (eMeth (isA 200) F_push (eAttr 116 5 (eVar 0)) (eCons (eVar 1) (eCons (eVar 6) eNil)))) (fSeq fRetN fSkip))))) (fSeq (fAsg (eMeth (isA 200) F_pop_from (eAttr 116 5 (eVar 0)) (eCons (eVar 4) eNil)) (aVar 7)) (fSeq (fExp (eMeth isL appendF (eAttr 116 4 (eVar 0)) (eCons (eCall (strAF 200 F_str) (eCons (eAttr 116 5 (eVar 0)) eNil)) eNil))) (fSeq (fExp (eMeth (isA 200) F_reset1 (eAttr 116 5 (eVar 0)) (eCons (eVar 7) eNil))) fSkip)))) fSkip) fSkip))
theorem x_chunk {G : GC} {cdV cdA : ClassData} (w : Facts G cdV cdA) : SX G 6 s_chunk b_chunk (f_chunk) :=
  (SX.cons (SS.exp_ o_chunk (SE.meth w.O o_chunk (SE.attr w.O w.a_current_line v_chunk_0 (fun _ _ => rfl)) w.m_push (.own w.p_push) (SL.cons o_chunk v_chunk_1 (SL.cons o_chunk v_chunk_2 SL.nil (fun _ => rfl)) (fun _ => rfl)) (fun _ => rfl) ((c_push w).mono (by decide)) (fun _ => ⟨_, eval_meth rfl (fun _ => rfl) rfl⟩)) (fun _ => rfl)) (SX.cons (SS.if_ o_chunk (SC.cmp o_chunk (SE.call w.O o_chunk (.builtin _) (SE.builtin_ w.O (by kernel_rfl) w.g_len w.b_len (by decide +kernel) (by kernel_rfl)) (SL.cons o_chunk (SE.attr w.O w.a_current_line v_chunk_0 (fun _ _ => rfl)) SL.nil (fun _ => rfl)) (fun _ => rfl) ((c_lenb w).mono (by decide)) (fun _ => rfl)) (SE.attr w.O w.a_maxlen v_chunk_0 (fun _ _ => rfl)) gtB_ok rfl) (SX.cons (SS.for_ o_chunk (SE.attr w.O w.a_splitchars v_chunk_0 (fun _ _ => rfl)) (SA.local_ (i := 3) o_chunk (by kernel_rfl)) (SX.cons (SS.for_ o_chunk (SE.call w.O o_chunk (.type _) (SE.builtin_ w.O (by kernel_rfl) w.g_range w.b_range (by decide +kernel) (by kernel_rfl)) (SL.cons o_chunk (SE.bin o_chunk (SE.meth w.O o_chunk (SE.attr w.O w.a_current_line v_chunk_0 (fun _ _ => rfl)) w.m_part_count (.own w.p_part_count) SL.nil (fun _ => rfl) ((c_count w).mono (by decide)) (fun _ => ⟨_, eval_meth rfl (fun _ => rfl) rfl⟩)) SE.int_ subF_ok) (SL.cons o_chunk SE.int_ (SL.cons o_chunk (SE.un SE.int_ negF_ok) SL.nil (fun _ => rfl)) (fun _ => rfl)) (fun _ => rfl)) (fun _ => rfl) range_ok (fun _ => rfl)) (SA.local_ (i := 4) o_chunk (by kernel_rfl)) (SX.cons (SS.if_ o_chunk (SC.val (SE.meth w.O o_chunk v_chunk_3 m_isspace (.builtin _) SL.nil (fun _ => rfl) isspace_ok (fun _ => ⟨_, eval_meth rfl (fun _ => rfl) rfl⟩)) truF_ok (fun _ _ => rfl)) (SX.cons (SS.asg o_chunk (SE.idx o_chunk (SE.idxA w.O w.AC o_chunk (SE.attr w.O w.a_current_line v_chunk_0 (fun _ _ => rfl)) v_chunk_4 (fun _ _ => rfl)) SE.int_ (fun _ _ => rfl)) (SA.local_ (i := 1) o_chunk (by kernel_rfl)) (fun _ => rfl) (fun _ => rfl) (fun _ => rfl)) (SX.cons (SS.if_ o_chunk (SC.and2 o_chunk (SC.val v_chunk_1 truF_ok (fun _ _ => rfl)) (SC.cmp o_chunk (SE.idx o_chunk v_chunk_1 SE.int_ (fun _ _ => rfl)) v_chunk_3 (eqB_ok (by decide)) rfl)) (SX.cons SS.brk_ SX.nil) SX.nil) SX.nil)) SX.nil) (SX.cons (SS.asg o_chunk (SE.idx o_chunk (SE.idxA w.O w.AC o_chunk (SE.attr w.O w.a_current_line v_chunk_0 (fun _ _ => rfl)) (SE.bin o_chunk v_chunk_4 SE.int_ subF_ok) (fun _ _ => rfl)) SE.int_ (fun _ _ => rfl)) (SA.local_ (i := 5) o_chunk (by kernel_rfl)) (fun _ => rfl) (fun _ => rfl) (fun _ => rfl)) (SX.cons (SS.if_ o_chunk (SC.and2 o_chunk (SC.val v_chunk_5 truF_ok (fun _ _ => rfl)) (SC.cmp o_chunk (SE.idx o_chunk v_chunk_5 (SE.un SE.int_ negF_ok) (fun _ _ => rfl)) v_chunk_3 (eqB_ok (by decide)) rfl)) (SX.cons SS.brk_ SX.nil) SX.nil) SX.nil))) (SX.cons SS.cont_ SX.nil) (fun _ _ => rfl)) (SX.cons SS.brk_ SX.nil)) (SX.cons (SS.asg o_chunk (SE.meth w.O o_chunk (SE.attr w.O w.a_current_line v_chunk_0 (fun _ _ => rfl)) w.m_pop (.own w.p_pop) SL.nil (fun _ => rfl) ((c_pop w).mono (by decide)) (fun _ => ⟨_, eval_meth rfl (fun _ => rfl) rfl⟩)) (SAx.pair o_chunk (SA.local_ (i := 1) o_chunk (by kernel_rfl)) (SA.local_ (i := 6) o_chunk (by kernel_rfl)) (fun _ => rfl)) (fun _ => rfl) (fun _ => rfl) (fun _ => rfl)) (SX.cons (SS.if_ o_chunk (SC.cmp o_chunk (SE.attr w.O w.a_initial_size (SE.attr w.O w.a_current_line v_chunk_0 (fun _ _ => rfl)) (fun _ _ => rfl)) SE.int_ gtB_ok rfl) (SX.cons (SS.exp_ o_chunk (SE.meth w.O o_chunk v_chunk_0 w.m_newline (.own w.p_newline) SL.nil (fun _ => rfl) (c_newline w) (fun _ => ⟨_, eval_meth rfl (fun _ => rfl) rfl⟩)) (fun _ => rfl)) (SX.cons (SS.if_ o_chunk (SC.not_ (SC.val v_chunk_1 truF_ok (fun _ _ => rfl))) (SX.cons (SS.asg o_chunk SE.str_ (SA.local_ (i := 1) o_chunk (by kernel_rfl)) (fun _ => rfl) (fun _ => rfl) (fun _ => rfl)) SX.nil) SX.nil) SX.nil)) SX.nil) (SX.cons (SS.exp_ o_chunk (SE.meth w.O o_chunk (SE.attr w.O w.a_current_line v_chunk_0 (fun _ _ => rfl)) w.m_push (.own w.p_push) (SL.cons o_chunk v_chunk_1 (SL.cons o_chunk v_chunk_6 SL.nil (fun _ => rfl)) (fun _ => rfl)) (fun _ => rfl) ((c_push w).mono (by decide)) (fun _ => ⟨_, eval_meth rfl (fun _ => rfl) rfl⟩)) (fun _ => rfl)) (SX.cons SS.retN_ SX.nil)))) (fun _ _ => rfl)) (SX.cons (SS.asg o_chunk (SE.meth w.O o_chunk (SE.attr w.O w.a_current_line v_chunk_0 (fun _ _ => rfl)) w.m_pop_from (.own w.p_pop_from) (SL.cons o_chunk v_chunk_4 SL.nil (fun _ => rfl)) (fun _ => rfl) ((c_pop_from w).mono (by decide)) (fun _ => ⟨_, eval_meth rfl (fun _ => rfl) rfl⟩)) (SA.local_ (i := 7) o_chunk (by kernel_rfl)) (fun _ => rfl) (fun _ => rfl) (fun _ => rfl)) (SX.cons (SS.exp_ o_chunk (SE.meth w.O o_chunk (SE.attr w.O w.a_lines v_chunk_0 (fun _ _ => rfl)) m_append (.builtin _) (SL.cons o_chunk (SE.call w.O o_chunk (.type _) (SE.builtin_ w.O (by kernel_rfl) w.g_str w.b_str (by decide +kernel) (by kernel_rfl)) (SL.cons o_chunk (SE.attr w.O w.a_current_line v_chunk_0 (fun _ _ => rfl)) SL.nil (fun _ => rfl)) (fun _ => rfl) ((c_strA w).mono (by decide)) (fun _ => rfl)) SL.nil (fun _ => rfl)) (fun _ => rfl) appendF_ok (fun _ => ⟨_, eval_meth rfl (fun _ => rfl) rfl⟩)) (fun _ => rfl)) (SX.cons (SS.exp_ o_chunk (SE.meth w.O o_chunk (SE.attr w.O w.a_current_line v_chunk_0 (fun _ _ => rfl)) w.m_reset (.own w.p_reset) (SL.cons o_chunk v_chunk_7 SL.nil (fun _ => rfl)) (fun _ => rfl) ((c_reset1 w).mono (by decide)) (fun _ => ⟨_, eval_meth rfl (fun _ => rfl) rfl⟩)) (fun _ => rfl)) SX.nil)))) SX.nil) SX.nil))
def F_chunk : CF := runBody [] 3 11 (f_chunk)
theorem c_chunk {G : GC} {cdV cdA : ClassData} (w : Facts G cdV cdA) : SCall G 7 (.ref 113) (F_chunk) := by
  have h := SCall.def_ w.O w.k_chunk (g := f_chunk) (by rw [w.e_chunk]; exact x_chunk w)
  rw [w.e_chunk] at h
  exact h
theorem v_split_0 {G : GC} {d : Nat} {p : Pos} : SE G d s_split (.Name "self" p) (eVar 0) := SE.local_ (by kernel_rfl) (by kernel_rfl) (by kernel_rfl)
theorem v_split_1 {G : GC} {d : Nat} {p : Pos} : SE G d s_split (.Name "fws" p) (eVar 1) := SE.local_ (by kernel_rfl) (by kernel_rfl) (by kernel_rfl)
theorem v_split_2 {G : GC} {d : Nat} {p : Pos} : SE G d s_split (.Name "string" p) (eVar 2) := SE.local_ (by kernel_rfl) (by kernel_rfl) (by kernel_rfl)
theorem v_split_3 {G : GC} {d : Nat} {p : Pos} : SE G d s_split (.Name "splitchars" p) (eVar 3) := SE.local_ (by kernel_rfl) (by kernel_rfl) (by kernel_rfl)
theorem v_split_4 {G : GC} {d : Nat} {p : Pos} : SE G d s_split (.Name "parts" p) (eVar 4) := SE.local_ (by kernel_rfl) (by kernel_rfl) (by kernel_rfl)
theorem v_split_5 {G : GC} {d : Nat} {p : Pos} : SE G d s_split (.Name "part" p) (eVar 5) := SE.local_ (by kernel_rfl) (by kernel_rfl) (by kernel_rfl)
def f_split : FS := (fSeq (fAsg (eMeth (isP 43) (rxF 43) (eLit (.lit (.ref 43))) (eCons (eBin addF (eVar 1) (eVar 2)) eNil)) (aVar 4)) (fSeq (fIf (cVal truF (eBin idxF (eVar 4) (eLit (.int 0)))) (fSeq (fAsg (eList (eCons (eLit (.str "")) eNil)) (aFront (eVar 4) (eLit (.int 0)))) fSkip) (fSeq (fExpS (eMeth isL pop0F (eVar 4) (eCons (eLit (.int 0)) eNil))) fSkip)) (fSeq (fZip 1000 (eVar 4) (aPair (aVar 1) (aVar 5)) (fSeq (fExp (eMeth (isA 116) F_chunk (eVar 0) (eCons (eVar 1) (eCons (eVar 5) eNil)))) fSkip)) fSkip)))
theorem x_split {G : GC} {cdV cdA : ClassData} (w : Facts G cdV cdA) (wa : FactsAll G cdV cdA) : SX G 7 s_split b_split (f_split) :=
  (SX.cons (SS.asg o_split (SE.meth w.O o_split (SE.global_ (pv := .lit (.ref 43)) w.O (by kernel_rfl) w.g_twin_re_1 (fun _ _ _ => rfl) (by kernel_rfl)) (m_psplit w.O w.pat) (.builtin _) (SL.cons o_split (SE.bin o_split v_split_1 v_split_2 addF_ok) SL.nil (fun _ => rfl)) (fun _ => rfl) (psplit_ok w.O w.pat) (fun _ => ⟨_, eval_meth rfl (fun _ => rfl) rfl⟩)) (SA.local_ (i := 4) o_split (by kernel_rfl)) (fun _ => rfl) (fun _ => rfl) (fun _ => rfl)) (SX.cons (SS.if_ o_split (SC.val (SE.idx o_split v_split_4 SE.int_ (fun _ _ => rfl)) truF_ok (fun _ _ => rfl)) (SX.cons (SS.asg o_split (SE.list_ (SL.cons o_split SE.str_ SL.nil (fun _ => rfl))) (SAx.front w.O o_split v_split_4 (SP.some_ SE.int_)) (fun _ => rfl) (fun _ => rfl) (fun _ => rfl)) SX.nil) (SX.cons (SS.expS o_split (SE.meth w.O o_split v_split_4 m_lpop (.builtin _) (SL.cons o_split SE.int_ SL.nil (fun _ => rfl)) (fun _ => rfl) pop0_ok (fun _ => ⟨_, eval_meth rfl (fun _ => rfl) rfl⟩)) (fun _ => rfl)) SX.nil)) (SX.cons (SS.forZip w.O o_split (SE.builtin_ w.O (by kernel_rfl) w.g_zip w.b_zip (by decide +kernel) (by kernel_rfl)) (SE.builtin_ w.O (by kernel_rfl) w.g_iter w.b_iter (by decide +kernel) (by kernel_rfl)) v_split_4 (fun _ => rfl) (fun _ => rfl) (fun _ _ => rfl) (fun _ => rfl) (fun B' O' => (have w := wa B' O'; (SAx.pair o_split (SA.local_ (i := 1) o_split (by kernel_rfl)) (SA.local_ (i := 5) o_split (by kernel_rfl)) (fun _ => rfl)))) (fun B' O' => (have w := wa B' O'; (SX.cons (SS.exp_ o_split (SE.meth w.O o_split v_split_0 w.m_append_chunk (.own w.p_append_chunk) (SL.cons o_split v_split_1 (SL.cons o_split v_split_5 SL.nil (fun _ => rfl)) (fun _ => rfl)) (fun _ => rfl) (c_chunk w) (fun _ => ⟨_, eval_meth rfl (fun _ => rfl) rfl⟩)) (fun _ => rfl)) SX.nil))) (fun _ _ => rfl)) SX.nil)))
def F_split : CF := runBody [] 4 9 (f_split)
theorem c_split {G : GC} {cdV cdA : ClassData} (w : Facts G cdV cdA) (wa : FactsAll G cdV cdA) : SCall G 8 (.ref 106) (F_split) := by
  have h := SCall.def_ w.O w.k_split (g := f_split) (by rw [w.e_split]; exact x_split w wa)
  rw [w.e_split] at h
  exact h
theorem v_lchunks_0 {G : GC} {d : Nat} {p : Pos} : SE G d s_lchunks (.Name "numbers" p) (eVar 0) := SE.local_ (by kernel_rfl) (by kernel_rfl) (by kernel_rfl)
theorem v_lchunks_1 {G : GC} {d : Nat} {p : Pos} : SE G d s_lchunks (.Name "opening" p) (eVar 1) := SE.local_ (by kernel_rfl) (by kernel_rfl) (by kernel_rfl)
theorem v_lchunks_2 {G : GC} {d : Nat} {p : Pos} : SE G d s_lchunks (.Name "chunks" p) (eVar 2) := SE.local_ (by kernel_rfl) (by kernel_rfl) (by kernel_rfl)
theorem v_lchunks_3 {G : GC} {d : Nat} {p : Pos} : SE G d s_lchunks (.Name "k" p) (eVar 3) := SE.local_ (by kernel_rfl) (by kernel_rfl) (by kernel_rfl)
theorem v_lchunks_4 {G : GC} {d : Nat} {p : Pos} : SE G d s_lchunks (.Name "x" p) (eVar 4) := SE.local_ (by kernel_rfl) (by kernel_rfl) (by kernel_rfl)
theorem v_lchunks_5 {G : GC} {d : Nat} {p : Pos} : SE G d s_lchunks (.Name "word" p) (eVar 5) := SE.local_ (by kernel_rfl) (by kernel_rfl) (by kernel_rfl)
def f_lchunks : FS := (fSeq (fAsg (eList eNil) (aVar 2)) (fSeq (fFor 1000 (aVar 3) (eCall rangeF (eCons (eCall (lenF 200 F_len) (eCons (eVar 0) eNil)) eNil)) (fSeq (fAsg (eBin idxF (eVar 0) (eVar 3)) (aVar 4)) (fSeq (fAsg (eBin addF (eBin mulF (eBin idxF (eLit (.str "abcdefghijklmn")) (eVar 3)) (eBin addF (eLit (.int 1)) (eBin modF (eVar 4) (eLit (.int 4))))) (eBin idxF (eLit pv_law_ENDS) (eBin modF (eBin divF (eVar 4) (eLit (.int 4))) (eLit (.int 3))))) (aVar 5)) (fSeq (fExp (eMeth isL appendF (eVar 2) (eCons (eTup (eCons (eIf (cCmp (eqB 5) (eVar 3) (eLit (.int 0))) (eVar 1) (eBin idxF (eLit pv_law_BLANKS) (eBin modF (eBin divF (eVar 4) (eLit (.int 12))) (eLit (.int 4))))) (eCons (eVar 5) eNil))) eNil))) fSkip))) fSkip) (fSeq (fRet (eVar 2)) fSkip)))
theorem x_lchunks {G : GC} {cdV cdA : ClassData} (w : Facts G cdV cdA) : SX G 3 s_lchunks b_lchunks (f_lchunks) :=
  (SX.cons (SS.asg o_lchunks (SE.list_ SL.nil) (SA.local_ (i := 2) o_lchunks (by kernel_rfl)) (fun _ => rfl) (fun _ => rfl) (fun _ => rfl)) (SX.cons (SS.for_ o_lchunks (SE.call w.O o_lchunks (.type _) (SE.builtin_ w.O (by kernel_rfl) w.g_range w.b_range (by decide +kernel) (by kernel_rfl)) (SL.cons o_lchunks (SE.call w.O o_lchunks (.builtin _) (SE.builtin_ w.O (by kernel_rfl) w.g_len w.b_len (by decide +kernel) (by kernel_rfl)) (SL.cons o_lchunks v_lchunks_0 SL.nil (fun _ => rfl)) (fun _ => rfl) (c_lenb w) (fun _ => rfl)) SL.nil (fun _ => rfl)) (fun _ => rfl) range_ok (fun _ => rfl)) (SA.local_ (i := 3) o_lchunks (by kernel_rfl)) (SX.cons (SS.asg o_lchunks (SE.idx o_lchunks v_lchunks_0 v_lchunks_3 (fun _ _ => rfl)) (SA.local_ (i := 4) o_lchunks (by kernel_rfl)) (fun _ => rfl) (fun _ => rfl) (fun _ => rfl)) (SX.cons (SS.asg o_lchunks (SE.bin o_lchunks (SE.bin o_lchunks (SE.idx o_lchunks SE.str_ v_lchunks_3 (fun _ _ => rfl)) (SE.bin o_lchunks SE.int_ (SE.bin o_lchunks v_lchunks_4 SE.int_ modF_ok) addF_ok) mulF_ok) (SE.idx o_lchunks (SE.global_ w.O (by kernel_rfl) w.g_law_ENDS w.r_law_ENDS (by kernel_rfl)) (SE.bin o_lchunks (SE.bin o_lchunks v_lchunks_4 SE.int_ divF_ok) SE.int_ modF_ok) (fun _ _ => rfl)) addF_ok) (SA.local_ (i := 5) o_lchunks (by kernel_rfl)) (fun _ => rfl) (fun _ => rfl) (fun _ => rfl)) (SX.cons (SS.exp_ o_lchunks (SE.meth w.O o_lchunks v_lchunks_2 m_append (.builtin _) (SL.cons o_lchunks (SE.tuple_ (SL.cons o_lchunks (SE.ifexp o_lchunks (SC.cmp o_lchunks v_lchunks_3 SE.int_ (eqB_ok (by decide)) rfl) v_lchunks_1 (SE.idx o_lchunks (SE.global_ w.O (by kernel_rfl) w.g_law_BLANKS w.r_law_BLANKS (by kernel_rfl)) (SE.bin o_lchunks (SE.bin o_lchunks v_lchunks_4 SE.int_ divF_ok) SE.int_ modF_ok) (fun _ _ => rfl))) (SL.cons o_lchunks v_lchunks_5 SL.nil (fun _ => rfl)) (fun _ => rfl))) SL.nil (fun _ => rfl)) (fun _ => rfl) appendF_ok (fun _ => ⟨_, eval_meth rfl (fun _ => rfl) rfl⟩)) (fun _ => rfl)) SX.nil))) SX.nil (fun _ _ => rfl)) (SX.cons (SS.ret_ o_lchunks v_lchunks_2) SX.nil)))
def F_lchunks : CF := runBody [] 2 10 (f_lchunks)
theorem c_lchunks {G : GC} {cdV cdA : ClassData} (w : Facts G cdV cdA) : SCall G 4 (.ref 214) (F_lchunks) := by
  have h := SCall.def_ w.O w.k_lchunks (g := f_lchunks) (by rw [w.e_lchunks]; exact x_lchunks w)
  rw [w.e_lchunks] at h
  exact h
theorem v_lranks_0 {G : GC} {d : Nat} {p : Pos} : SE G d s_lranks (.Name "chunks" p) (eVar 0) := SE.cell_ (by kernel_rfl) (by kernel_rfl) (by kernel_rfl)
theorem v_lranks_1 {G : GC} {d : Nat} {p : Pos} : SE G d s_lranks (.Name "signs" p) (eVar 1) := SE.cell_ (by kernel_rfl) (by kernel_rfl) (by kernel_rfl)
theorem v_lranks_2 {G : GC} {d : Nat} {p : Pos} : SE G d s_lranks (.Name "found" p) (eVar 2) := SE.local_ (by kernel_rfl) (by kernel_rfl) (by kernel_rfl)
theorem v_lranks_3 {G : GC} {d : Nat} {p : Pos} : SE G d s_lranks (.Name "k" p) (eVar 3) := SE.cell_ (by kernel_rfl) (by kernel_rfl) (by kernel_rfl)
theorem v_lranks_4 {G : GC} {d : Nat} {p : Pos} : SE G d s_lranks (.Name "ranks" p) (eVar 4) := SE.local_ (by kernel_rfl) (by kernel_rfl) (by kernel_rfl)
def f_lranks : FS := (fSeq (fAsg (eList (eCons (eLit (.int 99)) eNil)) (aVar 2)) (fSeq (fFor 1000 (aVar 3) (eCall rangeF (eCons (eLit (.int 1)) (eCons (eCall (lenF 200 F_len) (eCons (eVar 0) eNil)) eNil))) (fSeq (fAsg (fComp 1000 [none, none, some 0, some 3, some 1] (aVar 1) (cOr (cCmp (eqB 5) (eBin idxF (eBin idxF (eBin idxF (eVar 2) (eVar 3)) (eLit (.int 0))) (eLit (.int 0))) (eBin idxF (eVar 4) (eVar 1))) (cCmp (eqB 5) (eBin idxF (eBin idxF (eBin idxF (eVar 2) (eBin subF (eVar 3) (eLit (.int 1)))) (eLit (.int 1))) (eUn negF (eLit (.int 1)))) (eBin idxF (eVar 4) (eVar 1)))) (eVar 1) (eCall rangeF (eCons (eCall (lenF 200 F_len) (eCons (eVar 1) eNil)) eNil))) (aVar 4)) (fSeq (fExp (eMeth isL appendF (eVar 2) (eCons (eIf (cCmp (eqB 5) (eVar 4) (eList eNil)) (eLit (.int 99)) (eBin idxF (eVar 4) (eLit (.int 0)))) eNil))) fSkip)) fSkip) (fSeq (fRet (eVar 2)) fSkip)))
theorem x_lranks {G : GC} {cdV cdA : ClassData} (w : Facts G cdV cdA) : SX G 3 s_lranks b_lranks (f_lranks) :=
  (SX.cons (SS.asg o_lranks (SE.list_ (SL.cons o_lranks SE.int_ SL.nil (fun _ => rfl))) (SA.local_ (i := 2) o_lranks (by kernel_rfl)) (fun _ => rfl) (fun _ => rfl) (fun _ => rfl)) (SX.cons (SS.for_ o_lranks (SE.call w.O o_lranks (.type _) (SE.builtin_ w.O (by kernel_rfl) w.g_range w.b_range (by decide +kernel) (by kernel_rfl)) (SL.cons o_lranks SE.int_ (SL.cons o_lranks (SE.call w.O o_lranks (.builtin _) (SE.builtin_ w.O (by kernel_rfl) w.g_len w.b_len (by decide +kernel) (by kernel_rfl)) (SL.cons o_lranks v_lranks_0 SL.nil (fun _ => rfl)) (fun _ => rfl) (c_lenb w) (fun _ => rfl)) SL.nil (fun _ => rfl)) (fun _ => rfl)) (fun _ => rfl) range_ok (fun _ => rfl)) (SA.cell_ (i := 3) o_lranks (by kernel_rfl)) (SX.cons (SS.asgCompK (by kernel_rfl) o_lranks (by kernel_rfl) (SE.call w.O o_lranks (.type _) (SE.builtin_ w.O (by kernel_rfl) w.g_range w.b_range (by decide +kernel) (by kernel_rfl)) (SL.cons o_lranks (SE.call w.O o_lranks (.builtin _) (SE.builtin_ w.O (by kernel_rfl) w.g_len w.b_len (by decide +kernel) (by kernel_rfl)) (SL.cons o_lranks v_lranks_1 SL.nil (fun _ => rfl)) (fun _ => rfl) (c_lenb w) (fun _ => rfl)) SL.nil (fun _ => rfl)) (fun _ => rfl) range_ok (fun _ => rfl)) (fun K => ⟨(SAL.local_ (i := 1) K (by kernel_rfl)), (STs.one (SC.or2 K (SC.cmp K (SE.idx K (SE.idx K (SE.idx K (SE.cell_ (i := 2) (by kernel_rfl) (by kernel_rfl) (by kernel_rfl)) (SE.cell_ (i := 3) (by kernel_rfl) (by kernel_rfl) (by kernel_rfl)) (fun _ _ => rfl)) SE.int_ (fun _ _ => rfl)) SE.int_ (fun _ _ => rfl)) (SE.idx K (SE.cell_ (i := 4) (by kernel_rfl) (by kernel_rfl) (by kernel_rfl)) (SE.local_ (i := 1) (by kernel_rfl) (by kernel_rfl) (by kernel_rfl)) (fun _ _ => rfl)) (eqB_ok (by decide)) rfl) (SC.cmp K (SE.idx K (SE.idx K (SE.idx K (SE.cell_ (i := 2) (by kernel_rfl) (by kernel_rfl) (by kernel_rfl)) (SE.bin K (SE.cell_ (i := 3) (by kernel_rfl) (by kernel_rfl) (by kernel_rfl)) SE.int_ subF_ok) (fun _ _ => rfl)) SE.int_ (fun _ _ => rfl)) (SE.un SE.int_ negF_ok) (fun _ _ => rfl)) (SE.idx K (SE.cell_ (i := 4) (by kernel_rfl) (by kernel_rfl) (by kernel_rfl)) (SE.local_ (i := 1) (by kernel_rfl) (by kernel_rfl) (by kernel_rfl)) (fun _ _ => rfl)) (eqB_ok (by decide)) rfl))), (SE.local_ (i := 1) (by kernel_rfl) (by kernel_rfl) (by kernel_rfl))⟩) (by kernel_rfl) (by kernel_rfl) (by kernel_rfl) (fun _ _ => rfl)) (SX.cons (SS.exp_ o_lranks (SE.meth w.O o_lranks v_lranks_2 m_append (.builtin _) (SL.cons o_lranks (SE.ifexp o_lranks (SC.cmp o_lranks v_lranks_4 (SE.list_ SL.nil) (eqB_ok (by decide)) rfl) SE.int_ (SE.idx o_lranks v_lranks_4 SE.int_ (fun _ _ => rfl))) SL.nil (fun _ => rfl)) (fun _ => rfl) appendF_ok (fun _ => ⟨_, eval_meth rfl (fun _ => rfl) rfl⟩)) (fun _ => rfl)) SX.nil)) SX.nil (fun _ _ => rfl)) (SX.cons (SS.ret_ o_lranks v_lranks_2) SX.nil)))
def F_lranks : CF := runBody [] 2 7 (f_lranks)
theorem c_lranks {G : GC} {cdV cdA : ClassData} (w : Facts G cdV cdA) : SCall G 4 (.ref 219) (F_lranks) := by
  have h := SCall.def_ w.O w.k_lranks (g := f_lranks) (by rw [w.e_lranks]; exact x_lranks w)
  rw [w.e_lranks] at h
  exact h
theorem v_lspans_0 {G : GC} {d : Nat} {p : Pos} : SE G d s_lspans (.Name "chunks" p) (eVar 0) := SE.local_ (by kernel_rfl) (by kernel_rfl) (by kernel_rfl)
theorem v_lspans_1 {G : GC} {d : Nat} {p : Pos} : SE G d s_lspans (.Name "ranks" p) (eVar 1) := SE.local_ (by kernel_rfl) (by kernel_rfl) (by kernel_rfl)
theorem v_lspans_2 {G : GC} {d : Nat} {p : Pos} : SE G d s_lspans (.Name "depth" p) (eVar 2) := SE.local_ (by kernel_rfl) (by kernel_rfl) (by kernel_rfl)
theorem v_lspans_3 {G : GC} {d : Nat} {p : Pos} : SE G d s_lspans (.Name "spans" p) (eVar 3) := SE.local_ (by kernel_rfl) (by kernel_rfl) (by kernel_rfl)
theorem v_lspans_4 {G : GC} {d : Nat} {p : Pos} : SE G d s_lspans (.Name "at" p) (eVar 4) := SE.local_ (by kernel_rfl) (by kernel_rfl) (by kernel_rfl)
theorem v_lspans_5 {G : GC} {d : Nat} {p : Pos} : SE G d s_lspans (.Name "k" p) (eVar 5) := SE.local_ (by kernel_rfl) (by kernel_rfl) (by kernel_rfl)
theorem v_lspans_6 {G : GC} {d : Nat} {p : Pos} : SE G d s_lspans (.Name "end" p) (eVar 6) := SE.local_ (by kernel_rfl) (by kernel_rfl) (by kernel_rfl)
def f_lspans : FS := (fSeq (fAsg (eList eNil) (aVar 3)) (fSeq (fAsg (eLit (.int 0)) (aVar 4)) (fSeq (fFor 1000 (aVar 5) (eCall rangeF (eCons (eCall (lenF 200 F_len) (eCons (eVar 0) eNil)) eNil)) (fSeq (fAsg (eBin addF (eBin addF (eVar 4) (eCall (lenF 200 F_len) (eCons (eBin idxF (eBin idxF (eVar 0) (eVar 5)) (eLit (.int 0))) eNil))) (eCall (lenF 200 F_len) (eCons (eBin idxF (eBin idxF (eVar 0) (eVar 5)) (eLit (.int 1))) eNil))) (aVar 6)) (fSeq (fIf (cAnd (cCmp gtB (eVar 5) (eLit (.int 0))) (cCmp geB (eBin idxF (eVar 1) (eVar 5)) (eVar 2))) (fSeq (fAsg (eTup (eCons (eBin idxF (eBin idxF (eVar 3) (eUn negF (eLit (.int 1)))) (eLit (.int 0))) (eCons (eVar 6) eNil))) (aBack (eVar 3) (eUn negF (eLit (.int 1))))) fSkip) (fSeq (fExp (eMeth isL appendF (eVar 3) (eCons (eTup (eCons (eVar 4) (eCons (eVar 6) eNil))) eNil))) fSkip)) (fSeq (fAsg (eVar 6) (aVar 4)) fSkip))) fSkip) (fSeq (fRet (eVar 3)) fSkip))))
theorem x_lspans {G : GC} {cdV cdA : ClassData} (w : Facts G cdV cdA) : SX G 3 s_lspans b_lspans (f_lspans) :=
  (SX.cons (SS.asg o_lspans (SE.list_ SL.nil) (SA.local_ (i := 3) o_lspans (by kernel_rfl)) (fun _ => rfl) (fun _ => rfl) (fun _ => rfl)) (SX.cons (SS.asg o_lspans SE.int_ (SA.local_ (i := 4) o_lspans (by kernel_rfl)) (fun _ => rfl) (fun _ => rfl) (fun _ => rfl)) (SX.cons (SS.for_ o_lspans (SE.call w.O o_lspans (.type _) (SE.builtin_ w.O (by kernel_rfl) w.g_range w.b_range (by decide +kernel) (by kernel_rfl)) (SL.cons o_lspans (SE.call w.O o_lspans (.builtin _) (SE.builtin_ w.O (by kernel_rfl) w.g_len w.b_len (by decide +kernel) (by kernel_rfl)) (SL.cons o_lspans v_lspans_0 SL.nil (fun _ => rfl)) (fun _ => rfl) (c_lenb w) (fun _ => rfl)) SL.nil (fun _ => rfl)) (fun _ => rfl) range_ok (fun _ => rfl)) (SA.local_ (i := 5) o_lspans (by kernel_rfl)) (SX.cons (SS.asg o_lspans (SE.bin o_lspans (SE.bin o_lspans v_lspans_4 (SE.call w.O o_lspans (.builtin _) (SE.builtin_ w.O (by kernel_rfl) w.g_len w.b_len (by decide +kernel) (by kernel_rfl)) (SL.cons o_lspans (SE.idx o_lspans (SE.idx o_lspans v_lspans_0 v_lspans_5 (fun _ _ => rfl)) SE.int_ (fun _ _ => rfl)) SL.nil (fun _ => rfl)) (fun _ => rfl) (c_lenb w) (fun _ => rfl)) addF_ok) (SE.call w.O o_lspans (.builtin _) (SE.builtin_ w.O (by kernel_rfl) w.g_len w.b_len (by decide +kernel) (by kernel_rfl)) (SL.cons o_lspans (SE.idx o_lspans (SE.idx o_lspans v_lspans_0 v_lspans_5 (fun _ _ => rfl)) SE.int_ (fun _ _ => rfl)) SL.nil (fun _ => rfl)) (fun _ => rfl) (c_lenb w) (fun _ => rfl)) addF_ok) (SA.local_ (i := 6) o_lspans (by kernel_rfl)) (fun _ => rfl) (fun _ => rfl) (fun _ => rfl)) (SX.cons (SS.if_ o_lspans (SC.and2 o_lspans (SC.cmp o_lspans v_lspans_5 SE.int_ gtB_ok rfl) (SC.cmp o_lspans (SE.idx o_lspans v_lspans_1 v_lspans_5 (fun _ _ => rfl)) v_lspans_2 geB_ok rfl)) (SX.cons (SS.asg o_lspans (SE.tuple_ (SL.cons o_lspans (SE.idx o_lspans (SE.idx o_lspans v_lspans_3 (SE.un SE.int_ negF_ok) (fun _ _ => rfl)) SE.int_ (fun _ _ => rfl)) (SL.cons o_lspans v_lspans_6 SL.nil (fun _ => rfl)) (fun _ => rfl))) (SAx.back w.O o_lspans v_lspans_3 (SE.un SE.int_ negF_ok) (fun _ _ => rfl)) (fun _ => rfl) (fun _ => rfl) (fun _ => rfl)) SX.nil) (SX.cons (SS.exp_ o_lspans (SE.meth w.O o_lspans v_lspans_3 m_append (.builtin _) (SL.cons o_lspans (SE.tuple_ (SL.cons o_lspans v_lspans_4 (SL.cons o_lspans v_lspans_6 SL.nil (fun _ => rfl)) (fun _ => rfl))) SL.nil (fun _ => rfl)) (fun _ => rfl) appendF_ok (fun _ => ⟨_, eval_meth rfl (fun _ => rfl) rfl⟩)) (fun _ => rfl)) SX.nil)) (SX.cons (SS.asg o_lspans v_lspans_6 (SA.local_ (i := 4) o_lspans (by kernel_rfl)) (fun _ => rfl) (fun _ => rfl) (fun _ => rfl)) SX.nil))) SX.nil (fun _ _ => rfl)) (SX.cons (SS.ret_ o_lspans v_lspans_3) SX.nil))))
def F_lspans : CF := runBody [] 3 9 (f_lspans)
theorem c_lspans {G : GC} {cdV cdA : ClassData} (w : Facts G cdV cdA) : SCall G 4 (.ref 226) (F_lspans) := by
  have h := SCall.def_ w.O w.k_lspans (g := f_lspans) (by rw [w.e_lspans]; exact x_lspans w)
  rw [w.e_lspans] at h
  exact h
theorem v_law_0 {G : GC} {d : Nat} {p : Pos} : SE G d s_law (.Name "script" p) (eVar 0) := SE.local_ (by kernel_rfl) (by kernel_rfl) (by kernel_rfl)
theorem v_law_1 {G : GC} {d : Nat} {p : Pos} : SE G d s_law (.Name "numbers" p) (eVar 1) := SE.local_ (by kernel_rfl) (by kernel_rfl) (by kernel_rfl)
theorem v_law_2 {G : GC} {d : Nat} {p : Pos} : SE G d s_law (.Name "a" p) (eVar 2) := SE.local_ (by kernel_rfl) (by kernel_rfl) (by kernel_rfl)
theorem v_law_3 {G : GC} {d : Nat} {p : Pos} : SE G d s_law (.Name "b" p) (eVar 3) := SE.local_ (by kernel_rfl) (by kernel_rfl) (by kernel_rfl)
theorem v_law_4 {G : GC} {d : Nat} {p : Pos} : SE G d s_law (.Name "signs" p) (eVar 4) := SE.local_ (by kernel_rfl) (by kernel_rfl) (by kernel_rfl)
theorem v_law_5 {G : GC} {d : Nat} {p : Pos} : SE G d s_law (.Name "size" p) (eVar 5) := SE.local_ (by kernel_rfl) (by kernel_rfl) (by kernel_rfl)
theorem v_law_6 {G : GC} {d : Nat} {p : Pos} : SE G d s_law (.Name "chunks" p) (eVar 6) := SE.local_ (by kernel_rfl) (by kernel_rfl) (by kernel_rfl)
theorem v_law_7 {G : GC} {d : Nat} {p : Pos} : SE G d s_law (.Name "text" p) (eVar 7) := SE.local_ (by kernel_rfl) (by kernel_rfl) (by kernel_rfl)
theorem v_law_8 {G : GC} {d : Nat} {p : Pos} : SE G d s_law (.Name "ranks" p) (eVar 8) := SE.local_ (by kernel_rfl) (by kernel_rfl) (by kernel_rfl)
theorem v_law_9 {G : GC} {d : Nat} {p : Pos} : SE G d s_law (.Name "spans" p) (eVar 9) := SE.local_ (by kernel_rfl) (by kernel_rfl) (by kernel_rfl)
theorem v_law_10 {G : GC} {d : Nat} {p : Pos} : SE G d s_law (.Name "width" p) (eVar 10) := SE.local_ (by kernel_rfl) (by kernel_rfl) (by kernel_rfl)
theorem v_law_11 {G : GC} {d : Nat} {p : Pos} : SE G d s_law (.Name "drawn" p) (eVar 11) := SE.local_ (by kernel_rfl) (by kernel_rfl) (by kernel_rfl)
theorem v_law_12 {G : GC} {d : Nat} {p : Pos} : SE G d s_law (.Name "maker" p) (eVar 12) := SE.local_ (by kernel_rfl) (by kernel_rfl) (by kernel_rfl)
theorem v_law_13 {G : GC} {d : Nat} {p : Pos} : SE G d s_law (.Name "told" p) (eVar 13) := SE.local_ (by kernel_rfl) (by kernel_rfl) (by kernel_rfl)
theorem v_law_14 {G : GC} {d : Nat} {p : Pos} : SE G d s_law (.Name "cuts" p) (eVar 14) := SE.local_ (by kernel_rfl) (by kernel_rfl) (by kernel_rfl)
theorem v_law_15 {G : GC} {d : Nat} {p : Pos} : SE G d s_law (.Name "at" p) (eVar 15) := SE.local_ (by kernel_rfl) (by kernel_rfl) (by kernel_rfl)
theorem v_law_16 {G : GC} {d : Nat} {p : Pos} : SE G d s_law (.Name "row" p) (eVar 16) := SE.local_ (by kernel_rfl) (by kernel_rfl) (by kernel_rfl)
theorem v_law_17 {G : GC} {d : Nat} {p : Pos} : SE G d s_law (.Name "depth" p) (eVar 17) := SE.local_ (by kernel_rfl) (by kernel_rfl) (by kernel_rfl)
theorem v_law_18 {G : GC} {d : Nat} {p : Pos} : SE G d s_law (.Name "first" p) (eVar 18) := SE.cell_ (by kernel_rfl) (by kernel_rfl) (by kernel_rfl)
theorem v_law_19 {G : GC} {d : Nat} {p : Pos} : SE G d s_law (.Name "end" p) (eVar 19) := SE.cell_ (by kernel_rfl) (by kernel_rfl) (by kernel_rfl)
theorem v_law_20 {G : GC} {d : Nat} {p : Pos} : SE G d s_law (.Name "fits" p) (eVar 20) := SE.local_ (by kernel_rfl) (by kernel_rfl) (by kernel_rfl)
theorem v_law_21 {G : GC} {d : Nat} {p : Pos} : SE G d s_law (.Name "must" p) (eVar 21) := SE.local_ (by kernel_rfl) (by kernel_rfl) (by kernel_rfl)
def f_law (a : Addr) (ns : List Int) : FS := (fSeq (fAsg (eBin addLF (eCall (listLitF a ns) (eCons (eVar 0) eNil)) (eList (eCons (eLit (.int 0)) (eCons (eLit (.int 0)) eNil)))) (aVar 1)) (fSeq (fAsg (eBin idxF (eVar 1) (eLit (.int 0))) (aVar 2)) (fSeq (fAsg (eBin idxF (eVar 1) (eLit (.int 1))) (aVar 3)) (fSeq (fAsg (eBin idxF (eLit pv_law_SIGNS) (eBin modF (eVar 2) (eLit (.int 8)))) (aVar 4)) (fSeq (fAsg (eBin idxF (eTup (eCons (eLit (.int 0)) (eCons (eLit (.int 3)) (eCons (eLit (.int 6)) eNil)))) (eBin modF (eVar 3) (eLit (.int 3)))) (aVar 5)) (fSeq (fAsg (eCall F_lchunks (eCons (eSlice (eVar 1) (eLit (.int 2)) (eLit (.int 16))) (eCons (eIf (cCmp gtB (eVar 5) (eLit (.int 0))) (eLit (.str " ")) (eLit (.str ""))) eNil))) (aVar 6)) (fSeq (fAsg (eMeth isS joinF (eLit (.str "")) (eCons (fComp 1000 [none, none, none] (aPair (aVar 1) (aVar 2)) fTrue (eBin addF (eVar 1) (eVar 2)) (eVar 6)) eNil)) (aVar 7)) (fSeq (fAsg (eCall F_lranks (eCons (eVar 6) (eCons (eVar 4) eNil))) (aVar 8)) (fSeq (fAsg (eCall F_lspans (eCons (eVar 6) (eCons (eVar 8) (eCons (eBin addF (eLit (.int 1)) (eBin modF (eBin divF (eVar 2) (eLit (.int 8))) (eCall (lenF 200 F_len) (eCons (eVar 4) eNil)))) eNil)))) (aVar 9)) (fSeq (fAsg (eBin idxF (eTup (eCons (eUn negF (eLit (.int 1))) (eCons (eLit (.int 0)) (eCons (eLit (.int 0)) (eCons (eLit (.int 1)) (eCons (eLit (.int 2)) eNil)))))) (eBin modF (eBin divF (eVar 3) (eLit (.int 3))) (eLit (.int 5)))) (aVar 10)) (fSeq (fIf (cCmp (neB 5) (eVar 9) (eList eNil)) (fSeq (fAsg (eBin idxF (eVar 9) (eBin modF (eBin divF (eVar 3) (eLit (.int 15))) (eCall (lenF 200 F_len) (eCons (eVar 9) eNil)))) (aVar 11)) (fSeq (fAug 10 iaddF (eBin addF (eBin subF (eBin idxF (eVar 11) (eLit (.int 1))) (eBin idxF (eVar 11) (eLit (.int 0)))) (eIf (cCmp (eqB 5) (eBin idxF (eVar 11) (eLit (.int 0))) (eLit (.int 0))) (eVar 5) (eLit (.int 0))))) fSkip)) fSkip) (fSeq (fAsg (eCall (fMake (.inst 116 []) F_init_v) (eCons (eVar 5) (eCons (eVar 10) (eCons (eLit (.str " ")) (eCons (eVar 4) eNil))))) (aVar 12)) (fSeq (fExp (eMeth (isA 116) F_split (eVar 12) (eCons (eLit (.str "")) (eCons (eVar 7) (eCons (eLit (.str "")) eNil))))) (fSeq (fAsg (eMeth isS splitF (eMeth (isA 116) F_vstr (eVar 12) (eCons (eLit (.str "|")) eNil)) (eCons (eLit (.str "|")) eNil)) (aVar 13)) (fSeq (fIf (cCmp (neB 5) (eMeth isS joinF (eLit (.str "")) (eCons (eVar 13) eNil)) (eVar 7)) (fSeq (fRet (eLit (.bool false))) fSkip) fSkip) (fSeq (fAsg (eList eNil) (aVar 14)) (fSeq (fAsg (eLit (.int 0)) (aVar 15)) (fSeq (fFor 1000 (aVar 16) (eSlice (eVar 13) (eLit .none) (eUn negF (eLit (.int 1)))) (fSeq (fAug 15 iaddF (eCall (lenF 200 F_len) (eCons (eVar 16) eNil))) (fSeq (fExp (eMeth isL appendF (eVar 14) (eCons (eVar 15) eNil))) fSkip)) fSkip) (fSeq (fFor 1000 (aVar 17) (eCall rangeF (eCons (eLit (.int 1)) (eCons (eBin addF (eCall (lenF 200 F_len) (eCons (eVar 4) eNil)) (eLit (.int 1))) eNil))) (fSeq (fFor 1000 (aPair (aVar 18) (aVar 19)) (eCall F_lspans (eCons (eVar 6) (eCons (eVar 8) (eCons (eVar 17) eNil)))) (fSeq (fAsg (eBin (eCmp leB) (eBin addF (eBin subF (eVar 19) (eVar 18)) (eIf (cCmp (eqB 5) (eVar 18) (eLit (.int 0))) (eVar 5) (eLit (.int 0)))) (eVar 10)) (aVar 20)) (fSeq (fIf (cAnd (cVal truF (eVar 20)) (cCmp (neB 5) (fComp 1000 [none, none, some 19, some 18] (aVar 1) (cCmp2 ltB ltB (eVar 3) (eVar 1) (eVar 2)) (eVar 1) (eVar 14)) (eList eNil))) (fSeq (fRet (eLit (.bool false))) fSkip) fSkip) fSkip)) fSkip) fSkip) fSkip) (fSeq (fAsg (eAnd truF (eBin (eCmp (neB 5)) (eVar 7) (eLit (.str ""))) (eAnd truF (eBin (eCmp gtB) (eBin addF (eVar 5) (eCall (lenF 200 F_len) (eCons (eVar 7) eNil))) (eVar 10)) (eOr truF (eBin (eCmp gtB) (eVar 5) (eLit (.int 0))) (eBin (eCmp (neB 5)) (fComp 1000 [none, none] (aVar 1) (cCmp ltB (eVar 1) (eLit (.int 99))) (eVar 1) (eVar 8)) (eList eNil))))) (aVar 21)) (fSeq (fRet (eOr truF (eBin (eCmp gtB) (eCall (lenF 200 F_len) (eCons (eVar 13) eNil)) (eLit (.int 1))) (eUn (notF truF) (eVar 21)))) fSkip)))))))))))))))))))))
theorem x_law {G : GC} {cdV cdA : ClassData} (w : Facts G cdV cdA) (wa : FactsAll G cdV cdA) {a : Addr} {ns : List Int} (L : LitL G a ns) : SX G 8 s_law b_law (f_law a ns) :=
  (SX.cons (SS.asg o_law (SE.bin o_law (SE.call w.O o_law (.type _) (SE.builtin_ w.O (by kernel_rfl) w.g_list w.b_list (by decide +kernel) (by kernel_rfl)) (SL.cons o_law v_law_0 SL.nil (fun _ => rfl)) (fun _ => rfl) (listLit_ok L) (fun _ => rfl)) (SE.list_ (SL.cons o_law SE.int_ (SL.cons o_law SE.int_ SL.nil (fun _ => rfl)) (fun _ => rfl))) addL_ok) (SA.local_ (i := 1) o_law (by kernel_rfl)) (fun _ => rfl) (fun _ => rfl) (fun _ => rfl)) (SX.cons (SS.asg o_law (SE.idx o_law v_law_1 SE.int_ (fun _ _ => rfl)) (SA.local_ (i := 2) o_law (by kernel_rfl)) (fun _ => rfl) (fun _ => rfl) (fun _ => rfl)) (SX.cons (SS.asg o_law (SE.idx o_law v_law_1 SE.int_ (fun _ _ => rfl)) (SA.local_ (i := 3) o_law (by kernel_rfl)) (fun _ => rfl) (fun _ => rfl) (fun _ => rfl)) (SX.cons (SS.asg o_law (SE.idx o_law (SE.global_ w.O (by kernel_rfl) w.g_law_SIGNS w.r_law_SIGNS (by kernel_rfl)) (SE.bin o_law v_law_2 SE.int_ modF_ok) (fun _ _ => rfl)) (SA.local_ (i := 4) o_law (by kernel_rfl)) (fun _ => rfl) (fun _ => rfl) (fun _ => rfl)) (SX.cons (SS.asg o_law (SE.idx o_law (SE.tuple_ (SL.cons o_law SE.int_ (SL.cons o_law SE.int_ (SL.cons o_law SE.int_ SL.nil (fun _ => rfl)) (fun _ => rfl)) (fun _ => rfl))) (SE.bin o_law v_law_3 SE.int_ modF_ok) (fun _ _ => rfl)) (SA.local_ (i := 5) o_law (by kernel_rfl)) (fun _ => rfl) (fun _ => rfl) (fun _ => rfl)) (SX.cons (SS.asg o_law (SE.call w.O o_law (.own w.p_law_chunks) (SE.global_ (pv := .lit (.ref 214)) w.O (by kernel_rfl) w.g_law_chunks (fun _ _ _ => rfl) (by kernel_rfl)) (SL.cons o_law (SE.slice_ o_law v_law_1 (SP.some_ SE.int_) (SP.some_ SE.int_)) (SL.cons o_law (SE.ifexp o_law (SC.cmp o_law v_law_5 SE.int_ gtB_ok rfl) SE.str_ SE.str_) SL.nil (fun _ => rfl)) (fun _ => rfl)) (fun _ => rfl) ((c_lchunks w).mono (by decide)) (fun _ => rfl)) (SA.local_ (i := 6) o_law (by kernel_rfl)) (fun _ => rfl) (fun _ => rfl) (fun _ => rfl)) (SX.cons (SS.asg o_law (SE.meth w.O o_law SE.str_ m_join (.builtin _) (SL.cons o_law (SE.compK (by kernel_rfl) o_law v_law_6 (fun K => ⟨(SAx.pair K (SAL.local_ (i := 1) K (by kernel_rfl)) (SAL.local_ (i := 2) K (by kernel_rfl)) (fun _ => rfl)), STs.nil, (SE.bin K (SE.local_ (i := 1) (by kernel_rfl) (by kernel_rfl) (by kernel_rfl)) (SE.local_ (i := 2) (by kernel_rfl) (by kernel_rfl) (by kernel_rfl)) addF_ok)⟩) (fun _ _ => rfl)) SL.nil (fun _ => rfl)) (fun _ => rfl) join_ok (fun _ => ⟨_, eval_meth rfl (fun _ => rfl) rfl⟩)) (SA.local_ (i := 7) o_law (by kernel_rfl)) (fun _ => rfl) (fun _ => rfl) (fun _ => rfl)) (SX.cons (SS.asg o_law (SE.call w.O o_law (.own w.p_law_ranks) (SE.global_ (pv := .lit (.ref 219)) w.O (by kernel_rfl) w.g_law_ranks (fun _ _ _ => rfl) (by kernel_rfl)) (SL.cons o_law v_law_6 (SL.cons o_law v_law_4 SL.nil (fun _ => rfl)) (fun _ => rfl)) (fun _ => rfl) ((c_lranks w).mono (by decide)) (fun _ => rfl)) (SA.local_ (i := 8) o_law (by kernel_rfl)) (fun _ => rfl) (fun _ => rfl) (fun _ => rfl)) (SX.cons (SS.asg o_law (SE.call w.O o_law (.own w.p_law_spans) (SE.global_ (pv := .lit (.ref 226)) w.O (by kernel_rfl) w.g_law_spans (fun _ _ _ => rfl) (by kernel_rfl)) (SL.cons o_law v_law_6 (SL.cons o_law v_law_8 (SL.cons o_law (SE.bin o_law SE.int_ (SE.bin o_law (SE.bin o_law v_law_2 SE.int_ divF_ok) (SE.call w.O o_law (.builtin _) (SE.builtin_ w.O (by kernel_rfl) w.g_len w.b_len (by decide +kernel) (by kernel_rfl)) (SL.cons o_law v_law_4 SL.nil (fun _ => rfl)) (fun _ => rfl) ((c_lenb w).mono (by decide)) (fun _ => rfl)) modF_ok) addF_ok) SL.nil (fun _ => rfl)) (fun _ => rfl)) (fun _ => rfl)) (fun _ => rfl) ((c_lspans w).mono (by decide)) (fun _ => rfl)) (SA.local_ (i := 9) o_law (by kernel_rfl)) (fun _ => rfl) (fun _ => rfl) (fun _ => rfl)) (SX.cons (SS.asg o_law (SE.idx o_law (SE.tuple_ (SL.cons o_law (SE.un SE.int_ negF_ok) (SL.cons o_law SE.int_ (SL.cons o_law SE.int_ (SL.cons o_law SE.int_ (SL.cons o_law SE.int_ SL.nil (fun _ => rfl)) (fun _ => rfl)) (fun _ => rfl)) (fun _ => rfl)) (fun _ => rfl))) (SE.bin o_law (SE.bin o_law v_law_3 SE.int_ divF_ok) SE.int_ modF_ok) (fun _ _ => rfl)) (SA.local_ (i := 10) o_law (by kernel_rfl)) (fun _ => rfl) (fun _ => rfl) (fun _ => rfl)) (SX.cons (SS.if_ o_law (SC.cmp o_law v_law_9 (SE.list_ SL.nil) (neB_ok (by decide)) rfl) (SX.cons (SS.asg o_law (SE.idx o_law v_law_9 (SE.bin o_law (SE.bin o_law v_law_3 SE.int_ divF_ok) (SE.call w.O o_law (.builtin _) (SE.builtin_ w.O (by kernel_rfl) w.g_len w.b_len (by decide +kernel) (by kernel_rfl)) (SL.cons o_law v_law_9 SL.nil (fun _ => rfl)) (fun _ => rfl) ((c_lenb w).mono (by decide)) (fun _ => rfl)) modF_ok) (fun _ _ => rfl)) (SA.local_ (i := 11) o_law (by kernel_rfl)) (fun _ => rfl) (fun _ => rfl) (fun _ => rfl)) (SX.cons (SS.aug o_law (by kernel_rfl) (SE.bin o_law (SE.bin o_law (SE.idx o_law v_law_11 SE.int_ (fun _ _ => rfl)) (SE.idx o_law v_law_11 SE.int_ (fun _ _ => rfl)) subF_ok) (SE.ifexp o_law (SC.cmp o_law (SE.idx o_law v_law_11 SE.int_ (fun _ _ => rfl)) SE.int_ (eqB_ok (by decide)) rfl) v_law_5 SE.int_) addF_ok) iaddF_ok) SX.nil)) SX.nil) (SX.cons (SS.asg o_law (SE.call w.O o_law (.own w.p_ValueFormatter) (SE.global_ (pv := .lit (.ref 116)) w.O (by kernel_rfl) w.g_ValueFormatter (fun _ _ _ => rfl) (by kernel_rfl)) (SL.cons o_law v_law_5 (SL.cons o_law v_law_10 (SL.cons o_law SE.str_ (SL.cons o_law v_law_4 SL.nil (fun _ => rfl)) (fun _ => rfl)) (fun _ => rfl)) (fun _ => rfl)) (fun _ => rfl) ((c_vf w).mono (by decide)) (fun _ => rfl)) (SA.local_ (i := 12) o_law (by kernel_rfl)) (fun _ => rfl) (fun _ => rfl) (fun _ => rfl)) (SX.cons (SS.exp_ o_law (SE.meth w.O o_law v_law_12 w.m_ascii_split (.own w.p_ascii_split) (SL.cons o_law SE.str_ (SL.cons o_law v_law_7 (SL.cons o_law SE.str_ SL.nil (fun _ => rfl)) (fun _ => rfl)) (fun _ => rfl)) (fun _ => rfl) (c_split w wa) (fun _ => ⟨_, eval_meth rfl (fun _ => rfl) rfl⟩)) (fun _ => rfl)) (SX.cons (SS.asg o_law (SE.meth w.O o_law (SE.meth w.O o_law v_law_12 w.m_str (.own w.p_str) (SL.cons o_law SE.str_ SL.nil (fun _ => rfl)) (fun _ => rfl) ((c_vstr w).mono (by decide)) (fun _ => ⟨_, eval_meth rfl (fun _ => rfl) rfl⟩)) m_split (.builtin _) (SL.cons o_law SE.str_ SL.nil (fun _ => rfl)) (fun _ => rfl) split_ok (fun _ => ⟨_, eval_meth rfl (fun _ => rfl) rfl⟩)) (SA.local_ (i := 13) o_law (by kernel_rfl)) (fun _ => rfl) (fun _ => rfl) (fun _ => rfl)) (SX.cons (SS.if_ o_law (SC.cmp o_law (SE.meth w.O o_law SE.str_ m_join (.builtin _) (SL.cons o_law v_law_13 SL.nil (fun _ => rfl)) (fun _ => rfl) join_ok (fun _ => ⟨_, eval_meth rfl (fun _ => rfl) rfl⟩)) v_law_7 (neB_ok (by decide)) rfl) (SX.cons (SS.ret_ o_law SE.bool_) SX.nil) SX.nil) (SX.cons (SS.asg o_law (SE.list_ SL.nil) (SA.local_ (i := 14) o_law (by kernel_rfl)) (fun _ => rfl) (fun _ => rfl) (fun _ => rfl)) (SX.cons (SS.asg o_law SE.int_ (SA.local_ (i := 15) o_law (by kernel_rfl)) (fun _ => rfl) (fun _ => rfl) (fun _ => rfl)) (SX.cons (SS.for_ o_law (SE.slice_ o_law v_law_13 SP.none_ (SP.some_ (SE.un SE.int_ negF_ok))) (SA.local_ (i := 16) o_law (by kernel_rfl)) (SX.cons (SS.aug o_law (by kernel_rfl) (SE.call w.O o_law (.builtin _) (SE.builtin_ w.O (by kernel_rfl) w.g_len w.b_len (by decide +kernel) (by kernel_rfl)) (SL.cons o_law v_law_16 SL.nil (fun _ => rfl)) (fun _ => rfl) ((c_lenb w).mono (by decide)) (fun _ => rfl)) iaddF_ok) (SX.cons (SS.exp_ o_law (SE.meth w.O o_law v_law_14 m_append (.builtin _) (SL.cons o_law v_law_15 SL.nil (fun _ => rfl)) (fun _ => rfl) appendF_ok (fun _ => ⟨_, eval_meth rfl (fun _ => rfl) rfl⟩)) (fun _ => rfl)) SX.nil)) SX.nil (fun _ _ => rfl)) (SX.cons (SS.for_ o_law (SE.call w.O o_law (.type _) (SE.builtin_ w.O (by kernel_rfl) w.g_range w.b_range (by decide +kernel) (by kernel_rfl)) (SL.cons o_law SE.int_ (SL.cons o_law (SE.bin o_law (SE.call w.O o_law (.builtin _) (SE.builtin_ w.O (by kernel_rfl) w.g_len w.b_len (by decide +kernel) (by kernel_rfl)) (SL.cons o_law v_law_4 SL.nil (fun _ => rfl)) (fun _ => rfl) ((c_lenb w).mono (by decide)) (fun _ => rfl)) SE.int_ addF_ok) SL.nil (fun _ => rfl)) (fun _ => rfl)) (fun _ => rfl) range_ok (fun _ => rfl)) (SA.local_ (i := 17) o_law (by kernel_rfl)) (SX.cons (SS.for_ o_law (SE.call w.O o_law (.own w.p_law_spans) (SE.global_ (pv := .lit (.ref 226)) w.O (by kernel_rfl) w.g_law_spans (fun _ _ _ => rfl) (by kernel_rfl)) (SL.cons o_law v_law_6 (SL.cons o_law v_law_8 (SL.cons o_law v_law_17 SL.nil (fun _ => rfl)) (fun _ => rfl)) (fun _ => rfl)) (fun _ => rfl) ((c_lspans w).mono (by decide)) (fun _ => rfl)) (SAx.pair o_law (SA.cell_ (i := 18) o_law (by kernel_rfl)) (SA.cell_ (i := 19) o_law (by kernel_rfl)) (fun _ => rfl)) (SX.cons (SS.asg o_law (SE.cmp o_law (SE.bin o_law (SE.bin o_law v_law_19 v_law_18 subF_ok) (SE.ifexp o_law (SC.cmp o_law v_law_18 SE.int_ (eqB_ok (by decide)) rfl) v_law_5 SE.int_) addF_ok) v_law_10 leB_ok rfl) (SA.local_ (i := 20) o_law (by kernel_rfl)) (fun _ => rfl) (fun _ => rfl) (fun _ => rfl)) (SX.cons (SS.if_ o_law (SC.and2 o_law (SC.val v_law_20 truF_ok (fun _ _ => rfl)) (SC.cmp o_law (SE.compK (by kernel_rfl) o_law v_law_14 (fun K => ⟨(SAL.local_ (i := 1) K (by kernel_rfl)), (STs.one (SC.cmp2 K (SE.cell_ (i := 3) (by kernel_rfl) (by kernel_rfl) (by kernel_rfl)) (SE.local_ (i := 1) (by kernel_rfl) (by kernel_rfl) (by kernel_rfl)) (SE.cell_ (i := 2) (by kernel_rfl) (by kernel_rfl) (by kernel_rfl)) ltB_ok ltB_ok rfl)), (SE.local_ (i := 1) (by kernel_rfl) (by kernel_rfl) (by kernel_rfl))⟩) (fun _ _ => rfl)) (SE.list_ SL.nil) (neB_ok (by decide)) rfl)) (SX.cons (SS.ret_ o_law SE.bool_) SX.nil) SX.nil) SX.nil)) SX.nil (fun _ _ => rfl)) SX.nil) SX.nil (fun _ _ => rfl)) (SX.cons (SS.asg o_law (SE.and3 o_law truF_ok truF_ok (SE.cmp o_law v_law_7 SE.str_ (neB_ok (by decide)) rfl) (SE.cmp o_law (SE.bin o_law v_law_5 (SE.call w.O o_law (.builtin _) (SE.builtin_ w.O (by kernel_rfl) w.g_len w.b_len (by decide +kernel) (by kernel_rfl)) (SL.cons o_law v_law_7 SL.nil (fun _ => rfl)) (fun _ => rfl) ((c_lenb w).mono (by decide)) (fun _ => rfl)) addF_ok) v_law_10 gtB_ok rfl) (SE.or_ o_law truF_ok (SE.cmp o_law v_law_5 SE.int_ gtB_ok rfl) (SE.cmp o_law (SE.compK (by kernel_rfl) o_law v_law_8 (fun K => ⟨(SAL.local_ (i := 1) K (by kernel_rfl)), (STs.one (SC.cmp K (SE.local_ (i := 1) (by kernel_rfl) (by kernel_rfl) (by kernel_rfl)) SE.int_ ltB_ok rfl)), (SE.local_ (i := 1) (by kernel_rfl) (by kernel_rfl) (by kernel_rfl))⟩) (fun _ _ => rfl)) (SE.list_ SL.nil) (neB_ok (by decide)) rfl))) (SA.local_ (i := 21) o_law (by kernel_rfl)) (fun _ => rfl) (fun _ => rfl) (fun _ => rfl)) (SX.cons (SS.ret_ o_law (SE.or_ o_law truF_ok (SE.cmp o_law (SE.call w.O o_law (.builtin _) (SE.builtin_ w.O (by kernel_rfl) w.g_len w.b_len (by decide +kernel) (by kernel_rfl)) (SL.cons o_law v_law_13 SL.nil (fun _ => rfl)) (fun _ => rfl) ((c_lenb w).mono (by decide)) (fun _ => rfl)) SE.int_ gtB_ok rfl) (SE.un v_law_21 (notF_ok truF_ok)))) SX.nil)))))))))))))))))))))
def F_law (a : Addr) (ns : List Int) : CF := runBody [] 1 30 (f_law a ns)
theorem c_law {G : GC} {cdV cdA : ClassData} (w : Facts G cdV cdA) (wa : FactsAll G cdV cdA) {a : Addr} {ns : List Int} (L : LitL G a ns) : SCall G 9 (.ref 231) (F_law a ns) := by
  have h := SCall.def_ w.O w.k_law (g := f_law a ns) (by rw [w.e_law]; exact x_law w wa L)
  rw [w.e_law] at h
  exact h
end Mine
end
section
open PySem PySem.W PySem.Calls PyProof.Rows
set_option maxRecDepth 100000
set_option linter.unusedVariables false
set_option linter.unusedSectionVars false
namespace Mine
variable [Ban]
def fldsOf (a : Addr) : List Str := if a = 116 then ["_maxlen", "_continuation_ws", "_continuation_ws_len", "_splitchars", "_lines", "_current_line"] else if a = 200 then ["_initial_size"] else []
structure KF (K : Frag) : Prop where
  pv1 : clsChk K 116 [.ref 116, .type "object"] = true
  pa1 : clsChk K 200 [.ref 200, .type "list", .type "object"] = true
  pv2 : findIn K (.ref 116) "__getattribute__" = some (some (.builtin "object.__getattribute__"))
  pa2 : findIn K (.ref 200) "__getattribute__" = some (some (.builtin "list.__getattribute__"))
  pa3 : mroIn K 200 (.type "list") = some true
  ac1 : mroIn K 200 (.type "collections.deque") = some false
  ac2 : findIn K (.ref 200) "__getitem__" = some (some (.builtin "list.__getitem__"))
  ac3 : findIn K (.ref 200) "__setitem__" = some (some (.builtin "list.__setitem__"))
  ac4 : findIn K (.ref 200) "__iter__" = some (some (.builtin "list.__iter__"))
  ac5 : findIn K (.ref 200) "__bool__" = some none
  hop : nsIn K cStatics "thirdparty.any" = some none
  sub : mroIn K 200 (.ref 200) = some true
  nomod : mroIn K 200 (.type "module") = some false
  typ : typeIn K (.ref 200) = some (.type "type")
  qnA : (cdOf K 200).qualname = "_Accumulator"
  g_super : nsIn K mainGlobals "super" = some none
  fa_initial_size : findIn K (.ref 200) "_initial_size" = some none
  ta_initial_size : takerIn K 200 "_initial_size" = some none
  cS_init : supChk K PySem.Challenge.pw_dw5002_04.main.file 200 137 = true
  bS_init : (fdAt K 137).body = .stmts b_init_a
  al_init : ks_superIn K 200 200 "__init__" = some (some (.builtin "list.__init__"))
  pk_init : ∀ (S : Setting) (v w : Value), peek K S (bindArgs (fdAt K 137) ⟨[v, w], []⟩) = some [(("self" : Str), v), (("initial_size" : Str), w)]
  e_init_a : (fdAt K 137).scope = s_init_a
  mk_acc : makesLIn K 200 = true
  fi_acc : findIn K (.ref 200) "__init__" = some (some (.ref 137))
  ty_init : typeIn K (.ref 137) = some (.type "function")
  fm_appendA : findIn K (.ref 200) "append" = some (some (.builtin "list.append"))
  tm_appendA : typeIn K (.builtin "list.append") = some (.type "method_descriptor")
  ck_push : fnChk K 144 ["self", "fws", "string"] = true
  bk_push : (fdAt K 144).body = .stmts b_push
  bp_k_push : ∀ (S : Setting) (v1 v2 v3 : Value), peek K S (bindArgs (fdAt K 144) ⟨[v1, v2, v3], []⟩) = some [(("self" : Str), v1), (("fws" : Str), v2), (("string" : Str), v3)]
  e_push : (fdAt K 144).scope = s_push
  ck_pop_from : fnChk K 152 ["self", "i"] = true
  bk_pop_from : (fdAt K 152).body = .stmts b_pop_from
  bp_k_pop_from : ∀ (S : Setting) (v1 v2 : Value), peek K S (bindArgs (fdAt K 152) ⟨[v1, v2], []⟩) = some [(("self" : Str), v1), (("i" : Str), v2)]
  e_pop_from : (fdAt K 152).scope = s_pop_from
  cS_count : supChk K PySem.Challenge.pw_dw5002_04.main.file 200 197 = true
  bS_count : (fdAt K 197).body = .stmts b_part_count
  al_len : ks_superIn K 200 200 "__len__" = some (some (.builtin "list.__len__"))
  bi_count : ∀ v, bindArgs (fdAt K 197) ⟨[v], []⟩ = pure [(("self" : Str), v)]
  cS_pop : supChk K PySem.Challenge.pw_dw5002_04.main.file 200 160 = true
  bS_pop : (fdAt K 160).body = .stmts b_pop
  al_pop : ks_superIn K 200 200 "pop" = some (some (.builtin "list.pop"))
  bi_pop : ∀ v, bindArgs (fdAt K 160) ⟨[v], []⟩ = pure [(("self" : Str), v)]
  e_pop : (fdAt K 160).scope = s_pop
  fi_count : findIn K (.ref 200) "part_count" = some (some (.ref 197))
  ty_count : typeIn K (.ref 197) = some (.type "function")
  p_part_count : keepIn K (.ref 197) = true
  ck_len : fnChk K 167 ["self"] = true
  bk_len : (fdAt K 167).body = .stmts b_len
  bp_k_len : ∀ (S : Setting) (v1 : Value), peek K S (bindArgs (fdAt K 167) ⟨[v1], []⟩) = some [(("self" : Str), v1)]
  e_len : (fdAt K 167).scope = s_len
  cd_len : (fdAt K 167).code = .ref 166
  qn_len : (fdAt K 167).qualname ++ ".<locals>." ++ "<genexpr>" = t_len.qual
  g_sum : nsIn K mainGlobals "sum" = some none
  g_len : nsIn K mainGlobals "len" = some none
  fi_len : findIn K (.ref 200) "__len__" = some (some (.ref 167))
  ty_len : typeIn K (.ref 167) = some (.type "function")
  ck_str : fnChk K 174 ["self"] = true
  bk_str : (fdAt K 174).body = .stmts b_str
  bp_k_str : ∀ (S : Setting) (v1 : Value), peek K S (bindArgs (fdAt K 174) ⟨[v1], []⟩) = some [(("self" : Str), v1)]
  e_str : (fdAt K 174).scope = s_str
  cd_str : (fdAt K 174).code = .ref 173
  qn_str : (fdAt K 174).qualname ++ ".<locals>." ++ "<genexpr>" = t_str.qual
  g_EMPTY : nsStr K "EMPTYSTRING" "" = true
  fi_str : findIn K (.ref 200) "__str__" = some (some (.ref 174))
  fn_str : isFn K (.ref 174) = true
  ck_reset : fnChk K 182 ["self", "startval"] = true
  bk_reset : (fdAt K 182).body = .stmts b_reset
  bp_k_reset : ∀ (S : Setting) (v1 : Value), peek K S (bindArgs (fdAt K 182) ⟨[v1], []⟩) = some [(("self" : Str), v1), (("startval" : Str), .none)]
  e_reset : (fdAt K 182).scope = s_reset
  ck_reset1 : fnChk K 182 ["self", "startval"] = true
  bk_reset1 : (fdAt K 182).body = .stmts b_reset
  bp_k_reset1 : ∀ (S : Setting) (v1 v2 : Value), peek K S (bindArgs (fdAt K 182) ⟨[v1, v2], []⟩) = some [(("self" : Str), v1), (("startval" : Str), v2)]
  g_str : nsIn K mainGlobals "str" = some none
  ck_is_onlyws : fnChk K 189 ["self"] = true
  bk_is_onlyws : (fdAt K 189).body = .stmts b_is_onlyws
  bp_k_is_onlyws : ∀ (S : Setting) (v1 : Value), peek K S (bindArgs (fdAt K 189) ⟨[v1], []⟩) = some [(("self" : Str), v1)]
  e_is_onlyws : (fdAt K 189).scope = s_is_onlyws
  g_Accumulator : nsIn K mainGlobals "_Accumulator" = some (some (.ref 200))
  p_Accumulator : keepIn K (.ref 200) = true
  fa_current_line : findIn K (.ref 116) "_current_line" = some none
  ta_current_line : takerIn K 116 "_current_line" = some none
  fa_lines : findIn K (.ref 116) "_lines" = some none
  ta_lines : takerIn K 116 "_lines" = some none
  fa_splitchars : findIn K (.ref 116) "_splitchars" = some none
  ta_splitchars : takerIn K 116 "_splitchars" = some none
  fa_continuation_ws_len : findIn K (.ref 116) "_continuation_ws_len" = some none
  ta_continuation_ws_len : takerIn K 116 "_continuation_ws_len" = some none
  fa_continuation_ws : findIn K (.ref 116) "_continuation_ws" = some none
  ta_continuation_ws : takerIn K 116 "_continuation_ws" = some none
  fa_maxlen : findIn K (.ref 116) "_maxlen" = some none
  ta_maxlen : takerIn K 116 "_maxlen" = some none
  ck_init_v : fnChk K 57 ["self", "headerlen", "maxlen", "continuation_ws", "splitchars"] = true
  bk_init_v : (fdAt K 57).body = .stmts b_init_v
  bp_k_init_v : ∀ (S : Setting) (v1 v2 v3 v4 v5 : Value), peek K S (bindArgs (fdAt K 57) ⟨[v1, v2, v3, v4, v5], []⟩) = some [(("self" : Str), v1), (("headerlen" : Str), v2), (("maxlen" : Str), v3), (("continuation_ws" : Str), v4), (("splitchars" : Str), v5)]
  e_init_v : (fdAt K 57).scope = s_init_v
  mk_vf : makesIn K 116 = true
  fi_vf : findIn K (.ref 116) "__init__" = some (some (.ref 57))
  ty_vf : typeIn K (.ref 57) = some (.type "function")
  fm_reset : findIn K (.ref 200) "reset" = some (some (.ref 182))
  tm_reset : typeIn K (.ref 182) = some (.type "function")
  p_reset : keepIn K (.ref 182) = true
  fm_is_onlyws : findIn K (.ref 200) "is_onlyws" = some (some (.ref 189))
  tm_is_onlyws : typeIn K (.ref 189) = some (.type "function")
  p_is_onlyws : keepIn K (.ref 189) = true
  fm_push : findIn K (.ref 200) "push" = some (some (.ref 144))
  tm_push : typeIn K (.ref 144) = some (.type "function")
  p_push : keepIn K (.ref 144) = true
  s1_push : findIn K (.ref 200) "push" = some (some (.ref 144))
  s2_push : isFn K (.ref 144) = true
  s3_push : specialIn K (.ref 144) "__get__" = some (some (.builtin "function.__get__"))
  s4_push : takesIn K (.ref 144) = some false
  s6_push : fnIn K 144 = true
  fm_pop : findIn K (.ref 200) "pop" = some (some (.ref 160))
  tm_pop : typeIn K (.ref 160) = some (.type "function")
  p_pop : keepIn K (.ref 160) = true
  ck_newline : fnChk K 78 ["self"] = true
  bk_newline : (fdAt K 78).body = .stmts b_newline
  bp_k_newline : ∀ (S : Setting) (v1 : Value), peek K S (bindArgs (fdAt K 78) ⟨[v1], []⟩) = some [(("self" : Str), v1)]
  e_newline : (fdAt K 78).scope = s_newline
  fm_newline : findIn K (.ref 116) "newline" = some (some (.ref 78))
  tm_newline : typeIn K (.ref 78) = some (.type "function")
  p_newline : keepIn K (.ref 78) = true
  ck_vstr : fnChk K 64 ["self", "linesep"] = true
  bk_vstr : (fdAt K 64).body = .stmts b_vstr
  bp_k_vstr : ∀ (S : Setting) (v1 v2 : Value), peek K S (bindArgs (fdAt K 64) ⟨[v1, v2], []⟩) = some [(("self" : Str), v1), (("linesep" : Str), v2)]
  e_vstr : (fdAt K 64).scope = s_vstr
  fm_pop_from : findIn K (.ref 200) "pop_from" = some (some (.ref 152))
  tm_pop_from : typeIn K (.ref 152) = some (.type "function")
  p_pop_from : keepIn K (.ref 152) = true
  g_range : nsIn K mainGlobals "range" = some none
  fm_part_count : findIn K (.ref 200) "part_count" = some (some (.ref 197))
  tm_part_count : typeIn K (.ref 197) = some (.type "function")
  ck_chunk : fnChk K 113 ["self", "fws", "string"] = true
  bk_chunk : (fdAt K 113).body = .stmts b_chunk
  bp_k_chunk : ∀ (S : Setting) (v1 v2 v3 : Value), peek K S (bindArgs (fdAt K 113) ⟨[v1, v2, v3], []⟩) = some [(("self" : Str), v1), (("fws" : Str), v2), (("string" : Str), v3)]
  e_chunk : (fdAt K 113).scope = s_chunk
  g_zip : nsIn K mainGlobals "zip" = some none
  g_iter : nsIn K mainGlobals "iter" = some none
  fm_append_chunk : findIn K (.ref 116) "_append_chunk" = some (some (.ref 113))
  tm_append_chunk : typeIn K (.ref 113) = some (.type "function")
  p_append_chunk : keepIn K (.ref 113) = true
  g_twin_re_1 : nsIn K mainGlobals "_twin_re_1" = some (some (.ref 43))
  pat : patChk K 43 42 = true
  ck_split : fnChk K 106 ["self", "fws", "string", "splitchars"] = true
  bk_split : (fdAt K 106).body = .stmts b_split
  bp_k_split : ∀ (S : Setting) (v1 v2 v3 v4 : Value), peek K S (bindArgs (fdAt K 106) ⟨[v1, v2, v3, v4], []⟩) = some [(("self" : Str), v1), (("fws" : Str), v2), (("string" : Str), v3), (("splitchars" : Str), v4)]
  e_split : (fdAt K 106).scope = s_split
  g_law_BLANKS : nsIn K mainGlobals "_law_BLANKS" = some (some (.ref 206))
  r_law_BLANKS : tupChk K 206 [" ", "  ", "\t", " \t"] = true
  g_law_ENDS : nsIn K mainGlobals "_law_ENDS" = some (some (.ref 207))
  r_law_ENDS : tupChk K 207 ["", ",", ";"] = true
  ck_lchunks : fnChk K 214 ["numbers", "opening"] = true
  bk_lchunks : (fdAt K 214).body = .stmts b_lchunks
  bp_k_lchunks : ∀ (S : Setting) (v1 v2 : Value), peek K S (bindArgs (fdAt K 214) ⟨[v1, v2], []⟩) = some [(("numbers" : Str), v1), (("opening" : Str), v2)]
  e_lchunks : (fdAt K 214).scope = s_lchunks
  ck_lranks : fnChk K 219 ["chunks", "signs"] = true
  bk_lranks : (fdAt K 219).body = .stmts b_lranks
  bp_k_lranks : ∀ (S : Setting) (v1 v2 : Value), peek K S (bindArgs (fdAt K 219) ⟨[v1, v2], []⟩) = some [(("chunks" : Str), v1), (("signs" : Str), v2)]
  e_lranks : (fdAt K 219).scope = s_lranks
  ck_lspans : fnChk K 226 ["chunks", "ranks", "depth"] = true
  bk_lspans : (fdAt K 226).body = .stmts b_lspans
  bp_k_lspans : ∀ (S : Setting) (v1 v2 v3 : Value), peek K S (bindArgs (fdAt K 226) ⟨[v1, v2, v3], []⟩) = some [(("chunks" : Str), v1), (("ranks" : Str), v2), (("depth" : Str), v3)]
  e_lspans : (fdAt K 226).scope = s_lspans
  g_law_spans : nsIn K mainGlobals "_law_spans" = some (some (.ref 226))
  p_law_spans : keepIn K (.ref 226) = true
  fm_str : findIn K (.ref 116) "_str" = some (some (.ref 64))
  tm_str : typeIn K (.ref 64) = some (.type "function")
  p_str : keepIn K (.ref 64) = true
  fm_ascii_split : findIn K (.ref 116) "_ascii_split" = some (some (.ref 106))
  tm_ascii_split : typeIn K (.ref 106) = some (.type "function")
  p_ascii_split : keepIn K (.ref 106) = true
  g_ValueFormatter : nsIn K mainGlobals "_ValueFormatter" = some (some (.ref 116))
  p_ValueFormatter : keepIn K (.ref 116) = true
  g_law_ranks : nsIn K mainGlobals "_law_ranks" = some (some (.ref 219))
  p_law_ranks : keepIn K (.ref 219) = true
  g_law_chunks : nsIn K mainGlobals "_law_chunks" = some (some (.ref 214))
  p_law_chunks : keepIn K (.ref 214) = true
  g_law_SIGNS : nsIn K mainGlobals "_law_SIGNS" = some (some (.ref 205))
  r_law_SIGNS : tupChk K 205 [";, ", ", ;", " ;,", ";, \t", ",\t ", "\t ;", ";,", "; "] = true
  g_list : nsIn K mainGlobals "list" = some none
  ck_law : fnChk K 231 ["script"] = true
  bk_law : (fdAt K 231).body = .stmts b_law
  bp_k_law : ∀ (S : Setting) (v1 : Value), peek K S (bindArgs (fdAt K 231) ⟨[v1], []⟩) = some [(("script" : Str), v1)]
  e_law : (fdAt K 231).scope = s_law
theorem facts_of {G : GC} (O : GOk G) (k : KF G.K) (hp : G.prog = PySem.Challenge.pw_dw5002_04) (hfl : G.flds = fldsOf) (ht : G.tabs = [t_len, t_str]) (BM : BMainOk G) (hb : ∀ x : Str, x ≠ "__name__" → G.mb x = bootBuiltins x) :
    Facts G (cdOf G.K 116) (cdOf G.K 200) := by
  have PV : PlainCls G.K 116 (cdOf G.K 116) := plain_obj k.pv1 k.pv2
  have AC : AccCls G.K 200 (cdOf G.K 200) := ⟨plain_lst k.pa1 k.pa2 k.pa3, k.pa3, k.ac1, k.ac2, k.ac3, k.ac4, k.ac5⟩
  have ap : TabsApart G := by
    intro t h1 t' h2 e
    rw [ht] at h1 h2
    simp only [List.mem_cons, List.not_mem_nil, or_false] at h1 h2
    rcases h1 with rfl | rfl <;> rcases h2 with rfl | rfl <;> first | rfl | exact absurd e (by decide)
  exact {
    O := O
    PV := PV
    AC := AC
    BM := BM
    ap := ap
    hop := k.hop
    a_initial_size := ⟨AC.P, ⟨k.fa_initial_size, k.ta_initial_size⟩, by rw [hfl]; rfl, by rw [hfl]; decide +kernel, by rw [hfl]; decide⟩
    S_init := SupOk.mk0 (by rw [hp]; exact k.cS_init) k.bS_init (mgn O k.g_super) ((hb "super" (by decide +kernel)).trans Boot.«super») (by rw [hp]; kernel_rfl) k.sub k.nomod k.typ
    al_init := k.al_init
    bi_init := fun s v w X => kp_binds X fun S => k.pk_init S v w
    e_init_a := k.e_init_a
    mk_acc := k.mk_acc
    fi_acc := k.fi_acc
    ty_init := k.ty_init
    na_acc := na_list 200
    m_appendA := SGet.cls O AC.P k.fm_appendA k.tm_appendA rfl (by rw [hfl]; decide +kernel)
    k_push := DefOk.mk0 O k.ck_push k.bk_push (by
      intro vs h
      obtain ⟨v1, v2, v3, rfl⟩ := len_3 (by simpa using h)
      exact ⟨[], fun S => k.bp_k_push S v1 v2 v3, fun _ _ => rfl⟩)
    e_push := k.e_push
    k_pop_from := DefOk.mk0 O k.ck_pop_from k.bk_pop_from (by
      intro vs h
      obtain ⟨v1, v2, rfl⟩ := len_2 (by simpa using h)
      exact ⟨[], fun S => k.bp_k_pop_from S v1 v2, fun _ _ => rfl⟩)
    e_pop_from := k.e_pop_from
    S_count := SupOk.mk0 (by rw [hp]; exact k.cS_count) k.bS_count (mgn O k.g_super) ((hb "super" (by decide +kernel)).trans Boot.«super») (by rw [hp]; kernel_rfl) k.sub k.nomod k.typ
    al_len := k.al_len
    bi_count := k.bi_count
    S_pop := SupOk.mk0 (by rw [hp]; exact k.cS_pop) k.bS_pop (mgn O k.g_super) ((hb "super" (by decide +kernel)).trans Boot.«super») (by rw [hp]; kernel_rfl) k.sub k.nomod k.typ
    al_pop := k.al_pop
    bi_pop := k.bi_pop
    e_pop := k.e_pop
    fi_count := k.fi_count
    ty_count := k.ty_count
    nf_count := by rw [hfl]; decide +kernel
    p_part_count := k.p_part_count
    ck_pop := fun x sig e => ck_pop k.qnA x sig e
    k_len := DefOk.mk0 O k.ck_len k.bk_len (by
      intro vs h
      obtain ⟨v1, rfl⟩ := len_1 (by simpa using h)
      exact ⟨[], fun S => k.bp_k_len S v1, fun _ _ => rfl⟩)
    e_len := k.e_len
    cd_len := k.cd_len
    qn_len := k.qn_len
    ht_len := by rw [ht]; simp
    g_sum := mgn O k.g_sum
    b_sum := (hb "sum" (by decide +kernel)).trans Boot.«sum»
    g_len := mgn O k.g_len
    b_len := (hb "len" (by decide +kernel)).trans Boot.«len»
    fi_len := k.fi_len
    ty_len := k.ty_len
    k_str := DefOk.mk0 O k.ck_str k.bk_str (by
      intro vs h
      obtain ⟨v1, rfl⟩ := len_1 (by simpa using h)
      exact ⟨[], fun S => k.bp_k_str S v1, fun _ _ => rfl⟩)
    e_str := k.e_str
    cd_str := k.cd_str
    qn_str := k.qn_str
    ht_str := by rw [ht]; simp
    g_EMPTY := mgs O k.g_EMPTY
    fi_str := k.fi_str
    fn_str := k.fn_str
    k_reset := DefOk.mk0 O k.ck_reset k.bk_reset (by
      intro vs h
      obtain ⟨v1, rfl⟩ := len_1 (by simpa using h)
      exact ⟨[.none], fun S => k.bp_k_reset S v1, fun _ _ => ⟨_, _, rfl, rfl, rfl⟩⟩)
    e_reset := k.e_reset
    k_reset1 := DefOk.mk0 O k.ck_reset1 k.bk_reset1 (by
      intro vs h
      obtain ⟨v1, v2, rfl⟩ := len_2 (by simpa using h)
      exact ⟨[], fun S => k.bp_k_reset1 S v1 v2, fun _ _ => rfl⟩)
    g_str := mgn O k.g_str
    b_str := (hb "str" (by decide +kernel)).trans Boot.«str»
    k_is_onlyws := DefOk.mk0 O k.ck_is_onlyws k.bk_is_onlyws (by
      intro vs h
      obtain ⟨v1, rfl⟩ := len_1 (by simpa using h)
      exact ⟨[], fun S => k.bp_k_is_onlyws S v1, fun _ _ => rfl⟩)
    e_is_onlyws := k.e_is_onlyws
    g_Accumulator := mgv O k.g_Accumulator
    p_Accumulator := k.p_Accumulator
    a_current_line := ⟨PV, ⟨k.fa_current_line, k.ta_current_line⟩, by rw [hfl]; rfl, by rw [hfl]; decide +kernel, by rw [hfl]; decide⟩
    a_lines := ⟨PV, ⟨k.fa_lines, k.ta_lines⟩, by rw [hfl]; rfl, by rw [hfl]; decide +kernel, by rw [hfl]; decide⟩
    a_splitchars := ⟨PV, ⟨k.fa_splitchars, k.ta_splitchars⟩, by rw [hfl]; rfl, by rw [hfl]; decide +kernel, by rw [hfl]; decide⟩
    a_continuation_ws_len := ⟨PV, ⟨k.fa_continuation_ws_len, k.ta_continuation_ws_len⟩, by rw [hfl]; rfl, by rw [hfl]; decide +kernel, by rw [hfl]; decide⟩
    a_continuation_ws := ⟨PV, ⟨k.fa_continuation_ws, k.ta_continuation_ws⟩, by rw [hfl]; rfl, by rw [hfl]; decide +kernel, by rw [hfl]; decide⟩
    a_maxlen := ⟨PV, ⟨k.fa_maxlen, k.ta_maxlen⟩, by rw [hfl]; rfl, by rw [hfl]; decide +kernel, by rw [hfl]; decide⟩
    k_init_v := DefOk.mk0 O k.ck_init_v k.bk_init_v (by
      intro vs h
      obtain ⟨v1, v2, v3, v4, v5, rfl⟩ := len_5 (by simpa using h)
      exact ⟨[], fun S => k.bp_k_init_v S v1 v2 v3 v4 v5, fun _ _ => rfl⟩)
    e_init_v := k.e_init_v
    mk_vf := k.mk_vf
    fi_vf := k.fi_vf
    ty_vf := k.ty_vf
    m_reset := SGet.own O AC.P k.fm_reset k.tm_reset (by rw [hfl]; decide +kernel)
    p_reset := k.p_reset
    m_is_onlyws := SGet.own O AC.P k.fm_is_onlyws k.tm_is_onlyws (by rw [hfl]; decide +kernel)
    p_is_onlyws := k.p_is_onlyws
    m_push := SGet.own O AC.P k.fm_push k.tm_push (by rw [hfl]; decide +kernel)
    p_push := k.p_push
    s1_push := k.s1_push
    s2_push := k.s2_push
    s3_push := k.s3_push
    s4_push := k.s4_push
    s5_push := by rw [hfl]; decide +kernel
    s6_push := k.s6_push
    m_pop := SGet.own O AC.P k.fm_pop k.tm_pop (by rw [hfl]; decide +kernel)
    p_pop := k.p_pop
    k_newline := DefOk.mk0 O k.ck_newline k.bk_newline (by
      intro vs h
      obtain ⟨v1, rfl⟩ := len_1 (by simpa using h)
      exact ⟨[], fun S => k.bp_k_newline S v1, fun _ _ => rfl⟩)
    e_newline := k.e_newline
    m_newline := SGet.own O PV k.fm_newline k.tm_newline (by rw [hfl]; decide +kernel)
    p_newline := k.p_newline
    k_vstr := DefOk.mk0 O k.ck_vstr k.bk_vstr (by
      intro vs h
      obtain ⟨v1, v2, rfl⟩ := len_2 (by simpa using h)
      exact ⟨[], fun S => k.bp_k_vstr S v1 v2, fun _ _ => rfl⟩)
    e_vstr := k.e_vstr
    m_pop_from := SGet.own O AC.P k.fm_pop_from k.tm_pop_from (by rw [hfl]; decide +kernel)
    p_pop_from := k.p_pop_from
    g_range := mgn O k.g_range
    b_range := (hb "range" (by decide +kernel)).trans Boot.«range»
    m_part_count := SGet.own O AC.P k.fm_part_count k.tm_part_count (by rw [hfl]; decide +kernel)
    k_chunk := DefOk.mk0 O k.ck_chunk k.bk_chunk (by
      intro vs h
      obtain ⟨v1, v2, v3, rfl⟩ := len_3 (by simpa using h)
      exact ⟨[], fun S => k.bp_k_chunk S v1 v2 v3, fun _ _ => rfl⟩)
    e_chunk := k.e_chunk
    g_zip := mgn O k.g_zip
    b_zip := (hb "zip" (by decide +kernel)).trans Boot.«zip»
    g_iter := mgn O k.g_iter
    b_iter := (hb "iter" (by decide +kernel)).trans Boot.«iter»
    m_append_chunk := SGet.own O PV k.fm_append_chunk k.tm_append_chunk (by rw [hfl]; decide +kernel)
    p_append_chunk := k.p_append_chunk
    g_twin_re_1 := mgv O k.g_twin_re_1
    pat := k.pat
    k_split := DefOk.mk0 O k.ck_split k.bk_split (by
      intro vs h
      obtain ⟨v1, v2, v3, v4, rfl⟩ := len_4 (by simpa using h)
      exact ⟨[], fun S => k.bp_k_split S v1 v2 v3 v4, fun _ _ => rfl⟩)
    e_split := k.e_split
    g_law_BLANKS := mgv O k.g_law_BLANKS
    r_law_BLANKS := fun h β B => tupChk_of O k.r_law_BLANKS h β B
    g_law_ENDS := mgv O k.g_law_ENDS
    r_law_ENDS := fun h β B => tupChk_of O k.r_law_ENDS h β B
    k_lchunks := DefOk.mk0 O k.ck_lchunks k.bk_lchunks (by
      intro vs h
      obtain ⟨v1, v2, rfl⟩ := len_2 (by simpa using h)
      exact ⟨[], fun S => k.bp_k_lchunks S v1 v2, fun _ _ => rfl⟩)
    e_lchunks := k.e_lchunks
    k_lranks := DefOk.mk0 O k.ck_lranks k.bk_lranks (by
      intro vs h
      obtain ⟨v1, v2, rfl⟩ := len_2 (by simpa using h)
      exact ⟨[], fun S => k.bp_k_lranks S v1 v2, fun _ _ => rfl⟩)
    e_lranks := k.e_lranks
    k_lspans := DefOk.mk0 O k.ck_lspans k.bk_lspans (by
      intro vs h
      obtain ⟨v1, v2, v3, rfl⟩ := len_3 (by simpa using h)
      exact ⟨[], fun S => k.bp_k_lspans S v1 v2 v3, fun _ _ => rfl⟩)
    e_lspans := k.e_lspans
    g_law_spans := mgv O k.g_law_spans
    p_law_spans := k.p_law_spans
    m_str := SGet.own O PV k.fm_str k.tm_str (by rw [hfl]; decide +kernel)
    p_str := k.p_str
    m_ascii_split := SGet.own O PV k.fm_ascii_split k.tm_ascii_split (by rw [hfl]; decide +kernel)
    p_ascii_split := k.p_ascii_split
    g_ValueFormatter := mgv O k.g_ValueFormatter
    p_ValueFormatter := k.p_ValueFormatter
    g_law_ranks := mgv O k.g_law_ranks
    p_law_ranks := k.p_law_ranks
    g_law_chunks := mgv O k.g_law_chunks
    p_law_chunks := k.p_law_chunks
    g_law_SIGNS := mgv O k.g_law_SIGNS
    r_law_SIGNS := fun h β B => tupChk_of O k.r_law_SIGNS h β B
    g_list := mgn O k.g_list
    b_list := (hb "list" (by decide +kernel)).trans Boot.«list»
    k_law := DefOk.mk0 O k.ck_law k.bk_law (by
      intro vs h
      obtain ⟨v1, rfl⟩ := len_1 (by simpa using h)
      exact ⟨[], fun S => k.bp_k_law S v1, fun _ _ => rfl⟩)
    e_law := k.e_law
  }
theorem facts_all {G : GC} (k : KF G.K) (hp : G.prog = PySem.Challenge.pw_dw5002_04) (hfl : G.flds = fldsOf) (ht : G.tabs = [t_len, t_str]) (BM : BMainOk G) (hb : ∀ x : Str, x ≠ "__name__" → G.mb x = bootBuiltins x) :
    FactsAll G (cdOf G.K 116) (cdOf G.K 200) := fun _ O => facts_of O k hp hfl ht BM hb
end Mine
end
section
open PySem PySem.W PySem.Calls PyProof.Rows PySem.W.X PySem.Challenge
set_option maxRecDepth 100000
namespace Mine
abbrev noBan : Ban := ⟨fun _ => False⟩
def gOf (w : World) (K : Frag) (h : Heap) (mg mb : Str → Option Value) : GC := ⟨pw_dw5002_04, w, dropK [162, 169] K, h, [t_len, t_str], mg, mb, fldsOf⟩
theorem tb_gOf {w : World} {K : Frag} {h : Heap} {mg mb : Str → Option Value} {b : Addr} (t : (gOf w K h mg mb).TB b) : b = 162 ∨ b = 169 := by
  obtain ⟨x, hx, rfl⟩ := t
  rcases List.mem_cons.1 hx with rfl | hx
  · exact .inl rfl
  · rcases List.mem_cons.1 hx with rfl | hx
    · exact .inr rfl
    · cases hx
section
variable {p : Program} {w : World} {K : Frag} {loose : List Str} {mean : ExcName → Option Value} {mg mb : Str → Option Value} {s₁ : Shared}
theorem ok_gOf (KX : K.In s₁.heap) (T : Top p loose mean mg mb s₁.heap) : @GOk noBan (gOf w K s₁.heap mg mb) := by
  letI := noBan
  exact @GOk.mk noBan _ (dropK_in KX) (fun a o e t => by
    have := dropK_not e
    rcases tb_gOf t with rfl | rfl
    · exact this (by decide)
    · exact this (by decide)) T.g T.b T.nolimit (fun t => by rcases tb_gOf t with h | h <;> revert h <;> decide) (fun t => by rcases tb_gOf t with h | h <;> revert h <;> decide)
    (fun t => by rcases tb_gOf t with h | h <;> revert h <;> decide) fun a n => False.elim n
theorem tabs_gOf (KX : K.In s₁.heap) (e1 : tabChk K 166 162 = true) (e2 : tabChk K 173 169 = true) : ∀ t ∈ (gOf w K s₁.heap mg mb).tabs, TabOk s₁.heap s₁.heap t := by
  letI := noBan
  intro t ht
  rcases List.mem_cons.1 ht with rfl | ht
  · exact tabOk_start KX e1
  · rcases List.mem_cons.1 ht with rfl | ht
    · exact tabOk_start KX e2
    · cases ht
theorem bm_gOf (KX : K.In s₁.heap) (T : Top p loose mean mg mb s₁.heap) (e1 : tabChk K 166 162 = true) (e2 : tabChk K 173 169 = true) : BMainOk (gOf w K s₁.heap mg mb) := by
  letI := noBan
  obtain ⟨bm, ob, h1, h2, h3, h4, h5, h6⟩ := T.bmain
  refine ⟨bm, ob, h1, h2, h3, h4, h5, h6, fun t => ?_⟩
  have a1 := (tab_of KX e1).1.2
  have a2 := (tab_of KX e2).1.2
  rcases tb_gOf t with rfl | rfl
  · rw [h3] at a1; cases a1; cases h4
  · rw [h3] at a2; cases a2; cases h4
theorem joined (KX : K.In s₁.heap) (T : Top p loose mean mg mb s₁.heap) (e1 : tabChk K 166 162 = true) (e2 : tabChk K 173 169 = true) (k : KF (dropK [162, 169] K)) (hg : s₁.gens = #[])
    {a : Addr} {vs : List Value} {ns : List Int} (hL : s₁.heap.IsList a vs.toArray) (hI : IntsAre vs ns) (hp : ∃ σ', F_law a ns [.lit (.ref a)] [] = some (.bool true, σ')) {Q : Value → Shared → Prop} {E : Value → Shared → Prop}
    (hQ : ∀ s', OldK s₁.heap s'.heap → s'.os = s₁.os → AllBare s'.gens → Q (.bool true) s') : wpAny (model pw_dw5002_04 w) callerA (call (.ref 231) [.ref a]) Q E s₁ := by
  letI := noBan
  have O := ok_gOf (w := w) KX T
  have ht := tabs_gOf (w := w) (mg := mg) (mb := mb) KX e1 e2
  have BM := bm_gOf (w := w) KX T e1 e2
  have fc := facts_of (G := gOf w K s₁.heap mg mb) O k rfl rfl rfl BM T.builtins
  have fa := facts_all (G := gOf w K s₁.heap mg mb) k rfl rfl rfl BM T.builtins
  have L : LitL (gOf w K s₁.heap mg mb) a ns := litL_of hL hI ht
  exact law_done (G := gOf w K s₁.heap mg mb) (fun _ n => False.elim n) (by decide) (c_law fc fa L) L ht rfl hg hp hQ
end
end Mine
end
section
open PySem PySem.W PySem.Calls PyProof.Rows
namespace Mine
def g_push (D V : Addr) : FS := (fSeq (fExp (eMeth (isA D) (appendAF D) (eVar 0) (eCons (eTup (eCons (eVar 1) (eCons (eVar 2) eNil))) eNil))) fSkip)
def G_push (D V : Addr) : CF := runBody [] 3 3 ((g_push D V))
def g_pop_from (D V : Addr) : FS := (fSeq (fAsg (eSliceA D (eVar 0) (eVar 1) (eLit .none)) (aVar 2)) (fSeq (fAsg (eList eNil) (aSliceA D (eVar 0) (eVar 1))) (fSeq (fRet (eVar 2)) fSkip)))
def G_pop_from (D V : Addr) : CF := runBody [] 2 3 ((g_pop_from D V))
def G_len (D V : Addr) : CF := runBody [] 1 2 (fLenBody D 0)
def G_str (D V : Addr) : CF := runBody [] 1 2 (fStrBody D)
def g_reset (D V : Addr) : FS := (fSeq (fIf (cCmp isNoneB (eVar 1) (eLit .none)) (fSeq (fAsg (eList eNil) (aVar 1)) fSkip) fSkip) (fSeq (fAsg (eVar 1) (aSliceA D (eVar 0) (eLit .none))) (fSeq (fAsg (eLit (.int 0)) (aAttr D 0 (eVar 0))) fSkip)))
def G_reset (D V : Addr) : CF := runBody [.none] 2 2 ((g_reset D V))
def G_reset1 (D V : Addr) : CF := runBody [] 2 2 (g_reset D V)
def g_is_onlyws (D V : Addr) : FS := (fSeq (fRet (eAnd truF (eBin (eCmp (eqB 5)) (eAttr D 0 (eVar 0)) (eLit (.int 0))) (eOr truF (eUn (notF (truAF D (G_len D V))) (eVar 0)) (eMeth isS isspaceF (eCall (strAF D (G_str D V)) (eCons (eVar 0) eNil)) eNil)))) fSkip)
def G_is_onlyws (D V : Addr) : CF := runBody [] 1 2 ((g_is_onlyws D V))
def g_init_v (D V : Addr) : FS := (fSeq (fAsg (eVar 2) (aAttr V 0 (eVar 0))) (fSeq (fAsg (eVar 3) (aAttr V 1 (eVar 0))) (fSeq (fAsg (eCall (lenF D (G_len D V)) (eCons (eVar 3) eNil)) (aAttr V 2 (eVar 0))) (fSeq (fAsg (eVar 4) (aAttr V 3 (eVar 0))) (fSeq (fAsg (eList eNil) (aAttr V 4 (eVar 0))) (fSeq (fAsg (eCall (fMake (.acc D [] []) (initF D 0)) (eCons (eVar 1) eNil)) (aAttr V 5 (eVar 0))) fSkip))))))
def G_init_v (D V : Addr) : CF := runBody [] 5 7 ((g_init_v D V))
def g_newline (D V : Addr) : FS := (fSeq (fAsg (eMeth (isA D) (popF D) (eAttr V 5 (eVar 0)) eNil) (aVar 1)) (fSeq (fIf (cCmp (neB 5) (eVar 1) (eTup (eCons (eLit (.str " ")) (eCons (eLit (.str "")) eNil)))) (fSeq (fExp (eStar D (G_push D V) (eAttr V 5 (eVar 0)) (eVar 1))) fSkip) fSkip) (fSeq (fIf (cCmp gtB (eCall (lenF D (G_len D V)) (eCons (eAttr V 5 (eVar 0)) eNil)) (eLit (.int 0))) (fSeq (fIf (cAnd (cVal truF (eMeth (isA D) (G_is_onlyws D V) (eAttr V 5 (eVar 0)) eNil)) (cVal truF (eAttr V 4 (eVar 0)))) (fSeq fNo fSkip) (fSeq (fExp (eMeth isL appendF (eAttr V 4 (eVar 0)) (eCons (eCall (strAF D (G_str D V)) (eCons (eAttr V 5 (eVar 0)) eNil)) eNil))) fSkip)) fSkip) fSkip) (fSeq (fExp (eMeth (isA D) (G_reset D V) (eAttr V 5 (eVar 0)) eNil)) fSkip))))
def G_newline (D V : Addr) : CF := runBody [] 1 4 ((g_newline D V))
def g_vstr (D V : Addr) : FS := (fSeq (fExp (eMeth (isA V) (G_newline D V) (eVar 0) eNil)) (fSeq (fRet (eMeth isS joinF (eVar 1) (eCons (eAttr V 4 (eVar 0)) eNil))) fSkip))
def G_vstr (D V : Addr) : CF := runBody [] 2 2 ((g_vstr D V))
def g_chunk (D V : Addr) : FS := (fSeq (fExp (eMeth (isA D) (G_push D V) (eAttr V 5 (eVar 0)) (eCons (eVar 1) (eCons (eVar 2) eNil)))) (fSeq (fIf (cCmp gtB (eCall (lenF D (G_len D V)) (eCons (eAttr V 5 (eVar 0)) eNil)) (eAttr V 0 (eVar 0))) (fSeq (fFor 1000 (aVar 3) (eAttr V 3 (eVar 0)) (fSeq (fFor 1000 (aVar 4) (eCall rangeF (eCons (eBin subF (eMeth (isA D) (countF D) (eAttr V 5 (eVar 0)) eNil) (eLit (.int 1))) (eCons (eLit (.int 0)) (eCons (eUn negF (eLit (.int 1))) eNil)))) (fSeq (fIf (cVal truF (eMeth isS isspaceF (eVar 3) eNil)) (fSeq (fAsg (eBin idxF (eBin (idxAF D) (eAttr V 5 (eVar 0)) (eVar 4)) (eLit (.int 0))) (aVar 1)) (fSeq (fIf (cAnd (cVal truF (eVar 1)) (cCmp (eqB 5) (eBin idxF (eVar 1) (eLit (.int 0))) (eVar 3))) (fSeq fBrk fSkip) fSkip) fSkip)) fSkip) (fSeq (fAsg (eBin idxF (eBin (idxAF D) (eAttr V 5 (eVar 0)) (eBin subF (eVar 4) (eLit (.int 1)))) (eLit (.int 1))) (aVar 5)) (fSeq (fIf (cAnd (cVal truF (eVar 5)) (cCmp (eqB 5) (eBin idxF (eVar 5) (eUn negF (eLit (.int 1)))) (eVar 3))) (fSeq fBrk fSkip) fSkip) fSkip))) (fSeq fCont fSkip)) (fSeq fBrk fSkip)) (fSeq (fAsg (eMeth (isA D) (popF D) (eAttr V 5 (eVar 0)) eNil) (aPair (aVar 1) (aVar 6))) (fSeq (fIf (cCmp gtB (eAttr D 0 (eAttr V 5 (eVar 0))) (eLit (.int 0))) (fSeq (fExp (eMeth (isA V) (G_newline D V) (eVar 0) eNil)) (fSeq (fIf (cNot (cVal truF (eVar 1))) (fSeq (fAsg (eLit (.str " ")) (aVar 1)) fSkip) fSkip) fSkip)) fSkip) (fSeq (fExp (eMeth (isA D) (G_push D V) (eAttr V 5 (eVar 0)) (eCons (eVar 1) (eCons (eVar 6) eNil)))) (fSeq fRetN fSkip))))) (fSeq (fAsg (eMeth (isA D) (G_pop_from D V) (eAttr V 5 (eVar 0)) (eCons (eVar 4) eNil)) (aVar 7)) (fSeq (fExp (eMeth isL appendF (eAttr V 4 (eVar 0)) (eCons (eCall (strAF D (G_str D V)) (eCons (eAttr V 5 (eVar 0)) eNil)) eNil))) (fSeq (fExp (eMeth (isA D) (G_reset1 D V) (eAttr V 5 (eVar 0)) (eCons (eVar 7) eNil))) fSkip)))) fSkip) fSkip))
def G_chunk (D V : Addr) : CF := runBody [] 3 11 ((g_chunk D V))
end Mine
end
section
open PySem PySem.W PySem.Calls PyProof.Rows
set_option maxRecDepth 100000
set_option linter.unusedVariables false
set_option linter.unusedSimpArgs false
namespace Mine
def accO (D : Addr) (n : Nat) (ps : List WP) : PO := .acc D [.int n] (ps.map pvP)
def vfO (V : Addr) (w : Int) (ws signs : List Nat) (ln ac : Nat) : PO := .inst V [.int w, .str (mkS ws), .int ws.length, .str (mkS signs), .ref ln, .ref ac]
def linesO (ls : List (List Nat)) : PO := .list (ls.map fun x => .str (mkS x))
section
variable {D V : Addr} {σ : List PO} {ac m ln n : Nat} {fs l : List PV} {ps : List WP}
theorem eq_of_wO {α β : Type} {o : Option (α × β)} {p : α} {s : β} (h : wO o fun a b => a = p ∧ b = s) : o = some (p, s) := by
  obtain ⟨a, b, e, rfl, rfl⟩ := h; exact e
theorem p_aAttr {C : Addr} {j : Nat} {f : FE} {p : PV} {ρ : List (Option PV)} {Q : List (Option PV) → List PO → Prop} : wO (aAttr C j f p ρ σ) Q = wO (f ρ σ) fun x σ₁ => ∃ i, x = .ref i ∧ w1 (putField C j i p σ₁) fun σ₂ => Q ρ σ₂ := by
  unfold aAttr
  cases f ρ σ with
  | none => simp only [wO_none]
  | some r =>
    obtain ⟨x, s⟩ := r
    cases x with
    | ref i =>
      simp only [wO_some, PV.ref.injEq, exists_eq_left']
      cases putField C j i p s <;> simp [wO_some, wO_none, w1_some, w1_none]
    | _ => simp [wO_some, wO_none]
theorem p_eSliceA {C : Addr} {f a b : FE} {ρ : List (Option PV)} {Q : PV → List PO → Prop} : wO (eSliceA C f a b ρ σ) Q = wO (f ρ σ) fun o σ₁ => ∃ i, o = .ref i ∧ wO (a ρ σ₁) fun x σ₂ => wO (b ρ σ₂) fun y σ₃ => w1 (partOf x) fun lo => w1 (partOf y) fun hi => ∃ fs l, σ₃[i]? = some (.acc C fs l) ∧ l.length ≤ 1000000 ∧ Q (.ref σ₃.length) (σ₃ ++ [PO.list (sliceL l lo hi)]) := by
  unfold eSliceA
  cases f ρ σ with
  | none => simp only [wO_none]
  | some r =>
    obtain ⟨o, s⟩ := r
    cases o with
    | ref i =>
      simp only [wO_some, PV.ref.injEq, exists_eq_left']
      cases a ρ s with
      | none => simp only [wO_none]
      | some r =>
        obtain ⟨x, s⟩ := r
        simp only [wO_some]
        cases b ρ s with
        | none => simp only [wO_none]
        | some r =>
          obtain ⟨y, s⟩ := r
          simp only [wO_some]
          cases partOf x with
          | none => simp only [wO_none, w1_none]
          | some lo =>
            cases partOf y with
            | none => simp only [wO_none, w1_none, w1_some]
            | some hi =>
              simp only [w1_some]
              cases hs : s[i]? with
              | none => simp [wO_none]
              | some o =>
                cases o with
                | acc C' fs l =>
                  by_cases e : C' = C
                  · subst e
                    by_cases hl : l.length ≤ 1000000
                    · simp only [szOk_eq, hl, and_self, if_true, wO_some]
                      refine propext ⟨fun h => ⟨fs, l, rfl, hl, h⟩, ?_⟩
                      rintro ⟨_, _, e, _, h⟩; cases e; exact h
                    · simp only [szOk_eq, hl, and_false, if_false, wO_none]
                      refine propext ⟨False.elim, ?_⟩
                      rintro ⟨_, _, e, h, _⟩; cases e; exact hl h
                  · simp [e, wO_none]
                | _ => simp [wO_none]
    | _ => simp [wO_some, wO_none]
theorem p_fMake {mk : PO} {Φ : CF} {l : List PV} {Q : PV → List PO → Prop} : wO (fMake mk Φ l σ) Q = wO (Φ (.ref σ.length :: l) (σ ++ [mk])) fun p s => p = .none ∧ Q (.ref σ.length) s := by
  unfold fMake
  cases Φ (.ref σ.length :: l) (σ ++ [mk]) with
  | none => simp only [wO_none]
  | some r => obtain ⟨p, s⟩ := r; cases p <;> simp [wO_some, wO_none]
theorem push_eq {a b : PV} (h : σ[ac]? = some (.acc D fs l)) (hl : l.length ≤ 1000000) : G_push D V [.ref ac, a, b] σ = some (.none, σ.set ac (.acc D fs (l ++ [.tup [a, b]]))) := by
  apply eq_of_wO
  have hi : isA D (.ref ac) σ = true := by simp [isA, h, fieldsOfPO]
  simp only [G_push, g_push, wO_some, wO_none, w1_some, w1_none, wS_some, wS_none, if_none, szOk_eq, strOk_eq, p_var, p_lit, p_bin, p_un, p_if, p_cmpE, p_cmp, p_not, p_and, p_or, p_val, p_true, p_eAnd, p_eOr, p_notF, p_nil, p_cons, p_tup, p_list, p_call, p_meth, p_star, p_attr, p_skip, p_brk, p_cont, p_retN, p_seq, p_fif, p_ret, p_exp, p_asg, p_aug, p_aVar, p_aPair, p_run, List.map_cons, List.map_nil, List.cons_append, List.nil_append, List.append_nil, List.length_cons, List.length_nil, List.getElem?_cons_zero, List.getElem?_cons_succ, List.set_cons_zero, List.set_cons_succ, List.reduceReplicate, true_and, and_true, if_true, ite_true, Bool.false_eq_true, if_false, reduceIte, false_and, and_false, p_aAttr, p_eSliceA, Nat.reduceLT, Nat.reduceSub, Nat.reduceAdd, Nat.reduceEqDiff, Nat.lt_irrefl, Nat.zero_le, p_fMake]
  simp only [appendAF, h, wO_some, wO_none, w1_some, w1_none, wS_some, wS_none, if_none, szOk_eq, strOk_eq, p_var, p_lit, p_bin, p_un, p_if, p_cmpE, p_cmp, p_not, p_and, p_or, p_val, p_true, p_eAnd, p_eOr, p_notF, p_nil, p_cons, p_tup, p_list, p_call, p_meth, p_star, p_attr, p_skip, p_brk, p_cont, p_retN, p_seq, p_fif, p_ret, p_exp, p_asg, p_aug, p_aVar, p_aPair, p_run, List.map_cons, List.map_nil, List.cons_append, List.nil_append, List.append_nil, List.length_cons, List.length_nil, List.getElem?_cons_zero, List.getElem?_cons_succ, List.set_cons_zero, List.set_cons_succ, List.reduceReplicate, true_and, and_true, if_true, ite_true, Bool.false_eq_true, if_false, reduceIte, false_and, and_false, p_aAttr, p_eSliceA, Nat.reduceLT, Nat.reduceSub, Nat.reduceAdd, Nat.reduceEqDiff, Nat.lt_irrefl, Nat.zero_le, p_fMake, hi]
  simp [hl, szOk_eq]
theorem cut_eq {i j : Nat} {lo : Option Int} {q : List PV} (h : σ[i]? = some (.acc D fs l)) (hj : σ[j]? = some (.list q)) (hl : l.length ≤ 1000000) (hm : q.length ≤ 1000000) : cutIn D i lo j σ = some (σ.set i (.acc D fs (l.take (lo.elim 0 (clipAt l.length)) ++ q))) := by
  unfold cutIn
  simp only [h, hj, szOk_eq, hl, hm, and_self, if_true]
theorem put_eq {C : Addr} {i j : Nat} {o : PO} {gs gs' : List PV} {p : PV} (h : σ[i]? = some o) (hf : fieldsOfPO o = some (C, gs)) (hp : putAt gs j p = some gs') : putField C j i p σ = some (σ.set i (withFields o gs')) := by
  unfold putField
  simp only [h, hf, if_true, hp]
theorem clip_nat {n i : Nat} (h : i ≤ n) : clipAt n i = i := by
  unfold clipAt
  rw [if_neg (by omega)]; omega
theorem pop_from_eq {i : Nat} (h : σ[ac]? = some (.acc D fs l)) (hl : l.length ≤ 1000000) (hi : i ≤ l.length) :
    G_pop_from D V [.ref ac, .int i] σ = some (.ref σ.length, (σ ++ [PO.list (l.drop i), PO.list []]).set ac (.acc D fs (l.take i))) := by
  apply eq_of_wO
  have hlt : ac < σ.length := (List.getElem?_eq_some_iff.1 h).1
  have h2 : (σ ++ [PO.list (l.drop i)])[ac]? = some (.acc D fs l) := by rw [List.getElem?_append_left hlt]; exact h
  have h3 : (σ ++ [PO.list (l.drop i)] ++ [PO.list []])[ac]? = some (.acc D fs l) := by rw [List.getElem?_append_left (by simp; omega)]; exact h2
  have h4 : (σ ++ [PO.list (l.drop i)] ++ [PO.list []])[(σ ++ [PO.list (l.drop i)]).length]? = some (.list []) := by simp
  have e1 : sliceL l (some (i : Int)) none = l.drop i := by
    unfold sliceL
    simp only [Option.elim, clip_nat hi]
    rw [List.take_of_length_le (by simp)]
  have hs : szOk l.length = true := by rw [szOk_eq]; exact hl
  have hs0 : szOk ([] : List PV).length = true := by decide
  simp only [G_pop_from, g_pop_from, wO_some, wO_none, w1_some, w1_none, wS_some, wS_none, if_none, szOk_eq, strOk_eq, p_var, p_lit, p_bin, p_un, p_if, p_cmpE, p_cmp, p_not, p_and, p_or, p_val, p_true, p_eAnd, p_eOr, p_notF, p_nil, p_cons, p_tup, p_list, p_call, p_meth, p_star, p_attr, p_skip, p_brk, p_cont, p_retN, p_seq, p_fif, p_ret, p_exp, p_asg, p_aug, p_aVar, p_aPair, p_run, List.map_cons, List.map_nil, List.cons_append, List.nil_append, List.append_nil, List.length_cons, List.length_nil, List.getElem?_cons_zero, List.getElem?_cons_succ, List.set_cons_zero, List.set_cons_succ, List.reduceReplicate, true_and, and_true, if_true, ite_true, Bool.false_eq_true, if_false, reduceIte, false_and, and_false, p_aAttr, p_eSliceA, Nat.reduceLT, Nat.reduceSub, Nat.reduceAdd, Nat.reduceEqDiff, Nat.lt_irrefl, Nat.zero_le, p_fMake, partOf]
  refine ⟨_, rfl, fs, l, h, hl, ?_⟩
  simp only [e1, aSliceA, eVar, eLit, partOf, cut_eq h3 h4 hl (by decide), wO_some, wO_none, w1_some, w1_none, wS_some, wS_none, if_none, szOk_eq, strOk_eq, p_var, p_lit, p_bin, p_un, p_if, p_cmpE, p_cmp, p_not, p_and, p_or, p_val, p_true, p_eAnd, p_eOr, p_notF, p_nil, p_cons, p_tup, p_list, p_call, p_meth, p_star, p_attr, p_skip, p_brk, p_cont, p_retN, p_seq, p_fif, p_ret, p_exp, p_asg, p_aug, p_aVar, p_aPair, p_run, List.map_cons, List.map_nil, List.cons_append, List.nil_append, List.append_nil, List.length_cons, List.length_nil, List.getElem?_cons_zero, List.getElem?_cons_succ, List.set_cons_zero, List.set_cons_succ, List.reduceReplicate, true_and, and_true, if_true, ite_true, Bool.false_eq_true, if_false, reduceIte, false_and, and_false, p_aAttr, p_eSliceA, Nat.reduceLT, Nat.reduceSub, Nat.reduceAdd, Nat.reduceEqDiff, Nat.lt_irrefl, Nat.zero_le, p_fMake, Option.elim, clip_nat hi]
  simp [wO_some, wO_none, w1_some, w1_none, wS_some, wS_none, if_none, szOk_eq, strOk_eq, p_var, p_lit, p_bin, p_un, p_if, p_cmpE, p_cmp, p_not, p_and, p_or, p_val, p_true, p_eAnd, p_eOr, p_notF, p_nil, p_cons, p_tup, p_list, p_call, p_meth, p_star, p_attr, p_skip, p_brk, p_cont, p_retN, p_seq, p_fif, p_ret, p_exp, p_asg, p_aug, p_aVar, p_aPair, p_run, List.map_cons, List.map_nil, List.cons_append, List.nil_append, List.append_nil, List.length_cons, List.length_nil, List.getElem?_cons_zero, List.getElem?_cons_succ, List.set_cons_zero, List.set_cons_succ, List.reduceReplicate, true_and, and_true, if_true, ite_true, Bool.false_eq_true, if_false, reduceIte, false_and, and_false, p_aAttr, p_eSliceA, Nat.reduceLT, Nat.reduceSub, Nat.reduceAdd, Nat.reduceEqDiff, Nat.lt_irrefl, Nat.zero_le, p_fMake]
theorem len_eq (h : σ[ac]? = some (accO D n ps)) (hn : n ≤ 1000000) (hp : (flat ps).length ≤ 1000000) : G_len D V [.ref ac] σ = some (.int ((n + (flat ps).length : Nat) : Int), σ) := by
  apply eq_of_wO
  simp only [G_len, wO_some, wO_none, w1_some, w1_none, wS_some, wS_none, if_none, szOk_eq, strOk_eq, p_var, p_lit, p_bin, p_un, p_if, p_cmpE, p_cmp, p_not, p_and, p_or, p_val, p_true, p_eAnd, p_eOr, p_notF, p_nil, p_cons, p_tup, p_list, p_call, p_meth, p_star, p_attr, p_skip, p_brk, p_cont, p_retN, p_seq, p_fif, p_ret, p_exp, p_asg, p_aug, p_aVar, p_aPair, p_run, List.map_cons, List.map_nil, List.cons_append, List.nil_append, List.append_nil, List.length_cons, List.length_nil, List.getElem?_cons_zero, List.getElem?_cons_succ, List.set_cons_zero, List.set_cons_succ, List.reduceReplicate, true_and, and_true, if_true, ite_true, Bool.false_eq_true, if_false, reduceIte, false_and, and_false, p_aAttr, p_eSliceA, Nat.reduceLT, Nat.reduceSub, Nat.reduceAdd, Nat.reduceEqDiff, Nat.lt_irrefl, Nat.zero_le, p_fMake]
  simp only [fLenBody, wO_some, wO_none, w1_some, w1_none, wS_some, wS_none, if_none, szOk_eq, strOk_eq, p_var, p_lit, p_bin, p_un, p_if, p_cmpE, p_cmp, p_not, p_and, p_or, p_val, p_true, p_eAnd, p_eOr, p_notF, p_nil, p_cons, p_tup, p_list, p_call, p_meth, p_star, p_attr, p_skip, p_brk, p_cont, p_retN, p_seq, p_fif, p_ret, p_exp, p_asg, p_aug, p_aVar, p_aPair, p_run, List.map_cons, List.map_nil, List.cons_append, List.nil_append, List.append_nil, List.length_cons, List.length_nil, List.getElem?_cons_zero, List.getElem?_cons_succ, List.set_cons_zero, List.set_cons_succ, List.reduceReplicate, true_and, and_true, if_true, ite_true, Bool.false_eq_true, if_false, reduceIte, false_and, and_false, p_aAttr, p_eSliceA, Nat.reduceLT, Nat.reduceSub, Nat.reduceAdd, Nat.reduceEqDiff, Nat.lt_irrefl, Nat.zero_le, p_fMake, accLen, h, accO, pairsOf_map, totL_map]
  rw [if_pos ⟨by omega, by omega, hp⟩]
  simp [wO_some, wO_none, w1_some, w1_none, wS_some, wS_none, if_none, szOk_eq, strOk_eq, p_var, p_lit, p_bin, p_un, p_if, p_cmpE, p_cmp, p_not, p_and, p_or, p_val, p_true, p_eAnd, p_eOr, p_notF, p_nil, p_cons, p_tup, p_list, p_call, p_meth, p_star, p_attr, p_skip, p_brk, p_cont, p_retN, p_seq, p_fif, p_ret, p_exp, p_asg, p_aug, p_aVar, p_aPair, p_run, List.map_cons, List.map_nil, List.cons_append, List.nil_append, List.append_nil, List.length_cons, List.length_nil, List.getElem?_cons_zero, List.getElem?_cons_succ, List.set_cons_zero, List.set_cons_succ, List.reduceReplicate, true_and, and_true, if_true, ite_true, Bool.false_eq_true, if_false, reduceIte, false_and, and_false, p_aAttr, p_eSliceA, Nat.reduceLT, Nat.reduceSub, Nat.reduceAdd, Nat.reduceEqDiff, Nat.lt_irrefl, Nat.zero_le, p_fMake]
theorem lenF_eq (h : σ[ac]? = some (accO D n ps)) (hn : n + (flat ps).length ≤ 1000000) : lenF D (G_len D V) [.ref ac] σ = some (.int ((n + (flat ps).length : Nat) : Int), σ) := by
  unfold lenF
  simp only [h, len_eq (V := V) h (by omega) (by omega)]
  simp only [accO, if_true]
  rw [if_pos (by omega)]
theorem truA_eq (h : σ[ac]? = some (accO D n ps)) (hn : n + (flat ps).length ≤ 1000000) : truAF D (G_len D V) (.ref ac) σ = some (n + (flat ps).length != 0, σ) := by
  unfold truAF
  simp only [h, lenF_eq (V := V) h hn]
  simp only [accO, if_true]
  congr 2
  by_cases e : n + (flat ps).length = 0
  · rw [e]; rfl
  · rw [bne_iff_ne.2 e, bne_iff_ne.2 (by omega)]
theorem str_eq (h : σ[ac]? = some (accO D n ps)) (hp : (flat ps).length ≤ 1000000) (hl : ps.length ≤ 1000000) : G_str D V [.ref ac] σ = some (.str (mkS (flat ps)), σ) := by
  apply eq_of_wO
  simp only [G_str, wO_some, wO_none, w1_some, w1_none, wS_some, wS_none, if_none, szOk_eq, strOk_eq, p_var, p_lit, p_bin, p_un, p_if, p_cmpE, p_cmp, p_not, p_and, p_or, p_val, p_true, p_eAnd, p_eOr, p_notF, p_nil, p_cons, p_tup, p_list, p_call, p_meth, p_star, p_attr, p_skip, p_brk, p_cont, p_retN, p_seq, p_fif, p_ret, p_exp, p_asg, p_aug, p_aVar, p_aPair, p_run, List.map_cons, List.map_nil, List.cons_append, List.nil_append, List.append_nil, List.length_cons, List.length_nil, List.getElem?_cons_zero, List.getElem?_cons_succ, List.set_cons_zero, List.set_cons_succ, List.reduceReplicate, true_and, and_true, if_true, ite_true, Bool.false_eq_true, if_false, reduceIte, false_and, and_false, p_aAttr, p_eSliceA, Nat.reduceLT, Nat.reduceSub, Nat.reduceAdd, Nat.reduceEqDiff, Nat.lt_irrefl, Nat.zero_le, p_fMake]
  simp only [fStrBody, wO_some, wO_none, w1_some, w1_none, wS_some, wS_none, if_none, szOk_eq, strOk_eq, p_var, p_lit, p_bin, p_un, p_if, p_cmpE, p_cmp, p_not, p_and, p_or, p_val, p_true, p_eAnd, p_eOr, p_notF, p_nil, p_cons, p_tup, p_list, p_call, p_meth, p_star, p_attr, p_skip, p_brk, p_cont, p_retN, p_seq, p_fif, p_ret, p_exp, p_asg, p_aug, p_aVar, p_aPair, p_run, List.map_cons, List.map_nil, List.cons_append, List.nil_append, List.append_nil, List.length_cons, List.length_nil, List.getElem?_cons_zero, List.getElem?_cons_succ, List.set_cons_zero, List.set_cons_succ, List.reduceReplicate, true_and, and_true, if_true, ite_true, Bool.false_eq_true, if_false, reduceIte, false_and, and_false, p_aAttr, p_eSliceA, Nat.reduceLT, Nat.reduceSub, Nat.reduceAdd, Nat.reduceEqDiff, Nat.lt_irrefl, Nat.zero_le, p_fMake, accStr, h, accO, pairsOf_map, totL_map, glued_map]
  simp [hp, hl, wO_some, wO_none, w1_some, w1_none, wS_some, wS_none, if_none, szOk_eq, strOk_eq, p_var, p_lit, p_bin, p_un, p_if, p_cmpE, p_cmp, p_not, p_and, p_or, p_val, p_true, p_eAnd, p_eOr, p_notF, p_nil, p_cons, p_tup, p_list, p_call, p_meth, p_star, p_attr, p_skip, p_brk, p_cont, p_retN, p_seq, p_fif, p_ret, p_exp, p_asg, p_aug, p_aVar, p_aPair, p_run, List.map_cons, List.map_nil, List.cons_append, List.nil_append, List.append_nil, List.length_cons, List.length_nil, List.getElem?_cons_zero, List.getElem?_cons_succ, List.set_cons_zero, List.set_cons_succ, List.reduceReplicate, true_and, and_true, if_true, ite_true, Bool.false_eq_true, if_false, reduceIte, false_and, and_false, p_aAttr, p_eSliceA, Nat.reduceLT, Nat.reduceSub, Nat.reduceAdd, Nat.reduceEqDiff, Nat.lt_irrefl, Nat.zero_le, p_fMake]
theorem strA_eq (h : σ[ac]? = some (accO D n ps)) (hp : (flat ps).length ≤ 1000000) (hl : ps.length ≤ 1000000) : strAF D (G_str D V) [.ref ac] σ = some (.str (mkS (flat ps)), σ) := by
  unfold strAF
  simp only [h, str_eq (V := V) h hp hl]
  simp only [accO, if_true]
theorem count_eq (h : σ[ac]? = some (accO D n ps)) (hl : ps.length ≤ 1000000) : countF D [.ref ac] σ = some (.int (ps.length : Int), σ) := by
  simp only [countF, h, accO, List.length_map, szOk_eq, hl, and_self, if_true]
theorem reset_eq (h : σ[ac]? = some (accO D n ps)) (hl : ps.length ≤ 1000000) : G_reset D V [.ref ac] σ = some (.none, (σ ++ [PO.list []]).set ac (accO D 0 [])) := by
  apply eq_of_wO
  have hlt : ac < σ.length := (List.getElem?_eq_some_iff.1 h).1
  have h2 : (σ ++ [PO.list []])[ac]? = some (accO D n ps) := by rw [List.getElem?_append_left hlt]; exact h
  have h3 : (σ ++ [PO.list []])[σ.length]? = some (.list []) := by simp
  have hs : szOk (ps.map pvP).length = true := by rw [szOk_eq, List.length_map]; exact hl
  have hs0 : szOk ([] : List PV).length = true := by decide
  simp only [accO] at h2
  simp only [G_reset, g_reset, wO_some, wO_none, w1_some, w1_none, wS_some, wS_none, if_none, szOk_eq, strOk_eq, p_var, p_lit, p_bin, p_un, p_if, p_cmpE, p_cmp, p_not, p_and, p_or, p_val, p_true, p_eAnd, p_eOr, p_notF, p_nil, p_cons, p_tup, p_list, p_call, p_meth, p_star, p_attr, p_skip, p_brk, p_cont, p_retN, p_seq, p_fif, p_ret, p_exp, p_asg, p_aug, p_aVar, p_aPair, p_run, List.map_cons, List.map_nil, List.cons_append, List.nil_append, List.append_nil, List.length_cons, List.length_nil, List.getElem?_cons_zero, List.getElem?_cons_succ, List.set_cons_zero, List.set_cons_succ, List.reduceReplicate, true_and, and_true, if_true, ite_true, Bool.false_eq_true, if_false, reduceIte, false_and, and_false, p_aAttr, p_eSliceA, Nat.reduceLT, Nat.reduceSub, Nat.reduceAdd, Nat.reduceEqDiff, Nat.lt_irrefl, Nat.zero_le, p_fMake, isNoneB]
  simp only [aSliceA, eVar, eLit, partOf, cut_eq h2 h3 (szOk_eq ▸ hs) (by decide), and_self, wO_some, wO_none, w1_some, w1_none, wS_some, wS_none, if_none, szOk_eq, strOk_eq, p_var, p_lit, p_bin, p_un, p_if, p_cmpE, p_cmp, p_not, p_and, p_or, p_val, p_true, p_eAnd, p_eOr, p_notF, p_nil, p_cons, p_tup, p_list, p_call, p_meth, p_star, p_attr, p_skip, p_brk, p_cont, p_retN, p_seq, p_fif, p_ret, p_exp, p_asg, p_aug, p_aVar, p_aPair, p_run, List.map_cons, List.map_nil, List.cons_append, List.nil_append, List.append_nil, List.length_cons, List.length_nil, List.getElem?_cons_zero, List.getElem?_cons_succ, List.set_cons_zero, List.set_cons_succ, List.reduceReplicate, true_and, and_true, if_true, ite_true, Bool.false_eq_true, if_false, reduceIte, false_and, and_false, p_aAttr, p_eSliceA, Nat.reduceLT, Nat.reduceSub, Nat.reduceAdd, Nat.reduceEqDiff, Nat.lt_irrefl, Nat.zero_le, p_fMake, Option.elim, List.take_zero]
  refine ⟨_, rfl, ?_⟩
  rw [put_eq (List.getElem?_set_self (show ac < (σ ++ [PO.list []]).length by simp; omega)) rfl (gs' := [.int 0]) rfl]
  simp [wO_some, wO_none, w1_some, w1_none, wS_some, wS_none, if_none, szOk_eq, strOk_eq, p_var, p_lit, p_bin, p_un, p_if, p_cmpE, p_cmp, p_not, p_and, p_or, p_val, p_true, p_eAnd, p_eOr, p_notF, p_nil, p_cons, p_tup, p_list, p_call, p_meth, p_star, p_attr, p_skip, p_brk, p_cont, p_retN, p_seq, p_fif, p_ret, p_exp, p_asg, p_aug, p_aVar, p_aPair, p_run, List.map_cons, List.map_nil, List.cons_append, List.nil_append, List.append_nil, List.length_cons, List.length_nil, List.getElem?_cons_zero, List.getElem?_cons_succ, List.set_cons_zero, List.set_cons_succ, List.reduceReplicate, true_and, and_true, if_true, ite_true, Bool.false_eq_true, if_false, reduceIte, false_and, and_false, p_aAttr, p_eSliceA, Nat.reduceLT, Nat.reduceSub, Nat.reduceAdd, Nat.reduceEqDiff, Nat.lt_irrefl, Nat.zero_le, p_fMake, withFields, accO]
theorem reset1_eq {r : Nat} {qs : List WP} (h : σ[ac]? = some (accO D n ps)) (hl : ps.length ≤ 1000000) (hr : σ[r]? = some (.list (qs.map pvP))) (hq : qs.length ≤ 1000000) : G_reset1 D V [.ref ac, .ref r] σ = some (.none, σ.set ac (accO D 0 qs)) := by
  apply eq_of_wO
  have hlt : ac < σ.length := (List.getElem?_eq_some_iff.1 h).1
  have hs : szOk (ps.map pvP).length = true := by rw [szOk_eq, List.length_map]; exact hl
  have hs0 : szOk (qs.map pvP).length = true := by rw [szOk_eq, List.length_map]; exact hq
  simp only [accO] at h
  simp only [G_reset1, g_reset, wO_some, wO_none, w1_some, w1_none, wS_some, wS_none, if_none, szOk_eq, strOk_eq, p_var, p_lit, p_bin, p_un, p_if, p_cmpE, p_cmp, p_not, p_and, p_or, p_val, p_true, p_eAnd, p_eOr, p_notF, p_nil, p_cons, p_tup, p_list, p_call, p_meth, p_star, p_attr, p_skip, p_brk, p_cont, p_retN, p_seq, p_fif, p_ret, p_exp, p_asg, p_aug, p_aVar, p_aPair, p_run, List.map_cons, List.map_nil, List.cons_append, List.nil_append, List.append_nil, List.length_cons, List.length_nil, List.getElem?_cons_zero, List.getElem?_cons_succ, List.set_cons_zero, List.set_cons_succ, List.reduceReplicate, true_and, and_true, if_true, ite_true, Bool.false_eq_true, if_false, reduceIte, false_and, and_false, p_aAttr, p_eSliceA, Nat.reduceLT, Nat.reduceSub, Nat.reduceAdd, Nat.reduceEqDiff, Nat.lt_irrefl, Nat.zero_le, p_fMake, isNoneB]
  simp only [aSliceA, eVar, eLit, partOf, cut_eq h hr (szOk_eq ▸ hs) (szOk_eq ▸ hs0), and_self, wO_some, wO_none, w1_some, w1_none, wS_some, wS_none, if_none, szOk_eq, strOk_eq, p_var, p_lit, p_bin, p_un, p_if, p_cmpE, p_cmp, p_not, p_and, p_or, p_val, p_true, p_eAnd, p_eOr, p_notF, p_nil, p_cons, p_tup, p_list, p_call, p_meth, p_star, p_attr, p_skip, p_brk, p_cont, p_retN, p_seq, p_fif, p_ret, p_exp, p_asg, p_aug, p_aVar, p_aPair, p_run, List.map_cons, List.map_nil, List.cons_append, List.nil_append, List.append_nil, List.length_cons, List.length_nil, List.getElem?_cons_zero, List.getElem?_cons_succ, List.set_cons_zero, List.set_cons_succ, List.reduceReplicate, true_and, and_true, if_true, ite_true, Bool.false_eq_true, if_false, reduceIte, false_and, and_false, p_aAttr, p_eSliceA, Nat.reduceLT, Nat.reduceSub, Nat.reduceAdd, Nat.reduceEqDiff, Nat.lt_irrefl, Nat.zero_le, p_fMake, Option.elim, List.take_zero]
  refine ⟨_, rfl, ?_⟩
  rw [put_eq (List.getElem?_set_self hlt) rfl (gs' := [.int 0]) rfl]
  simp [wO_some, wO_none, w1_some, w1_none, wS_some, wS_none, if_none, szOk_eq, strOk_eq, p_var, p_lit, p_bin, p_un, p_if, p_cmpE, p_cmp, p_not, p_and, p_or, p_val, p_true, p_eAnd, p_eOr, p_notF, p_nil, p_cons, p_tup, p_list, p_call, p_meth, p_star, p_attr, p_skip, p_brk, p_cont, p_retN, p_seq, p_fif, p_ret, p_exp, p_asg, p_aug, p_aVar, p_aPair, p_run, List.map_cons, List.map_nil, List.cons_append, List.nil_append, List.append_nil, List.length_cons, List.length_nil, List.getElem?_cons_zero, List.getElem?_cons_succ, List.set_cons_zero, List.set_cons_succ, List.reduceReplicate, true_and, and_true, if_true, ite_true, Bool.false_eq_true, if_false, reduceIte, false_and, and_false, p_aAttr, p_eSliceA, Nat.reduceLT, Nat.reduceSub, Nat.reduceAdd, Nat.reduceEqDiff, Nat.lt_irrefl, Nat.zero_le, p_fMake, withFields, accO]
theorem fld_eq {C : Addr} {i j : Nat} {gs : List PV} {p : PV} (h : σ[i]? = some (.inst C gs)) (hj : gs[j]? = some p) (hp : handedPV p = true) : fld C j (.ref i) σ = some p := by
  simp [fld, h, fieldsOfPO, hj, hp]
theorem fldA_eq {j : Nat} {p : PV} (h : σ[ac]? = some (.acc D fs l)) (hj : fs[j]? = some p) (hp : handedPV p = true) : fld D j (.ref ac) σ = some p := by
  simp [fld, h, fieldsOfPO, hj, hp]
def spacey (a : List Nat) : Bool := !a.isEmpty && a.all Unicode.isSpace
theorem onlyws_eq (h : σ[ac]? = some (accO D n ps)) (hn : n + (flat ps).length ≤ 1000000) (hl : ps.length ≤ 1000000) : G_is_onlyws D V [.ref ac] σ = some (.bool (n == 0 && ((flat ps).isEmpty || spacey (flat ps))), σ) := by
  apply eq_of_wO
  have f0 : fld D 0 (.ref ac) σ = some (.int n) := fldA_eq h rfl rfl
  have e0 : eqF 5 σ (.int (n : Int)) (.int 0) = some ((n : Int) == 0) := by rw [eqF]
  simp only [G_is_onlyws, g_is_onlyws, wO_some, wO_none, w1_some, w1_none, wS_some, wS_none, if_none, szOk_eq, strOk_eq, p_var, p_lit, p_bin, p_un, p_if, p_cmpE, p_cmp, p_not, p_and, p_or, p_val, p_true, p_eAnd, p_eOr, p_notF, p_nil, p_cons, p_tup, p_list, p_call, p_meth, p_star, p_attr, p_skip, p_brk, p_cont, p_retN, p_seq, p_fif, p_ret, p_exp, p_asg, p_aug, p_aVar, p_aPair, p_run, List.map_cons, List.map_nil, List.cons_append, List.nil_append, List.append_nil, List.length_cons, List.length_nil, List.getElem?_cons_zero, List.getElem?_cons_succ, List.set_cons_zero, List.set_cons_succ, List.reduceReplicate, true_and, and_true, if_true, ite_true, Bool.false_eq_true, if_false, reduceIte, false_and, and_false, p_aAttr, p_eSliceA, Nat.reduceLT, Nat.reduceSub, Nat.reduceAdd, Nat.reduceEqDiff, Nat.lt_irrefl, Nat.zero_le, p_fMake, f0, eqB, e0, truF]
  by_cases hz : n = 0
  · subst hz
    simp only [show (((0 : Nat) : Int) == 0) = true from rfl, wO_some, wO_none, w1_some, w1_none, wS_some, wS_none, if_none, szOk_eq, strOk_eq, p_var, p_lit, p_bin, p_un, p_if, p_cmpE, p_cmp, p_not, p_and, p_or, p_val, p_true, p_eAnd, p_eOr, p_notF, p_nil, p_cons, p_tup, p_list, p_call, p_meth, p_star, p_attr, p_skip, p_brk, p_cont, p_retN, p_seq, p_fif, p_ret, p_exp, p_asg, p_aug, p_aVar, p_aPair, p_run, List.map_cons, List.map_nil, List.cons_append, List.nil_append, List.append_nil, List.length_cons, List.length_nil, List.getElem?_cons_zero, List.getElem?_cons_succ, List.set_cons_zero, List.set_cons_succ, List.reduceReplicate, true_and, and_true, if_true, ite_true, Bool.false_eq_true, if_false, reduceIte, false_and, and_false, p_aAttr, p_eSliceA, Nat.reduceLT, Nat.reduceSub, Nat.reduceAdd, Nat.reduceEqDiff, Nat.lt_irrefl, Nat.zero_le, p_fMake, truA_eq (V := V) h hn, strA_eq (V := V) h (by omega) hl, isspaceF, mkS_isspace]
    cases hf : flat ps with
    | nil => simp [wO_some, wO_none, w1_some, w1_none, wS_some, wS_none, if_none, szOk_eq, strOk_eq, p_var, p_lit, p_bin, p_un, p_if, p_cmpE, p_cmp, p_not, p_and, p_or, p_val, p_true, p_eAnd, p_eOr, p_notF, p_nil, p_cons, p_tup, p_list, p_call, p_meth, p_star, p_attr, p_skip, p_brk, p_cont, p_retN, p_seq, p_fif, p_ret, p_exp, p_asg, p_aug, p_aVar, p_aPair, p_run, List.map_cons, List.map_nil, List.cons_append, List.nil_append, List.append_nil, List.length_cons, List.length_nil, List.getElem?_cons_zero, List.getElem?_cons_succ, List.set_cons_zero, List.set_cons_succ, List.reduceReplicate, true_and, and_true, if_true, ite_true, Bool.false_eq_true, if_false, reduceIte, false_and, and_false, p_aAttr, p_eSliceA, Nat.reduceLT, Nat.reduceSub, Nat.reduceAdd, Nat.reduceEqDiff, Nat.lt_irrefl, Nat.zero_le, p_fMake, truF]
    | cons c r => simp [wO_some, wO_none, w1_some, w1_none, wS_some, wS_none, if_none, szOk_eq, strOk_eq, p_var, p_lit, p_bin, p_un, p_if, p_cmpE, p_cmp, p_not, p_and, p_or, p_val, p_true, p_eAnd, p_eOr, p_notF, p_nil, p_cons, p_tup, p_list, p_call, p_meth, p_star, p_attr, p_skip, p_brk, p_cont, p_retN, p_seq, p_fif, p_ret, p_exp, p_asg, p_aug, p_aVar, p_aPair, p_run, List.map_cons, List.map_nil, List.cons_append, List.nil_append, List.append_nil, List.length_cons, List.length_nil, List.getElem?_cons_zero, List.getElem?_cons_succ, List.set_cons_zero, List.set_cons_succ, List.reduceReplicate, true_and, and_true, if_true, ite_true, Bool.false_eq_true, if_false, reduceIte, false_and, and_false, p_aAttr, p_eSliceA, Nat.reduceLT, Nat.reduceSub, Nat.reduceAdd, Nat.reduceEqDiff, Nat.lt_irrefl, Nat.zero_le, p_fMake, truF, isS, isspaceF, mkS_isspace, spacey]
  · have : ((n : Int) == 0) = false := by rw [beq_eq_false_iff_ne]; omega
    simp [this, wO_some, wO_none, w1_some, w1_none, wS_some, wS_none, if_none, szOk_eq, strOk_eq, p_var, p_lit, p_bin, p_un, p_if, p_cmpE, p_cmp, p_not, p_and, p_or, p_val, p_true, p_eAnd, p_eOr, p_notF, p_nil, p_cons, p_tup, p_list, p_call, p_meth, p_star, p_attr, p_skip, p_brk, p_cont, p_retN, p_seq, p_fif, p_ret, p_exp, p_asg, p_aug, p_aVar, p_aPair, p_run, List.map_cons, List.map_nil, List.cons_append, List.nil_append, List.append_nil, List.length_cons, List.length_nil, List.getElem?_cons_zero, List.getElem?_cons_succ, List.set_cons_zero, List.set_cons_succ, List.reduceReplicate, true_and, and_true, if_true, ite_true, Bool.false_eq_true, if_false, reduceIte, false_and, and_false, p_aAttr, p_eSliceA, Nat.reduceLT, Nat.reduceSub, Nat.reduceAdd, Nat.reduceEqDiff, Nat.lt_irrefl, Nat.zero_le, p_fMake, hz]
theorem gx {xs : List PO} {k : Nat} : (σ ++ xs)[σ.length + k]? = xs[k]? := by rw [List.getElem?_append_right (by omega)]; congr 1; omega
theorem gx0 {xs : List PO} : (σ ++ xs)[σ.length]? = xs[(0 : Nat)]? := gx (k := 0)
theorem sx {xs : List PO} {k : Nat} {o : PO} : (σ ++ xs).set (σ.length + k) o = σ ++ xs.set k o := by
  rw [List.set_append_right _ _ (by omega)]; congr 2; omega
theorem sx0 {xs : List PO} {o : PO} : (σ ++ xs).set σ.length o = σ ++ xs.set 0 o := sx (k := 0)
theorem make_eq {w : Int} {ws signs : List Nat} (hws : ws.length ≤ 1000000) : fMake (.inst V []) (G_init_v D V) [.int n, .int w, .str (mkS ws), .str (mkS signs)] σ = some (.ref σ.length, σ ++ [vfO V w ws signs (σ.length + 1) (σ.length + 2), PO.list [], accO D n []]) := by
  have e : wO (G_init_v D V [.ref σ.length, .int n, .int w, .str (mkS ws), .str (mkS signs)] (σ ++ [PO.inst V []])) fun p s => p = .none ∧ s = σ ++ [vfO V w ws signs (σ.length + 1) (σ.length + 2), PO.list [], accO D n []] := by
    simp only [G_init_v, g_init_v, wO_some, wO_none, w1_some, w1_none, wS_some, wS_none, if_none, szOk_eq, strOk_eq, p_var, p_lit, p_bin, p_un, p_if, p_cmpE, p_cmp, p_not, p_and, p_or, p_val, p_true, p_eAnd, p_eOr, p_notF, p_nil, p_cons, p_tup, p_list, p_call, p_meth, p_star, p_attr, p_skip, p_brk, p_cont, p_retN, p_seq, p_fif, p_ret, p_exp, p_asg, p_aug, p_aVar, p_aPair, p_run, List.map_cons, List.map_nil, List.cons_append, List.nil_append, List.append_nil, List.length_cons, List.length_nil, List.getElem?_cons_zero, List.getElem?_cons_succ, List.set_cons_zero, List.set_cons_succ, List.reduceReplicate, true_and, and_true, if_true, ite_true, Bool.false_eq_true, if_false, reduceIte, false_and, and_false, p_aAttr, p_eSliceA, Nat.reduceLT, Nat.reduceSub, Nat.reduceAdd, Nat.reduceEqDiff, Nat.lt_irrefl, Nat.zero_le, p_fMake, PV.ref.injEq, exists_eq_left', putField, gx0, gx, sx0, sx, fieldsOfPO, putAt, withFields, lenF, mkS_len, hws, List.append_assoc, List.length_append, fMake, initF, vfO, accO]
  obtain ⟨p, s, e, rfl, rfl⟩ := e
  unfold fMake
  rw [e]
end
end Mine
end
section
open PySem PySem.W PySem.Calls PyProof.Rows
set_option maxRecDepth 100000
set_option linter.unusedVariables false
set_option linter.unusedSimpArgs false
namespace Mine
structure FmtAt (D V : Addr) (σ : List PO) (m : Nat) (w : Int) (ws sg : List Nat) (ln ac n : Nat) (ps : List WP) (ls : List (List Nat)) : Prop where
  vf : σ[m]? = some (vfO V w ws sg ln ac)
  li : σ[ln]? = some (linesO ls)
  cu : σ[ac]? = some (accO D n ps)
def Keep (σ σ' : List PO) (S : List Nat) : Prop := ∀ (j : Nat) o, σ[j]? = some o → j ∉ S → σ'[j]? = some o
theorem Keep.trans {σ σ' σ'' : List PO} {S T : List Nat} (h : Keep σ σ' S) (k : Keep σ' σ'' T) (hT : ∀ x ∈ T, σ.length ≤ x ∨ x ∈ S) : Keep σ σ'' S := fun j o e hj =>
  k j o (h j o e hj) fun i => (hT j i).elim (fun c => by have := (List.getElem?_eq_some_iff.1 e).1; omega) hj
theorem Keep.refl {σ : List PO} {S : List Nat} : Keep σ σ S := fun _ _ e _ => e
theorem Keep.app {σ l : List PO} {S : List Nat} : Keep σ (σ ++ l) S := fun j o e _ => by
  rw [List.getElem?_append_left (List.getElem?_eq_some_iff.1 e).1]; exact e
theorem Keep.set {σ : List PO} {i : Nat} {o : PO} : Keep σ (σ.set i o) [i] := fun j q e hj => by
  rw [List.getElem?_set_ne (by simpa using Ne.symm (by simpa using hj))]; exact e
theorem Keep.weak {σ σ' : List PO} {S T : List Nat} (h : Keep σ σ' S) (k : ∀ x ∈ S, x ∈ T) : Keep σ σ' T := fun j o e hj => h j o e fun i => hj (k j i)
theorem Keep.len {σ σ' : List PO} (h : Keep σ σ' []) : σ.length ≤ σ'.length := by
  cases hl : σ.length with
  | zero => omega
  | succ n =>
    have : σ[n]? = some σ[n] := List.getElem?_eq_getElem (by omega)
    have := (List.getElem?_eq_some_iff.1 (h n _ this (by simp))).1
    omega
theorem set_same {σ : List PO} {i : Nat} {o : PO} (h : σ[i]? = some o) : σ.set i o = σ := by
  obtain ⟨hlt, e⟩ := List.getElem?_eq_some_iff.1 h
  rw [← e]; exact List.set_getElem_self hlt
section
variable {D V : Addr} {σ : List PO} {ac m ln n : Nat} {ps : List WP} {ls : List (List Nat)} {w : Int} {ws sg : List Nat}
theorem FmtAt.ne (F : FmtAt D V σ m w ws sg ln ac n ps ls) : m ≠ ln ∧ m ≠ ac ∧ ln ≠ ac := by
  refine ⟨?_, ?_, ?_⟩ <;> intro e <;> subst e
  · have := F.vf.symm.trans F.li; cases this
  · have := F.vf.symm.trans F.cu; cases this
  · have := F.li.symm.trans F.cu; cases this
def lastP (ps : List WP) : WP := ps.getLastD ([], [])
theorem pop_eq (h : σ[ac]? = some (accO D n ps)) (hl : ps.length ≤ 1000000) : popF D [.ref ac] σ = some (pvP (lastP ps), σ.set ac (accO D n ps.dropLast)) := by
  have hs : szOk (ps.map pvP).length = true := by rw [szOk_eq, List.length_map]; exact hl
  simp only [popF, h, accO, hs, and_self, if_true]
  rcases List.eq_nil_or_concat ps with rfl | ⟨qs, p, rfl⟩
  · simp only [List.map_nil, List.getLast?_nil, List.dropLast_nil]
    have e := set_same h
    rw [show (accO D n []) = PO.acc D [.int n] [] from rfl] at e
    rw [e]
    have : ("" : Str) = mkS [] := by decide +kernel
    simp [lastP, pvP, this]
  · simp [lastP]
theorem FmtAt.cur {ps' : List WP} {n' : Nat} (F : FmtAt D V σ m w ws sg ln ac n ps ls) : FmtAt D V (σ.set ac (accO D n' ps')) m w ws sg ln ac n' ps' ls :=
  ⟨by rw [List.getElem?_set_ne (Ne.symm F.ne.2.1)]; exact F.vf, by rw [List.getElem?_set_ne (Ne.symm F.ne.2.2)]; exact F.li, List.getElem?_set_self (List.getElem?_eq_some_iff.1 F.cu).1⟩
theorem FmtAt.lin {ls' : List (List Nat)} (F : FmtAt D V σ m w ws sg ln ac n ps ls) : FmtAt D V (σ.set ln (linesO ls')) m w ws sg ln ac n ps ls' :=
  ⟨by rw [List.getElem?_set_ne (Ne.symm F.ne.1)]; exact F.vf, List.getElem?_set_self (List.getElem?_eq_some_iff.1 F.li).1, by rw [List.getElem?_set_ne F.ne.2.2]; exact F.cu⟩
theorem FmtAt.more {l : List PO} (F : FmtAt D V σ m w ws sg ln ac n ps ls) : FmtAt D V (σ ++ l) m w ws sg ln ac n ps ls :=
  ⟨Keep.app (S := []) _ _ F.vf (by simp), Keep.app (S := []) _ _ F.li (by simp), Keep.app (S := []) _ _ F.cu (by simp)⟩
theorem truL_eq {l : List PV} {i : Nat} (h : σ[i]? = some (.list l)) (hl : l.length ≤ 1000000) : truF (.ref i) σ = some (!l.isEmpty, σ) := by
  unfold truF
  simp only [h, show szOk l.length = true by rw [szOk_eq]; exact hl]
theorem pushP_eq {a b : List Nat} (h : σ[ac]? = some (accO D n ps)) (hl : ps.length ≤ 1000000) : G_push D V [.ref ac, .str (mkS a), .str (mkS b)] σ = some (.none, σ.set ac (accO D n (ps ++ [(a, b)]))) := by
  have := push_eq (V := V) (a := .str (mkS a)) (b := .str (mkS b)) h (by simpa using hl)
  rw [this]; simp [accO, pvP]
theorem eqF_pair {a b c d : Str} : eqF 5 σ (.tup [.str a, .str b]) (.tup [.str c, .str d]) = some (a == c && b == d) := by
  simp [eqF, eqFs]
theorem isA_inst {C : Addr} {i : Nat} {gs : List PV} (h : σ[i]? = some (.inst C gs)) : isA C (.ref i) σ = true := by simp [isA, h, fieldsOfPO]
theorem isA_acc {gs l : List PV} (h : σ[ac]? = some (.acc D gs l)) : isA D (.ref ac) σ = true := by simp [isA, h, fieldsOfPO]
theorem isL_of {l : List PV} {i : Nat} (h : σ[i]? = some (.list l)) : isL (.ref i) σ = true := by simp [isL, h]
theorem append_eq {l : List PV} {i : Nat} {p : PV} (h : σ[i]? = some (.list l)) (hl : l.length ≤ 1000000) : appendF [.ref i, p] σ = some (.none, σ.set i (.list (l ++ [p]))) := by
  simp only [appendF, h, szOk_eq, hl, if_true]
def nlP (ps : List WP) : List WP := if lastP ps = ([32], []) then ps.dropLast else ps.dropLast ++ [lastP ps]
def nlL (n : Nat) (ps : List WP) (ls : List (List Nat)) : List (List Nat) := if 0 < n + (flat (nlP ps)).length then ls ++ [flat (nlP ps)] else ls
theorem nlP_of (h : ps ≠ []) (h2 : lastP ps ≠ ([32], [])) : nlP ps = ps := by
  unfold nlP
  rw [if_neg h2]
  rcases List.eq_nil_or_concat ps with rfl | ⟨qs, p, rfl⟩
  · exact absurd rfl h
  · simp [lastP]
theorem nlP_len : (nlP ps).length ≤ ps.length + 1 := by
  unfold nlP
  split <;> simp <;> omega
theorem nlP_flat : (flat (nlP ps)).length ≤ (flat ps).length := by
  unfold nlP
  rcases List.eq_nil_or_concat ps with rfl | ⟨qs, p, rfl⟩
  · simp [lastP, flat]
  · split <;> simp [lastP, flat_app]
theorem truB {b : Bool} : truF (.bool b) σ = some (b, σ) := rfl
def g_nl3 (D V : Addr) : FS := (fIf (cCmp gtB (eCall (lenF D (G_len D V)) (eCons (eAttr V 5 (eVar 0)) eNil)) (eLit (.int 0))) (fSeq (fIf (cAnd (cVal truF (eMeth (isA D) (G_is_onlyws D V) (eAttr V 5 (eVar 0)) eNil)) (cVal truF (eAttr V 4 (eVar 0)))) (fSeq fNo fSkip) (fSeq (fExp (eMeth isL appendF (eAttr V 4 (eVar 0)) (eCons (eCall (strAF D (G_str D V)) (eCons (eAttr V 5 (eVar 0)) eNil)) eNil))) fSkip)) fSkip) fSkip)
theorem nl3_eq {v3 : PV} (F2 : FmtAt D V σ m w ws sg ln ac n ps ls) (hn : n + (flat ps).length ≤ 100000) (hl : ps.length ≤ 100001) (hls : ls.length ≤ 100000)
    (hw : ls = [] ∨ n ≠ 0 ∨ (flat ps ≠ [] → spacey (flat ps) = false)) :
    g_nl3 D V [some (.ref m), some v3, none, none] σ = some (.next, [some (.ref m), some v3, none, none], σ.set ln (linesO (if 0 < n + (flat ps).length then ls ++ [flat ps] else ls))) := by
  suffices h : wS (g_nl3 D V [some (.ref m), some v3, none, none] σ) fun a b c => a = .next ∧ b = [some (.ref m), some v3, none, none] ∧ c = σ.set ln (linesO (if 0 < n + (flat ps).length then ls ++ [flat ps] else ls)) by
    obtain ⟨a, b, c, e, rfl, rfl, rfl⟩ := h; exact e
  have f5' : fld V 5 (.ref m) σ = some (.ref ac) := fld_eq F2.vf rfl rfl
  have f4' : fld V 4 (.ref m) σ = some (.ref ln) := fld_eq F2.vf rfl rfl
  simp only [g_nl3, f5', f4', wO_some, wO_none, w1_some, w1_none, wS_some, wS_none, if_none, szOk_eq, strOk_eq, p_var, p_lit, p_bin, p_un, p_if, p_cmpE, p_cmp, p_not, p_and, p_or, p_val, p_true, p_eAnd, p_eOr, p_notF, p_nil, p_cons, p_tup, p_list, p_call, p_meth, p_star, p_attr, p_skip, p_brk, p_cont, p_retN, p_seq, p_fif, p_ret, p_exp, p_asg, p_aug, p_aVar, p_aPair, p_run, List.map_cons, List.map_nil, List.cons_append, List.nil_append, List.append_nil, List.length_cons, List.length_nil, List.getElem?_cons_zero, List.getElem?_cons_succ, List.set_cons_zero, List.set_cons_succ, List.reduceReplicate, true_and, and_true, if_true, ite_true, Bool.false_eq_true, if_false, reduceIte, false_and, and_false, p_aAttr, p_eSliceA, Nat.reduceLT, Nat.reduceSub, Nat.reduceAdd, Nat.reduceEqDiff, Nat.lt_irrefl, Nat.zero_le, p_fMake, lenF_eq (V := V) F2.cu (by omega), gtB]
  by_cases hz : 0 < n + (flat ps).length
  · have h1 : decide ((0 : Int) < ((n + (flat ps).length : Nat) : Int)) = true := by simp; omega
    have h3 := append_eq (p := .str (mkS (flat ps))) F2.li (by simp; omega)
    have h4 : (PO.list (ls.map (fun x => PV.str (mkS x)) ++ [.str (mkS (flat ps))])) = linesO (ls ++ [flat ps]) := by simp [linesO]
    rw [h4] at h3
    have h5 : truF (.ref ln) σ = some (!ls.isEmpty, σ) := by
      have := truL_eq F2.li (by simp; omega)
      rw [this]; simp
    simp only [h1, wO_some, wO_none, w1_some, w1_none, wS_some, wS_none, if_none, szOk_eq, strOk_eq, p_var, p_lit, p_bin, p_un, p_if, p_cmpE, p_cmp, p_not, p_and, p_or, p_val, p_true, p_eAnd, p_eOr, p_notF, p_nil, p_cons, p_tup, p_list, p_call, p_meth, p_star, p_attr, p_skip, p_brk, p_cont, p_retN, p_seq, p_fif, p_ret, p_exp, p_asg, p_aug, p_aVar, p_aPair, p_run, List.map_cons, List.map_nil, List.cons_append, List.nil_append, List.append_nil, List.length_cons, List.length_nil, List.getElem?_cons_zero, List.getElem?_cons_succ, List.set_cons_zero, List.set_cons_succ, List.reduceReplicate, true_and, and_true, if_true, ite_true, Bool.false_eq_true, if_false, reduceIte, false_and, and_false, p_aAttr, p_eSliceA, Nat.reduceLT, Nat.reduceSub, Nat.reduceAdd, Nat.reduceEqDiff, Nat.lt_irrefl, Nat.zero_le, p_fMake, f5', f4', isA_acc F2.cu, onlyws_eq (V := V) F2.cu (by omega) (by omega), truB, hz]
    by_cases hq : (n == 0 && ((flat ps).isEmpty || spacey (flat ps))) = true
    · have hls0 : ls = [] := by
        rcases hw with h | h | h
        · exact h
        · simp at hq; exact absurd hq.1 h
        · simp at hq
          have hne : flat ps ≠ [] := fun e => by rw [e] at hz; simp at hz; omega
          rcases hq.2 with e | e
          · exact absurd e hne
          · rw [h hne] at e; cases e
      subst hls0
      simp only [List.isEmpty_nil, Bool.not_true] at h5
      simp only [hq, wO_some, wO_none, w1_some, w1_none, wS_some, wS_none, if_none, szOk_eq, strOk_eq, p_var, p_lit, p_bin, p_un, p_if, p_cmpE, p_cmp, p_not, p_and, p_or, p_val, p_true, p_eAnd, p_eOr, p_notF, p_nil, p_cons, p_tup, p_list, p_call, p_meth, p_star, p_attr, p_skip, p_brk, p_cont, p_retN, p_seq, p_fif, p_ret, p_exp, p_asg, p_aug, p_aVar, p_aPair, p_run, List.map_cons, List.map_nil, List.cons_append, List.nil_append, List.append_nil, List.length_cons, List.length_nil, List.getElem?_cons_zero, List.getElem?_cons_succ, List.set_cons_zero, List.set_cons_succ, List.reduceReplicate, true_and, and_true, if_true, ite_true, Bool.false_eq_true, if_false, reduceIte, false_and, and_false, p_aAttr, p_eSliceA, Nat.reduceLT, Nat.reduceSub, Nat.reduceAdd, Nat.reduceEqDiff, Nat.lt_irrefl, Nat.zero_le, p_fMake, f4', f5', h5, isL_of F2.li, strA_eq (V := V) F2.cu (by omega) (by omega), h3, and_self]
    · simp only [Bool.not_eq_true] at hq
      simp only [hq, wO_some, wO_none, w1_some, w1_none, wS_some, wS_none, if_none, szOk_eq, strOk_eq, p_var, p_lit, p_bin, p_un, p_if, p_cmpE, p_cmp, p_not, p_and, p_or, p_val, p_true, p_eAnd, p_eOr, p_notF, p_nil, p_cons, p_tup, p_list, p_call, p_meth, p_star, p_attr, p_skip, p_brk, p_cont, p_retN, p_seq, p_fif, p_ret, p_exp, p_asg, p_aug, p_aVar, p_aPair, p_run, List.map_cons, List.map_nil, List.cons_append, List.nil_append, List.append_nil, List.length_cons, List.length_nil, List.getElem?_cons_zero, List.getElem?_cons_succ, List.set_cons_zero, List.set_cons_succ, List.reduceReplicate, true_and, and_true, if_true, ite_true, Bool.false_eq_true, if_false, reduceIte, false_and, and_false, p_aAttr, p_eSliceA, Nat.reduceLT, Nat.reduceSub, Nat.reduceAdd, Nat.reduceEqDiff, Nat.lt_irrefl, Nat.zero_le, p_fMake, f4', f5', h5, isL_of F2.li, strA_eq (V := V) F2.cu (by omega) (by omega), h3, and_self]
  · have h1 : decide ((0 : Int) < ((n + (flat ps).length : Nat) : Int)) = false := by simp; omega
    simp only [h1, hz, wO_some, wO_none, w1_some, w1_none, wS_some, wS_none, if_none, szOk_eq, strOk_eq, p_var, p_lit, p_bin, p_un, p_if, p_cmpE, p_cmp, p_not, p_and, p_or, p_val, p_true, p_eAnd, p_eOr, p_notF, p_nil, p_cons, p_tup, p_list, p_call, p_meth, p_star, p_attr, p_skip, p_brk, p_cont, p_retN, p_seq, p_fif, p_ret, p_exp, p_asg, p_aug, p_aVar, p_aPair, p_run, List.map_cons, List.map_nil, List.cons_append, List.nil_append, List.append_nil, List.length_cons, List.length_nil, List.getElem?_cons_zero, List.getElem?_cons_succ, List.set_cons_zero, List.set_cons_succ, List.reduceReplicate, true_and, and_true, if_true, ite_true, Bool.false_eq_true, if_false, reduceIte, false_and, and_false, p_aAttr, p_eSliceA, Nat.reduceLT, Nat.reduceSub, Nat.reduceAdd, Nat.reduceEqDiff, Nat.lt_irrefl, Nat.zero_le, p_fMake, set_same F2.li, and_self]
theorem nl_split : g_newline D V = (fSeq (fAsg (eMeth (isA D) (popF D) (eAttr V 5 (eVar 0)) eNil) (aVar 1)) (fSeq (fIf (cCmp (neB 5) (eVar 1) (eTup (eCons (eLit (.str " ")) (eCons (eLit (.str "")) eNil)))) (fSeq (fExp (eStar D (G_push D V) (eAttr V 5 (eVar 0)) (eVar 1))) fSkip) fSkip) (fSeq (g_nl3 D V) (fSeq (fExp (eMeth (isA D) (G_reset D V) (eAttr V 5 (eVar 0)) eNil)) fSkip)))) := rfl
theorem newline_eq (F : FmtAt D V σ m w ws sg ln ac n ps ls) (hn : n + (flat ps).length ≤ 100000) (hl : ps.length ≤ 100000) (hls : ls.length ≤ 100000)
    (hw : ls = [] ∨ n ≠ 0 ∨ (flat (nlP ps) ≠ [] → spacey (flat (nlP ps)) = false)) :
    ∃ σ', G_newline D V [.ref m] σ = some (.none, σ') ∧ FmtAt D V σ' m w ws sg ln ac 0 [] (nlL n ps ls) ∧ Keep σ σ' [ln, ac] ∧ σ'.length = σ.length + 1 := by
  have F2 : FmtAt D V (σ.set ac (accO D n (nlP ps))) m w ws sg ln ac n (nlP ps) ls := F.cur
  have F3 := F2.lin (ls' := nlL n ps ls)
  have hN := nlP_flat (ps := ps)
  have hN2 := nlP_len (ps := ps)
  have key : wO (G_newline D V [.ref m] σ) fun p s => p = .none ∧ s = ((σ.set ac (accO D n (nlP ps))).set ln (linesO (nlL n ps ls)) ++ [PO.list []]).set ac (accO D 0 []) := by
    have c1 : (" " : Str) = mkS [32] := by decide +kernel
    have c2 : ("" : Str) = mkS [] := by decide +kernel
    have f5 : fld V 5 (.ref m) σ = some (.ref ac) := fld_eq F.vf rfl rfl
    have e0 : fld V 5 (.ref m) (σ.set ac (accO D n ps.dropLast)) = some (.ref ac) := fld_eq F.cur.vf rfl rfl
    have e1 := pushP_eq (V := V) (a := (lastP ps).1) (b := (lastP ps).2) (F.cur (n' := n) (ps' := ps.dropLast)).cu (by simp; omega)
    rw [List.set_set] at e1
    have f5' : fld V 5 (.ref m) ((σ.set ac (accO D n (nlP ps))).set ln (linesO (nlL n ps ls))) = some (.ref ac) := fld_eq F3.vf rfl rfl
    simp only [G_newline, nl_split, wO_some, wO_none, w1_some, w1_none, wS_some, wS_none, if_none, szOk_eq, strOk_eq, p_var, p_lit, p_bin, p_un, p_if, p_cmpE, p_cmp, p_not, p_and, p_or, p_val, p_true, p_eAnd, p_eOr, p_notF, p_nil, p_cons, p_tup, p_list, p_call, p_meth, p_star, p_attr, p_skip, p_brk, p_cont, p_retN, p_seq, p_fif, p_ret, p_exp, p_asg, p_aug, p_aVar, p_aPair, p_run, List.map_cons, List.map_nil, List.cons_append, List.nil_append, List.append_nil, List.length_cons, List.length_nil, List.getElem?_cons_zero, List.getElem?_cons_succ, List.set_cons_zero, List.set_cons_succ, List.reduceReplicate, true_and, and_true, if_true, ite_true, Bool.false_eq_true, if_false, reduceIte, false_and, and_false, p_aAttr, p_eSliceA, Nat.reduceLT, Nat.reduceSub, Nat.reduceAdd, Nat.reduceEqDiff, Nat.lt_irrefl, Nat.zero_le, p_fMake]
    simp only [f5, wO_some, wO_none, w1_some, w1_none, wS_some, wS_none, if_none, szOk_eq, strOk_eq, p_var, p_lit, p_bin, p_un, p_if, p_cmpE, p_cmp, p_not, p_and, p_or, p_val, p_true, p_eAnd, p_eOr, p_notF, p_nil, p_cons, p_tup, p_list, p_call, p_meth, p_star, p_attr, p_skip, p_brk, p_cont, p_retN, p_seq, p_fif, p_ret, p_exp, p_asg, p_aug, p_aVar, p_aPair, p_run, List.map_cons, List.map_nil, List.cons_append, List.nil_append, List.append_nil, List.length_cons, List.length_nil, List.getElem?_cons_zero, List.getElem?_cons_succ, List.set_cons_zero, List.set_cons_succ, List.reduceReplicate, true_and, and_true, if_true, ite_true, Bool.false_eq_true, if_false, reduceIte, false_and, and_false, p_aAttr, p_eSliceA, Nat.reduceLT, Nat.reduceSub, Nat.reduceAdd, Nat.reduceEqDiff, Nat.lt_irrefl, Nat.zero_le, p_fMake, isA_acc F.cu, pop_eq F.cu (show ps.length ≤ 1000000 by omega), neB, c1, c2, pvP, eqF_pair, mkS_beq]
    refine ⟨by omega, ?_⟩
    have nl3 := fun v3 => nl3_eq (v3 := v3) F2 (by omega) (by omega) hls hw
    rw [show (if 0 < n + (flat (nlP ps)).length then ls ++ [flat (nlP ps)] else ls) = nlL n ps ls from rfl] at nl3
    have rs := reset_eq (V := V) F3.cu (by omega)
    by_cases hlast : lastP ps = ([32], [])
    · have e2 : nlP ps = ps.dropLast := if_pos hlast
      have e3 : (!((lastP ps).1 == [32] && (lastP ps).2 == [])) = false := by rw [hlast]; rfl
      rw [e2] at nl3 f5' rs
      have i3 := F3; rw [e2] at i3
      simp only [e3, wO_some, wO_none, w1_some, w1_none, wS_some, wS_none, if_none, szOk_eq, strOk_eq, p_var, p_lit, p_bin, p_un, p_if, p_cmpE, p_cmp, p_not, p_and, p_or, p_val, p_true, p_eAnd, p_eOr, p_notF, p_nil, p_cons, p_tup, p_list, p_call, p_meth, p_star, p_attr, p_skip, p_brk, p_cont, p_retN, p_seq, p_fif, p_ret, p_exp, p_asg, p_aug, p_aVar, p_aPair, p_run, List.map_cons, List.map_nil, List.cons_append, List.nil_append, List.append_nil, List.length_cons, List.length_nil, List.getElem?_cons_zero, List.getElem?_cons_succ, List.set_cons_zero, List.set_cons_succ, List.reduceReplicate, true_and, and_true, if_true, ite_true, Bool.false_eq_true, if_false, reduceIte, false_and, and_false, p_aAttr, p_eSliceA, Nat.reduceLT, Nat.reduceSub, Nat.reduceAdd, Nat.reduceEqDiff, Nat.lt_irrefl, Nat.zero_le, p_fMake, nl3, f5', isA_acc i3.cu, rs, e2, and_self]
    · have e2 : nlP ps = ps.dropLast ++ [lastP ps] := if_neg hlast
      have e3 : (!((lastP ps).1 == [32] && (lastP ps).2 == [])) = true := by
        rw [Bool.not_eq_true', Bool.and_eq_false_iff]
        rcases Classical.em ((lastP ps).1 = [32]) with h | h
        · right; rw [beq_eq_false_iff_ne]; intro h'; exact hlast (Prod.ext h h')
        · left; rw [beq_eq_false_iff_ne]; exact h
      rw [e2] at nl3 f5' rs
      have i3 := F3; rw [e2] at i3
      have i4 := (F.cur (n' := n) (ps' := ps.dropLast)).cu
      simp only [e3, wO_some, wO_none, w1_some, w1_none, wS_some, wS_none, if_none, szOk_eq, strOk_eq, p_var, p_lit, p_bin, p_un, p_if, p_cmpE, p_cmp, p_not, p_and, p_or, p_val, p_true, p_eAnd, p_eOr, p_notF, p_nil, p_cons, p_tup, p_list, p_call, p_meth, p_star, p_attr, p_skip, p_brk, p_cont, p_retN, p_seq, p_fif, p_ret, p_exp, p_asg, p_aug, p_aVar, p_aPair, p_run, List.map_cons, List.map_nil, List.cons_append, List.nil_append, List.append_nil, List.length_cons, List.length_nil, List.getElem?_cons_zero, List.getElem?_cons_succ, List.set_cons_zero, List.set_cons_succ, List.reduceReplicate, true_and, and_true, if_true, ite_true, Bool.false_eq_true, if_false, reduceIte, false_and, and_false, p_aAttr, p_eSliceA, Nat.reduceLT, Nat.reduceSub, Nat.reduceAdd, Nat.reduceEqDiff, Nat.lt_irrefl, Nat.zero_le, p_fMake, e0, isA_acc i4, PV.tup.injEq, exists_eq_left', e1, nl3, f5', isA_acc i3.cu, rs, e2, and_self, show (2 : Nat) ≤ 1000000 by omega]
  obtain ⟨p, s, e, rfl, rfl⟩ := key
  refine ⟨_, e, (F3.more (l := [PO.list []])).cur, ?_, by simp⟩
  exact (((Keep.set (σ := σ) (i := ac)).weak (T := [ln, ac]) (by simp)).trans (Keep.set.weak (T := [ln, ac]) (by simp)) (by simp)).trans ((Keep.app (S := [ln, ac])).trans (Keep.set.weak (T := [ln, ac]) (by simp)) (by simp)) (by simp)
end
end Mine
end
section
open PySem PySem.W PySem.Calls PyProof.Rows
set_option maxRecDepth 100000
set_option linter.unusedVariables false
set_option linter.unusedSimpArgs false
namespace Mine
section
variable {D V : Addr} {σ : List PO} {ac m ln n : Nat} {ps : List WP} {ls : List (List Nat)} {w : Int} {ws sg : List Nat}
theorem strsOf_map (ls : List (List Nat)) : strsOf (ls.map fun x => PV.str (mkS x)) = some (ls.map mkS) := by
  induction ls with
  | nil => rfl
  | cons a r ih => show (strsOf (r.map _)).map _ = _; rw [ih]; rfl
theorem join_eq {s : List Nat} {i : Nat} (h : σ[i]? = some (linesO ls)) (hl : (ls.map (·.length)).sum + ls.length * s.length ≤ 1000000) : joinF [.str (mkS s), .ref i] σ = some (.str (mkS (ljoin s ls)), σ) := by
  simp only [joinF, h, linesO, strsOf_map, List.length_map, List.map_map]
  rw [if_pos, mkS_join]
  have : ((fun x => x.length) ∘ mkS) = (fun x : List Nat => x.length) := by funext x; rfl
  rw [this]; exact hl
theorem isS_of {x : Str} : isS (.str x) σ = true := rfl
theorem vstr_eq {s : List Nat} (F : FmtAt D V σ m w ws sg ln ac n ps ls) (hn : n + (flat ps).length ≤ 100000) (hl : ps.length ≤ 100000) (hls : ls.length ≤ 100000)
    (hw : ls = [] ∨ n ≠ 0 ∨ (flat (nlP ps) ≠ [] → spacey (flat (nlP ps)) = false)) (hsz : ((nlL n ps ls).map (·.length)).sum + (nlL n ps ls).length * s.length ≤ 1000000) :
    ∃ σ', G_vstr D V [.ref m, .str (mkS s)] σ = some (.str (mkS (ljoin s (nlL n ps ls))), σ') ∧ FmtAt D V σ' m w ws sg ln ac 0 [] (nlL n ps ls) ∧ Keep σ σ' [ln, ac] ∧ σ'.length = σ.length + 1 := by
  obtain ⟨σ', e, F', K, L⟩ := newline_eq F hn hl hls hw
  refine ⟨σ', eq_of_wO ?_, F', K, L⟩
  have f4 : fld V 4 (.ref m) σ' = some (.ref ln) := fld_eq F'.vf rfl rfl
  simp only [G_vstr, g_vstr, wO_some, wO_none, w1_some, w1_none, wS_some, wS_none, if_none, szOk_eq, strOk_eq, p_var, p_lit, p_bin, p_un, p_if, p_cmpE, p_cmp, p_not, p_and, p_or, p_val, p_true, p_eAnd, p_eOr, p_notF, p_nil, p_cons, p_tup, p_list, p_call, p_meth, p_star, p_attr, p_skip, p_brk, p_cont, p_retN, p_seq, p_fif, p_ret, p_exp, p_asg, p_aug, p_aVar, p_aPair, p_run, List.map_cons, List.map_nil, List.cons_append, List.nil_append, List.append_nil, List.length_cons, List.length_nil, List.getElem?_cons_zero, List.getElem?_cons_succ, List.set_cons_zero, List.set_cons_succ, List.reduceReplicate, true_and, and_true, if_true, ite_true, Bool.false_eq_true, if_false, reduceIte, false_and, and_false, p_aAttr, p_eSliceA, Nat.reduceLT, Nat.reduceSub, Nat.reduceAdd, Nat.reduceEqDiff, Nat.lt_irrefl, Nat.zero_le, p_fMake, isA_inst F.vf, e, isS_of, f4, join_eq F'.li hsz, and_self]
theorem idxA_eq {k : Nat} {p : WP} (h : σ[ac]? = some (accO D n ps)) (hk : ps[k]? = some p) (hk2 : k ≤ 1000000) : idxAF D (.ref ac) (.int (k : Int)) σ = some (pvP p, σ) := by
  simp only [idxAF, h, accO]
  rw [if_pos ⟨trivial, by omega, by omega⟩]
  simp [hk]
theorem idx_p0 {p : WP} : idxF (pvP p) (.int 0) σ = some (.str (mkS p.1), σ) := by
  simp only [pvP, idxF, pyAt]
  rw [if_neg (by decide), if_pos (by decide)]
  rfl
theorem idx_p1 {p : WP} : idxF (pvP p) (.int 1) σ = some (.str (mkS p.2), σ) := by
  simp only [pvP, idxF, pyAt]
  rw [if_neg (by decide), if_pos (by decide)]
  rfl
theorem truS_eq {a : List Nat} (h : a.length ≤ 1000000) : truF (.str (mkS a)) σ = some (!a.isEmpty, σ) := by
  unfold truF
  simp only [mkS_len, h, if_true]
  cases a <;> rfl
theorem idx_s0 {c : Nat} {a : List Nat} (h : (c :: a).length ≤ 1000000) : idxF (.str (mkS (c :: a))) (.int 0) σ = some (.str (mkS [c]), σ) := by
  simp only [idxF, mkS_len, mkS_item0]
  rw [if_pos]
  exact ⟨by omega, by simp, h⟩
theorem idx_sL {c : Nat} {a : List Nat} (h : (a ++ [c]).length ≤ 1000000) : idxF (.str (mkS (a ++ [c]))) (.int (-1)) σ = some (.str (mkS [c]), σ) := by
  simp only [idxF, mkS_len, mkS_itemL]
  rw [if_pos]
  exact ⟨by simp; omega, by simp; omega, h⟩
theorem idx_sN {k : Nat} {a : List Nat} (h : a.length ≤ 1000000) (hk : k < a.length) : idxF (.str (mkS a)) (.int (k : Int)) σ = some (.str (mkS [a.getD k 0]), σ) := by
  simp only [idxF, mkS_len, mkS_itemN]
  rw [if_pos]
  refine ⟨by omega, by omega, h⟩
theorem eqF_str {a b : Str} : eqF 5 σ (.str a) (.str b) = some (a == b) := by rw [eqF]
theorem eqF_int {a b : Int} : eqF 5 σ (.int a) (.int b) = some (a == b) := by rw [eqF]
theorem sub_int {a b : Int} : subF (.int a) (.int b) σ = some (.int (a - b), σ) := rfl
theorem add_int {a b : Int} : addF (.int a) (.int b) σ = some (.int (a + b), σ) := rfl
theorem neg_int {a : Int} : negF (.int a) σ = some (.int (-a), σ) := rfl
theorem isspaceF_eq {a : List Nat} : isspaceF [.str (mkS a)] σ = some (.bool (spacey a), σ) := by simp only [isspaceF, mkS_isspace, spacey]
theorem fldAc {k : Nat} (h : σ[ac]? = some (accO D k ps)) : fld D 0 (.ref ac) σ = some (.int (k : Int)) := fldA_eq h rfl rfl
def hit (c : Nat) (p q : WP) : Bool := (Unicode.isSpace c && q.1.head? == some c) || p.2.getLast? == some c
def findB (c : Nat) (ps : List WP) : Nat → Option Nat
  | 0 => none
  | k + 1 => if hit c (ps.getD k ([], [])) (ps.getD (k + 1) ([], [])) = true then some (k + 1) else findB c ps k
def cutAt (sg : List Nat) (ps : List WP) : Option Nat := sg.findSome? fun c => findB c ps (ps.length - 1)
def gInner (D V : Addr) : FS := (fSeq (fIf (cVal truF (eMeth isS isspaceF (eVar 3) eNil)) (fSeq (fAsg (eBin idxF (eBin (idxAF D) (eAttr V 5 (eVar 0)) (eVar 4)) (eLit (.int 0))) (aVar 1)) (fSeq (fIf (cAnd (cVal truF (eVar 1)) (cCmp (eqB 5) (eBin idxF (eVar 1) (eLit (.int 0))) (eVar 3))) (fSeq fBrk fSkip) fSkip) fSkip)) fSkip) (fSeq (fAsg (eBin idxF (eBin (idxAF D) (eAttr V 5 (eVar 0)) (eBin subF (eVar 4) (eLit (.int 1)))) (eLit (.int 1))) (aVar 5)) (fSeq (fIf (cAnd (cVal truF (eVar 5)) (cCmp (eqB 5) (eBin idxF (eVar 5) (eUn negF (eLit (.int 1)))) (eVar 3))) (fSeq fBrk fSkip) fSkip) fSkip)))
def gRange (D V : Addr) : FE := (eCall rangeF (eCons (eBin subF (eMeth (isA D) (countF D) (eAttr V 5 (eVar 0)) eNil) (eLit (.int 1))) (eCons (eLit (.int 0)) (eCons (eUn negF (eLit (.int 1))) eNil))))
def gElse (D V : Addr) : FS := (fSeq (fAsg (eMeth (isA D) (popF D) (eAttr V 5 (eVar 0)) eNil) (aPair (aVar 1) (aVar 6))) (fSeq (fIf (cCmp gtB (eAttr D 0 (eAttr V 5 (eVar 0))) (eLit (.int 0))) (fSeq (fExp (eMeth (isA V) (G_newline D V) (eVar 0) eNil)) (fSeq (fIf (cNot (cVal truF (eVar 1))) (fSeq (fAsg (eLit (.str " ")) (aVar 1)) fSkip) fSkip) fSkip)) fSkip) (fSeq (fExp (eMeth (isA D) (G_push D V) (eAttr V 5 (eVar 0)) (eCons (eVar 1) (eCons (eVar 6) eNil)))) (fSeq fRetN fSkip))))
def gOuter (D V : Addr) : FS := (fSeq (fFor 1000 (aVar 4) (gRange D V) (gInner D V) (fSeq fCont fSkip)) (fSeq fBrk fSkip))
def gCut (D V : Addr) : FS := (fSeq (fAsg (eMeth (isA D) (G_pop_from D V) (eAttr V 5 (eVar 0)) (eCons (eVar 4) eNil)) (aVar 7)) (fSeq (fExp (eMeth isL appendF (eAttr V 4 (eVar 0)) (eCons (eCall (strAF D (G_str D V)) (eCons (eAttr V 5 (eVar 0)) eNil)) eNil))) (fSeq (fExp (eMeth (isA D) (G_reset1 D V) (eAttr V 5 (eVar 0)) (eCons (eVar 7) eNil))) fSkip)))
theorem ch_split : g_chunk D V = (fSeq (fExp (eMeth (isA D) (G_push D V) (eAttr V 5 (eVar 0)) (eCons (eVar 1) (eCons (eVar 2) eNil)))) (fSeq (fIf (cCmp gtB (eCall (lenF D (G_len D V)) (eCons (eAttr V 5 (eVar 0)) eNil)) (eAttr V 0 (eVar 0))) (fSeq (fFor 1000 (aVar 3) (eAttr V 3 (eVar 0)) (gOuter D V) (gElse D V)) (gCut D V)) fSkip) fSkip)) := rfl
def ChEnv (m : Nat) (part : List Nat) (ρ : List (Option PV)) : Prop := ∃ v1 v3 v4 v5, ρ = [some (.ref m), some v1, some (.str (mkS part)), v3, v4, v5, none, none, none, none, none]
def gIn1 (D V : Addr) : FS := (fIf (cVal truF (eMeth isS isspaceF (eVar 3) eNil)) (fSeq (fAsg (eBin idxF (eBin (idxAF D) (eAttr V 5 (eVar 0)) (eVar 4)) (eLit (.int 0))) (aVar 1)) (fSeq (fIf (cAnd (cVal truF (eVar 1)) (cCmp (eqB 5) (eBin idxF (eVar 1) (eLit (.int 0))) (eVar 3))) (fSeq fBrk fSkip) fSkip) fSkip)) fSkip)
def gIn2 (D V : Addr) : FS := (fSeq (fAsg (eBin idxF (eBin (idxAF D) (eAttr V 5 (eVar 0)) (eBin subF (eVar 4) (eLit (.int 1)))) (eLit (.int 1))) (aVar 5)) (fSeq (fIf (cAnd (cVal truF (eVar 5)) (cCmp (eqB 5) (eBin idxF (eVar 5) (eUn negF (eLit (.int 1)))) (eVar 3))) (fSeq fBrk fSkip) fSkip) fSkip))
theorem in_split : gInner D V = fSeq (gIn1 D V) (gIn2 D V) := rfl
theorem in1_eq {part : List Nat} {c k : Nat} {q : WP} {v1 : PV} {v5 : Option PV} (F : FmtAt D V σ m w ws sg ln ac n ps ls) (hq : ps[k]? = some q) (hk2 : k ≤ 1000000) (bq : q.1.length ≤ 1000000) :
    wS (gIn1 D V [some (.ref m), some v1, some (.str (mkS part)), some (.str (mkS [c])), some (.int (k : Int)), v5, none, none, none, none, none] σ) fun fl ρ' σ' =>
      σ' = σ ∧ (∃ v1, ρ' = [some (.ref m), some v1, some (.str (mkS part)), some (.str (mkS [c])), some (.int (k : Int)), v5, none, none, none, none, none]) ∧
        fl = if (Unicode.isSpace c && q.1.head? == some c) = true then .brk else .next := by
  have f5 : fld V 5 (.ref m) σ = some (.ref ac) := fld_eq F.vf rfl rfl
  have i1 := idxA_eq F.cu hq hk2
  have hs : spacey [c] = Unicode.isSpace c := by simp [spacey]
  simp only [gIn1, wO_some, wO_none, w1_some, w1_none, wS_some, wS_none, if_none, szOk_eq, strOk_eq, p_var, p_lit, p_bin, p_un, p_if, p_cmpE, p_cmp, p_not, p_and, p_or, p_val, p_true, p_eAnd, p_eOr, p_notF, p_nil, p_cons, p_tup, p_list, p_call, p_meth, p_star, p_attr, p_skip, p_brk, p_cont, p_retN, p_seq, p_fif, p_ret, p_exp, p_asg, p_aug, p_aVar, p_aPair, p_run, List.map_cons, List.map_nil, List.cons_append, List.nil_append, List.append_nil, List.length_cons, List.length_nil, List.getElem?_cons_zero, List.getElem?_cons_succ, List.set_cons_zero, List.set_cons_succ, List.reduceReplicate, true_and, and_true, if_true, ite_true, Bool.false_eq_true, if_false, reduceIte, false_and, and_false, p_aAttr, p_eSliceA, Nat.reduceLT, Nat.reduceSub, Nat.reduceAdd, Nat.reduceEqDiff, Nat.lt_irrefl, Nat.zero_le, p_fMake, isS_of, isspaceF_eq, truB, hs]
  by_cases hsp : Unicode.isSpace c = true
  · simp only [hsp, wO_some, wO_none, w1_some, w1_none, wS_some, wS_none, if_none, szOk_eq, strOk_eq, p_var, p_lit, p_bin, p_un, p_if, p_cmpE, p_cmp, p_not, p_and, p_or, p_val, p_true, p_eAnd, p_eOr, p_notF, p_nil, p_cons, p_tup, p_list, p_call, p_meth, p_star, p_attr, p_skip, p_brk, p_cont, p_retN, p_seq, p_fif, p_ret, p_exp, p_asg, p_aug, p_aVar, p_aPair, p_run, List.map_cons, List.map_nil, List.cons_append, List.nil_append, List.append_nil, List.length_cons, List.length_nil, List.getElem?_cons_zero, List.getElem?_cons_succ, List.set_cons_zero, List.set_cons_succ, List.reduceReplicate, true_and, and_true, if_true, ite_true, Bool.false_eq_true, if_false, reduceIte, false_and, and_false, p_aAttr, p_eSliceA, Nat.reduceLT, Nat.reduceSub, Nat.reduceAdd, Nat.reduceEqDiff, Nat.lt_irrefl, Nat.zero_le, p_fMake, f5, i1, idx_p0, truS_eq bq]
    cases hh : q.1 with
    | nil =>
      simp only [List.isEmpty_nil, Bool.not_true, wO_some, wO_none, w1_some, w1_none, wS_some, wS_none, if_none, szOk_eq, strOk_eq, p_var, p_lit, p_bin, p_un, p_if, p_cmpE, p_cmp, p_not, p_and, p_or, p_val, p_true, p_eAnd, p_eOr, p_notF, p_nil, p_cons, p_tup, p_list, p_call, p_meth, p_star, p_attr, p_skip, p_brk, p_cont, p_retN, p_seq, p_fif, p_ret, p_exp, p_asg, p_aug, p_aVar, p_aPair, p_run, List.map_cons, List.map_nil, List.cons_append, List.nil_append, List.append_nil, List.length_cons, List.length_nil, List.getElem?_cons_zero, List.getElem?_cons_succ, List.set_cons_zero, List.set_cons_succ, List.reduceReplicate, true_and, and_true, if_true, ite_true, Bool.false_eq_true, if_false, reduceIte, false_and, and_false, p_aAttr, p_eSliceA, Nat.reduceLT, Nat.reduceSub, Nat.reduceAdd, Nat.reduceEqDiff, Nat.lt_irrefl, Nat.zero_le, p_fMake, List.head?_nil]
      exact ⟨⟨_, rfl⟩, by simp⟩
    | cons x a =>
      have h2 : (x :: a).length ≤ 1000000 := by rw [← hh]; exact bq
      simp only [List.isEmpty_cons, Bool.not_false, wO_some, wO_none, w1_some, w1_none, wS_some, wS_none, if_none, szOk_eq, strOk_eq, p_var, p_lit, p_bin, p_un, p_if, p_cmpE, p_cmp, p_not, p_and, p_or, p_val, p_true, p_eAnd, p_eOr, p_notF, p_nil, p_cons, p_tup, p_list, p_call, p_meth, p_star, p_attr, p_skip, p_brk, p_cont, p_retN, p_seq, p_fif, p_ret, p_exp, p_asg, p_aug, p_aVar, p_aPair, p_run, List.map_cons, List.map_nil, List.cons_append, List.nil_append, List.append_nil, List.length_cons, List.length_nil, List.getElem?_cons_zero, List.getElem?_cons_succ, List.set_cons_zero, List.set_cons_succ, List.reduceReplicate, true_and, and_true, if_true, ite_true, Bool.false_eq_true, if_false, reduceIte, false_and, and_false, p_aAttr, p_eSliceA, Nat.reduceLT, Nat.reduceSub, Nat.reduceAdd, Nat.reduceEqDiff, Nat.lt_irrefl, Nat.zero_le, p_fMake, idx_s0 h2, eqB, eqF_str, mkS_beq]
      have h5 : ([x] == [c]) = (x == c) := by simp
      have h6 : ((x :: a).head? == some c) = (x == c) := by simp
      rw [h5, h6]
      by_cases e : (x == c) = true
      · simp only [e, wO_some, wO_none, w1_some, w1_none, wS_some, wS_none, if_none, szOk_eq, strOk_eq, p_var, p_lit, p_bin, p_un, p_if, p_cmpE, p_cmp, p_not, p_and, p_or, p_val, p_true, p_eAnd, p_eOr, p_notF, p_nil, p_cons, p_tup, p_list, p_call, p_meth, p_star, p_attr, p_skip, p_brk, p_cont, p_retN, p_seq, p_fif, p_ret, p_exp, p_asg, p_aug, p_aVar, p_aPair, p_run, List.map_cons, List.map_nil, List.cons_append, List.nil_append, List.append_nil, List.length_cons, List.length_nil, List.getElem?_cons_zero, List.getElem?_cons_succ, List.set_cons_zero, List.set_cons_succ, List.reduceReplicate, true_and, and_true, if_true, ite_true, Bool.false_eq_true, if_false, reduceIte, false_and, and_false, p_aAttr, p_eSliceA, Nat.reduceLT, Nat.reduceSub, Nat.reduceAdd, Nat.reduceEqDiff, Nat.lt_irrefl, Nat.zero_le, p_fMake, Bool.and_self]
        exact ⟨_, rfl⟩
      · simp only [Bool.not_eq_true] at e
        simp only [e, wO_some, wO_none, w1_some, w1_none, wS_some, wS_none, if_none, szOk_eq, strOk_eq, p_var, p_lit, p_bin, p_un, p_if, p_cmpE, p_cmp, p_not, p_and, p_or, p_val, p_true, p_eAnd, p_eOr, p_notF, p_nil, p_cons, p_tup, p_list, p_call, p_meth, p_star, p_attr, p_skip, p_brk, p_cont, p_retN, p_seq, p_fif, p_ret, p_exp, p_asg, p_aug, p_aVar, p_aPair, p_run, List.map_cons, List.map_nil, List.cons_append, List.nil_append, List.append_nil, List.length_cons, List.length_nil, List.getElem?_cons_zero, List.getElem?_cons_succ, List.set_cons_zero, List.set_cons_succ, List.reduceReplicate, true_and, and_true, if_true, ite_true, Bool.false_eq_true, if_false, reduceIte, false_and, and_false, p_aAttr, p_eSliceA, Nat.reduceLT, Nat.reduceSub, Nat.reduceAdd, Nat.reduceEqDiff, Nat.lt_irrefl, Nat.zero_le, p_fMake, Bool.and_false]
        exact ⟨_, rfl⟩
  · simp only [Bool.not_eq_true] at hsp
    simp only [hsp, wO_some, wO_none, w1_some, w1_none, wS_some, wS_none, if_none, szOk_eq, strOk_eq, p_var, p_lit, p_bin, p_un, p_if, p_cmpE, p_cmp, p_not, p_and, p_or, p_val, p_true, p_eAnd, p_eOr, p_notF, p_nil, p_cons, p_tup, p_list, p_call, p_meth, p_star, p_attr, p_skip, p_brk, p_cont, p_retN, p_seq, p_fif, p_ret, p_exp, p_asg, p_aug, p_aVar, p_aPair, p_run, List.map_cons, List.map_nil, List.cons_append, List.nil_append, List.append_nil, List.length_cons, List.length_nil, List.getElem?_cons_zero, List.getElem?_cons_succ, List.set_cons_zero, List.set_cons_succ, List.reduceReplicate, true_and, and_true, if_true, ite_true, Bool.false_eq_true, if_false, reduceIte, false_and, and_false, p_aAttr, p_eSliceA, Nat.reduceLT, Nat.reduceSub, Nat.reduceAdd, Nat.reduceEqDiff, Nat.lt_irrefl, Nat.zero_le, p_fMake, Bool.false_and]
    exact ⟨_, rfl⟩
theorem in2_eq {part : List Nat} {c k : Nat} {p : WP} {v1 : PV} {v5 : Option PV} (F : FmtAt D V σ m w ws sg ln ac n ps ls) (hp : ps[k]? = some p) (hk2 : k ≤ 1000000) (bp : p.2.length ≤ 1000000) :
    wS (gIn2 D V [some (.ref m), some v1, some (.str (mkS part)), some (.str (mkS [c])), some (.int ((k + 1 : Nat) : Int)), v5, none, none, none, none, none] σ) fun fl ρ' σ' =>
      σ' = σ ∧ (∃ v5, ρ' = [some (.ref m), some v1, some (.str (mkS part)), some (.str (mkS [c])), some (.int ((k + 1 : Nat) : Int)), v5, none, none, none, none, none]) ∧
        fl = if (p.2.getLast? == some c) = true then .brk else .next := by
  have f5 : fld V 5 (.ref m) σ = some (.ref ac) := fld_eq F.vf rfl rfl
  have i0 := idxA_eq F.cu hp hk2
  have ek : (((k + 1 : Nat) : Int) - 1) = (k : Int) := by omega
  simp only [gIn2, wO_some, wO_none, w1_some, w1_none, wS_some, wS_none, if_none, szOk_eq, strOk_eq, p_var, p_lit, p_bin, p_un, p_if, p_cmpE, p_cmp, p_not, p_and, p_or, p_val, p_true, p_eAnd, p_eOr, p_notF, p_nil, p_cons, p_tup, p_list, p_call, p_meth, p_star, p_attr, p_skip, p_brk, p_cont, p_retN, p_seq, p_fif, p_ret, p_exp, p_asg, p_aug, p_aVar, p_aPair, p_run, List.map_cons, List.map_nil, List.cons_append, List.nil_append, List.append_nil, List.length_cons, List.length_nil, List.getElem?_cons_zero, List.getElem?_cons_succ, List.set_cons_zero, List.set_cons_succ, List.reduceReplicate, true_and, and_true, if_true, ite_true, Bool.false_eq_true, if_false, reduceIte, false_and, and_false, p_aAttr, p_eSliceA, Nat.reduceLT, Nat.reduceSub, Nat.reduceAdd, Nat.reduceEqDiff, Nat.lt_irrefl, Nat.zero_le, p_fMake, f5, sub_int, ek, i0, idx_p1, truS_eq bp]
  rcases List.eq_nil_or_concat p.2 with h | ⟨a, x, h⟩
  · rw [h]
    simp only [List.isEmpty_nil, Bool.not_true, wO_some, wO_none, w1_some, w1_none, wS_some, wS_none, if_none, szOk_eq, strOk_eq, p_var, p_lit, p_bin, p_un, p_if, p_cmpE, p_cmp, p_not, p_and, p_or, p_val, p_true, p_eAnd, p_eOr, p_notF, p_nil, p_cons, p_tup, p_list, p_call, p_meth, p_star, p_attr, p_skip, p_brk, p_cont, p_retN, p_seq, p_fif, p_ret, p_exp, p_asg, p_aug, p_aVar, p_aPair, p_run, List.map_cons, List.map_nil, List.cons_append, List.nil_append, List.append_nil, List.length_cons, List.length_nil, List.getElem?_cons_zero, List.getElem?_cons_succ, List.set_cons_zero, List.set_cons_succ, List.reduceReplicate, true_and, and_true, if_true, ite_true, Bool.false_eq_true, if_false, reduceIte, false_and, and_false, p_aAttr, p_eSliceA, Nat.reduceLT, Nat.reduceSub, Nat.reduceAdd, Nat.reduceEqDiff, Nat.lt_irrefl, Nat.zero_le, p_fMake, List.getLast?_nil]
    exact ⟨⟨_, rfl⟩, by simp⟩
  · rw [List.concat_eq_append] at h
    rw [h]
    have h1 : (!(a ++ [x]).isEmpty) = true := by simp
    have h2 : (a ++ [x]).length ≤ 1000000 := by rw [← h]; exact bp
    have h4 : ((a ++ [x]).getLast? == some c) = (x == c) := by simp
    simp only [h1, wO_some, wO_none, w1_some, w1_none, wS_some, wS_none, if_none, szOk_eq, strOk_eq, p_var, p_lit, p_bin, p_un, p_if, p_cmpE, p_cmp, p_not, p_and, p_or, p_val, p_true, p_eAnd, p_eOr, p_notF, p_nil, p_cons, p_tup, p_list, p_call, p_meth, p_star, p_attr, p_skip, p_brk, p_cont, p_retN, p_seq, p_fif, p_ret, p_exp, p_asg, p_aug, p_aVar, p_aPair, p_run, List.map_cons, List.map_nil, List.cons_append, List.nil_append, List.append_nil, List.length_cons, List.length_nil, List.getElem?_cons_zero, List.getElem?_cons_succ, List.set_cons_zero, List.set_cons_succ, List.reduceReplicate, true_and, and_true, if_true, ite_true, Bool.false_eq_true, if_false, reduceIte, false_and, and_false, p_aAttr, p_eSliceA, Nat.reduceLT, Nat.reduceSub, Nat.reduceAdd, Nat.reduceEqDiff, Nat.lt_irrefl, Nat.zero_le, p_fMake, neg_int, idx_sL h2, eqB, eqF_str, mkS_beq, h4]
    have h5 : ([x] == [c]) = (x == c) := by simp
    rw [h5]
    by_cases e : (x == c) = true
    · simp only [e, wO_some, wO_none, w1_some, w1_none, wS_some, wS_none, if_none, szOk_eq, strOk_eq, p_var, p_lit, p_bin, p_un, p_if, p_cmpE, p_cmp, p_not, p_and, p_or, p_val, p_true, p_eAnd, p_eOr, p_notF, p_nil, p_cons, p_tup, p_list, p_call, p_meth, p_star, p_attr, p_skip, p_brk, p_cont, p_retN, p_seq, p_fif, p_ret, p_exp, p_asg, p_aug, p_aVar, p_aPair, p_run, List.map_cons, List.map_nil, List.cons_append, List.nil_append, List.append_nil, List.length_cons, List.length_nil, List.getElem?_cons_zero, List.getElem?_cons_succ, List.set_cons_zero, List.set_cons_succ, List.reduceReplicate, true_and, and_true, if_true, ite_true, Bool.false_eq_true, if_false, reduceIte, false_and, and_false, p_aAttr, p_eSliceA, Nat.reduceLT, Nat.reduceSub, Nat.reduceAdd, Nat.reduceEqDiff, Nat.lt_irrefl, Nat.zero_le, p_fMake]
      exact ⟨_, rfl⟩
    · simp only [Bool.not_eq_true] at e
      simp only [e, wO_some, wO_none, w1_some, w1_none, wS_some, wS_none, if_none, szOk_eq, strOk_eq, p_var, p_lit, p_bin, p_un, p_if, p_cmpE, p_cmp, p_not, p_and, p_or, p_val, p_true, p_eAnd, p_eOr, p_notF, p_nil, p_cons, p_tup, p_list, p_call, p_meth, p_star, p_attr, p_skip, p_brk, p_cont, p_retN, p_seq, p_fif, p_ret, p_exp, p_asg, p_aug, p_aVar, p_aPair, p_run, List.map_cons, List.map_nil, List.cons_append, List.nil_append, List.append_nil, List.length_cons, List.length_nil, List.getElem?_cons_zero, List.getElem?_cons_succ, List.set_cons_zero, List.set_cons_succ, List.reduceReplicate, true_and, and_true, if_true, ite_true, Bool.false_eq_true, if_false, reduceIte, false_and, and_false, p_aAttr, p_eSliceA, Nat.reduceLT, Nat.reduceSub, Nat.reduceAdd, Nat.reduceEqDiff, Nat.lt_irrefl, Nat.zero_le, p_fMake]
      exact ⟨_, rfl⟩
theorem inner_eq {part : List Nat} {c k : Nat} {v1 : PV} {v5 : Option PV} (F : FmtAt D V σ m w ws sg ln ac n ps ls) (hk : k + 1 < ps.length) (hk2 : ps.length ≤ 1000000) (hb : (flat ps).length ≤ 1000000) :
    wS (gInner D V [some (.ref m), some v1, some (.str (mkS part)), some (.str (mkS [c])), some (.int ((k + 1 : Nat) : Int)), v5, none, none, none, none, none] σ) fun fl ρ' σ' =>
      σ' = σ ∧ (∃ v1 v5, ρ' = [some (.ref m), some v1, some (.str (mkS part)), some (.str (mkS [c])), some (.int ((k + 1 : Nat) : Int)), v5, none, none, none, none, none]) ∧
        fl = if hit c (ps.getD k ([], [])) (ps.getD (k + 1) ([], [])) = true then .brk else .next := by
  have hp : ps[k]? = some (ps.getD k ([], [])) := by rw [List.getD_eq_getElem?_getD, List.getElem?_eq_getElem (by omega)]; rfl
  have hq : ps[k + 1]? = some (ps.getD (k + 1) ([], [])) := by rw [List.getD_eq_getElem?_getD, List.getElem?_eq_getElem (by omega)]; rfl
  have hsz : ∀ p ∈ ps, p.1.length + p.2.length ≤ 1000000 := by
    intro p hp
    obtain ⟨a, b, rfl⟩ := List.append_of_mem hp
    rw [flat_app, flat_cons] at hb
    simp at hb; omega
  generalize hP : ps.getD k ([], []) = p at hp ⊢
  generalize hQ : ps.getD (k + 1) ([], []) = q at hq ⊢
  have bp := hsz p (List.mem_of_getElem? hp)
  have bq := hsz q (List.mem_of_getElem? hq)
  rw [in_split, p_seq]
  refine (in1_eq F hq (by omega) (by omega)).mono ?_
  rintro fl ρ' σ' ⟨rfl, ⟨v1', rfl⟩, rfl⟩
  by_cases h1 : (Unicode.isSpace c && q.1.head? == some c) = true
  · simp only [h1, if_true]
    refine ⟨trivial, ⟨_, _, rfl⟩, ?_⟩
    unfold hit
    rw [h1]; rfl
  · simp only [Bool.not_eq_true] at h1
    simp only [h1, Bool.false_eq_true, if_false]
    refine (in2_eq F hp (by omega) (by omega)).mono ?_
    rintro fl ρ' σ'' ⟨rfl, ⟨v5', rfl⟩, rfl⟩
    refine ⟨rfl, ⟨_, _, rfl⟩, ?_⟩
    unfold hit
    rw [h1, Bool.false_or]
theorem loop_eq {part : List Nat} {c : Nat} {v1 : PV} {v4 v5 : Option PV} {els : FS} {Q : Fl → List (Option PV) → List PO → Prop} (F : FmtAt D V σ m w ws sg ln ac n ps ls) (hn : ps.length ≤ 1000) (h0 : ps ≠ []) (hb : (flat ps).length ≤ 1000000)
    (hQ : ∀ v1 v4 v5, match findB c ps (ps.length - 1) with
      | some i => Q .next [some (.ref m), some v1, some (.str (mkS part)), some (.str (mkS [c])), some (.int (i : Int)), v5, none, none, none, none, none] σ
      | none => wS (els [some (.ref m), some v1, some (.str (mkS part)), some (.str (mkS [c])), v4, v5, none, none, none, none, none] σ) Q) :
    wS (fFor 1000 (aVar 4) (gRange D V) (gInner D V) els [some (.ref m), some v1, some (.str (mkS part)), some (.str (mkS [c])), v4, v5, none, none, none, none, none] σ) Q := by
  have f5 : fld V 5 (.ref m) σ = some (.ref ac) := fld_eq F.vf rfl rfl
  have hl : 1 ≤ ps.length := by cases ps with
    | nil => exact absurd rfl h0
    | cons _ _ => simp
  refine for_down (a := (ps.length : Int) - 1) (b := 0) (fun k ρ' σ' => σ' = σ ∧ 0 ≤ k ∧ k ≤ (ps.length : Int) - 1 ∧ findB c ps (ps.length - 1) = findB c ps k.toNat ∧
    ∃ v1 v4 v5, ρ' = [some (.ref m), some v1, some (.str (mkS part)), some (.str (mkS [c])), v4, v5, none, none, none, none, none]) ?_ ?_ ?_
  · simp only [gRange, wO_some, wO_none, w1_some, w1_none, wS_some, wS_none, if_none, szOk_eq, strOk_eq, p_var, p_lit, p_bin, p_un, p_if, p_cmpE, p_cmp, p_not, p_and, p_or, p_val, p_true, p_eAnd, p_eOr, p_notF, p_nil, p_cons, p_tup, p_list, p_call, p_meth, p_star, p_attr, p_skip, p_brk, p_cont, p_retN, p_seq, p_fif, p_ret, p_exp, p_asg, p_aug, p_aVar, p_aPair, p_run, List.map_cons, List.map_nil, List.cons_append, List.nil_append, List.append_nil, List.length_cons, List.length_nil, List.getElem?_cons_zero, List.getElem?_cons_succ, List.set_cons_zero, List.set_cons_succ, List.reduceReplicate, true_and, and_true, if_true, ite_true, Bool.false_eq_true, if_false, reduceIte, false_and, and_false, p_aAttr, p_eSliceA, Nat.reduceLT, Nat.reduceSub, Nat.reduceAdd, Nat.reduceEqDiff, Nat.lt_irrefl, Nat.zero_le, p_fMake, f5, isA_acc F.cu, count_eq F.cu (show ps.length ≤ 1000000 by omega), sub_int, neg_int, p_range3]
    refine ⟨?_, by omega, by omega, by omega, by omega, by omega, by congr 1; omega, _, _, _, rfl⟩
    simp [smallI]; omega
  · rintro k ρ' σ' hk ⟨rfl, k0, k1, k2, v1, v4, v5, rfl⟩
    obtain ⟨j, rfl⟩ : ∃ j : Nat, k = ((j + 1 : Nat) : Int) := ⟨k.toNat - 1, by omega⟩
    simp only [List.set_cons_succ, List.set_cons_zero]
    refine (inner_eq F (by omega) (by omega) hb).mono ?_
    rintro fl ρ' σ'' ⟨rfl, ⟨v1', v5', rfl⟩, rfl⟩
    rw [Int.toNat_natCast, findB] at k2
    by_cases h : hit c (ps.getD j ([], [])) (ps.getD (j + 1) ([], [])) = true
    · rw [if_pos h] at k2 ⊢
      have := hQ v1' none v5'
      rw [k2] at this
      exact this
    · rw [if_neg h] at k2 ⊢
      refine ⟨rfl, by omega, by omega, ?_, _, _, _, rfl⟩
      rw [k2]; congr 1; omega
  · rintro k ρ' σ' hk ⟨rfl, k0, k1, k2, v1, v4, v5, rfl⟩
    have : k = 0 := by omega
    subst this
    have := hQ v1 v4 v5
    rw [k2] at this
    exact this
end
end Mine
end
section
open PySem PySem.W PySem.Calls PyProof.Rows
set_option maxRecDepth 100000
set_option linter.unusedVariables false
set_option linter.unusedSimpArgs false
namespace Mine
section
variable {D V : Addr} {σ : List PO} {ac m ln n : Nat} {ps : List WP} {ls : List (List Nat)} {w : Int} {ws sg : List Nat}
theorem findB_le {c : Nat} {ps : List WP} : ∀ {k i : Nat}, findB c ps k = some i → 1 ≤ i ∧ i ≤ k ∧ hit c (ps.getD (i - 1) ([], [])) (ps.getD i ([], [])) = true := by
  intro k
  induction k with
  | zero => intro i h; simp [findB] at h
  | succ k ih =>
    intro i h
    rw [findB] at h
    split at h
    · rename_i hh
      cases h; exact ⟨by omega, by omega, by simpa using hh⟩
    · have := ih h; exact ⟨this.1, by omega, this.2.2⟩
theorem cutAt_le {sg : List Nat} {ps : List WP} {i : Nat} (h : cutAt sg ps = some i) : 1 ≤ i ∧ i ≤ ps.length - 1 := by
  unfold cutAt at h
  obtain ⟨c, hc, h⟩ := List.exists_of_findSome?_eq_some h
  have := findB_le h
  exact ⟨this.1, this.2.1⟩
theorem outer_eq {part : List Nat} {v1 : PV} {v3 v4 v5 : Option PV} {els : FS} {Q : Fl → List (Option PV) → List PO → Prop} (F : FmtAt D V σ m w ws sg ln ac n ps ls) (hn : ps.length ≤ 1000) (h0 : ps ≠ []) (hb : (flat ps).length ≤ 1000000)
    (hsg : sg.length < 1000) (hsg2 : ∀ c ∈ sg, c < 128)
    (hQ : ∀ v1 v3 v4 v5, match cutAt sg ps with
      | some i => Q .next [some (.ref m), some v1, some (.str (mkS part)), v3, some (.int (i : Int)), v5, none, none, none, none, none] σ
      | none => wS (els [some (.ref m), some v1, some (.str (mkS part)), v3, v4, v5, none, none, none, none, none] σ) Q) :
    wS (fFor 1000 (aVar 3) (eAttr V 3 (eVar 0)) (gOuter D V) els [some (.ref m), some v1, some (.str (mkS part)), v3, v4, v5, none, none, none, none, none] σ) Q := by
  have f3 : fld V 3 (.ref m) σ = some (.str (mkS sg)) := fld_eq F.vf rfl rfl
  refine for_str (w := sg) (fun k ρ' σ' => σ' = σ ∧ (sg.take k).findSome? (fun c => findB c ps (ps.length - 1)) = none ∧
    ∃ v1 v3 v4 v5, ρ' = [some (.ref m), some v1, some (.str (mkS part)), v3, v4, v5, none, none, none, none, none]) ?_ ?_ ?_
  · simp only [wO_some, wO_none, w1_some, w1_none, wS_some, wS_none, if_none, szOk_eq, strOk_eq, p_var, p_lit, p_bin, p_un, p_if, p_cmpE, p_cmp, p_not, p_and, p_or, p_val, p_true, p_eAnd, p_eOr, p_notF, p_nil, p_cons, p_tup, p_list, p_call, p_meth, p_star, p_attr, p_skip, p_brk, p_cont, p_retN, p_seq, p_fif, p_ret, p_exp, p_asg, p_aug, p_aVar, p_aPair, p_run, List.map_cons, List.map_nil, List.cons_append, List.nil_append, List.append_nil, List.length_cons, List.length_nil, List.getElem?_cons_zero, List.getElem?_cons_succ, List.set_cons_zero, List.set_cons_succ, List.reduceReplicate, true_and, and_true, if_true, ite_true, Bool.false_eq_true, if_false, reduceIte, false_and, and_false, p_aAttr, p_eSliceA, Nat.reduceLT, Nat.reduceSub, Nat.reduceAdd, Nat.reduceEqDiff, Nat.lt_irrefl, Nat.zero_le, p_fMake, f3]
    exact ⟨hsg, hsg2, by simp, _, _, _, _, rfl⟩
  · rintro k c ρ' σ' hc ⟨rfl, hk, v1, v3, v4, v5, rfl⟩
    simp only [List.set_cons_succ, List.set_cons_zero]
    have htk : sg.take (k + 1) = sg.take k ++ [c] := by
      rw [List.take_add_one, hc]; rfl
    unfold gOuter
    rw [p_seq]
    refine loop_eq F hn h0 hb fun w1 w4 w5 => ?_
    cases hf : findB c ps (ps.length - 1) with
    | some i =>
      simp only [wO_some, wO_none, w1_some, w1_none, wS_some, wS_none, if_none, szOk_eq, strOk_eq, p_var, p_lit, p_bin, p_un, p_if, p_cmpE, p_cmp, p_not, p_and, p_or, p_val, p_true, p_eAnd, p_eOr, p_notF, p_nil, p_cons, p_tup, p_list, p_call, p_meth, p_star, p_attr, p_skip, p_brk, p_cont, p_retN, p_seq, p_fif, p_ret, p_exp, p_asg, p_aug, p_aVar, p_aPair, p_run, List.map_cons, List.map_nil, List.cons_append, List.nil_append, List.append_nil, List.length_cons, List.length_nil, List.getElem?_cons_zero, List.getElem?_cons_succ, List.set_cons_zero, List.set_cons_succ, List.reduceReplicate, true_and, and_true, if_true, ite_true, Bool.false_eq_true, if_false, reduceIte, false_and, and_false, p_aAttr, p_eSliceA, Nat.reduceLT, Nat.reduceSub, Nat.reduceAdd, Nat.reduceEqDiff, Nat.lt_irrefl, Nat.zero_le, p_fMake]
      have hcut : cutAt sg ps = some i := by
        unfold cutAt
        have : sg = sg.take (k + 1) ++ sg.drop (k + 1) := (List.take_append_drop _ _).symm
        rw [this, List.findSome?_append, htk, List.findSome?_append, hk]
        simp [hf]
      have := hQ w1 (some (.str (mkS [c]))) none w5
      rw [hcut] at this
      exact this
    | none =>
      simp only [wO_some, wO_none, w1_some, w1_none, wS_some, wS_none, if_none, szOk_eq, strOk_eq, p_var, p_lit, p_bin, p_un, p_if, p_cmpE, p_cmp, p_not, p_and, p_or, p_val, p_true, p_eAnd, p_eOr, p_notF, p_nil, p_cons, p_tup, p_list, p_call, p_meth, p_star, p_attr, p_skip, p_brk, p_cont, p_retN, p_seq, p_fif, p_ret, p_exp, p_asg, p_aug, p_aVar, p_aPair, p_run, List.map_cons, List.map_nil, List.cons_append, List.nil_append, List.append_nil, List.length_cons, List.length_nil, List.getElem?_cons_zero, List.getElem?_cons_succ, List.set_cons_zero, List.set_cons_succ, List.reduceReplicate, true_and, and_true, if_true, ite_true, Bool.false_eq_true, if_false, reduceIte, false_and, and_false, p_aAttr, p_eSliceA, Nat.reduceLT, Nat.reduceSub, Nat.reduceAdd, Nat.reduceEqDiff, Nat.lt_irrefl, Nat.zero_le, p_fMake]
      refine ⟨?_, _, _, _, _, rfl⟩
      rw [htk, List.findSome?_append, hk]
      simp [hf]
  · rintro ρ' σ' ⟨rfl, hk, v1, v3, v4, v5, rfl⟩
    rw [List.take_length] at hk
    have := hQ v1 v3 v4 v5
    rw [show cutAt sg ps = none from hk] at this
    exact this
def elL (n : Nat) (qs : List WP) (f p : List Nat) (ls : List (List Nat)) : Nat × List WP × List (List Nat) := if 0 < n then (0, [(if f = [] then [32] else f, p)], nlL n qs ls) else (n, qs ++ [(f, p)], ls)
theorem p0_eq {f p : List Nat} {ρ : List (Option PV)} {Q : List (Option PV) → List PO → Prop} : wO (aPair (aVar 1) (aVar 6) (pvP (f, p)) ρ σ) Q = Q ((ρ.set 1 (some (.str (mkS f)))).set 6 (some (.str (mkS p)))) σ := by
  simp only [pvP, aPair, aVar, wO_some]
theorem else_eq {part f p : List Nat} {v1 v3 v4 v5 : Option PV} {qs : List WP} (F : FmtAt D V σ m w ws sg ln ac n (qs ++ [(f, p)]) ls) (hn : n + (flat (qs ++ [(f, p)])).length ≤ 100000) (hl : qs.length ≤ 99999) (hls : ls.length ≤ 100000) :
    wS (gElse D V [some (.ref m), v1, some (.str (mkS part)), v3, v4, v5, none, none, none, none, none] σ) fun fl _ σ' => fl = .ret .none ∧ FmtAt D V σ' m w ws sg ln ac (elL n qs f p ls).1 (elL n qs f p ls).2.1 (elL n qs f p ls).2.2 ∧ Keep σ σ' [ln, ac] := by
  have f5 : fld V 5 (.ref m) σ = some (.ref ac) := fld_eq F.vf rfl rfl
  have F1 : FmtAt D V (σ.set ac (accO D n qs)) m w ws sg ln ac n qs ls := F.cur
  have f5' : fld V 5 (.ref m) (σ.set ac (accO D n qs)) = some (.ref ac) := fld_eq F1.vf rfl rfl
  have e0 := pop_eq F.cu (by simp; omega)
  have e1 : lastP (qs ++ [(f, p)]) = (f, p) := by simp [lastP]
  rw [e1, List.dropLast_concat] at e0
  have K0 : Keep σ (σ.set ac (accO D n qs)) [ln, ac] := Keep.set.weak (by simp)
  have hb : n + (flat qs).length + f.length + p.length ≤ 100000 := by
    rw [flat_app, flat_cons] at hn
    simp [flat] at hn ⊢; omega
  simp only [gElse, wO_some, wO_none, w1_some, w1_none, wS_some, wS_none, if_none, szOk_eq, strOk_eq, p_var, p_lit, p_bin, p_un, p_if, p_cmpE, p_cmp, p_not, p_and, p_or, p_val, p_true, p_eAnd, p_eOr, p_notF, p_nil, p_cons, p_tup, p_list, p_call, p_meth, p_star, p_attr, p_skip, p_brk, p_cont, p_retN, p_seq, p_fif, p_ret, p_exp, p_asg, p_aug, p_aVar, p_aPair, p_run, List.map_cons, List.map_nil, List.cons_append, List.nil_append, List.append_nil, List.length_cons, List.length_nil, List.getElem?_cons_zero, List.getElem?_cons_succ, List.set_cons_zero, List.set_cons_succ, List.reduceReplicate, true_and, and_true, if_true, ite_true, Bool.false_eq_true, if_false, reduceIte, false_and, and_false, p_aAttr, p_eSliceA, Nat.reduceLT, Nat.reduceSub, Nat.reduceAdd, Nat.reduceEqDiff, Nat.lt_irrefl, Nat.zero_le, p_fMake, f5, isA_acc F.cu, e0]
  refine ⟨_, _, rfl, ?_⟩
  simp only [wO_some, wO_none, w1_some, w1_none, wS_some, wS_none, if_none, szOk_eq, strOk_eq, p_var, p_lit, p_bin, p_un, p_if, p_cmpE, p_cmp, p_not, p_and, p_or, p_val, p_true, p_eAnd, p_eOr, p_notF, p_nil, p_cons, p_tup, p_list, p_call, p_meth, p_star, p_attr, p_skip, p_brk, p_cont, p_retN, p_seq, p_fif, p_ret, p_exp, p_asg, p_aug, p_aVar, p_aPair, p_run, List.map_cons, List.map_nil, List.cons_append, List.nil_append, List.append_nil, List.length_cons, List.length_nil, List.getElem?_cons_zero, List.getElem?_cons_succ, List.set_cons_zero, List.set_cons_succ, List.reduceReplicate, true_and, and_true, if_true, ite_true, Bool.false_eq_true, if_false, reduceIte, false_and, and_false, p_aAttr, p_eSliceA, Nat.reduceLT, Nat.reduceSub, Nat.reduceAdd, Nat.reduceEqDiff, Nat.lt_irrefl, Nat.zero_le, p_fMake, f5', fldAc F1.cu, gtB]
  by_cases hz : 0 < n
  · have h1 : decide ((0 : Int) < (n : Int)) = true := by simp; omega
    obtain ⟨σ', en, F', K, L⟩ := newline_eq F1 (by omega) (by omega) hls (.inr (.inl (by omega)))
    have f5'' : fld V 5 (.ref m) σ' = some (.ref ac) := fld_eq F'.vf rfl rfl
    simp only [h1, wO_some, wO_none, w1_some, w1_none, wS_some, wS_none, if_none, szOk_eq, strOk_eq, p_var, p_lit, p_bin, p_un, p_if, p_cmpE, p_cmp, p_not, p_and, p_or, p_val, p_true, p_eAnd, p_eOr, p_notF, p_nil, p_cons, p_tup, p_list, p_call, p_meth, p_star, p_attr, p_skip, p_brk, p_cont, p_retN, p_seq, p_fif, p_ret, p_exp, p_asg, p_aug, p_aVar, p_aPair, p_run, List.map_cons, List.map_nil, List.cons_append, List.nil_append, List.append_nil, List.length_cons, List.length_nil, List.getElem?_cons_zero, List.getElem?_cons_succ, List.set_cons_zero, List.set_cons_succ, List.reduceReplicate, true_and, and_true, if_true, ite_true, Bool.false_eq_true, if_false, reduceIte, false_and, and_false, p_aAttr, p_eSliceA, Nat.reduceLT, Nat.reduceSub, Nat.reduceAdd, Nat.reduceEqDiff, Nat.lt_irrefl, Nat.zero_le, p_fMake, isA_inst F1.vf, en, truS_eq (show f.length ≤ 1000000 by omega)]
    have c1 : (" " : Str) = mkS [32] := by decide +kernel
    have hfin : ∀ f', FmtAt D V (σ'.set ac (accO D 0 [(f', p)])) m w ws sg ln ac 0 [(f', p)] (nlL n qs ls) ∧ Keep σ (σ'.set ac (accO D 0 [(f', p)])) [ln, ac] := fun f' =>
      ⟨F'.cur, (K0.trans K (by simp)).trans (Keep.set.weak (T := [ln, ac]) (by simp)) (by simp)⟩
    have e2 : ∀ a b, G_push D V [.ref ac, .str (mkS a), .str (mkS b)] σ' = some (.none, σ'.set ac (accO D 0 [(a, b)])) := fun a b => pushP_eq F'.cu (by simp)
    unfold elL
    rw [if_pos hz]
    cases f with
    | nil =>
      simp only [List.isEmpty_nil, Bool.not_true, Bool.not_false, wO_some, wO_none, w1_some, w1_none, wS_some, wS_none, if_none, szOk_eq, strOk_eq, p_var, p_lit, p_bin, p_un, p_if, p_cmpE, p_cmp, p_not, p_and, p_or, p_val, p_true, p_eAnd, p_eOr, p_notF, p_nil, p_cons, p_tup, p_list, p_call, p_meth, p_star, p_attr, p_skip, p_brk, p_cont, p_retN, p_seq, p_fif, p_ret, p_exp, p_asg, p_aug, p_aVar, p_aPair, p_run, List.map_cons, List.map_nil, List.cons_append, List.nil_append, List.append_nil, List.length_cons, List.length_nil, List.getElem?_cons_zero, List.getElem?_cons_succ, List.set_cons_zero, List.set_cons_succ, List.reduceReplicate, true_and, and_true, if_true, ite_true, Bool.false_eq_true, if_false, reduceIte, false_and, and_false, p_aAttr, p_eSliceA, Nat.reduceLT, Nat.reduceSub, Nat.reduceAdd, Nat.reduceEqDiff, Nat.lt_irrefl, Nat.zero_le, p_fMake, c1, f5'', isA_acc F'.cu, e2]
      exact hfin [32]
    | cons x a =>
      simp only [List.isEmpty_cons, Bool.not_true, Bool.not_false, wO_some, wO_none, w1_some, w1_none, wS_some, wS_none, if_none, szOk_eq, strOk_eq, p_var, p_lit, p_bin, p_un, p_if, p_cmpE, p_cmp, p_not, p_and, p_or, p_val, p_true, p_eAnd, p_eOr, p_notF, p_nil, p_cons, p_tup, p_list, p_call, p_meth, p_star, p_attr, p_skip, p_brk, p_cont, p_retN, p_seq, p_fif, p_ret, p_exp, p_asg, p_aug, p_aVar, p_aPair, p_run, List.map_cons, List.map_nil, List.cons_append, List.nil_append, List.append_nil, List.length_cons, List.length_nil, List.getElem?_cons_zero, List.getElem?_cons_succ, List.set_cons_zero, List.set_cons_succ, List.reduceReplicate, true_and, and_true, if_true, ite_true, Bool.false_eq_true, if_false, reduceIte, false_and, and_false, p_aAttr, p_eSliceA, Nat.reduceLT, Nat.reduceSub, Nat.reduceAdd, Nat.reduceEqDiff, Nat.lt_irrefl, Nat.zero_le, p_fMake, f5'', isA_acc F'.cu, e2, reduceCtorEq]
      exact hfin (x :: a)
  · have h1 : decide ((0 : Int) < (n : Int)) = false := by simp; omega
    have e2 := pushP_eq (V := V) (a := f) (b := p) F1.cu (by omega)
    rw [List.set_set, set_same F.cu] at e2
    unfold elL
    rw [if_neg hz]
    simp only [h1, wO_some, wO_none, w1_some, w1_none, wS_some, wS_none, if_none, szOk_eq, strOk_eq, p_var, p_lit, p_bin, p_un, p_if, p_cmpE, p_cmp, p_not, p_and, p_or, p_val, p_true, p_eAnd, p_eOr, p_notF, p_nil, p_cons, p_tup, p_list, p_call, p_meth, p_star, p_attr, p_skip, p_brk, p_cont, p_retN, p_seq, p_fif, p_ret, p_exp, p_asg, p_aug, p_aVar, p_aPair, p_run, List.map_cons, List.map_nil, List.cons_append, List.nil_append, List.append_nil, List.length_cons, List.length_nil, List.getElem?_cons_zero, List.getElem?_cons_succ, List.set_cons_zero, List.set_cons_succ, List.reduceReplicate, true_and, and_true, if_true, ite_true, Bool.false_eq_true, if_false, reduceIte, false_and, and_false, p_aAttr, p_eSliceA, Nat.reduceLT, Nat.reduceSub, Nat.reduceAdd, Nat.reduceEqDiff, Nat.lt_irrefl, Nat.zero_le, p_fMake, f5', isA_acc F1.cu, e2]
    exact ⟨F, Keep.refl⟩
theorem cut_ok {part : List Nat} {i : Nat} {v1 v3 v5 : Option PV} (F : FmtAt D V σ m w ws sg ln ac n ps ls) (hn : n + (flat ps).length ≤ 100000) (hl : ps.length ≤ 100000) (hls : ls.length ≤ 100000) (hi : i ≤ ps.length) :
    wS (gCut D V [some (.ref m), v1, some (.str (mkS part)), v3, some (.int (i : Int)), v5, none, none, none, none, none] σ) fun fl _ σ' => fl = .next ∧ FmtAt D V σ' m w ws sg ln ac 0 (ps.drop i) (ls ++ [flat (ps.take i)]) ∧ Keep σ σ' [ln, ac] := by
  have f5 : fld V 5 (.ref m) σ = some (.ref ac) := fld_eq F.vf rfl rfl
  have e0 := pop_from_eq (V := V) (i := i) F.cu (by simp; omega) (by simpa using hi)
  rw [← List.map_drop, ← List.map_take] at e0
  have F1 : FmtAt D V ((σ ++ [PO.list ((ps.drop i).map pvP), PO.list []]).set ac (accO D n (ps.take i))) m w ws sg ln ac n (ps.take i) ls := F.more.cur
  rw [show PO.acc D [.int n] ((ps.take i).map pvP) = accO D n (ps.take i) from rfl] at e0
  have K1 : Keep σ ((σ ++ [PO.list ((ps.drop i).map pvP), PO.list []]).set ac (accO D n (ps.take i))) [ln, ac] := (Keep.app (S := [ln, ac])).trans (Keep.set.weak (T := [ln, ac]) (by simp)) (by simp)
  have hlac : ac < σ.length := (List.getElem?_eq_some_iff.1 F.cu).1
  have hlln : ln < σ.length := (List.getElem?_eq_some_iff.1 F.li).1
  have er : ((σ ++ [PO.list ((ps.drop i).map pvP), PO.list []]).set ac (accO D n (ps.take i)))[σ.length]? = some (.list ((ps.drop i).map pvP)) := by
    rw [List.getElem?_set_ne (by omega)]; simp
  generalize ((σ ++ [PO.list ((ps.drop i).map pvP), PO.list []]).set ac (accO D n (ps.take i))) = σ1 at e0 F1 K1 er
  have f51 : fld V 5 (.ref m) σ1 = some (.ref ac) := fld_eq F1.vf rfl rfl
  have f41 : fld V 4 (.ref m) σ1 = some (.ref ln) := fld_eq F1.vf rfl rfl
  have hf : (flat (ps.take i)).length ≤ (flat ps).length := by
    have : flat ps = flat (ps.take i) ++ flat (ps.drop i) := by rw [← flat_app, List.take_append_drop]
    rw [this]; simp
  have es := strA_eq (V := V) F1.cu (by omega) (by simp; omega)
  have ea := append_eq (p := .str (mkS (flat (ps.take i)))) F1.li (by simp; omega)
  have h4 : (PO.list (ls.map (fun x => PV.str (mkS x)) ++ [.str (mkS (flat (ps.take i)))])) = linesO (ls ++ [flat (ps.take i)]) := by simp [linesO]
  rw [h4] at ea
  have F2 := F1.lin (ls' := ls ++ [flat (ps.take i)])
  have f52 : fld V 5 (.ref m) (σ1.set ln (linesO (ls ++ [flat (ps.take i)]))) = some (.ref ac) := fld_eq F2.vf rfl rfl
  have er2 : (σ1.set ln (linesO (ls ++ [flat (ps.take i)])))[σ.length]? = some (.list ((ps.drop i).map pvP)) := by
    rw [List.getElem?_set_ne (by omega)]; exact er
  have e3 := reset1_eq (V := V) F2.cu (by simp; omega) er2 (by simp; omega)
  simp only [gCut, wO_some, wO_none, w1_some, w1_none, wS_some, wS_none, if_none, szOk_eq, strOk_eq, p_var, p_lit, p_bin, p_un, p_if, p_cmpE, p_cmp, p_not, p_and, p_or, p_val, p_true, p_eAnd, p_eOr, p_notF, p_nil, p_cons, p_tup, p_list, p_call, p_meth, p_star, p_attr, p_skip, p_brk, p_cont, p_retN, p_seq, p_fif, p_ret, p_exp, p_asg, p_aug, p_aVar, p_aPair, p_run, List.map_cons, List.map_nil, List.cons_append, List.nil_append, List.append_nil, List.length_cons, List.length_nil, List.getElem?_cons_zero, List.getElem?_cons_succ, List.set_cons_zero, List.set_cons_succ, List.reduceReplicate, true_and, and_true, if_true, ite_true, Bool.false_eq_true, if_false, reduceIte, false_and, and_false, p_aAttr, p_eSliceA, Nat.reduceLT, Nat.reduceSub, Nat.reduceAdd, Nat.reduceEqDiff, Nat.lt_irrefl, Nat.zero_le, p_fMake, f5, isA_acc F.cu, e0, f41, f51, es, isL_of F1.li, ea, f52, isA_acc F2.cu, e3]
  exact ⟨F2.cur, (K1.trans (Keep.set.weak (T := [ln, ac]) (by simp)) (by simp)).trans (Keep.set.weak (T := [ln, ac]) (by simp)) (by simp)⟩
def chF (w : Int) (sg : List Nat) (n : Nat) (ps : List WP) (ls : List (List Nat)) (f p : List Nat) : Nat × List WP × List (List Nat) :=
  if w < ((n + (flat (ps ++ [(f, p)])).length : Nat) : Int) then match cutAt sg (ps ++ [(f, p)]) with
    | some i => (0, (ps ++ [(f, p)]).drop i, ls ++ [flat ((ps ++ [(f, p)]).take i)])
    | none => elL n ps f p ls
  else (n, ps ++ [(f, p)], ls)
theorem chunk_eq {f p : List Nat} (F : FmtAt D V σ m w ws sg ln ac n ps ls) (hn : n + (flat (ps ++ [(f, p)])).length ≤ 100000) (hl : ps.length ≤ 999) (hls : ls.length ≤ 99999) (hsg : sg.length < 1000) (hsg2 : ∀ c ∈ sg, c < 128) :
    ∃ σ', G_chunk D V [.ref m, .str (mkS f), .str (mkS p)] σ = some (.none, σ') ∧ FmtAt D V σ' m w ws sg ln ac (chF w sg n ps ls f p).1 (chF w sg n ps ls f p).2.1 (chF w sg n ps ls f p).2.2 ∧ Keep σ σ' [ln, ac] := by
  suffices h : wO (G_chunk D V [.ref m, .str (mkS f), .str (mkS p)] σ) fun r σ' => r = .none ∧ FmtAt D V σ' m w ws sg ln ac (chF w sg n ps ls f p).1 (chF w sg n ps ls f p).2.1 (chF w sg n ps ls f p).2.2 ∧ Keep σ σ' [ln, ac] by
    obtain ⟨r, σ', e, rfl, h⟩ := h; exact ⟨σ', e, h⟩
  have f5 : fld V 5 (.ref m) σ = some (.ref ac) := fld_eq F.vf rfl rfl
  have F1 : FmtAt D V (σ.set ac (accO D n (ps ++ [(f, p)]))) m w ws sg ln ac n (ps ++ [(f, p)]) ls := F.cur
  have f51 : fld V 5 (.ref m) (σ.set ac (accO D n (ps ++ [(f, p)]))) = some (.ref ac) := fld_eq F1.vf rfl rfl
  have f01 : fld V 0 (.ref m) (σ.set ac (accO D n (ps ++ [(f, p)]))) = some (.int w) := fld_eq F1.vf rfl rfl
  have K1 : Keep σ (σ.set ac (accO D n (ps ++ [(f, p)]))) [ln, ac] := Keep.set.weak (by simp)
  have e0 := pushP_eq (V := V) (a := f) (b := p) F.cu (by omega)
  simp only [G_chunk, ch_split, wO_some, wO_none, w1_some, w1_none, wS_some, wS_none, if_none, szOk_eq, strOk_eq, p_var, p_lit, p_bin, p_un, p_if, p_cmpE, p_cmp, p_not, p_and, p_or, p_val, p_true, p_eAnd, p_eOr, p_notF, p_nil, p_cons, p_tup, p_list, p_call, p_meth, p_star, p_attr, p_skip, p_brk, p_cont, p_retN, p_seq, p_fif, p_ret, p_exp, p_asg, p_aug, p_aVar, p_aPair, p_run, List.map_cons, List.map_nil, List.cons_append, List.nil_append, List.append_nil, List.length_cons, List.length_nil, List.getElem?_cons_zero, List.getElem?_cons_succ, List.set_cons_zero, List.set_cons_succ, List.reduceReplicate, true_and, and_true, if_true, ite_true, Bool.false_eq_true, if_false, reduceIte, false_and, and_false, p_aAttr, p_eSliceA, Nat.reduceLT, Nat.reduceSub, Nat.reduceAdd, Nat.reduceEqDiff, Nat.lt_irrefl, Nat.zero_le, p_fMake, f5, isA_acc F.cu, e0, f51, lenF_eq (V := V) F1.cu (by omega), f01, gtB]
  unfold chF
  by_cases hw : w < ((n + (flat (ps ++ [(f, p)])).length : Nat) : Int)
  · simp only [hw, decide_true, wO_some, wO_none, w1_some, w1_none, wS_some, wS_none, if_none, szOk_eq, strOk_eq, p_var, p_lit, p_bin, p_un, p_if, p_cmpE, p_cmp, p_not, p_and, p_or, p_val, p_true, p_eAnd, p_eOr, p_notF, p_nil, p_cons, p_tup, p_list, p_call, p_meth, p_star, p_attr, p_skip, p_brk, p_cont, p_retN, p_seq, p_fif, p_ret, p_exp, p_asg, p_aug, p_aVar, p_aPair, p_run, List.map_cons, List.map_nil, List.cons_append, List.nil_append, List.append_nil, List.length_cons, List.length_nil, List.getElem?_cons_zero, List.getElem?_cons_succ, List.set_cons_zero, List.set_cons_succ, List.reduceReplicate, true_and, and_true, if_true, ite_true, Bool.false_eq_true, if_false, reduceIte, false_and, and_false, p_aAttr, p_eSliceA, Nat.reduceLT, Nat.reduceSub, Nat.reduceAdd, Nat.reduceEqDiff, Nat.lt_irrefl, Nat.zero_le, p_fMake]
    refine outer_eq F1 (by simp; omega) (by simp) (by omega) hsg hsg2 fun v1 v3 v4 v5 => ?_
    cases hc : cutAt sg (ps ++ [(f, p)]) with
    | some i =>
      have hi := cutAt_le hc
      refine (cut_ok F1 (by omega) (by simp; omega) (by omega) (by omega)).mono ?_
      rintro fl ρ' σ' ⟨rfl, F', K'⟩
      exact ⟨F', K1.trans K' (by simp)⟩
    | none =>
      refine (else_eq F1 (by omega) (by omega) (by omega)).mono ?_
      rintro fl ρ' σ' ⟨rfl, F', K'⟩
      exact ⟨rfl, F', K1.trans K' (by simp)⟩
  · simp only [hw, decide_false, wO_some, wO_none, w1_some, w1_none, wS_some, wS_none, if_none, szOk_eq, strOk_eq, p_var, p_lit, p_bin, p_un, p_if, p_cmpE, p_cmp, p_not, p_and, p_or, p_val, p_true, p_eAnd, p_eOr, p_notF, p_nil, p_cons, p_tup, p_list, p_call, p_meth, p_star, p_attr, p_skip, p_brk, p_cont, p_retN, p_seq, p_fif, p_ret, p_exp, p_asg, p_aug, p_aVar, p_aPair, p_run, List.map_cons, List.map_nil, List.cons_append, List.nil_append, List.append_nil, List.length_cons, List.length_nil, List.getElem?_cons_zero, List.getElem?_cons_succ, List.set_cons_zero, List.set_cons_succ, List.reduceReplicate, true_and, and_true, if_true, ite_true, Bool.false_eq_true, if_false, reduceIte, false_and, and_false, p_aAttr, p_eSliceA, Nat.reduceLT, Nat.reduceSub, Nat.reduceAdd, Nat.reduceEqDiff, Nat.lt_irrefl, Nat.zero_le, p_fMake]
    exact ⟨F1, K1⟩
end
end Mine
end
section
open PySem PySem.W PySem.Calls PyProof.Rows PySem.Builtin PySem.Builtin.Str
set_option maxRecDepth 100000
set_option linter.unusedVariables false
set_option linter.unusedSimpArgs false
namespace Mine
def idxs (c : Nat) : List Nat → Nat → List Nat
  | [], _ => []
  | x :: r, a => if x = c then a :: idxs c r (a + 1) else idxs c r (a + 1)
theorem at_one {l : List Nat} {c i : Nat} : (i + (mkS [c]).length ≤ (mkS l).length ∧ subAt (mkS l) (mkS [c]) i = true) ↔ l[i]? = some c :=
  StrLaws.subAt_one (mkS l) c i
theorem idxs_len {c : Nat} : ∀ (r : List Nat) (a : Nat), (idxs c r a).length ≤ r.length
  | [], _ => by simp [idxs]
  | x :: r, a => by
    have := idxs_len (c := c) r (a + 1)
    unfold idxs
    split <;> simp <;> omega
theorem occ_loop {c lim : Nat} {l : List Nat} : ∀ (r : List Nat) (a : Nat) (st : Array Nat × Nat), l.drop a = r → a ≤ l.length → st.2 ≤ a → st.1.size + r.length < lim →
    (forIn (List.range' a (r.length + 1)) st (StrLaws.occBody (mkS l) (mkS [c]) (mkS l).length lim)).run.fst.toList = st.1.toList ++ idxs c r a := by
  intro r
  induction r with
  | nil =>
    intro a st e ha hf hs
    have hlen : l.length ≤ a := List.drop_eq_nil_iff.1 e
    rw [show ([] : List Nat).length + 1 = 1 from rfl, List.range'_one, List.forIn_cons]
    have hn : l[a]? = none := List.getElem?_eq_none hlen
    have h2 : ¬ (a + (mkS [c]).length ≤ (mkS l).length ∧ subAt (mkS l) (mkS [c]) a = true) := by rw [at_one, hn]; simp
    unfold StrLaws.occBody
    rw [if_neg (fun h => h2 ⟨h.1.2, h.2⟩)]
    simp [idxs]
  | cons x r ih =>
    intro a st e ha hf hs
    have hlt : a < l.length := by
      rcases Nat.lt_or_ge a l.length with h | h
      · exact h
      · rw [List.drop_eq_nil_of_le h] at e; cases e
    have e2 := List.drop_eq_getElem_cons hlt
    rw [e] at e2
    have hx : l[a]? = some x := by
      rw [List.getElem?_eq_getElem hlt]
      exact congrArg some (List.cons.inj e2).1.symm
    have hr : l.drop (a + 1) = r := (List.cons.inj e2).2.symm
    rw [show (x :: r).length + 1 = (r.length + 1) + 1 from rfl, List.range'_succ, List.forIn_cons]
    simp only [List.length_cons] at hs
    unfold StrLaws.occBody
    by_cases hc : x = c
    · subst hc
      have h2 := at_one.2 hx
      rw [if_pos ⟨⟨⟨by omega, hf⟩, h2.1⟩, h2.2⟩]
      have := ih (a + 1) (st.1.push a, a + (mkS [x]).length) hr (by omega) (by simp [mkS_len]) (by simp; omega)
      simp only [Array.toList_push] at this
      show (forIn (List.range' (a + 1) (r.length + 1)) (st.1.push a, a + (mkS [x]).length) (StrLaws.occBody (mkS l) (mkS [x]) (mkS l).length lim)).run.fst.toList = _
      rw [this]
      simp [idxs]
    · have h2 : ¬ (a + (mkS [c]).length ≤ (mkS l).length ∧ subAt (mkS l) (mkS [c]) a = true) := by
        rw [at_one, hx]; simpa using hc
      rw [if_neg (fun h => h2 ⟨h.1.2, h.2⟩)]
      have := ih (a + 1) st hr (by omega) (by omega) (by omega)
      show (forIn (List.range' (a + 1) (r.length + 1)) (st.1, st.2) (StrLaws.occBody (mkS l) (mkS [c]) (mkS l).length lim)).run.fst.toList = _
      rw [this]
      simp [idxs, hc]
theorem occ_idxs {c : Nat} {l : List Nat} : occurrences (mkS l) (mkS [c]) 0 (mkS l).length ((mkS l).length + 1) = idxs c l 0 := by
  rw [StrLaws.occ_eq]
  have := occ_loop (c := c) (lim := (mkS l).length + 1) (l := l) l 0 (#[], 0) rfl (by omega) (by simp) (by simp [mkS_len])
  rw [show (mkS l).length + 1 - 0 = l.length + 1 from rfl]
  rw [this]; simp
def splitc (c : Nat) : List Nat → List (List Nat)
  | [] => [[]]
  | x :: r => if x = c then [] :: splitc c r else match splitc c r with
    | [] => [[x]]
    | h :: t => (x :: h) :: t
theorem splitc_ne (c : Nat) : ∀ l, splitc c l ≠ []
  | [] => by simp [splitc]
  | x :: r => by
    unfold splitc
    split
    · simp
    · split <;> simp
theorem strSub_list (l : List Nat) (i j : Nat) : strSub (mkS l) i j = mkS ((l.drop i).take (j - i)) := by
  unfold strSub mkS
  congr 1
  apply Array.toList_inj.mp
  simp [Array.toList_extract]
theorem parts_split {c : Nat} {l : List Nat} : ∀ (r : List Nat) (a b : Nat), l.drop b = r → a ≤ b → b ≤ l.length →
    ∃ h t, splitc c r = h :: t ∧ StrLaws.partsFrom (mkS l) 1 a (idxs c r b) = mkS ((l.drop a).take (b - a) ++ h) :: t.map mkS := by
  intro r
  induction r with
  | nil =>
    intro a b e hab hb
    have hlen : l.length ≤ b := List.drop_eq_nil_iff.1 e
    refine ⟨[], [], rfl, ?_⟩
    simp only [idxs, StrLaws.partsFrom, strSub_list, mkS_len, List.map_nil, List.append_nil]
    have : b = l.length := by omega
    rw [this]
  | cons x r ih =>
    intro a b e hab hb
    have hlt : b < l.length := by
      rcases Nat.lt_or_ge b l.length with h | h
      · exact h
      · rw [List.drop_eq_nil_of_le h] at e; cases e
    have e2 := List.drop_eq_getElem_cons hlt
    rw [e] at e2
    have hr : l.drop (b + 1) = r := (List.cons.inj e2).2.symm
    by_cases hc : x = c
    · subst hc
      obtain ⟨h, t, h1, h2⟩ := ih (b + 1) (b + 1) hr (by omega) (by omega)
      refine ⟨[], splitc x r, by simp [splitc], ?_⟩
      simp only [idxs, if_true, StrLaws.partsFrom, strSub_list, List.append_nil]
      rw [h2, h1]
      simp
    · obtain ⟨h, t, h1, h2⟩ := ih a (b + 1) hr (by omega) (by omega)
      refine ⟨x :: h, t, by simp [splitc, hc, h1], ?_⟩
      simp only [idxs, hc, if_false]
      rw [h2]
      congr 2
      have hx : l[b] = x := (List.cons.inj e2).1.symm
      have : b + 1 - a = (b - a) + 1 := by omega
      have hd : (l.drop a)[b - a]? = some x := by
        rw [List.getElem?_drop, show a + (b - a) = b by omega, List.getElem?_eq_getElem hlt, hx]
      rw [this, List.take_add_one, hd]
      simp
theorem split_eq {c : Nat} {l : List Nat} (hc : c < 256) : Txt.split (mkS l) (mkS [c]) = (splitc c l).map mkS := by
  have hp : partsBetween (mkS l) (idxs c l 0) (mkS [c]).length = (splitc c l).map mkS := by
    rw [StrLaws.partsBetween_eq]
    obtain ⟨h, t, h1, h2⟩ := parts_split (c := c) (l := l) l 0 0 rfl (by omega) (by omega)
    rw [show (mkS [c]).length = 1 from rfl, h2, h1]
    simp
  have hk : PySem.Builtin.Str.strKind (mkS [c]) = 1 := by
    unfold PySem.Builtin.Str.strKind
    rw [if_pos]
    simp [mkS, hc]
  have hk2 : ¬ PySem.Builtin.Str.strKind (mkS l) < PySem.Builtin.Str.strKind (mkS [c]) := by
    rw [hk]; unfold PySem.Builtin.Str.strKind; split
    · omega
    · split <;> omega
  unfold Txt.split
  simp only [hk2, decide_false, Bool.or_false, occ_idxs]
  split
  · rename_i h
    have : l = [] := by
      have : l.length < 1 := by simpa [mkS_len] using h
      exact List.eq_nil_of_length_eq_zero (by omega)
    subst this
    rfl
  · split
    · rename_i h
      have : idxs c l 0 = [] := by simpa using h
      rw [this] at hp
      rw [← hp, StrLaws.partsBetween_eq]
      simp only [StrLaws.partsFrom, StrLaws.sub_whole]
    · exact hp
theorem splitc_app {c : Nat} : ∀ (a r : List Nat), c ∉ a → splitc c (a ++ c :: r) = a :: splitc c r
  | [], r, _ => by simp [splitc]
  | x :: a, r, h => by
    have hx : x ≠ c := fun e => h (by simp [e])
    have := splitc_app a r (fun e => h (List.mem_cons_of_mem _ e))
    simp [splitc, hx, this]
theorem splitc_free {c : Nat} : ∀ (a : List Nat), c ∉ a → splitc c a = [a]
  | [], _ => rfl
  | x :: a, h => by
    have hx : x ≠ c := fun e => h (by simp [e])
    have := splitc_free a (fun e => h (List.mem_cons_of_mem _ e))
    simp [splitc, hx, this]
theorem splitc_join {c : Nat} : ∀ (ls : List (List Nat)), ls ≠ [] → (∀ x ∈ ls, c ∉ x) → splitc c (ljoin [c] ls) = ls
  | [], h, _ => absurd rfl h
  | [x], _, hx => splitc_free x (hx x (by simp))
  | x :: y :: r, _, hx => by
    rw [ljoin, List.append_assoc]
    show splitc c (x ++ c :: ljoin [c] (y :: r)) = _
    rw [splitc_app _ _ (hx x (by simp)), splitc_join (y :: r) (by simp) (fun z hz => hx z (List.mem_cons_of_mem _ hz))]
theorem splitc_nil {c : Nat} : splitc c (ljoin [c] []) = [[]] := rfl
theorem splitF_eq {c : Nat} {l : List Nat} {σ : List PO} (hc : c < 256) (hl : l.length ≤ 1000000) (hs : (splitc c l).length ≤ 1000000) : splitF [.str (mkS l), .str (mkS [c])] σ = some (.ref σ.length, σ ++ [linesO (splitc c l)]) := by
  simp only [splitF, split_eq hc, mkS_len, List.length_map, List.map_map]
  rw [if_pos ⟨hl, by simp, hs⟩]
  rfl
theorem splitc_length {c : Nat} : ∀ l : List Nat, (splitc c l).length ≤ l.length + 1
  | [] => by simp [splitc]
  | x :: r => by
    have := splitc_length (c := c) r
    unfold splitc
    split
    · simp; omega
    · split
      · simp
      · rename_i h; rw [h] at this; simp at this ⊢; omega
end Mine
end
section
open PySem PySem.W PySem.Calls PyProof.Rows
namespace Mine
def g_split (D V : Addr) : FS := (fSeq (fAsg (eMeth (isP 43) (rxF 43) (eLit (.lit (.ref 43))) (eCons (eBin addF (eVar 1) (eVar 2)) eNil)) (aVar 4)) (fSeq (fIf (cVal truF (eBin idxF (eVar 4) (eLit (.int 0)))) (fSeq (fAsg (eList (eCons (eLit (.str "")) eNil)) (aFront (eVar 4) (eLit (.int 0)))) fSkip) (fSeq (fExpS (eMeth isL pop0F (eVar 4) (eCons (eLit (.int 0)) eNil))) fSkip)) (fSeq (fZip 1000 (eVar 4) (aPair (aVar 1) (aVar 5)) (fSeq (fExp (eMeth (isA V) (G_chunk D V) (eVar 0) (eCons (eVar 1) (eCons (eVar 5) eNil)))) fSkip)) fSkip)))
def G_split (D V : Addr) : CF := runBody [] 4 9 ((g_split D V))
end Mine
end
section
open PySem PySem.W PySem.Calls PyProof.Rows
set_option maxRecDepth 100000
set_option linter.unusedVariables false
set_option linter.unusedSimpArgs false
namespace Mine
def blankL : List (List Nat) := [[32], [32, 32], [9], [32, 9]]
def endL : List (List Nat) := [[], [44], [59]]
def ck (k : Nat) (x : Int) : WP := (if k = 0 then [] else blankL.getD (x / 12 % 4).toNat [], List.replicate (1 + x % 4).toNat (97 + k) ++ endL.getD (x / 4 % 3).toNat [])
def chunksOf (ns : List Int) : List WP := (List.range ns.length).map fun k => ck k (ns.getD k 0)
section
variable {σ : List PO}
theorem idx_tup {l : List PV} {k : Nat} {p : PV} (h : l[k]? = some p) (hk : k ≤ 1000000) : idxF (.tup l) (.int (k : Int)) σ = some (p, σ) := by
  simp only [idxF, pyAt]
  rw [if_neg (by omega), if_pos (by omega), Int.toNat_natCast, h]
theorem idx_list {l : List PV} {i k : Nat} {p : PV} (hi : σ[i]? = some (.list l)) (h : l[k]? = some p) (hk : k ≤ 1000000) : idxF (.ref i) (.int (k : Int)) σ = some (p, σ) := by
  simp only [idxF, hi, pyAt]
  rw [if_neg (by omega), if_pos (by omega), Int.toNat_natCast, h]
theorem lenF_list {C : Addr} {Φ : CF} {i : Nat} {l : List PV} (h : σ[i]? = some (.list l)) (hl : l.length ≤ 1000000) : lenF C Φ [.ref i] σ = some (.int (l.length : Int), σ) := by
  unfold lenF
  simp only [h, szOk_eq, hl, if_true]
theorem lenF_str {C : Addr} {Φ : CF} {a : List Nat} (hl : a.length ≤ 1000000) : lenF C Φ [.str (mkS a)] σ = some (.int (a.length : Int), σ) := by
  unfold lenF
  simp only [mkS_len, hl, if_true]
theorem mod_int {a b : Int} (h : 0 < b ∧ b < 1000) : modF (.int a) (.int b) σ = some (.int (a % b), σ) := by simp only [modF, h, and_self, if_true]
theorem div_int {a b : Int} (h : 0 < b ∧ b < 1000) : divF (.int a) (.int b) σ = some (.int (a / b), σ) := by simp only [divF, h, and_self, if_true]
theorem mul_str {a : List Nat} {n : Int} (h : 0 ≤ n ∧ n ≤ 1000) (ha : a.length ≤ 1000) : mulF (.str (mkS a)) (.int n) σ = some (.str (mkS (List.replicate n.toNat a).flatten), σ) := by
  simp only [mulF, mkS_len, h, ha, and_self, if_true, mkS_mul]
theorem add_str {a b : List Nat} (h : a.length + b.length ≤ 100000) : addF (.str (mkS a)) (.str (mkS b)) σ = some (.str (mkS (a ++ b)), σ) := by
  have : strOk ((mkS a).length + (mkS b).length) = true := by rw [strOk_eq]; exact h
  simp only [addF, this, mkS_app]
theorem eq_int {a b : Int} : eqB 5 (.int a) (.int b) σ = some (a == b) := eqF_int
theorem eq_str {a b : List Nat} : eqB 5 (.str (mkS a)) (.str (mkS b)) σ = some (a == b) := by unfold eqB; rw [eqF_str, mkS_beq]
theorem flat_rep {n c : Nat} : (List.replicate n [c]).flatten = List.replicate n c := by
  induction n with
  | zero => rfl
  | succ n ih => rw [List.replicate_succ, List.flatten_cons, ih, List.replicate_succ]; rfl
def hitR (sg : List Nat) (p q : WP) (r : Nat) : Bool := q.1.head? == sg[r]? || p.2.getLast? == sg[r]?
def rankOf (sg : List Nat) (p q : WP) : Nat := ((List.range sg.length).filter (hitR sg p q)).headD 99
def rankAt (sg : List Nat) (ps : List WP) (k : Nat) : Nat := if k = 0 then 99 else rankOf sg (ps.getD (k - 1) ([], [])) (ps.getD k ([], []))
def ranksOf (sg : List Nat) (ps : List WP) (n : Nat) : List PV := (List.range n).map fun k => .int (rankAt sg ps k)
structure PsOk (ps : List WP) : Prop where
  word : ∀ (k : Nat) p, ps[k]? = some p → p.2 ≠ []
  blank : ∀ (k : Nat) p, ps[k + 1]? = some p → p.1 ≠ []
  small : ∀ p ∈ ps, p.1.length + p.2.length ≤ 1000
theorem getD_of {α : Type} {l : List α} {k : Nat} {d : α} (h : k < l.length) : l[k]? = some (l.getD k d) := by
  rw [List.getD_eq_getElem?_getD, List.getElem?_eq_getElem h]; rfl
theorem rng_filterMap {a : Int} {n : Nat} {g : Nat → Bool} {f : Nat → PV} (G : PV → Option PV) (hG : ∀ j < n, G (.int (a + (j : Nat))) = if g j = true then some (f j) else none) :
    ((List.range n).map fun (j : Nat) => PV.int (a + j)).filterMap G = ((List.range n).filter g).map f := by
  induction n with
  | zero => rfl
  | succ n ih =>
    rw [List.range_succ, List.map_append, List.filterMap_append, List.filter_append, List.map_append, ih (fun j hj => hG j (by omega))]
    congr 1
    have := hG n (by omega)
    simp only [List.map_cons, List.map_nil, List.filterMap_cons, List.filterMap_nil, this]
    by_cases h : g n = true
    · simp [h]
    · simp [h]
theorem comp_rng {mp : List (Option Nat)} {i : Nat} {tst : FB} {elt f : FE} {ρ : List (Option PV)} {σ₀ : List PO} {a b : Int} {n : Nat} (g : Nat → Bool) (fv : Nat → PV) {Q : PV → List PO → Prop}
    (hf : wO (f ρ σ₀) fun x σ => x = .rng a b 1 ∧ (-1000000 ≤ a ∧ a ≤ 1000000) ∧ (-1000000 ≤ b ∧ b ≤ 1000000) ∧ (b - a).toNat = n ∧ n < 1000 ∧
      (∀ j : Nat, j < n → ∀ acc, wO (tst ((fInner mp ρ).set i (some (.int (a + j)))) (σ ++ [.list acc])) fun t σ₂ => σ₂ = σ ++ [.list acc] ∧ t = g j ∧
        (g j = true → wO (elt ((fInner mp ρ).set i (some (.int (a + j)))) (σ ++ [.list acc])) fun q σ₃ => σ₃ = σ ++ [.list acc] ∧ q = fv j)) ∧
      Q (.ref σ.length) (σ ++ [.list (((List.range n).filter g).map fv)])) :
    wO (fComp 1000 mp (aVar i) tst elt f ρ σ₀) Q := by
  refine comp_pure (items := (List.range n).map fun (j : Nat) => PV.int (a + j)) (fun p => match p with
    | .int k => if g (k - a).toNat = true then some (fv (k - a).toNat) else none
    | _ => none) (fun ρ' => ∃ v, ρ' = (fInner mp ρ).set i v ∨ ρ' = fInner mp ρ) ?_
  refine hf.mono ?_
  rintro x σ ⟨rfl, ha, hb, hn, hn2, hs, hQ⟩
  refine ⟨.rng a (if a < b then b - a else 0) 1, ?_, its_rng n a hn, by simpa using hn2, ⟨none, .inr rfl⟩, ?_, ?_⟩
  · simp only [iterOf, smallR ha hb (.inl rfl), if_true, rngLen_up]
  · intro p hp ρ' hρ acc
    obtain ⟨j, hj, rfl⟩ := List.mem_map.1 hp
    rw [List.mem_range] at hj
    have e1 : ρ'.set i (some (.int (a + j))) = (fInner mp ρ).set i (some (.int (a + j))) := by
      obtain ⟨v, rfl | rfl⟩ := hρ
      · rw [List.set_set]
      · rfl
    rw [p_aVar, e1]
    refine ⟨rfl, ⟨_, .inl rfl⟩, ?_⟩
    refine (hs j hj acc).mono ?_
    rintro t σ₂ ⟨rfl, rfl, he⟩
    refine ⟨rfl, ?_⟩
    have e2 : (a + (j : Int) - a).toNat = j := by omega
    by_cases hg : g j = true
    · rw [if_pos hg]
      refine (he hg).mono ?_
      rintro q σ₃ ⟨rfl, rfl⟩
      refine ⟨rfl, ?_⟩
      simp only [e2, hg, if_true]
    · rw [if_neg hg]
      simp only [e2, hg, if_false]
      simp
  · rw [rng_filterMap (g := g) (f := fv)]
    · exact hQ
    · intro j hj
      have e2 : (a + (j : Int) - a).toNat = j := by omega
      simp only [e2]
theorem eqB_nil {i j : Nat} {l : List PV} (h : σ[i]? = some (.list l)) (h2 : σ[j]? = some (.list [])) (hij : i ≠ j) : eqB 5 (.ref i) (.ref j) σ = some l.isEmpty := by
  unfold eqB
  rw [eqF]
  simp only [h, h2, hij, if_false]
  cases l with
  | nil => simp [eqFs]
  | cons a r => simp
theorem getD_mem {ps : List WP} {k : Nat} (h : k < ps.length) : ps.getD k ([], []) ∈ ps := by
  rw [List.getD_eq_getElem?_getD, List.getElem?_eq_getElem h]
  exact List.getElem_mem h
end
structure PsVis (ps : List WP) : Prop where
  vis : ∀ p ∈ ps, ∃ x ∈ p.2, Unicode.isSpace x = false
  bar : ∀ p ∈ ps, 124 ∉ p.1 ∧ 124 ∉ p.2
theorem PsVis.sub {ps qs : List WP} (h : PsVis ps) (k : ∀ p ∈ qs, p ∈ ps) : PsVis qs := ⟨fun p hp => h.vis p (k p hp), fun p hp => h.bar p (k p hp)⟩
theorem PsVis.nlP {ps : List WP} (h : PsVis ps) (h0 : ps ≠ []) : nlP ps = ps := by
  apply nlP_of h0
  rcases List.eq_nil_or_concat ps with rfl | ⟨qs, p, rfl⟩
  · exact absurd rfl h0
  · intro e
    simp only [lastP, List.concat_eq_append, List.getLastD_concat] at e
    obtain ⟨x, hx, _⟩ := h.vis p (by simp)
    rw [e] at hx; cases hx
theorem PsVis.not_spacey {ps : List WP} (h : PsVis ps) (h0 : ps ≠ []) : spacey (flat ps) = false := by
  obtain ⟨p, r, rfl⟩ := List.exists_cons_of_ne_nil h0
  obtain ⟨x, hx, hs⟩ := h.vis p (by simp)
  unfold spacey
  rw [Bool.and_eq_false_iff]
  right
  rw [List.all_eq_false]
  refine ⟨x, ?_, by rw [hs]; decide⟩
  rw [flat_cons]; simp [hx]
theorem PsVis.flat_ne {ps : List WP} (h : PsVis ps) (h0 : ps ≠ []) : flat ps ≠ [] := by
  obtain ⟨p, r, rfl⟩ := List.exists_cons_of_ne_nil h0
  obtain ⟨x, hx, hs⟩ := h.vis p (by simp)
  intro e
  rw [flat_cons] at e
  have : p.2 = [] := by
    have := congrArg List.length e
    simp only [List.length_append, List.length_nil] at this
    exact List.eq_nil_of_length_eq_zero (by omega)
  rw [this] at hx; cases hx
theorem PsVis.no_bar {ps : List WP} (h : PsVis ps) : 124 ∉ flat ps := by
  intro hm
  obtain ⟨p, hp, hx⟩ := List.mem_flatMap.1 hm
  rcases List.mem_append.1 hx with hx | hx
  · exact (h.bar p hp).1 hx
  · exact (h.bar p hp).2 hx
theorem PsVis.hw {ps : List WP} {ls : List (List Nat)} {n : Nat} (h : PsVis ps) : ls = [] ∨ n ≠ 0 ∨ (flat (Mine.nlP ps) ≠ [] → spacey (flat (Mine.nlP ps)) = false) := by
  refine .inr (.inr fun h1 => ?_)
  by_cases h0 : ps = []
  · subst h0; exact absurd rfl h1
  · rw [h.nlP h0]; exact h.not_spacey h0
theorem flat_take_le (ps : List WP) (k : Nat) : (flat (ps.take k)).length ≤ (flat ps).length := by
  have : flat ps = flat (ps.take k) ++ flat (ps.drop k) := by rw [← flat_app, List.take_append_drop]
  rw [this]; simp
theorem flat_drop_le (ps : List WP) (k : Nat) : (flat (ps.drop k)).length ≤ (flat ps).length := by
  have : flat ps = flat (ps.take k) ++ flat (ps.drop k) := by rw [← flat_app, List.take_append_drop]
  rw [this]; simp
def firstCut (w : Int) (sg : List Nat) (ps : List WP) : Nat → Option (Nat × Nat)
  | 0 => none
  | j + 1 => match firstCut w sg ps j with
    | some r => some r
    | none => if w < ((flat (ps.take (j + 1))).length : Nat) then (cutAt sg (ps.take (j + 1))).map fun i => (j, i) else none
def rowF (w : Int) (sg : List Nat) (ps : List WP) : List Nat := match firstCut w sg ps ps.length with
  | some (_, i) => flat (ps.take i)
  | none => flat ps
theorem take_succ_get {ps : List WP} {j : Nat} {p : WP} (h : ps[j]? = some p) : ps.take (j + 1) = ps.take j ++ [p] := by
  rw [List.take_add_one, h]; rfl
theorem firstCut_le {w : Int} {sg : List Nat} {ps : List WP} : ∀ {j k i : Nat}, firstCut w sg ps j = some (k, i) → k < j ∧ cutAt sg (ps.take (k + 1)) = some i ∧ w < ((flat (ps.take (k + 1))).length : Nat) := by
  intro j
  induction j with
  | zero => intro k i h; cases h
  | succ j ih =>
    intro k i h
    rw [firstCut] at h
    cases hf : firstCut w sg ps j with
    | some r =>
      rw [hf] at h
      cases h
      have := ih hf
      exact ⟨by omega, this.2⟩
    | none =>
      rw [hf] at h
      simp only at h
      split at h
      · rename_i hw
        cases hc : cutAt sg (ps.take (j + 1)) with
        | none => rw [hc] at h; cases h
        | some i' =>
          rw [hc] at h
          cases h
          exact ⟨by omega, hc, hw⟩
      · cases h
section
variable {σ : List PO} {D V : Addr}
def rowPs (w : Int) (sg : List Nat) (ps : List WP) (j : Nat) : List WP := match firstCut w sg ps j with
  | some (k, i) => (ps.take (k + 1)).drop i
  | none => ps.take j
def rowLs (w : Int) (sg : List Nat) (ps : List WP) (j : Nat) : List (List Nat) := match firstCut w sg ps j with
  | some (k, i) => [flat (ps.take i)]
  | none => []
theorem chF_row {w : Int} {sg : List Nat} {ps : List WP} {j : Nat} {p : WP} (hp : ps[j]? = some p) (hf : firstCut w sg ps j = none) : chF w sg 0 (ps.take j) [] p.1 p.2 = (0, rowPs w sg ps (j + 1), rowLs w sg ps (j + 1)) := by
  unfold chF rowPs rowLs
  rw [firstCut, hf, show ps.take j ++ [(p.1, p.2)] = ps.take (j + 1) from (take_succ_get hp).symm]
  simp only [Nat.zero_add]
  by_cases hw : w < ((flat (ps.take (j + 1))).length : Nat)
  · rw [if_pos hw, if_pos hw]
    cases hc : cutAt sg (ps.take (j + 1)) with
    | none => simp only [Option.map_none, elL, Nat.lt_irrefl, if_false]; rw [take_succ_get hp]
    | some i =>
      have := cutAt_le hc
      have h2 : min i (j + 1) = i := by simp at this; omega
      simp [List.take_take, h2]
  · rw [if_neg hw, if_neg hw]
theorem rows_split {rows : List (List Nat)} (h : ∀ x ∈ rows, 124 ∉ x) : splitc 124 (ljoin [124] rows) = if rows = [] then [[]] else rows := by
  by_cases h0 : rows = []
  · subst h0; rfl
  · rw [if_neg h0, splitc_join rows h0 h]
theorem ljoin_len (s : List Nat) : ∀ ls : List (List Nat), (ljoin s ls).length ≤ (ls.map (·.length)).sum + ls.length * s.length
  | [] => by simp [ljoin]
  | [x] => by simp [ljoin]
  | x :: y :: r => by
    have := ljoin_len s (y :: r)
    rw [ljoin]
    simp only [List.map_cons, List.sum_cons, List.length_cons, List.length_append, Nat.succ_mul] at this ⊢
    omega
theorem rowPs_mem {w : Int} {sg : List Nat} {ps : List WP} {j : Nat} : ∀ p ∈ rowPs w sg ps j, p ∈ ps := by
  intro p hp
  unfold rowPs at hp
  split at hp
  · exact List.mem_of_mem_take (List.mem_of_mem_drop hp)
  · exact List.mem_of_mem_take hp
theorem rowPs_flat {w : Int} {sg : List Nat} {ps : List WP} {j : Nat} : (flat (rowPs w sg ps j)).length ≤ (flat ps).length := by
  unfold rowPs
  split
  · exact Nat.le_trans (flat_drop_le _ _) (flat_take_le _ _)
  · exact flat_take_le _ _
theorem rowPs_len {w : Int} {sg : List Nat} {ps : List WP} {j : Nat} : (rowPs w sg ps j).length ≤ ps.length := by
  unfold rowPs
  split
  · simp; omega
  · simp; omega
theorem rowLs_len {w : Int} {sg : List Nat} {ps : List WP} {j : Nat} : (rowLs w sg ps j).length ≤ 1 ∧ ∀ x ∈ rowLs w sg ps j, ∃ i, x = flat (ps.take i) := by
  unfold rowLs
  split
  · exact ⟨by simp, fun x hx => ⟨_, by simpa using hx⟩⟩
  · exact ⟨by simp, fun x hx => nomatch hx⟩
theorem row_rows {w : Int} {sg : List Nat} {ps : List WP} (P : PsVis ps) : ∃ r, (if nlL 0 (rowPs w sg ps ps.length) (rowLs w sg ps ps.length) = [] then [[]] else nlL 0 (rowPs w sg ps ps.length) (rowLs w sg ps ps.length)) = rowF w sg ps :: r := by
  unfold rowPs rowLs rowF nlL
  cases hf : firstCut w sg ps ps.length with
  | none =>
    simp only [List.take_length]
    by_cases h0 : ps = []
    · subst h0; exact ⟨[], by simp [nlP, lastP, flat]⟩
    · have hne := P.flat_ne h0
      have hpos : 0 < 0 + (flat ps).length := by have := List.length_pos_iff.2 hne; omega
      rw [P.nlP h0, if_pos hpos]
      exact ⟨[], by simp⟩
  | some r =>
    obtain ⟨k, i⟩ := r
    simp only
    have h1 := firstCut_le hf
    have h2 := cutAt_le h1.2.1
    have h3 : (ps.take (k + 1)).drop i ≠ [] := by
      intro e
      have := congrArg List.length e
      simp at this
      simp at h2
      omega
    have P2 : PsVis ((ps.take (k + 1)).drop i) := P.sub fun p hp => List.mem_of_mem_take (List.mem_of_mem_drop hp)
    have hpos : 0 < 0 + (flat ((ps.take (k + 1)).drop i)).length := by have := List.length_pos_iff.2 (P2.flat_ne h3); omega
    rw [P2.nlP h3, if_pos hpos]
    exact ⟨_, by simp; rfl⟩
end
def natsL (l : List Nat) : List PV := l.map fun (k : Nat) => PV.int (k : Int)
theorem natsL_get {l : List Nat} {k : Nat} {x : Nat} (h : l[k]? = some x) : (natsL l)[k]? = some (.int (x : Int)) := by
  unfold natsL; rw [List.getElem?_map, h]; rfl
theorem natsL_len {l : List Nat} : (natsL l).length = l.length := by simp [natsL]
theorem intsOf_nats : ∀ l : List Nat, intsOf (natsL l) = some (l.map fun (k : Nat) => (k : Int))
  | [] => rfl
  | a :: r => by
    show (intsOf (natsL r)).map _ = _
    rw [intsOf_nats r]; rfl
def minN : List Nat → Nat
  | [] => 0
  | a :: l => l.foldl min a
def maxN : List Nat → Nat
  | [] => 0
  | a :: l => l.foldl max a
theorem min_fold : ∀ (l : List Nat) (a : Nat), (l.map fun (k : Nat) => (k : Int)).foldl min (a : Int) = ((l.foldl min a : Nat) : Int)
  | [], _ => rfl
  | b :: l, a => by
    rw [List.map_cons, List.foldl_cons, List.foldl_cons, ← min_fold l (min a b)]
    congr 1; omega
theorem max_fold : ∀ (l : List Nat) (a : Nat), (l.map fun (k : Nat) => (k : Int)).foldl max (a : Int) = ((l.foldl max a : Nat) : Int)
  | [], _ => rfl
  | b :: l, a => by
    rw [List.map_cons, List.foldl_cons, List.foldl_cons, ← max_fold l (max a b)]
    congr 1; omega
section
variable {σ : List PO}
theorem minF_eq {i : Nat} {l : List Nat} (h : σ[i]? = some (.list (natsL l))) (h0 : l ≠ []) : minF [.ref i] σ = some (.int (minN l : Nat), σ) := by
  obtain ⟨a, r, rfl⟩ := List.exists_cons_of_ne_nil h0
  simp only [minF, h, intsOf_nats, List.map_cons, minL, min_fold]
  rfl
theorem maxF_eq {i : Nat} {l : List Nat} (h : σ[i]? = some (.list (natsL l))) (h0 : l ≠ []) : maxF [.ref i] σ = some (.int (maxN l : Nat), σ) := by
  obtain ⟨a, r, rfl⟩ := List.exists_cons_of_ne_nil h0
  simp only [maxF, h, intsOf_nats, List.map_cons, maxL, max_fold]
  rfl
theorem lst_filterMap {l : List Nat} {g : Nat → Bool} {f : Nat → PV} (G : PV → Option PV) (hG : ∀ j ∈ l, G (.int (j : Nat)) = if g j = true then some (f j) else none) :
    (natsL l).filterMap G = (l.filter g).map f := by
  unfold natsL
  induction l with
  | nil => rfl
  | cons a r ih =>
    have h1 := ih fun j hj => hG j (List.mem_cons_of_mem _ hj)
    have h2 := hG a (by simp)
    rw [List.map_cons, List.filter_cons]
    by_cases h : g a = true
    · rw [if_pos h] at h2 ⊢
      rw [List.filterMap_cons_some h2, h1, List.map_cons]
    · rw [if_neg h] at h2 ⊢
      rw [List.filterMap_cons_none h2, h1]
theorem comp_lst {mp : List (Option Nat)} {i : Nat} {tst : FB} {elt f : FE} {ρ : List (Option PV)} {σ₀ : List PO} {l : List Nat} {L : Nat} (g : Nat → Bool) (fv : Nat → PV) {Q : PV → List PO → Prop}
    (hf : wO (f ρ σ₀) fun x σ => x = .ref L ∧ σ[L]? = some (.list (natsL l)) ∧ l.length < 1000 ∧
      (∀ j ∈ l, ∀ acc, wO (tst ((fInner mp ρ).set i (some (.int (j : Nat)))) (σ ++ [.list acc])) fun t σ₂ => σ₂ = σ ++ [.list acc] ∧ t = g j ∧
        (g j = true → wO (elt ((fInner mp ρ).set i (some (.int (j : Nat)))) (σ ++ [.list acc])) fun q σ₃ => σ₃ = σ ++ [.list acc] ∧ q = fv j)) ∧
      Q (.ref σ.length) (σ ++ [.list ((l.filter g).map fv)])) :
    wO (fComp 1000 mp (aVar i) tst elt f ρ σ₀) Q := by
  refine comp_pure (items := natsL l) (fun p => match p with
    | .int k => if g k.toNat = true then some (fv k.toNat) else none
    | _ => none) (fun ρ' => ∃ v, ρ' = (fInner mp ρ).set i v ∨ ρ' = fInner mp ρ) ?_
  refine hf.mono ?_
  rintro x σ ⟨rfl, hL, hn2, hs, hQ⟩
  refine ⟨.seq L 0, ?_, its_list (l := natsL l) (fun σ' hσ => ?_) (natsL l) 0 rfl, by simpa [natsL] using hn2, ⟨none, .inr rfl⟩, ?_, ?_⟩
  · simp only [iterOf, hL]
  · obtain ⟨acc, rfl⟩ := hσ
    exact Keep.app (S := []) _ _ hL (by simp)
  · intro p hp ρ' hρ acc
    obtain ⟨j, hj, rfl⟩ := List.mem_map.1 hp
    have e1 : ρ'.set i (some (.int (j : Nat))) = (fInner mp ρ).set i (some (.int (j : Nat))) := by
      obtain ⟨v, rfl | rfl⟩ := hρ
      · rw [List.set_set]
      · rfl
    rw [p_aVar, e1]
    refine ⟨rfl, ⟨_, .inl rfl⟩, ?_⟩
    refine (hs j hj acc).mono ?_
    rintro t σ₂ ⟨rfl, rfl, he⟩
    refine ⟨rfl, ?_⟩
    by_cases hg : g j = true
    · rw [if_pos hg]
      refine (he hg).mono ?_
      rintro q σ₃ ⟨rfl, rfl⟩
      refine ⟨rfl, ?_⟩
      simp only [Int.toNat_natCast, hg, if_true]
    · rw [if_neg hg]
      simp only [Int.toNat_natCast, hg, if_false]
      simp
  · rw [lst_filterMap (g := g) (f := fv)]
    · exact hQ
    · intro j hj
      simp only [Int.toNat_natCast]
def endAt (ps : List WP) (k : Nat) : Nat := (flat (ps.take (k + 1))).length
def overL (w : Int) (ps : List WP) : List Nat := (List.range ps.length).filter fun k => decide (w < (endAt ps k : Nat))
def placesL (sg : List Nat) (ps : List WP) : List Nat := ((List.range (ps.length - 1)).filter fun j => decide (rankAt sg ps (1 + j) < 99)).map fun j => 1 + j
def nearL (sg : List Nat) (ps : List WP) (reach : Nat) : List Nat := (placesL sg ps).filter fun k => decide (k ≤ reach)
def bestAt (sg : List Nat) (ps : List WP) (reach : Nat) : Nat := minN ((nearL sg ps reach).map (rankAt sg ps))
def lastBest (sg : List Nat) (ps : List WP) (reach : Nat) : Nat := maxN ((placesL sg ps).filter fun k => decide (k ≤ reach) && (rankAt sg ps k == bestAt sg ps reach))
def dueF (w : Int) (sg : List Nat) (ps : List WP) : Option Nat := match overL w ps, placesL sg ps with
  | o :: _, p :: _ => some (lastBest sg ps (max o p))
  | _, _ => none
def duePV : Option Nat → PV
  | some k => .int (k : Int)
  | none => .none
theorem ranks_get {sg : List Nat} {ps : List WP} {k n : Nat} (h : k < n) : (ranksOf sg ps n)[k]? = some (.int (rankAt sg ps k : Nat)) := by
  unfold ranksOf; rw [List.getElem?_map, List.getElem?_range h]; rfl
theorem fold_min_le : ∀ (l : List Nat) (a : Nat), l.foldl min a ≤ a ∧ ∀ x ∈ l, l.foldl min a ≤ x
  | [], a => ⟨Nat.le_refl _, fun x hx => nomatch hx⟩
  | b :: l, a => by
    have h := fold_min_le l (min a b)
    rw [List.foldl_cons]
    refine ⟨by omega, fun x hx => ?_⟩
    rcases List.mem_cons.1 hx with rfl | hx
    · omega
    · exact h.2 x hx
theorem fold_min_mem : ∀ (l : List Nat) (a : Nat), l.foldl min a = a ∨ l.foldl min a ∈ l
  | [], a => .inl rfl
  | b :: l, a => by
    rw [List.foldl_cons]
    rcases fold_min_mem l (min a b) with h | h
    · rw [h]
      rcases Nat.le_total a b with h2 | h2
      · left; omega
      · right; rw [Nat.min_eq_right h2]; simp
    · right; exact List.mem_cons_of_mem _ h
theorem minN_mem {l : List Nat} (h : l ≠ []) : minN l ∈ l := by
  obtain ⟨a, r, rfl⟩ := List.exists_cons_of_ne_nil h
  rcases fold_min_mem r a with e | e
  · rw [minN, e]; simp
  · exact List.mem_cons_of_mem _ e
theorem minN_le {l : List Nat} {x : Nat} (h : x ∈ l) : minN l ≤ x := by
  cases l with
  | nil => cases h
  | cons a r =>
    have := fold_min_le r a
    rcases List.mem_cons.1 h with rfl | h
    · exact this.1
    · exact this.2 x h
theorem fold_max_ge : ∀ (l : List Nat) (a : Nat), a ≤ l.foldl max a ∧ ∀ x ∈ l, x ≤ l.foldl max a
  | [], a => ⟨Nat.le_refl _, fun x hx => nomatch hx⟩
  | b :: l, a => by
    have h := fold_max_ge l (max a b)
    rw [List.foldl_cons]
    refine ⟨by omega, fun x hx => ?_⟩
    rcases List.mem_cons.1 hx with rfl | hx
    · omega
    · exact h.2 x hx
theorem fold_max_mem : ∀ (l : List Nat) (a : Nat), l.foldl max a = a ∨ l.foldl max a ∈ l
  | [], a => .inl rfl
  | b :: l, a => by
    rw [List.foldl_cons]
    rcases fold_max_mem l (max a b) with h | h
    · rw [h]
      rcases Nat.le_total a b with h2 | h2
      · right; rw [Nat.max_eq_right h2]; simp
      · left; omega
    · right; exact List.mem_cons_of_mem _ h
theorem maxN_mem {l : List Nat} (h : l ≠ []) : maxN l ∈ l := by
  obtain ⟨a, r, rfl⟩ := List.exists_cons_of_ne_nil h
  rcases fold_max_mem r a with e | e
  · rw [maxN, e]; simp
  · exact List.mem_cons_of_mem _ e
theorem maxN_ge {l : List Nat} {x : Nat} (h : x ∈ l) : x ≤ maxN l := by
  cases l with
  | nil => cases h
  | cons a r =>
    have := fold_max_ge r a
    rcases List.mem_cons.1 h with rfl | h
    · exact this.1
    · exact this.2 x h
theorem bestL_ne {sg : List Nat} {ps : List WP} {reach : Nat} (h : nearL sg ps reach ≠ []) : ((placesL sg ps).filter fun k => decide (k ≤ reach) && (rankAt sg ps k == bestAt sg ps reach)) ≠ [] := by
  have : bestAt sg ps reach ∈ (nearL sg ps reach).map (rankAt sg ps) := minN_mem (by simpa using h)
  obtain ⟨k, hk, e⟩ := List.mem_map.1 this
  unfold nearL at hk
  obtain ⟨h1, h2⟩ := List.mem_filter.1 hk
  exact List.ne_nil_of_mem (List.mem_filter.2 ⟨h1, by rw [h2, e]; simp⟩)
end
def WhiteB (ps : List WP) : Prop := ∀ (k : Nat) p, ps[k + 1]? = some p → ∀ x ∈ p.1, Unicode.isSpace x = true
theorem rankOf_hit {sg : List Nat} {p q : WP} (h : rankOf sg p q < 99) : rankOf sg p q < sg.length ∧ hitR sg p q (rankOf sg p q) = true := by
  unfold rankOf at h ⊢
  cases hf : (List.range sg.length).filter (hitR sg p q) with
  | nil => rw [hf] at h; simp at h
  | cons r l =>
    have : r ∈ (List.range sg.length).filter (hitR sg p q) := by rw [hf]; simp
    obtain ⟨h1, h2⟩ := List.mem_filter.1 this
    exact ⟨List.mem_range.1 h1, h2⟩
theorem head_filter_range {n : Nat} {g : Nat → Bool} : ∀ {r : Nat} {l : List Nat}, (List.range n).filter g = r :: l → r < n ∧ g r = true ∧ ∀ k < r, g k = false := by
  induction n with
  | zero => intro r l h; cases h
  | succ n ih =>
    intro r l h
    rw [List.range_succ, List.filter_append] at h
    cases hf : (List.range n).filter g with
    | nil =>
      rw [hf, List.nil_append] at h
      by_cases hg : g n = true
      · have : [n] = r :: l := by simpa [hg] using h
        have e : n = r := (List.cons.inj this).1
        subst e
        refine ⟨by omega, hg, fun k hk => ?_⟩
        by_cases hg2 : g k = true
        · have : k ∈ (List.range n).filter g := List.mem_filter.2 ⟨List.mem_range.2 hk, hg2⟩
          rw [hf] at this; cases this
        · simpa using hg2
      · simp [hg] at h
    | cons r' l' =>
      rw [hf, List.cons_append] at h
      cases h
      have := ih hf
      exact ⟨by omega, this.2⟩
theorem rankOf_le {sg : List Nat} {p q : WP} {r : Nat} (hr : r < sg.length) (h : hitR sg p q r = true) : rankOf sg p q ≤ r := by
  unfold rankOf
  cases hf : (List.range sg.length).filter (hitR sg p q) with
  | nil =>
    have : r ∈ (List.range sg.length).filter (hitR sg p q) := List.mem_filter.2 ⟨List.mem_range.2 hr, h⟩
    rw [hf] at this; cases this
  | cons r' l =>
    have h3 := (head_filter_range hf).2.2
    show r' ≤ r
    rcases Nat.lt_or_ge r r' with h4 | h4
    · rw [h3 r h4] at h; cases h
    · exact h4
theorem findB_none {c : Nat} {ps : List WP} : ∀ {k : Nat}, findB c ps k = none → ∀ j, 1 ≤ j → j ≤ k → hit c (ps.getD (j - 1) ([], [])) (ps.getD j ([], [])) = false := by
  intro k
  induction k with
  | zero => intro _ j h1 h2; omega
  | succ k ih =>
    intro h j h1 h2
    rw [findB] at h
    split at h
    · cases h
    · rename_i hh
      rcases Nat.lt_or_ge k j with h3 | h3
      · have : j = k + 1 := by omega
        subst this; simpa using hh
      · exact ih h j h1 h3
theorem findB_max {c : Nat} {ps : List WP} : ∀ {k i : Nat}, findB c ps k = some i → ∀ j, i < j → j ≤ k → hit c (ps.getD (j - 1) ([], [])) (ps.getD j ([], [])) = false := by
  intro k
  induction k with
  | zero => intro i h; cases h
  | succ k ih =>
    intro i h j h1 h2
    rw [findB] at h
    split at h
    · cases h; omega
    · rename_i hh
      rcases Nat.lt_or_ge k j with h3 | h3
      · have : j = k + 1 := by omega
        subst this; simpa using hh
      · exact ih h j h1 h3
def IsCut (rk : Nat → Nat) (K i : Nat) : Prop := 1 ≤ i ∧ i ≤ K ∧ rk i < 99 ∧ (∀ j, 1 ≤ j → j ≤ K → rk i ≤ rk j) ∧ (∀ j, i < j → j ≤ K → rk i < rk j)
theorem IsCut.uniq {rk : Nat → Nat} {K i i' : Nat} (h : IsCut rk K i) (h' : IsCut rk K i') : i = i' := by
  obtain ⟨a1, a2, a3, a4, a5⟩ := h
  obtain ⟨b1, b2, b3, b4, b5⟩ := h'
  have := a4 i' b1 b2
  have := b4 i a1 a2
  rcases Nat.lt_trichotomy i i' with h | h | h
  · have := a5 i' h b2; omega
  · exact h
  · have := b5 i h a2; omega
theorem getD_take {ps : List WP} {K j : Nat} (h : j ≤ K) : (ps.take (K + 1)).getD j ([], []) = ps.getD j ([], []) := by
  rw [List.getD_eq_getElem?_getD, List.getD_eq_getElem?_getD, List.getElem?_take_of_lt (by omega)]
section
variable {sg : List Nat} {ps : List WP}
theorem hit_iff (W : WhiteB ps) {j r : Nat} (h1 : 1 ≤ j) (h2 : j < ps.length) (hr : r < sg.length) : hit (sg.getD r 0) (ps.getD (j - 1) ([], [])) (ps.getD j ([], [])) = hitR sg (ps.getD (j - 1) ([], [])) (ps.getD j ([], [])) r := by
  obtain ⟨i, rfl⟩ : ∃ i, j = i + 1 := ⟨j - 1, by omega⟩
  have hq := getD_of (d := (([], []) : WP)) h2
  generalize ps.getD (i + 1) ([], []) = q at hq ⊢
  unfold hit hitR
  rw [getD_of (d := 0) hr]
  congr 1
  by_cases he : q.1.head? == some (sg.getD r 0)
  · have hm : sg.getD r 0 ∈ q.1 := List.mem_of_head? (by simpa using he)
    rw [W i q hq _ hm, he]; rfl
  · simp only [Bool.not_eq_true] at he
    rw [he]; simp
theorem rankAt_pos {j : Nat} (h : 1 ≤ j) : rankAt sg ps j = rankOf sg (ps.getD (j - 1) ([], [])) (ps.getD j ([], [])) := by unfold rankAt; rw [if_neg (by omega)]
theorem cutAt_some (W : WhiteB ps) (hsg : sg.length ≤ 98) {K i : Nat} (hK : K < ps.length) (h : cutAt sg (ps.take (K + 1)) = some i) : IsCut (rankAt sg ps) K i := by
  unfold cutAt at h
  have hl : (ps.take (K + 1)).length - 1 = K := by simp; omega
  rw [hl] at h
  obtain ⟨l1, c, l2, hs, hf, hn⟩ := List.findSome?_eq_some_iff.1 h
  have h1 := findB_le hf
  have hc : sg.getD l1.length 0 = c := by rw [hs]; simp
  have hlt : l1.length < sg.length := by rw [hs]; simp
  have hmx := findB_max hf
  have g : ∀ j, j ≤ K → (ps.take (K + 1)).getD j ([], []) = ps.getD j ([], []) := fun j hj => getD_take hj
  have low : ∀ j, 1 ≤ j → j ≤ K → l1.length ≤ rankAt sg ps j := by
    intro j j1 j2
    rcases Nat.lt_or_ge (rankAt sg ps j) l1.length with h4 | h4
    · rw [rankAt_pos j1] at h4
      have h5 := rankOf_hit (show rankOf sg (ps.getD (j - 1) ([], [])) (ps.getD j ([], [])) < 99 by omega)
      generalize rankOf sg (ps.getD (j - 1) ([], [])) (ps.getD j ([], [])) = r at h4 h5
      have h6 : sg.getD r 0 ∈ l1 := by
        rw [hs, List.getD_eq_getElem?_getD, List.getElem?_append_left h4, List.getElem?_eq_getElem h4]
        exact List.getElem_mem h4
      have h7 := findB_none (hn _ h6) j j1 j2
      rw [g _ (by omega), g _ j2, hit_iff W j1 (by omega) h5.1, h5.2] at h7
      cases h7
    · exact h4
  have hi : rankAt sg ps i = l1.length := by
    have h3 := h1.2.2
    rw [g _ (by omega), g _ h1.2.1, ← hc, hit_iff W h1.1 (by omega) hlt] at h3
    have := rankOf_le hlt h3
    rw [← rankAt_pos h1.1] at this
    have := low i h1.1 h1.2.1
    omega
  refine ⟨h1.1, h1.2.1, by omega, fun j j1 j2 => by rw [hi]; exact low j j1 j2, fun j j1 j2 => ?_⟩
  rw [hi]
  rcases Nat.lt_or_ge l1.length (rankAt sg ps j) with h4 | h4
  · exact h4
  · have h5 := low j (by omega) j2
    have h6 : rankAt sg ps j = l1.length := by omega
    rw [rankAt_pos (by omega)] at h6
    have h7 := rankOf_hit (show rankOf sg (ps.getD (j - 1) ([], [])) (ps.getD j ([], [])) < 99 by omega)
    rw [h6] at h7
    have h8 := hmx j j1 j2
    rw [g _ (by omega), g _ j2, ← hc, hit_iff W (by omega) (by omega) hlt, h7.2] at h8
    cases h8
theorem cutAt_none (W : WhiteB ps) {K : Nat} (hK : K < ps.length) (h : cutAt sg (ps.take (K + 1)) = none) {j : Nat} (j1 : 1 ≤ j) (j2 : j ≤ K) : ¬ rankAt sg ps j < 99 := by
  intro h4
  unfold cutAt at h
  have hl : (ps.take (K + 1)).length - 1 = K := by simp; omega
  rw [hl, List.findSome?_eq_none_iff] at h
  rw [rankAt_pos j1] at h4
  have h5 := rankOf_hit h4
  generalize rankOf sg (ps.getD (j - 1) ([], [])) (ps.getD j ([], [])) = r at h4 h5
  have hm : sg.getD r 0 ∈ sg := by
    rw [List.getD_eq_getElem?_getD, List.getElem?_eq_getElem h5.1]
    exact List.getElem_mem h5.1
  have h7 := findB_none (h _ hm) j j1 j2
  rw [getD_take (by omega), getD_take j2, hit_iff W j1 (by omega) h5.1, h5.2] at h7
  cases h7
theorem mem_places {k : Nat} : k ∈ placesL sg ps ↔ 1 ≤ k ∧ k < ps.length ∧ rankAt sg ps k < 99 := by
  unfold placesL
  rw [List.mem_map]
  constructor
  · rintro ⟨j, hj, rfl⟩
    obtain ⟨h1, h2⟩ := List.mem_filter.1 hj
    have := List.mem_range.1 h1
    exact ⟨by omega, by omega, by simpa using h2⟩
  · rintro ⟨h1, h2, h3⟩
    refine ⟨k - 1, List.mem_filter.2 ⟨List.mem_range.2 (by omega), ?_⟩, by omega⟩
    rw [show 1 + (k - 1) = k by omega]; simpa using h3
theorem places_head {p : Nat} {l : List Nat} (h : placesL sg ps = p :: l) : 1 ≤ p ∧ p < ps.length ∧ rankAt sg ps p < 99 ∧ ∀ j, 1 ≤ j → j < p → ¬ rankAt sg ps j < 99 := by
  have hm : p ∈ placesL sg ps := by rw [h]; simp
  obtain ⟨h1, h2, h3⟩ := mem_places.1 hm
  refine ⟨h1, h2, h3, fun j j1 j2 j3 => ?_⟩
  unfold placesL at h
  cases hf : (List.range (ps.length - 1)).filter (fun j => decide (rankAt sg ps (1 + j) < 99)) with
  | nil => rw [hf] at h; cases h
  | cons r l' =>
    rw [hf] at h
    have e : 1 + r = p := (List.cons.inj h).1
    subst e
    have := (head_filter_range hf).2.2 (j - 1) (by omega)
    rw [show 1 + (j - 1) = j by omega] at this
    simp at this; omega
theorem lastBest_cut {reach : Nat} (hr : reach < ps.length) (h : ∃ p ∈ placesL sg ps, p ≤ reach) : IsCut (rankAt sg ps) reach (lastBest sg ps reach) := by
  have hnear : nearL sg ps reach ≠ [] := by
    obtain ⟨p, hp, hle⟩ := h
    unfold nearL
    exact List.ne_nil_of_mem (List.mem_filter.2 ⟨hp, by simpa using hle⟩)
  have hm := maxN_mem (bestL_ne hnear)
  rw [show maxN ((placesL sg ps).filter fun k => decide (k ≤ reach) && (rankAt sg ps k == bestAt sg ps reach)) = lastBest sg ps reach from rfl] at hm
  obtain ⟨h1, h2⟩ := List.mem_filter.1 hm
  obtain ⟨p1, p2, p3⟩ := mem_places.1 h1
  simp only [Bool.and_eq_true, decide_eq_true_eq, beq_iff_eq] at h2
  have best : ∀ j, 1 ≤ j → j ≤ reach → rankAt sg ps j < 99 → bestAt sg ps reach ≤ rankAt sg ps j := by
    intro j j1 j2 j3
    apply minN_le
    refine List.mem_map.2 ⟨j, ?_, rfl⟩
    unfold nearL
    exact List.mem_filter.2 ⟨mem_places.2 ⟨j1, by omega, j3⟩, by simpa using j2⟩
  refine ⟨p1, h2.1, p3, fun j j1 j2 => ?_, fun j j1 j2 => ?_⟩
  · rcases Nat.lt_or_ge (rankAt sg ps j) 99 with h | h
    · rw [h2.2]; exact best j j1 j2 h
    · omega
  · rcases Nat.lt_or_ge (rankAt sg ps j) 99 with h | h
    · have := best j (by omega) j2 h
      rcases Nat.lt_or_ge (rankAt sg ps (lastBest sg ps reach)) (rankAt sg ps j) with h4 | h4
      · exact h4
      · have h5 : rankAt sg ps j = bestAt sg ps reach := by omega
        have := maxN_ge (l := (placesL sg ps).filter fun k => decide (k ≤ reach) && (rankAt sg ps k == bestAt sg ps reach)) (x := j) (List.mem_filter.2 ⟨mem_places.2 ⟨by omega, by omega, h⟩, by simp [j2, h5]⟩)
        have : j ≤ lastBest sg ps reach := this
        omega
    · omega
theorem endAt_succ {k : Nat} (h : k + 1 < ps.length) (P : PsVis ps) : endAt ps k < endAt ps (k + 1) := by
  have hp := getD_of (d := (([], []) : WP)) h
  have hm := getD_mem h
  generalize ps.getD (k + 1) ([], []) = p at hp hm
  unfold endAt
  rw [take_succ_get hp, flat_app, flat_cons]
  obtain ⟨x, hx, _⟩ := P.vis p hm
  have := List.length_pos_of_mem hx
  simp [flat]; omega
theorem endAt_mono (P : PsVis ps) : ∀ {k j : Nat}, k < j → j < ps.length → endAt ps k < endAt ps j := by
  intro k j h
  induction j with
  | zero => omega
  | succ j ih =>
    intro hj
    have h1 := endAt_succ hj P
    rcases Nat.lt_or_ge k j with h2 | h2
    · have := ih h2 (by omega); omega
    · have : k = j := by omega
      subst this; exact h1
theorem endAt_last (h : ps ≠ []) : endAt ps (ps.length - 1) = (flat ps).length := by
  have := List.length_pos_iff.2 h
  unfold endAt
  rw [show ps.length - 1 + 1 = ps.length by omega, List.take_length]
theorem endAt_pos (P : PsVis ps) {k : Nat} (h : k < ps.length) : 0 < endAt ps k := by
  cases k with
  | succ k => have := endAt_succ h P; omega
  | zero =>
    have hp := getD_of (d := (([], []) : WP)) h
    have hm := getD_mem h
    generalize ps.getD 0 ([], []) = p at hp hm
    unfold endAt
    rw [take_succ_get hp, flat_app, flat_cons]
    obtain ⟨x, hx, _⟩ := P.vis p hm
    have := List.length_pos_of_mem hx
    simp [flat]; omega
def Ov (ps : List WP) (w o : Nat) : Prop := o < ps.length ∧ w < endAt ps o ∧ ∀ k, k < o → endAt ps k ≤ w
theorem over_head {w o : Nat} {l : List Nat} (h : overL (w : Int) ps = o :: l) : Ov ps w o := by
  have := head_filter_range h
  refine ⟨this.1, by simpa using this.2.1, fun k hk => ?_⟩
  have := this.2.2 k hk
  simpa using this
theorem over_nil {w : Nat} (P : PsVis ps) (h : overL (w : Int) ps = []) : (flat ps).length ≤ w := by
  by_cases h0 : ps = []
  · subst h0; simp [flat]
  · have hl := List.length_pos_iff.2 h0
    rcases Nat.lt_or_ge w (flat ps).length with h1 | h1
    · have : ps.length - 1 ∈ overL (w : Int) ps := by
        unfold overL
        refine List.mem_filter.2 ⟨List.mem_range.2 (by omega), ?_⟩
        rw [endAt_last h0]; simpa using h1
      rw [h] at this; cases this
    · exact h1
theorem firstCut_at {w k0 i : Nat} (h1 : (w : Int) < ((flat (ps.take (k0 + 1))).length : Nat)) (h2 : cutAt sg (ps.take (k0 + 1)) = some i) (h3 : ∀ k, k < k0 → ¬ ((w : Int) < ((flat (ps.take (k + 1))).length : Nat) ∧ cutAt sg (ps.take (k + 1)) ≠ none)) :
    ∀ j, (j ≤ k0 → firstCut w sg ps j = none) ∧ (k0 < j → firstCut w sg ps j = some (k0, i)) := by
  intro j
  induction j with
  | zero => exact ⟨fun _ => rfl, fun h => by omega⟩
  | succ j ih =>
    refine ⟨fun h => ?_, fun h => ?_⟩
    · rw [firstCut, ih.1 (by omega)]
      simp only
      split
      · rename_i hw
        have := h3 j (by omega)
        cases hc : cutAt sg (ps.take (j + 1)) with
        | none => rfl
        | some i' => exact absurd ⟨hw, by rw [hc]; simp⟩ this
      · rfl
    · rcases Nat.lt_or_ge k0 j with h4 | h4
      · rw [firstCut, ih.2 h4]
      · have : j = k0 := by omega
        subst this
        rw [firstCut, ih.1 (by omega)]
        simp only
        rw [if_pos h1, h2]; rfl
theorem firstCut_none' {w : Nat} (h3 : ∀ k, k < ps.length → ¬ ((w : Int) < ((flat (ps.take (k + 1))).length : Nat) ∧ cutAt sg (ps.take (k + 1)) ≠ none)) :
    ∀ j, j ≤ ps.length → firstCut w sg ps j = none := by
  intro j
  induction j with
  | zero => intro _; rfl
  | succ j ih =>
    intro h
    rw [firstCut, ih (by omega)]
    simp only
    split
    · rename_i hw
      have := h3 j (by omega)
      cases hc : cutAt sg (ps.take (j + 1)) with
      | none => rfl
      | some i' => exact absurd ⟨hw, by rw [hc]; simp⟩ this
    · rfl
theorem row_due (P : PsVis ps) (W : WhiteB ps) (hsg : sg.length ≤ 98) (w : Nat) : rowF (w : Int) sg ps = match dueF (w : Int) sg ps with
    | some k => flat (ps.take k)
    | none => flat ps := by
  unfold rowF dueF
  cases hO : overL (w : Int) ps with
  | nil =>
    have := over_nil P hO
    rw [firstCut_none' (fun k hk h => ?_) _ (Nat.le_refl _)]
    have := flat_take_le ps (k + 1)
    omega
  | cons o ov =>
    have ho := over_head hO
    cases hP : placesL sg ps with
    | nil =>
      rw [firstCut_none' (fun k hk h => ?_) _ (Nat.le_refl _)]
      obtain ⟨i, hi⟩ := Option.ne_none_iff_exists'.1 h.2
      obtain ⟨c1, c2, c3, _⟩ := cutAt_some W hsg hk hi
      have : i ∈ placesL sg ps := mem_places.2 ⟨c1, by omega, c3⟩
      rw [hP] at this; cases this
    | cons p pl =>
      have hp := places_head hP
      have hk0 : max o p < ps.length := by have := ho.1; omega
      have hex : ∃ p' ∈ placesL sg ps, p' ≤ max o p := ⟨p, by rw [hP]; simp, by omega⟩
      have hB := lastBest_cut hk0 hex
      cases hc : cutAt sg (ps.take (max o p + 1)) with
      | none => exact absurd hp.2.2.1 (cutAt_none W hk0 hc hp.1 (by omega))
      | some i =>
        have hi := (cutAt_some W hsg hk0 hc).uniq hB
        subst hi
        rw [(firstCut_at (k0 := max o p) ?_ hc ?_ ps.length).2 hk0]
        · have h1 := ho.2.1
          have : endAt ps o ≤ endAt ps (max o p) := by
            rcases Nat.lt_or_ge o (max o p) with h | h
            · have := endAt_mono P h hk0; omega
            · have : max o p = o := by omega
              rw [this]; exact Nat.le_refl _
          unfold endAt at this h1
          omega
        · rintro k hk ⟨h1, h2⟩
          rcases Nat.lt_or_ge k o with h | h
          · have := ho.2.2 k h
            unfold endAt at this
            omega
          · obtain ⟨i, hi⟩ := Option.ne_none_iff_exists'.1 h2
            obtain ⟨c1, c2, c3, _⟩ := cutAt_some W hsg (by omega) hi
            exact hp.2.2.2 i c1 (by omega) c3
def isRec (sg : List Nat) (ps : List WP) (k : Nat) : Bool := decide (rankAt sg ps k < 99) && ((List.range (k - 1)).filter fun j => decide (rankAt sg ps (1 + j) < rankAt sg ps k)).isEmpty
theorem isRec_iff {k : Nat} : isRec sg ps k = true ↔ rankAt sg ps k < 99 ∧ ∀ j, 1 ≤ j → j < k → rankAt sg ps k ≤ rankAt sg ps j := by
  unfold isRec
  rw [Bool.and_eq_true, decide_eq_true_eq, List.isEmpty_iff, List.filter_eq_nil_iff]
  constructor
  · rintro ⟨h1, h2⟩
    refine ⟨h1, fun j j1 j2 => ?_⟩
    have := h2 (j - 1) (List.mem_range.2 (by omega))
    rw [show 1 + (j - 1) = j by omega] at this
    simpa using this
  · rintro ⟨h1, h2⟩
    refine ⟨h1, fun j hj => ?_⟩
    have := h2 (1 + j) (by omega) (by have := List.mem_range.1 hj; omega)
    simpa using this
def recsTo (sg : List Nat) (ps : List WP) (m : Nat) : List Nat := ((List.range m).map fun j => 1 + j).filter (isRec sg ps)
theorem recsTo_succ {m : Nat} : recsTo sg ps (m + 1) = recsTo sg ps m ++ if isRec sg ps (m + 1) = true then [m + 1] else [] := by
  unfold recsTo
  rw [List.range_succ, List.map_append, List.filter_append]
  congr 1
  rw [List.map_cons, List.map_nil, Nat.add_comm 1 m, List.filter_cons]
  split <;> simp_all
theorem mem_recsTo {m k : Nat} : k ∈ recsTo sg ps m ↔ 1 ≤ k ∧ k ≤ m ∧ isRec sg ps k = true := by
  unfold recsTo
  rw [List.mem_filter, List.mem_map]
  constructor
  · rintro ⟨⟨j, hj, rfl⟩, h⟩
    have := List.mem_range.1 hj
    exact ⟨by omega, by omega, h⟩
  · rintro ⟨h1, h2, h3⟩
    exact ⟨⟨k - 1, List.mem_range.2 (by omega), by omega⟩, h3⟩
theorem IsCut.rec {K i : Nat} (h : IsCut (rankAt sg ps) K i) : isRec sg ps i = true :=
  isRec_iff.2 ⟨h.2.2.1, fun j j1 j2 => h.2.2.2.1 j j1 (by have := h.2.1; omega)⟩
def seenAt (sg : List Nat) (ps : List WP) : Nat → List Nat
  | 0 => []
  | w + 1 => match dueF (w : Int) sg ps with
    | some k => if k ∈ seenAt sg ps w then seenAt sg ps w else seenAt sg ps w ++ [k]
    | none => seenAt sg ps w
theorem due_rec {w k : Nat} (h : dueF (w : Int) sg ps = some k) : k ∈ recsTo sg ps (ps.length - 1) := by
  unfold dueF at h
  cases hO : overL (w : Int) ps with
  | nil => rw [hO] at h; cases h
  | cons o ov =>
    cases hP : placesL sg ps with
    | nil => rw [hO, hP] at h; cases h
    | cons p pl =>
      rw [hO, hP] at h
      simp only [Option.some.injEq] at h
      have ho := over_head hO
      have hp := places_head hP
      have hB := lastBest_cut (sg := sg) (ps := ps) (reach := max o p) (by have := ho.1; omega) ⟨p, by rw [hP]; simp, by omega⟩
      rw [h] at hB
      refine mem_recsTo.2 ⟨hB.1, ?_, hB.rec⟩
      have := hB.2.1; have := ho.1; omega
theorem seen_step {w m m' : Nat} (hs : seenAt sg ps w = recsTo sg ps m) (hm : m' = m ∨ m' = m + 1) (hl : m' < ps.length) {k : Nat} (hd : dueF (w : Int) sg ps = some k) (hk : IsCut (rankAt sg ps) m' k) : seenAt sg ps (w + 1) = recsTo sg ps m' := by
  rw [seenAt, hd, hs]
  simp only
  rcases hm with rfl | rfl
  · rw [if_pos (mem_recsTo.2 ⟨hk.1, hk.2.1, hk.rec⟩)]
  · rw [recsTo_succ]
    by_cases hr : isRec sg ps (m + 1) = true
    · rw [if_pos hr]
      have hc : IsCut (rankAt sg ps) (m + 1) (m + 1) := by
        obtain ⟨h1, h2⟩ := isRec_iff.1 hr
        refine ⟨by omega, Nat.le_refl _, h1, fun j j1 j2 => ?_, fun j j1 j2 => by omega⟩
        rcases Nat.lt_or_ge j (m + 1) with h | h
        · exact h2 j j1 h
        · have : j = m + 1 := by omega
          subst this; exact Nat.le_refl _
      have := hk.uniq hc
      subst this
      rw [if_neg]
      intro h
      have := (mem_recsTo.1 h).2.1
      omega
    · rw [if_neg hr, List.append_nil]
      have hne : k ≠ m + 1 := fun e => hr (e ▸ hk.rec)
      rw [if_pos (mem_recsTo.2 ⟨hk.1, by have := hk.2.1; omega, hk.rec⟩)]
theorem seen_inv (P : PsVis ps) {p : Nat} {pl : List Nat} (hP : placesL sg ps = p :: pl) : ∀ w, w ≤ (flat ps).length → (w = 0 ∧ seenAt sg ps w = recsTo sg ps (p - 1)) ∨ (∃ o, 1 ≤ w ∧ Ov ps (w - 1) o ∧ seenAt sg ps w = recsTo sg ps (max o p)) := by
  have hp := places_head hP
  intro w
  induction w with
  | zero =>
    intro _
    refine .inl ⟨rfl, ?_⟩
    have : recsTo sg ps (p - 1) = [] := by
      rw [List.eq_nil_iff_forall_not_mem]
      intro k hk
      obtain ⟨h1, h2, h3⟩ := mem_recsTo.1 hk
      exact hp.2.2.2 k h1 (by omega) (isRec_iff.1 h3).1
    rw [this]; rfl
  | succ w ih =>
    intro hw
    refine .inr ?_
    cases hO : overL (w : Int) ps with
    | nil => have := over_nil P hO; omega
    | cons o ov =>
      have ho := over_head hO
      have hd : dueF (w : Int) sg ps = some (lastBest sg ps (max o p)) := by unfold dueF; rw [hO, hP]
      have hl : max o p < ps.length := by have := ho.1; omega
      have hk := lastBest_cut (sg := sg) (ps := ps) (reach := max o p) hl ⟨p, by rw [hP]; simp, by omega⟩
      refine ⟨o, by omega, ho, ?_⟩
      rcases ih (by omega) with ⟨rfl, hs⟩ | ⟨o', h1, ho', hs⟩
      · refine seen_step hs ?_ hl hd hk
        have : o = 0 := by
          rcases Nat.eq_zero_or_pos o with h | h
          · exact h
          · have := ho.2.2 0 h
            have := endAt_pos P (show 0 < ps.length by have := ho.1; omega)
            omega
        omega
      · refine seen_step hs ?_ hl hd hk
        have h3 : o' ≤ o := by
          rcases Nat.lt_or_ge o o' with h | h
          · have := ho'.2.2 o h; have := ho.2.1; omega
          · exact h
        have h4 : o ≤ o' + 1 := by
          rcases Nat.lt_or_ge (o' + 1) o with h | h
          · have h5 := ho.2.2 (o' + 1) h
            have h6 := endAt_succ (k := o') (by have := ho.1; omega) P
            have := ho'.2.1; omega
          · exact h
        omega
theorem seen_all (P : PsVis ps) : seenAt sg ps ((flat ps).length + 2) = recsTo sg ps (ps.length - 1) := by
  have hlate : ∀ w, (flat ps).length ≤ w → dueF (w : Int) sg ps = none := by
    intro w hw
    unfold dueF
    cases hO : overL (w : Int) ps with
    | nil => rfl
    | cons o ov =>
      have ho := over_head hO
      have := flat_take_le ps (o + 1)
      have := ho.2.1
      unfold endAt at this
      omega
  rw [seenAt, hlate _ (by omega), seenAt, hlate _ (by omega)]
  simp only
  cases hP : placesL sg ps with
  | nil =>
    have h1 : ∀ w, seenAt sg ps w = [] := by
      intro w
      induction w with
      | zero => rfl
      | succ w ih =>
        have : dueF (w : Int) sg ps = none := by
          unfold dueF; rw [hP]; cases overL (w : Int) ps <;> rfl
        rw [seenAt, this]; exact ih
    rw [h1]
    symm
    rw [List.eq_nil_iff_forall_not_mem]
    intro k hk
    obtain ⟨h1, h2, h3⟩ := mem_recsTo.1 hk
    have : k ∈ placesL sg ps := mem_places.2 ⟨h1, by omega, (isRec_iff.1 h3).1⟩
    rw [hP] at this; cases this
  | cons p pl =>
    have hp := places_head hP
    have h0 : ps ≠ [] := by intro e; subst e; simp at hp
    rcases seen_inv P hP _ (Nat.le_refl _) with ⟨h1, _⟩ | ⟨o, h1, ho, hs⟩
    · have := endAt_last h0
      have := endAt_pos P (show ps.length - 1 < ps.length by have := List.length_pos_iff.2 h0; omega)
      omega
    · rw [hs]
      have : o = ps.length - 1 := by
        rcases Nat.lt_or_ge o (ps.length - 1) with h | h
        · have h2 := endAt_mono P h (by omega)
          have := endAt_last h0
          have := ho.2.1
          omega
        · have := ho.1; omega
      rw [this, show max (ps.length - 1) p = ps.length - 1 by omega]
end
def signsL : List (List Nat) := [[59, 44, 32], [44, 32, 59], [32, 59, 44], [59, 44, 32, 9], [44, 9, 32], [9, 32, 59], [32]]
theorem sg_ok {j : Nat} (h : j < 7) : (signsL.getD j []).length ≤ 98 ∧ ∀ c ∈ signsL.getD j [], c < 128 := by
  have : j = 0 ∨ j = 1 ∨ j = 2 ∨ j = 3 ∨ j = 4 ∨ j = 5 ∨ j = 6 := by omega
  rcases this with rfl | rfl | rfl | rfl | rfl | rfl | rfl <;> decide
theorem blank_ok {j : Nat} (h : j < 4) : blankL.getD j [] ≠ [] ∧ (blankL.getD j []).length ≤ 2 ∧ (∀ x ∈ blankL.getD j [], Unicode.isSpace x = true) ∧ 124 ∉ blankL.getD j [] := by
  have : j = 0 ∨ j = 1 ∨ j = 2 ∨ j = 3 := by omega
  rcases this with rfl | rfl | rfl | rfl <;> decide +kernel
theorem endL_ok {j : Nat} (h : j < 3) : (endL.getD j []).length ≤ 1 ∧ 124 ∉ endL.getD j [] := by
  have : j = 0 ∨ j = 1 ∨ j = 2 := by omega
  rcases this with rfl | rfl | rfl <;> decide
theorem ck_ok {k : Nat} {x : Int} (hk : k < 27) (hs : Unicode.isSpace (97 + k) = false) : (ck k x).2 ≠ [] ∧ (k ≠ 0 → (ck k x).1 ≠ []) ∧ (ck k x).1.length + (ck k x).2.length ≤ 7 ∧ (∃ y ∈ (ck k x).2, Unicode.isSpace y = false) ∧ (124 ∉ (ck k x).1 ∧ 124 ∉ (ck k x).2) ∧ (∀ y ∈ (ck k x).1, Unicode.isSpace y = true) := by
  have b := blank_ok (j := (x / 12 % 4).toNat) (by omega)
  have e := endL_ok (j := (x / 4 % 3).toNat) (by omega)
  have hr : 1 ≤ (1 + x % 4).toNat ∧ (1 + x % 4).toNat ≤ 4 := by omega
  have hmem : (97 + k) ∈ (ck k x).2 := by
    unfold ck
    exact List.mem_append_left _ (List.mem_replicate.2 ⟨by omega, rfl⟩)
  refine ⟨List.ne_nil_of_mem hmem, fun h => ?_, ?_, ⟨_, hmem, hs⟩, ⟨?_, ?_⟩, ?_⟩
  · unfold ck; simp only [h, if_false]; exact b.1
  · unfold ck
    simp only [List.length_append, List.length_replicate]
    split
    · rw [List.length_nil]; omega
    · omega
  · unfold ck; simp only; split
    · simp
    · exact b.2.2.2
  · unfold ck; simp only
    intro h
    rcases List.mem_append.1 h with h | h
    · have := (List.mem_replicate.1 h).2; omega
    · exact e.2 h
  · unfold ck; simp only
    intro y hy
    split at hy
    · cases hy
    · exact b.2.2.1 y hy
theorem letter_ok {k : Nat} (h : k < 14) : Unicode.isSpace (97 + k) = false := by
  have : k = 0 ∨ k = 1 ∨ k = 2 ∨ k = 3 ∨ k = 4 ∨ k = 5 ∨ k = 6 ∨ k = 7 ∨ k = 8 ∨ k = 9 ∨ k = 10 ∨ k = 11 ∨ k = 12 ∨ k = 13 := by omega
  rcases this with rfl | rfl | rfl | rfl | rfl | rfl | rfl | rfl | rfl | rfl | rfl | rfl | rfl | rfl <;> decide +kernel
theorem chunks_get {xs : List Int} {k : Nat} {p : WP} (h : (chunksOf xs)[k]? = some p) : k < xs.length ∧ p = ck k (xs.getD k 0) := by
  unfold chunksOf at h
  rw [List.getElem?_map] at h
  rcases Nat.lt_or_ge k xs.length with h1 | h1
  · rw [List.getElem?_range h1] at h
    exact ⟨h1, (Option.some.inj h).symm⟩
  · rw [List.getElem?_eq_none (by simpa using h1)] at h; cases h
theorem chunks_len {xs : List Int} : (chunksOf xs).length = xs.length := by simp [chunksOf]
section
variable {xs : List Int}
theorem chunks_mem {p : WP} (h : p ∈ chunksOf xs) : ∃ k x, k < xs.length ∧ p = ck k x := by
  obtain ⟨k, hk⟩ := List.getElem?_of_mem h
  have := chunks_get hk
  exact ⟨k, _, this.1, this.2⟩
theorem chunks_psok (h : xs.length ≤ 14) : PsOk (chunksOf xs) where
  word := fun k p hp => by
    obtain ⟨h1, rfl⟩ := chunks_get hp
    exact (ck_ok (by omega) (letter_ok (by omega))).1
  blank := fun k p hp => by
    obtain ⟨h1, rfl⟩ := chunks_get hp
    exact (ck_ok (by omega) (letter_ok (by omega))).2.1 (by omega)
  small := fun p hp => by
    obtain ⟨k, x, h1, rfl⟩ := chunks_mem hp
    have := (ck_ok (x := x) (show k < 27 by omega) (letter_ok (by omega))).2.2.1
    omega
theorem chunks_vis (h : xs.length ≤ 14) : PsVis (chunksOf xs) where
  vis := fun p hp => by
    obtain ⟨k, x, h1, rfl⟩ := chunks_mem hp
    exact (ck_ok (by omega) (letter_ok (by omega))).2.2.2.1
  bar := fun p hp => by
    obtain ⟨k, x, h1, rfl⟩ := chunks_mem hp
    exact (ck_ok (by omega) (letter_ok (by omega))).2.2.2.2.1
theorem chunks_white (h : xs.length ≤ 14) : WhiteB (chunksOf xs) := fun k p hp => by
  obtain ⟨h1, rfl⟩ := chunks_get hp
  exact (ck_ok (by omega) (letter_ok (by omega))).2.2.2.2.2
theorem flat_bound : ∀ (ps : List WP), (∀ p ∈ ps, p.1.length + p.2.length ≤ 7) → (flat ps).length ≤ 7 * ps.length
  | [], _ => by simp [flat]
  | p :: r, h => by
    have h1 := flat_bound r fun q hq => h q (List.mem_cons_of_mem _ hq)
    have h2 := h p (by simp)
    rw [flat_cons]
    simp; omega
theorem chunks_flat (h : xs.length ≤ 14) : (flat (chunksOf xs)).length ≤ 7 * xs.length := by
  have := flat_bound (chunksOf xs) fun p hp => by
    obtain ⟨k, x, h1, rfl⟩ := chunks_mem hp
    exact (ck_ok (by omega) (letter_ok (by omega))).2.2.1
  rw [chunks_len] at this; exact this
end
section
variable {σ : List PO}
theorem comp_cat {f : FE} {ρ : List (Option PV)} {σ₀ : List PO} {ps : List WP} {L : Nat} {Q : PV → List PO → Prop}
    (hf : wO (f ρ σ₀) fun x σ => x = .ref L ∧ σ[L]? = some (.list (ps.map pvP)) ∧ ps.length < 1000 ∧ (∀ p ∈ ps, p.1.length + p.2.length ≤ 1000) ∧ Q (.ref σ.length) (σ ++ [linesO (ps.map fun p => p.1 ++ p.2)])) :
    wO (fComp 1000 [none, none, none] (aPair (aVar 1) (aVar 2)) fTrue (eBin addF (eVar 1) (eVar 2)) f ρ σ₀) Q := by
  refine comp_pure (items := ps.map pvP) (fun p => match p with
    | .tup [.str a, .str b] => some (.str (a ++ b))
    | _ => none) (fun ρ' => ∃ a b, ρ' = [none, a, b]) ?_
  refine hf.mono ?_
  rintro x σ ⟨rfl, hL, hn2, hs, hQ⟩
  refine ⟨.seq L 0, ?_, its_list (l := ps.map pvP) (fun σ' hσ => ?_) (ps.map pvP) 0 rfl, by simpa using hn2, ⟨none, none, rfl⟩, ?_, ?_⟩
  · simp only [iterOf, hL]
  · obtain ⟨acc, rfl⟩ := hσ
    exact Keep.app (S := []) _ _ hL (by simp)
  · rintro p hp ρ' ⟨a, b, rfl⟩ acc
    obtain ⟨q, hq, rfl⟩ := List.mem_map.1 hp
    have := hs q hq
    rw [p_aPair]
    refine ⟨_, _, rfl, ?_⟩
    simp only [wO_some, wO_none, w1_some, w1_none, wS_some, wS_none, if_none, szOk_eq, strOk_eq, p_var, p_lit, p_bin, p_un, p_if, p_cmpE, p_cmp, p_not, p_and, p_or, p_val, p_true, p_eAnd, p_eOr, p_notF, p_nil, p_cons, p_tup, p_list, p_call, p_meth, p_star, p_attr, p_skip, p_brk, p_cont, p_retN, p_seq, p_fif, p_ret, p_exp, p_asg, p_aug, p_aVar, p_aPair, p_run, List.map_cons, List.map_nil, List.cons_append, List.nil_append, List.append_nil, List.length_cons, List.length_nil, List.getElem?_cons_zero, List.getElem?_cons_succ, List.set_cons_zero, List.set_cons_succ, List.reduceReplicate, true_and, and_true, if_true, ite_true, Bool.false_eq_true, if_false, reduceIte, false_and, and_false, p_aAttr, p_eSliceA, Nat.reduceLT, Nat.reduceSub, Nat.reduceAdd, Nat.reduceEqDiff, Nat.lt_irrefl, Nat.zero_le, add_str (show q.1.length + q.2.length ≤ 100000 by omega)]
    exact ⟨⟨_, _, rfl⟩, by simp only [pvP, mkS_app]⟩
  · have : (ps.map pvP).filterMap (fun p => match p with
      | .tup [.str a, .str b] => some (PV.str (a ++ b))
      | _ => none) = (ps.map fun p => p.1 ++ p.2).map fun x => .str (mkS x) := by
      clear hs hQ hL hn2 hf
      induction ps with
      | nil => rfl
      | cons p r ih =>
        rw [List.map_cons, List.filterMap_cons_some (b := .str (mkS (p.1 ++ p.2))) (by simp only [pvP, mkS_app]), ih]
        rfl
    rw [this]; exact hQ
theorem cat_len (ps : List WP) : ((ps.map fun p => p.1 ++ p.2).map (·.length)).sum = (flat ps).length := by
  unfold flat
  rw [List.length_flatMap, List.map_map]
  rfl
theorem join_cat {i : Nat} {ps : List WP} (h : σ[i]? = some (linesO (ps.map fun p => p.1 ++ p.2))) (hl : (flat ps).length ≤ 100000) : joinF [.str (mkS []), .ref i] σ = some (.str (mkS (flat ps)), σ) := by
  have := join_eq (s := []) h (by rw [cat_len]; simp; omega)
  rw [this, ljoin_nil]
  rfl
theorem slice_hi {f a b : FE} {ρ : List (Option PV)} {l : List PV} {i k : Nat} (hf : f ρ σ = some (.ref i, σ)) (ha : a ρ σ = some (.none, σ)) (hb : b ρ σ = some (.int (k : Int), σ)) (h : σ[i]? = some (.list l)) (hl : l.length ≤ 1000000) (hk : k ≤ l.length) :
    eSlice f a b ρ σ = some (.ref σ.length, σ ++ [PO.list (l.take k)]) := by
  unfold eSlice
  have hs : szOk l.length = true := by rw [szOk_eq]; exact hl
  simp only [hf, ha, hb, partOf, h, hs]
  simp [sliceL, clip_nat hk]
theorem notIn_eq {l : List Nat} {i k : Nat} (h : σ[i]? = some (.list (natsL l))) : notInFlat 5 (.int (k : Int)) (.ref i) σ = some (!decide (k ∈ l)) := by
  have h1 : (natsL l).all Flat = true := by simp [natsL, Flat]
  have h2 : ∀ l : List Nat, anyEq 5 σ (.int (k : Int)) (natsL l) = some (decide (k ∈ l)) := by
    intro l
    induction l with
    | nil => rfl
    | cons a r ih =>
      show (match eqF 5 σ (.int (a : Int)) (.int (k : Int)), anyEq 5 σ (.int (k : Int)) (natsL r) with
        | some b, some r => some (b || r)
        | _, _ => none) = _
      rw [ih, eqF_int]
      simp only [Option.some.injEq]
      by_cases e : a = k
      · subst e; simp
      · have e2 : ¬ ((a : Int) = (k : Int)) := by omega
        have e3 : ¬ (k = a) := fun x => e x.symm
        simp [e2, e3]
  simp only [notInFlat, inFlat, h, h1, if_true, h2]
theorem eqB_nats {l : List Nat} {i j : Nat} (h : σ[i]? = some (.list (natsL l))) (h2 : σ[j]? = some (.list (natsL l))) (hij : i ≠ j) : eqB 5 (.ref i) (.ref j) σ = some true := by
  have key : ∀ l : List Nat, eqFs 4 σ (natsL l) (natsL l) = some true := by
    intro l
    induction l with
    | nil => rw [show natsL [] = [] from rfl, eqFs]
    | cons a r ih =>
      show eqFs 4 σ (.int (a : Int) :: natsL r) (.int (a : Int) :: natsL r) = _
      rw [eqFs, ih, eqF]
      simp
  unfold eqB
  rw [eqF]
  simp only [h, h2, hij, if_false, if_true, key]
end
def headOf (ns : List Int) : Int := ns.headD 0
theorem lit_head {a : Addr} {ns : List Int} {σ : List PO} (hn : ns.length ≤ 63) {ρ : List (Option PV)} (h0 : ρ[(0 : Nat)]? = some (some (.lit (.ref a)))) :
    eIf (cCmp (neLit a ns) (eVar 0) (eList eNil)) (eBin (idxLit a ns) (eVar 0) (eLit (.int 0))) (eLit (.int 0)) ρ σ = some (.int (headOf ns), σ ++ [PO.list []]) := by
  apply eq_of_wO
  have hl : isLit a (.lit (.ref a)) = true := by simp [isLit]
  simp only [wO_some, wO_none, w1_some, w1_none, wS_some, wS_none, if_none, szOk_eq, strOk_eq, p_var, p_lit, p_bin, p_un, p_if, p_cmpE, p_cmp, p_not, p_and, p_or, p_val, p_true, p_eAnd, p_eOr, p_notF, p_nil, p_cons, p_tup, p_list, p_call, p_meth, p_star, p_attr, p_skip, p_brk, p_cont, p_retN, p_seq, p_fif, p_ret, p_exp, p_asg, p_aug, p_aVar, p_aPair, p_run, List.map_cons, List.map_nil, List.cons_append, List.nil_append, List.append_nil, List.length_cons, List.length_nil, List.getElem?_cons_zero, List.getElem?_cons_succ, List.set_cons_zero, List.set_cons_succ, List.reduceReplicate, true_and, and_true, if_true, ite_true, Bool.false_eq_true, if_false, reduceIte, false_and, and_false, p_aAttr, p_eSliceA, Nat.reduceLT, Nat.reduceSub, Nat.reduceAdd, Nat.reduceEqDiff, Nat.lt_irrefl, Nat.zero_le, h0, neLit, hl]
  have : (σ ++ [PO.list []])[σ.length]? = some (.list []) := by simp
  simp only [this, wO_some, wO_none, w1_some, w1_none, wS_some, wS_none, if_none, szOk_eq, strOk_eq, p_var, p_lit, p_bin, p_un, p_if, p_cmpE, p_cmp, p_not, p_and, p_or, p_val, p_true, p_eAnd, p_eOr, p_notF, p_nil, p_cons, p_tup, p_list, p_call, p_meth, p_star, p_attr, p_skip, p_brk, p_cont, p_retN, p_seq, p_fif, p_ret, p_exp, p_asg, p_aug, p_aVar, p_aPair, p_run, List.map_cons, List.map_nil, List.cons_append, List.nil_append, List.append_nil, List.length_cons, List.length_nil, List.getElem?_cons_zero, List.getElem?_cons_succ, List.set_cons_zero, List.set_cons_succ, List.reduceReplicate, true_and, and_true, if_true, ite_true, Bool.false_eq_true, if_false, reduceIte, false_and, and_false, p_aAttr, p_eSliceA, Nat.reduceLT, Nat.reduceSub, Nat.reduceAdd, Nat.reduceEqDiff, Nat.lt_irrefl, Nat.zero_le]
  cases ns with
  | nil => simp only [List.isEmpty_nil, Bool.not_true, wO_some, wO_none, w1_some, w1_none, wS_some, wS_none, if_none, szOk_eq, strOk_eq, p_var, p_lit, p_bin, p_un, p_if, p_cmpE, p_cmp, p_not, p_and, p_or, p_val, p_true, p_eAnd, p_eOr, p_notF, p_nil, p_cons, p_tup, p_list, p_call, p_meth, p_star, p_attr, p_skip, p_brk, p_cont, p_retN, p_seq, p_fif, p_ret, p_exp, p_asg, p_aug, p_aVar, p_aPair, p_run, List.map_cons, List.map_nil, List.cons_append, List.nil_append, List.append_nil, List.length_cons, List.length_nil, List.getElem?_cons_zero, List.getElem?_cons_succ, List.set_cons_zero, List.set_cons_succ, List.reduceReplicate, true_and, and_true, if_true, ite_true, Bool.false_eq_true, if_false, reduceIte, false_and, and_false, p_aAttr, p_eSliceA, Nat.reduceLT, Nat.reduceSub, Nat.reduceAdd, Nat.reduceEqDiff, Nat.lt_irrefl, Nat.zero_le, headOf, List.headD_nil, and_self]
  | cons x r =>
    have hp : pyAt (PV.int x :: r.map PV.int) 0 = some (.int x) := by
      unfold pyAt
      rw [if_neg (by decide), if_pos (by decide)]; rfl
    simp only [List.isEmpty_cons, Bool.not_false, wO_some, wO_none, w1_some, w1_none, wS_some, wS_none, if_none, szOk_eq, strOk_eq, p_var, p_lit, p_bin, p_un, p_if, p_cmpE, p_cmp, p_not, p_and, p_or, p_val, p_true, p_eAnd, p_eOr, p_notF, p_nil, p_cons, p_tup, p_list, p_call, p_meth, p_star, p_attr, p_skip, p_brk, p_cont, p_retN, p_seq, p_fif, p_ret, p_exp, p_asg, p_aug, p_aVar, p_aPair, p_run, List.map_cons, List.map_nil, List.cons_append, List.nil_append, List.append_nil, List.length_cons, List.length_nil, List.getElem?_cons_zero, List.getElem?_cons_succ, List.set_cons_zero, List.set_cons_succ, List.reduceReplicate, true_and, and_true, if_true, ite_true, Bool.false_eq_true, if_false, reduceIte, false_and, and_false, p_aAttr, p_eSliceA, Nat.reduceLT, Nat.reduceSub, Nat.reduceAdd, Nat.reduceEqDiff, Nat.lt_irrefl, Nat.zero_le, idxLit, hl, hp, headOf, List.headD_cons, and_self]
theorem lit_slice {a : Addr} {ns : List Int} {σ : List PO} {lo hi : Nat} (hn : ns.length ≤ 63) {ρ : List (Option PV)} (h0 : ρ[(0 : Nat)]? = some (some (.lit (.ref a)))) :
    eSliceLit a ns (eVar 0) (eLit (.int (lo : Int))) (eLit (.int (hi : Int))) ρ σ = some (.ref σ.length, σ ++ [PO.list (((ns.drop lo).take (hi - lo)).map PV.int)]) := by
  have hl : isLit a (.lit (.ref a)) = true := by simp [isLit]
  have hs : szOk ns.length = true := by rw [szOk_eq]; omega
  have e : sliceL (ns.map PV.int) (some (lo : Int)) (some (hi : Int)) = ((ns.drop lo).take (hi - lo)).map PV.int := by
    unfold sliceL
    simp only [Option.elim, List.length_map, ← List.map_drop, ← List.map_take]
    congr 1
    have c : ∀ k : Nat, clipAt ns.length (k : Int) = min k ns.length := by
      intro k; unfold clipAt; rw [if_neg (by omega)]; omega
    rw [c, c]
    rcases Nat.lt_or_ge lo ns.length with h | h
    · rw [show min lo ns.length = lo by omega]
      rcases Nat.lt_or_ge hi ns.length with h2 | h2
      · rw [show min hi ns.length = hi by omega]
      · rw [show min hi ns.length = ns.length by omega, List.take_of_length_le (by simp), List.take_of_length_le (by simp; omega)]
    · rw [show min lo ns.length = ns.length by omega]
      simp [List.drop_eq_nil_of_le h]
  unfold eSliceLit eVar eLit
  simp only [h0, hl, partOf, hs, e]
end Mine
end
section
open PySem PySem.W PySem.Calls PyProof.Rows
set_option maxRecDepth 100000
set_option linter.unusedVariables false
set_option linter.unusedSimpArgs false
namespace Mine
structure WfP (ps : List WP) : Prop where
  wne : ∀ p ∈ ps, p.2 ≠ []
  wok : ∀ p ∈ ps, ∀ x ∈ p.2, ws x = false
  bok : ∀ p ∈ ps, ∀ x ∈ p.1, ws x = true
  bne : ∀ p ∈ ps.tail, p.1 ≠ []
def alt (ps : List WP) : List (List Nat) := ps.flatMap fun p => [p.1, p.2]
theorem alt_cons (p : WP) (r : List WP) : alt (p :: r) = p.1 :: p.2 :: alt r := rfl
theorem alt_len (ps : List WP) : (alt ps).length = 2 * ps.length := by
  induction ps with
  | nil => rfl
  | cons p r ih => rw [alt_cons]; simp [ih]; omega
theorem alt_get {ps : List WP} {k : Nat} {p : WP} (h : ps[k]? = some p) : (alt ps)[2 * k]? = some p.1 ∧ (alt ps)[2 * k + 1]? = some p.2 := by
  induction ps generalizing k with
  | nil => simp at h
  | cons q r ih =>
    rw [alt_cons]
    cases k with
    | zero => simp at h; subst h; exact ⟨rfl, rfl⟩
    | succ k =>
      simp at h
      have := ih h
      rw [show 2 * (k + 1) = 2 * k + 1 + 1 by omega]
      simpa using this
theorem tw_all {q : Nat → Bool} : ∀ (a r : List Nat), (∀ x ∈ a, q x = true) → (∀ c ∈ r.head?, q c = false) → (a ++ r).takeWhile q = a ∧ (a ++ r).dropWhile q = r
  | [], [], _, _ => ⟨rfl, rfl⟩
  | [], c :: r, _, h => by
    have := h c rfl
    simp [this]
  | x :: a, r, h1, h2 => by
    have hx := h1 x (by simp)
    have := tw_all a r (fun y hy => h1 y (List.mem_cons_of_mem _ hy)) h2
    simp [hx, this]
theorem rx_word : ∀ (ps : List WP) (w : List Nat) (n : Nat), (∀ x ∈ w, ws x = false) → (∀ p ∈ ps, p.2 ≠ []) → (∀ p ∈ ps, ∀ x ∈ p.2, ws x = false) → (∀ p ∈ ps, ∀ x ∈ p.1, ws x = true) → (∀ p ∈ ps, p.1 ≠ []) → ps.length ≤ n → rxS n (w ++ flat ps) = w :: alt ps
  | [], w, n, hw, _, _, _, _, _ => by
    have : (w ++ flat []) = w := by simp [flat]
    rw [this]
    cases n with
    | zero => rfl
    | succ n =>
      rw [rxS, dw_all w (fun x hx => by simp [hw x hx])]
      rfl
  | p :: r, w, n, hw, h1, h2, h3, h4, hn => by
    cases n with
    | zero => simp at hn
    | succ n =>
      obtain ⟨c, b, hb⟩ := List.exists_cons_of_ne_nil (h4 p (by simp))
      have hc : ws c = true := h3 p (by simp) c (by rw [hb]; simp)
      have t1 := tw_all (q := fun c => !ws c) w (flat (p :: r)) (fun x hx => by simp [hw x hx]) (fun y hy => by
        rw [flat_cons, hb] at hy
        simp at hy; subst hy; simp [hc])
      obtain ⟨d, v, hv⟩ := List.exists_cons_of_ne_nil (h1 p (by simp))
      have t2 := tw_all (q := ws) p.1 (p.2 ++ flat r) (fun x hx => h3 p (by simp) x hx) (fun y hy => by
        rw [hv] at hy
        simp at hy; subst hy; exact h2 p (by simp) _ (by rw [hv]; simp))
      have ih := rx_word r p.2 n (h2 p (by simp)) (fun q hq => h1 q (List.mem_cons_of_mem _ hq)) (fun q hq => h2 q (List.mem_cons_of_mem _ hq)) (fun q hq => h3 q (List.mem_cons_of_mem _ hq)) (fun q hq => h4 q (List.mem_cons_of_mem _ hq)) (by simpa using hn)
      have e : flat (p :: r) = p.1 ++ (p.2 ++ flat r) := by rw [flat_cons, List.append_assoc]
      have e2 : flat (p :: r) = c :: (b ++ (p.2 ++ flat r)) := by rw [e, hb]; rfl
      rw [rxS, t1.2, t1.1, e2]
      simp only
      rw [← e2, e, t2.1, t2.2, ih, alt_cons]
theorem rx_text {ps : List WP} (W : WfP ps) {n : Nat} (hn : ps.length ≤ n) : rxS n (flat ps) = match ps with
    | [] => [[]]
    | p :: r => if p.1 = [] then p.2 :: alt r else [] :: alt (p :: r) := by
  cases ps with
  | nil => cases n <;> rfl
  | cons p r =>
    simp only
    have g1 := fun q hq => W.wne q (List.mem_cons_of_mem p hq)
    have g2 := fun q hq => W.wok q (List.mem_cons_of_mem p hq)
    have g3 := fun q hq => W.bok q (List.mem_cons_of_mem p hq)
    by_cases h : p.1 = []
    · rw [if_pos h, flat_cons, h, List.nil_append]
      exact rx_word r p.2 n (W.wok p (by simp)) g1 g2 g3 W.bne (by simp at hn; omega)
    · rw [if_neg h]
      have := rx_word (p :: r) [] n (fun x hx => nomatch hx) W.wne W.wok W.bok (fun q hq => by
        rcases List.mem_cons.1 hq with rfl | hq
        · exact h
        · exact W.bne q hq) hn
      simpa using this
abbrev St := Nat × List WP × List (List Nat)
def stF (w : Int) (sg : List Nat) (st : St) (p : WP) : St := chF w sg st.1 st.2.1 st.2.2 p.1 p.2
def feedF (w : Int) (sg : List Nat) (st : St) (ps : List WP) : St := ps.foldl (stF w sg) st
theorem chF_bound {w : Int} {sg : List Nat} {n : Nat} {ps : List WP} {ls : List (List Nat)} {f p : List Nat} : (chF w sg n ps ls f p).1 ≤ n ∧ (flat (chF w sg n ps ls f p).2.1).length ≤ (flat ps).length + f.length + p.length + 1 ∧
    (chF w sg n ps ls f p).2.1.length ≤ ps.length + 1 ∧ (chF w sg n ps ls f p).2.2.length ≤ ls.length + 1 := by
  have h1 : (flat (ps ++ [(f, p)])).length = (flat ps).length + f.length + p.length := by rw [flat_app, flat_cons]; simp [flat]; omega
  unfold chF
  split
  · split
    · rename_i i hi
      refine ⟨Nat.zero_le _, ?_, ?_, ?_⟩
      · have : (flat ((ps ++ [(f, p)]).drop i)).length ≤ (flat (ps ++ [(f, p)])).length := by
          have : flat (ps ++ [(f, p)]) = flat ((ps ++ [(f, p)]).take i) ++ flat ((ps ++ [(f, p)]).drop i) := by rw [← flat_app, List.take_append_drop]
          rw [this]; simp
        simp only; omega
      · simp <;> omega
      · simp
    · unfold elL
      split
      · refine ⟨Nat.zero_le _, ?_, ?_, ?_⟩
        · simp only [flat_cons]
          split
          · simp [flat] <;> omega
          · simp [flat]; omega
        · simp
        · show (nlL n ps ls).length ≤ _
          unfold nlL; split <;> simp
      · exact ⟨Nat.le_refl _, by simp only; omega, by simp, by simp⟩
  · exact ⟨Nat.le_refl _, by simp only; omega, by simp, by simp⟩
theorem feed_bound {w : Int} {sg : List Nat} : ∀ (ps : List WP) (st : St), (feedF w sg st ps).1 ≤ st.1 ∧ (flat (feedF w sg st ps).2.1).length ≤ (flat st.2.1).length + (flat ps).length + ps.length ∧ (feedF w sg st ps).2.1.length ≤ st.2.1.length + ps.length ∧ (feedF w sg st ps).2.2.length ≤ st.2.2.length + ps.length
  | [], st => by simp [feedF, flat]
  | p :: r, st => by
    have h1 := chF_bound (w := w) (sg := sg) (n := st.1) (ps := st.2.1) (ls := st.2.2) (f := p.1) (p := p.2)
    have h2 := feed_bound (w := w) (sg := sg) r (stF w sg st p)
    have e : feedF w sg st (p :: r) = feedF w sg (stF w sg st p) r := rfl
    rw [e]
    have hf : (flat (p :: r)).length = p.1.length + p.2.length + (flat r).length := by rw [flat_cons]; simp; omega
    have hs : stF w sg st p = chF w sg st.1 st.2.1 st.2.2 p.1 p.2 := rfl
    rw [hs] at h2 ⊢
    refine ⟨by omega, by simp only [List.length_cons]; omega, by simp only [List.length_cons]; omega, by simp only [List.length_cons]; omega⟩
theorem feed_snoc {w : Int} {sg : List Nat} {st : St} {ps : List WP} {p : WP} : feedF w sg st (ps ++ [p]) = stF w sg (feedF w sg st ps) p := by
  unfold feedF; rw [List.foldl_append]; rfl
def altO (ps : List WP) : PO := .list ((alt ps).map fun x => .str (mkS x))
section
variable {Q : Fl → List (Option PV) → List PO → Prop}
theorem zturns_spec {i : Nat} {tgt : FA} {body : FS} {ps : List WP} (I : Nat → List (Option PV) → List PO → Prop) (hL : ∀ k ρ σ, I k ρ σ → σ[i]? = some (altO ps))
    (hb : ∀ k p ρ σ, ps[k]? = some p → I k ρ σ → wO (tgt (pvP p) ρ σ) fun ρ₁ σ₁ => wS (body ρ₁ σ₁) fun fl ρ' σ' => fl = .next ∧ I (k + 1) ρ' σ') (he : ∀ ρ σ, I ps.length ρ σ → Q .next ρ σ) :
    ∀ n k ρ σ, ps.length - k < n → k ≤ ps.length → I k ρ σ → wS (zturns n tgt body i (2 * k) ρ σ) Q := by
  intro n
  induction n with
  | zero => intro k ρ σ h; omega
  | succ n ih =>
    intro k ρ σ h hk hI
    unfold zturns
    rw [hL k ρ σ hI]
    simp only [altO, List.getElem?_map]
    cases hp : ps[k]? with
    | none =>
      have : ps.length ≤ k := by simpa using hp
      have : k = ps.length := by omega
      subst this
      rw [List.getElem?_eq_none (by rw [alt_len]; omega)]
      exact ⟨_, _, _, rfl, he ρ σ hI⟩
    | some p =>
      obtain ⟨e1, e2⟩ := alt_get hp
      have hlt : k < ps.length := (List.getElem?_eq_some_iff.1 hp).1
      rw [e1, e2]
      simp only [Option.map_some]
      obtain ⟨ρ₁, σ₁, t1, fl, ρ', σ', t2, rfl, q⟩ := hb k p ρ σ hp hI
      rw [show PV.tup [.str (mkS p.1), .str (mkS p.2)] = pvP p from rfl, t1]
      simp only [t2]
      exact ih (k + 1) ρ' σ' (by omega) (by omega) q
end
theorem p_expS {f : FE} {ρ : List (Option PV)} {σ : List PO} {Q : Fl → List (Option PV) → List PO → Prop} : wS (fExpS f ρ σ) Q = wO (f ρ σ) fun p σ₁ => ∃ x, p = .str x ∧ Q .next ρ σ₁ := by
  unfold fExpS
  cases f ρ σ with
  | none => simp only [wS_none, wO_none]
  | some r => obtain ⟨x, s⟩ := r; cases x <;> simp [wO_some, wS_some, wS_none]
theorem pop0_eq {σ : List PO} {i : Nat} {p : PV} {l : List PV} (h : σ[i]? = some (.list (p :: l))) (hl : l.length ≤ 1000000) : pop0F [.ref i, .int 0] σ = some (p, σ.set i (.list l)) := by
  simp only [pop0F, h, szOk_eq, hl, and_self, if_true]
theorem front_eq {σ : List PO} {i j v : Nat} {ρ : List (Option PV)} {l q : List PV} (hv : ρ[v]? = some (some (.ref i))) (h : σ[i]? = some (.list l)) (hj : σ[j]? = some (.list q)) (hij : i ≠ j) (hl : l.length ≤ 1000000) (hq : q.length ≤ 1000000) :
    aFront (eVar v) (eLit (.int 0)) (.ref j) ρ σ = some (ρ, σ.set i (.list (q ++ l))) := by
  have hc : clipAt l.length 0 = 0 := by unfold clipAt; simp; omega
  simp only [aFront, eVar, hv, eLit, partOf, h, hj, szOk_eq, hl, hq, hij, ne_eq, not_false_iff, and_self, if_true, Option.elim, hc, List.drop_zero]
section
variable {D V : Addr} {σ : List PO} {ac m ln n : Nat} {cur ps : List WP} {ls : List (List Nat)} {w : Int} {wsp sg : List Nat}
theorem split_ok' (F : FmtAt D V σ m w wsp sg ln ac n cur ls) (W : WfP ps) (h1 : n + (flat cur).length + (flat ps).length + ps.length ≤ 90000) (h2 : cur.length + ps.length ≤ 900) (h3 : ls.length + ps.length ≤ 90000) (hsg : sg.length < 1000) (hsg2 : ∀ c ∈ sg, c < 128) :
    ∃ σ', G_split D V [.ref m, .str (mkS []), .str (mkS (flat ps)), .str (mkS [])] σ = some (.none, σ') ∧ FmtAt D V σ' m w wsp sg ln ac (feedF w sg (n, cur, ls) ps).1 (feedF w sg (n, cur, ls) ps).2.1 (feedF w sg (n, cur, ls) ps).2.2 ∧ Keep σ σ' [ln, ac] := by
  suffices k : wO (G_split D V [.ref m, .str (mkS []), .str (mkS (flat ps)), .str (mkS [])] σ) fun r σ' => r = .none ∧ FmtAt D V σ' m w wsp sg ln ac (feedF w sg (n, cur, ls) ps).1 (feedF w sg (n, cur, ls) ps).2.1 (feedF w sg (n, cur, ls) ps).2.2 ∧ Keep σ σ' [ln, ac] by
    obtain ⟨r, σ', e, rfl, h⟩ := k; exact ⟨σ', e, h⟩
  have c0 : ("" : Str) = mkS [] := by decide +kernel
  have ea := add_str (σ := σ) (a := []) (b := flat ps) (by simp; omega)
  rw [List.nil_append] at ea
  have er : rxF 43 [.lit (.ref 43), .str (mkS (flat ps))] σ = some (.ref σ.length, σ ++ [PO.list ((rxS ((flat ps).length + 1) (flat ps)).map fun l => .str (mkS l))]) := by
    simp only [rxF, mkS_len]
    rw [if_pos ⟨trivial, by omega⟩]
    rfl
  have hps : ps.length ≤ (flat ps).length := by
    have : ∀ qs : List WP, (∀ p ∈ qs, p.2 ≠ []) → qs.length ≤ (flat qs).length := by
      intro qs
      induction qs with
      | nil => intro _; simp
      | cons q r ih =>
        intro h
        have h1 := ih fun p hp => h p (List.mem_cons_of_mem _ hp)
        have h2 := List.length_pos_iff.2 (h q (by simp))
        rw [flat_cons]; simp; omega
    exact this ps W.wne
  have hrx := rx_text W (n := (flat ps).length + 1) (by omega)
  have hP : isP 43 (.lit (.ref 43)) σ = true := by simp [isP]
  simp only [G_split, g_split, wO_some, wO_none, w1_some, w1_none, wS_some, wS_none, if_none, szOk_eq, strOk_eq, p_var, p_lit, p_bin, p_un, p_if, p_cmpE, p_cmp, p_not, p_and, p_or, p_val, p_true, p_eAnd, p_eOr, p_notF, p_nil, p_cons, p_tup, p_list, p_call, p_meth, p_star, p_attr, p_skip, p_brk, p_cont, p_retN, p_seq, p_fif, p_ret, p_exp, p_asg, p_aug, p_aVar, p_aPair, p_run, List.map_cons, List.map_nil, List.cons_append, List.nil_append, List.append_nil, List.length_cons, List.length_nil, List.getElem?_cons_zero, List.getElem?_cons_succ, List.set_cons_zero, List.set_cons_succ, List.reduceReplicate, true_and, and_true, if_true, ite_true, Bool.false_eq_true, if_false, reduceIte, false_and, and_false, p_aAttr, p_eSliceA, Nat.reduceLT, Nat.reduceSub, Nat.reduceAdd, Nat.reduceEqDiff, Nat.lt_irrefl, Nat.zero_le, hP, ea, er]
  have loop : ∀ (σ2 : List PO) (v1 : PV), σ2[σ.length]? = some (altO ps) → Keep σ σ2 [] → wS (fZip 1000 (eVar 4) (aPair (aVar 1) (aVar 5)) (fSeq (fExp (eMeth (isA V) (G_chunk D V) (eVar 0) (eCons (eVar 1) (eCons (eVar 5) eNil)))) fSkip)
      [some (.ref m), some v1, some (.str (mkS (flat ps))), some (.str (mkS [])), some (.ref σ.length), none, none, none, none] σ2) fun fl ρ' σ' => fl = .next ∧ FmtAt D V σ' m w wsp sg ln ac (feedF w sg (n, cur, ls) ps).1 (feedF w sg (n, cur, ls) ps).2.1 (feedF w sg (n, cur, ls) ps).2.2 ∧ Keep σ σ' [ln, ac] := by
    intro σ2 v1 hl K
    unfold fZip eVar
    simp only [List.getElem?_cons_succ, List.getElem?_cons_zero]
    have F2 : FmtAt D V σ2 m w wsp sg ln ac n cur ls := ⟨K _ _ F.vf (by simp), K _ _ F.li (by simp), K _ _ F.cu (by simp)⟩
    have hln : ln < σ.length := (List.getElem?_eq_some_iff.1 F.li).1
    have hac : ac < σ.length := (List.getElem?_eq_some_iff.1 F.cu).1
    refine zturns_spec (ps := ps) (fun k ρ' σ' => (∃ v1 v5, ρ' = [some (.ref m), some v1, some (.str (mkS (flat ps))), some (.str (mkS [])), some (.ref σ.length), v5, none, none, none]) ∧ σ'[σ.length]? = some (altO ps) ∧
      FmtAt D V σ' m w wsp sg ln ac (feedF w sg (n, cur, ls) (ps.take k)).1 (feedF w sg (n, cur, ls) (ps.take k)).2.1 (feedF w sg (n, cur, ls) (ps.take k)).2.2 ∧ Keep σ σ' [ln, ac]) (fun k ρ' σ' h => h.2.1) ?_ ?_ 1000 0 _ _ (by omega) (by omega) ?_
    · rintro k p ρ' σ' hp ⟨⟨v1, v5, rfl⟩, hl, Fk, Kk⟩
      rw [p_aPair]
      refine ⟨_, _, rfl, ?_⟩
      have hb := feed_bound (w := w) (sg := sg) (ps.take k) (n, cur, ls)
      have hk : k < ps.length := (List.getElem?_eq_some_iff.1 hp).1
      have htk : ps.take (k + 1) = ps.take k ++ [p] := by rw [List.take_add_one, hp]; rfl
      have hfl : (flat (ps.take k)).length + p.1.length + p.2.length ≤ (flat ps).length := by
        have e : flat ps = flat (ps.take (k + 1)) ++ flat (ps.drop (k + 1)) := by rw [← flat_app, List.take_append_drop]
        rw [e, htk, flat_app, flat_cons]; simp [flat]; omega
      have hmin : (ps.take k).length = k := by simp; omega
      rw [hmin] at hb
      simp only at hb
      have hcat : (flat ((feedF w sg (n, cur, ls) (ps.take k)).2.1 ++ [(p.1, p.2)])).length = (flat (feedF w sg (n, cur, ls) (ps.take k)).2.1).length + p.1.length + p.2.length := by rw [flat_app, flat_cons]; simp [flat]; omega
      obtain ⟨σ3, e, F3, K3⟩ := chunk_eq (f := p.1) (p := p.2) Fk (by rw [hcat]; omega) (by omega) (by omega) hsg hsg2
      simp only [wO_some, wO_none, w1_some, w1_none, wS_some, wS_none, if_none, szOk_eq, strOk_eq, p_var, p_lit, p_bin, p_un, p_if, p_cmpE, p_cmp, p_not, p_and, p_or, p_val, p_true, p_eAnd, p_eOr, p_notF, p_nil, p_cons, p_tup, p_list, p_call, p_meth, p_star, p_attr, p_skip, p_brk, p_cont, p_retN, p_seq, p_fif, p_ret, p_exp, p_asg, p_aug, p_aVar, p_aPair, p_run, List.map_cons, List.map_nil, List.cons_append, List.nil_append, List.append_nil, List.length_cons, List.length_nil, List.getElem?_cons_zero, List.getElem?_cons_succ, List.set_cons_zero, List.set_cons_succ, List.reduceReplicate, true_and, and_true, if_true, ite_true, Bool.false_eq_true, if_false, reduceIte, false_and, and_false, p_aAttr, p_eSliceA, Nat.reduceLT, Nat.reduceSub, Nat.reduceAdd, Nat.reduceEqDiff, Nat.lt_irrefl, Nat.zero_le, isA_inst Fk.vf, e]
      refine ⟨⟨_, _, rfl⟩, K3 _ _ hl (by simp; omega), ?_, Kk.trans K3 (by simp)⟩
      rw [htk, feed_snoc]
      exact F3
    · rintro ρ' σ' ⟨_, _, Fk, Kk⟩
      rw [List.take_length] at Fk
      exact ⟨rfl, Fk, Kk⟩
    · exact ⟨⟨_, _, rfl⟩, hl, F2, K.weak (by simp)⟩
  have K1 : Keep σ (σ ++ [PO.list ((rxS ((flat ps).length + 1) (flat ps)).map fun l => .str (mkS l))]) [] := Keep.app
  have g1 : (σ ++ [PO.list ((rxS ((flat ps).length + 1) (flat ps)).map fun l => .str (mkS l))])[σ.length]? = some (.list ((rxS ((flat ps).length + 1) (flat ps)).map fun l => .str (mkS l))) := by simp
  have hal : (alt ps).length ≤ 1000000 := by rw [alt_len]; omega
  generalize hs1 : σ ++ [PO.list ((rxS ((flat ps).length + 1) (flat ps)).map fun l => .str (mkS l))] = σ1 at K1 g1
  have hl1 : σ1.length = σ.length + 1 := by rw [← hs1]; simp
  rw [hrx] at g1
  have fin : ∀ v1 σ2, σ2[σ.length]? = some (altO ps) → Keep σ σ2 [] → wS (fZip 1000 (eVar 4) (aPair (aVar 1) (aVar 5)) (fSeq (fExp (eMeth (isA V) (G_chunk D V) (eVar 0) (eCons (eVar 1) (eCons (eVar 5) eNil)))) fSkip)
      [some (.ref m), some v1, some (.str (mkS (flat ps))), some (.str (mkS [])), some (.ref σ.length), none, none, none, none] σ2) fun fl ρ₁ σ₁ => match fl with
        | .next => FmtAt D V σ₁ m w wsp sg ln ac (feedF w sg (n, cur, ls) ps).1 (feedF w sg (n, cur, ls) ps).2.1 (feedF w sg (n, cur, ls) ps).2.2 ∧ Keep σ σ₁ [ln, ac]
        | .brk => False
        | .cont => False
        | .ret p => p = .none ∧ FmtAt D V σ₁ m w wsp sg ln ac (feedF w sg (n, cur, ls) ps).1 (feedF w sg (n, cur, ls) ps).2.1 (feedF w sg (n, cur, ls) ps).2.2 ∧ Keep σ σ₁ [ln, ac] := by
    intro v1 σ2 h K
    refine (loop σ2 v1 h K).mono ?_
    rintro fl ρ' σ' ⟨rfl, q⟩
    exact q
  have bytail : ∀ l, ps = [] ∨ ps ≠ [] → σ1[σ.length]? = some (.list (.str (mkS []) :: l)) → altO ps = .list l → (wO (idxF (.ref σ.length) (.int 0) σ1) fun x σ₁ => wO (truF x σ₁) fun b σ₂ => b = false ∧ σ₂ = σ1 ∧ pop0F [.ref σ.length, .int 0] σ1 = some (.str (mkS []), σ1.set σ.length (altO ps)) ∧ Keep σ (σ1.set σ.length (altO ps)) [] ∧ (σ1.set σ.length (altO ps))[σ.length]? = some (altO ps)) := by
    intro l _ g e
    have ix := idx_list (k := 0) g rfl (by omega)
    rw [show ((0 : Nat) : Int) = 0 from rfl] at ix
    rw [ix, wO_some, truS_eq (by simp), wO_some]
    have hll : l.length ≤ 1000000 := by
      unfold altO at e
      have := congrArg (fun o => match o with | PO.list l => l.length | _ => 0) e
      simp at this
      omega
    refine ⟨rfl, rfl, by rw [pop0_eq g hll, e], K1.trans Keep.set (by simp), List.getElem?_set_self (by omega)⟩
  by_cases hE : ∃ p r, ps = p :: r ∧ p.1 = []
  · obtain ⟨p, r, hpr, hp1⟩ := hE
    subst hpr
    simp only [hp1, if_true, List.map_cons] at g1
    have ix := idx_list (k := 0) g1 rfl (by omega)
    rw [show ((0 : Nat) : Int) = 0 from rfl] at ix
    obtain ⟨c, v, hv⟩ := List.exists_cons_of_ne_nil (W.wne p (by simp))
    have hb : p.2.length ≤ 1000000 := by rw [flat_cons] at h1; simp at h1; omega
    have K2 : Keep σ1 (σ1 ++ [PO.list [.str (mkS [])]]) [] := Keep.app
    have hal2 : ((alt r).map fun l => PV.str (mkS l)).length + 1 ≤ 1000000 := by rw [alt_cons] at hal; simp at hal ⊢; omega
    have fr := fun (ρ : List (Option PV)) (h : ρ[(4 : Nat)]? = some (some (.ref σ.length))) => front_eq (j := σ1.length) (q := [.str (mkS [])]) h (K2 _ _ g1 (by simp)) (by simp) (by omega) (by simpa using hal2) (by simp)
    have htr : truF (.str (mkS (c :: v))) σ1 = some (true, σ1) := by rw [← hv, truS_eq hb, hv]; rfl
    simp only [ix, wO_some, wO_none, w1_some, w1_none, wS_some, wS_none, if_none, szOk_eq, strOk_eq, p_var, p_lit, p_bin, p_un, p_if, p_cmpE, p_cmp, p_not, p_and, p_or, p_val, p_true, p_eAnd, p_eOr, p_notF, p_nil, p_cons, p_tup, p_list, p_call, p_meth, p_star, p_attr, p_skip, p_brk, p_cont, p_retN, p_seq, p_fif, p_ret, p_exp, p_asg, p_aug, p_aVar, p_aPair, p_run, List.map_cons, List.map_nil, List.cons_append, List.nil_append, List.append_nil, List.length_cons, List.length_nil, List.getElem?_cons_zero, List.getElem?_cons_succ, List.set_cons_zero, List.set_cons_succ, List.reduceReplicate, true_and, and_true, if_true, ite_true, Bool.false_eq_true, if_false, reduceIte, false_and, and_false, p_aAttr, p_eSliceA, Nat.reduceLT, Nat.reduceSub, Nat.reduceAdd, Nat.reduceEqDiff, Nat.lt_irrefl, Nat.zero_le, hv, htr, c0]
    rw [hv] at g1
    rw [fr _ rfl, wO_some]
    refine ⟨by omega, fin _ _ ?_ ((K1.trans K2 (by simp)).trans Keep.set (by simp))⟩
    rw [List.getElem?_set_self (by simp; omega)]
    simp [altO, alt_cons, hp1]
  · have g2 : σ1[σ.length]? = some (.list (.str (mkS []) :: (alt ps).map fun x => .str (mkS x))) := by
      rw [g1]
      cases ps with
      | nil => rfl
      | cons p r =>
        have hne : ¬ p.1 = [] := fun e => hE ⟨p, r, rfl, e⟩
        simp only [hne, if_false, List.map_cons]
    have := bytail _ (Classical.em _) g2 rfl
    obtain ⟨x, s1, e1, b, s2, e2, rfl, rfl, e3, K3, g3⟩ := this
    simp only [e1, e2, wO_some, wO_none, w1_some, w1_none, wS_some, wS_none, if_none, szOk_eq, strOk_eq, p_var, p_lit, p_bin, p_un, p_if, p_cmpE, p_cmp, p_not, p_and, p_or, p_val, p_true, p_eAnd, p_eOr, p_notF, p_nil, p_cons, p_tup, p_list, p_call, p_meth, p_star, p_attr, p_skip, p_brk, p_cont, p_retN, p_seq, p_fif, p_ret, p_exp, p_asg, p_aug, p_aVar, p_aPair, p_run, List.map_cons, List.map_nil, List.cons_append, List.nil_append, List.append_nil, List.length_cons, List.length_nil, List.getElem?_cons_zero, List.getElem?_cons_succ, List.set_cons_zero, List.set_cons_succ, List.reduceReplicate, true_and, and_true, if_true, ite_true, Bool.false_eq_true, if_false, reduceIte, false_and, and_false, p_aAttr, p_eSliceA, Nat.reduceLT, Nat.reduceSub, Nat.reduceAdd, Nat.reduceEqDiff, Nat.lt_irrefl, Nat.zero_le, p_expS, isL_of g2, e3, PV.str.injEq, exists_eq_left']
    exact fin _ _ g3 K3
end
end Mine
end
section
open PySem PySem.W PySem.Calls PyProof.Rows
set_option maxRecDepth 100000
set_option linter.unusedVariables false
set_option linter.unusedSimpArgs false
namespace Mine
theorem PsVis.app {a b : List WP} (h : PsVis a) (k : PsVis b) : PsVis (a ++ b) :=
  ⟨fun p hp => (List.mem_append.1 hp).elim (h.vis p) (k.vis p), fun p hp => (List.mem_append.1 hp).elim (h.bar p) (k.bar p)⟩
theorem nlP_flat_eq {ps : List WP} (h : PsVis ps) : flat (nlP ps) = flat ps := by
  by_cases h0 : ps = []
  · subst h0; simp [nlP, lastP, flat]
  · rw [h.nlP h0]
def sumL (ls : List (List Nat)) : Nat := (ls.map (·.length)).sum
theorem sumL_app (a b : List (List Nat)) : sumL (a ++ b) = sumL a + sumL b := by simp [sumL]
theorem sumL_one (a : List Nat) : sumL [a] = a.length := by simp [sumL]
structure StOk (st : St) (tot : Nat) : Prop where
  vis : PsVis st.2.1
  bar : ∀ x ∈ st.2.2, 124 ∉ x
  sum : sumL st.2.2 + (flat st.2.1).length ≤ tot
theorem stF_ok {w : Int} {sg : List Nat} {st : St} {p : WP} {tot : Nat} (h : StOk st tot) (hp0 : PsVis [p]) : StOk (stF w sg st p) (tot + p.1.length + p.2.length + 1) := by
  obtain ⟨n, cur, ls⟩ := st
  obtain ⟨f, q⟩ := p
  obtain ⟨h1, h2, h3⟩ := h
  simp only at h1 h2 h3
  have hp' : PsVis [(f, q)] := hp0
  have hv : PsVis (cur ++ [(f, q)]) := h1.app hp'
  have hf : (flat (cur ++ [(f, q)])).length = (flat cur).length + f.length + q.length := by rw [flat_app, flat_cons]; simp [flat]; omega
  show StOk (chF w sg n cur ls f q) _
  unfold chF
  split
  · split
    · rename_i i hi
      refine ⟨hv.sub fun p hp => List.mem_of_mem_drop hp, ?_, ?_⟩
      · intro x hx
        rcases List.mem_append.1 hx with hx | hx
        · exact h2 x hx
        · have : x = _ := List.mem_singleton.1 hx
          subst this
          exact (hv.sub fun p hp => List.mem_of_mem_take hp).no_bar
      · have e : flat (cur ++ [(f, q)]) = flat ((cur ++ [(f, q)]).take i) ++ flat ((cur ++ [(f, q)]).drop i) := by rw [← flat_app, List.take_append_drop]
        have e2 := congrArg List.length e
        rw [List.length_append] at e2
        simp only [sumL_app, sumL_one]
        omega
    · unfold elL
      split
      · refine ⟨⟨fun p hp => ?_, fun p hp => ?_⟩, ?_, ?_⟩
        · have : p = _ := List.mem_singleton.1 hp
          subst this
          exact hp'.vis (f, q) (by simp)
        · have : p = _ := List.mem_singleton.1 hp
          subst this
          refine ⟨?_, (hp'.bar (f, q) (by simp)).2⟩
          simp only
          split
          · decide
          · exact (hp'.bar (f, q) (by simp)).1
        · intro x hx
          simp only [nlL] at hx
          split at hx
          · rcases List.mem_append.1 hx with hx | hx
            · exact h2 x hx
            · have : x = _ := List.mem_singleton.1 hx
              subst this
              rw [nlP_flat_eq h1]; exact h1.no_bar
          · exact h2 x hx
        · have e1 : sumL (nlL n cur ls) ≤ sumL ls + (flat cur).length := by
            unfold nlL
            split
            · rw [sumL_app, sumL_one, nlP_flat_eq h1]; omega
            · omega
          have e2 : (flat [(if f = [] then [32] else f, q)]).length ≤ f.length + q.length + 1 := by
            split
            · simp [flat]
            · simp [flat] <;> omega
          simp only
          omega
      · exact ⟨hv, h2, by simp only; omega⟩
  · exact ⟨hv, h2, by simp only; omega⟩
theorem feed_ok {w : Int} {sg : List Nat} : ∀ (ps : List WP) (st : St) (tot : Nat), StOk st tot → PsVis ps → StOk (feedF w sg st ps) (tot + (flat ps).length + ps.length)
  | [], st, tot, h, _ => by simpa [feedF, flat] using h
  | p :: r, st, tot, h, hp => by
    have h1 := stF_ok (w := w) (sg := sg) h (hp.sub (qs := [p]) (by simp))
    have h2 := feed_ok (w := w) (sg := sg) r _ _ h1 (hp.sub fun q hq => List.mem_cons_of_mem _ hq)
    have e : tot + p.1.length + p.2.length + 1 + (flat r).length + r.length = tot + (flat (p :: r)).length + (p :: r).length := by
      rw [flat_cons]; simp; omega
    rw [e] at h2
    exact h2
def rowsOf (st : St) : List (List Nat) := if nlL st.1 st.2.1 st.2.2 = [] then [[]] else nlL st.1 st.2.1 st.2.2
def rowsF (size : Nat) (w : Int) (sg : List Nat) (ps : List WP) : List (List Nat) := rowsOf (feedF w sg (size, [], []) ps)
section
variable {D V : Addr} {σ : List PO} {ac m ln : Nat} {st : St} {w : Int} {wsp sg : List Nat}
theorem told_eq (F : FmtAt D V σ m w wsp sg ln ac st.1 st.2.1 st.2.2) {tot : Nat} (h : StOk st tot) (ht : tot ≤ 50000) (hn : st.1 ≤ 1000) (hc : st.2.1.length ≤ 50000) (hl : st.2.2.length ≤ 50000) :
    ∃ r σ', (∃ σ1, G_vstr D V [.ref m, .str (mkS [124])] σ = some (.str (mkS (ljoin [124] (nlL st.1 st.2.1 st.2.2))), σ1) ∧ splitF [.str (mkS (ljoin [124] (nlL st.1 st.2.1 st.2.2))), .str (mkS [124])] σ1 = some (.ref r, σ')) ∧
      σ'[r]? = some (linesO (rowsOf st)) ∧ Keep σ σ' [ln, ac] ∧ σ.length ≤ r := by
  have hnl : sumL (nlL st.1 st.2.1 st.2.2) ≤ tot := by
    unfold nlL
    split
    · rw [sumL_app, sumL_one, nlP_flat_eq h.vis]; exact h.sum
    · have := h.sum; omega
  have hnc : (nlL st.1 st.2.1 st.2.2).length ≤ 50001 := by
    unfold nlL
    split
    · simp; omega
    · omega
  have hbar : ∀ x ∈ nlL st.1 st.2.1 st.2.2, 124 ∉ x := by
    intro x hx
    unfold nlL at hx
    split at hx
    · rcases List.mem_append.1 hx with hx | hx
      · exact h.bar x hx
      · have : x = _ := List.mem_singleton.1 hx
        subst this
        rw [nlP_flat_eq h.vis]; exact h.vis.no_bar
    · exact h.bar x hx
  have hs := h.sum
  have hsum : ((nlL st.1 st.2.1 st.2.2).map (·.length)).sum ≤ tot := hnl
  obtain ⟨σ1, e, F1, K1, L1⟩ := vstr_eq (s := [124]) F (by omega) (by omega) (by omega) h.vis.hw (by simp only [List.length_cons, List.length_nil]; omega)
  have bl := ljoin_len [124] (nlL st.1 st.2.1 st.2.2)
  simp only [List.length_cons, List.length_nil] at bl
  have bs := splitc_length (c := 124) (ljoin [124] (nlL st.1 st.2.1 st.2.2))
  have es := splitF_eq (σ := σ1) (c := 124) (l := ljoin [124] (nlL st.1 st.2.1 st.2.2)) (by decide) (by omega) (by omega)
  have hsp := rows_split hbar
  rw [hsp] at es
  refine ⟨σ1.length, _, ⟨σ1, e, es⟩, ?_, K1.trans (Keep.app (S := [ln, ac])) (by simp), by omega⟩
  simp [rowsOf]
end
end Mine
end
section
open PySem PySem.W PySem.Calls PyProof.Rows
set_option maxRecDepth 100000
set_option linter.unusedVariables false
set_option linter.unusedSimpArgs false
namespace Mine
theorem feed_app {w : Int} {sg : List Nat} {st : St} {a b : List WP} : feedF w sg st (a ++ b) = feedF w sg (feedF w sg st a) b := by
  unfold feedF; rw [List.foldl_append]
theorem feed_cons {w : Int} {sg : List Nat} {st : St} {p : WP} {b : List WP} : feedF w sg st (p :: b) = feedF w sg (stF w sg st p) b := rfl
theorem stF_pre {w : Int} {sg : List Nat} {n : Nat} {cur : List WP} {ls : List (List Nat)} {p : WP} : stF w sg (n, cur, ls) p = ((stF w sg (n, cur, []) p).1, (stF w sg (n, cur, []) p).2.1, ls ++ (stF w sg (n, cur, []) p).2.2) := by
  unfold stF chF
  simp only
  split
  · split
    · simp
    · unfold elL
      split
      · rename_i hn
        unfold nlL
        have h0 : 0 < n + (flat (nlP cur)).length := by omega
        simp only [h0, if_true, List.nil_append]
      · simp
  · simp
theorem feed_pre {w : Int} {sg : List Nat} : ∀ (ps : List WP) (n : Nat) (cur : List WP) (ls : List (List Nat)), feedF w sg (n, cur, ls) ps = ((feedF w sg (n, cur, []) ps).1, (feedF w sg (n, cur, []) ps).2.1, ls ++ (feedF w sg (n, cur, []) ps).2.2)
  | [], n, cur, ls => by simp [feedF]
  | p :: r, n, cur, ls => by
    rw [feed_cons, feed_cons, stF_pre]
    have h1 := feed_pre (w := w) (sg := sg) r (stF w sg (n, cur, []) p).1 (stF w sg (n, cur, []) p).2.1 (ls ++ (stF w sg (n, cur, []) p).2.2)
    have h2 := feed_pre (w := w) (sg := sg) r (stF w sg (n, cur, []) p).1 (stF w sg (n, cur, []) p).2.1 (stF w sg (n, cur, []) p).2.2
    rw [h1]
    have e : stF w sg (n, cur, []) p = ((stF w sg (n, cur, []) p).1, (stF w sg (n, cur, []) p).2.1, (stF w sg (n, cur, []) p).2.2) := rfl
    rw [e, h2]
    simp
def Quiet (w : Int) (sg : List Nat) (n : Nat) (ps : List WP) (k : Nat) : Prop := w < ((n + (flat (ps.take (k + 1))).length : Nat) : Int) → cutAt sg (ps.take (k + 1)) = none ∧ n = 0
theorem feed_quiet {w : Int} {sg : List Nat} {n : Nat} {ps : List WP} : ∀ K, K ≤ ps.length → (∀ k, k < K → Quiet w sg n ps k) → feedF w sg (n, [], []) (ps.take K) = (n, ps.take K, []) := by
  intro K
  induction K with
  | zero => intro _ _; rfl
  | succ K ih =>
    intro hK hq
    have hp := getD_of (d := (([], []) : WP)) (show K < ps.length by omega)
    generalize ps.getD K ([], []) = p at hp
    rw [take_succ_get hp, feed_snoc, ih (by omega) fun k hk => hq k (by omega)]
    unfold stF chF
    simp only
    rw [show ps.take K ++ [(p.1, p.2)] = ps.take (K + 1) from (take_succ_get hp).symm]
    by_cases hw : w < ((n + (flat (ps.take (K + 1))).length : Nat) : Int)
    · obtain ⟨h1, h2⟩ := hq K (by omega) hw
      rw [if_pos hw, h1]
      unfold elL
      rw [if_neg (by omega), take_succ_get hp]
    · rw [if_neg hw, take_succ_get hp]
theorem feed_split {w : Int} {sg : List Nat} {n : Nat} {ps : List WP} {K : Nat} {p : WP} (hp : ps[K]? = some p) (hq : ∀ k, k < K → Quiet w sg n ps k) : feedF w sg (n, [], []) ps = feedF w sg (chF w sg n (ps.take K) [] p.1 p.2) (ps.drop (K + 1)) := by
  have hK := (List.getElem?_eq_some_iff.1 hp).1
  have e : ps = ps.take K ++ (p :: ps.drop (K + 1)) := by
    have h1 := List.take_append_drop K ps
    have h2 := List.drop_eq_getElem_cons hK
    have h3 : ps[K] = p := by have := (List.getElem?_eq_some_iff.1 hp).2; exact this
    rw [h3] at h2
    rw [← h2, h1]
  conv => lhs; rw [e]
  rw [feed_app, feed_quiet K (by omega) hq]
  rfl
theorem stF_cat {w : Int} {sg : List Nat} {n : Nat} {cur : List WP} {ls : List (List Nat)} {p : WP} (hv : PsVis cur) (hf : n = 0 ∨ p.1 ≠ []) : (stF w sg (n, cur, ls) p).2.2.flatten ++ flat (stF w sg (n, cur, ls) p).2.1 = ls.flatten ++ flat cur ++ (p.1 ++ p.2) := by
  obtain ⟨f, q⟩ := p
  have e0 : flat (cur ++ [(f, q)]) = flat cur ++ (f ++ q) := by rw [flat_app, flat_cons]; simp [flat]
  unfold stF chF
  simp only
  split
  · split
    · rename_i i hi
      simp only [List.flatten_append, List.flatten_cons, List.flatten_nil, List.append_nil]
      rw [List.append_assoc, ← flat_app, List.take_append_drop, e0]; simp
    · unfold elL
      split
      · have hf' : f ≠ [] := by rcases hf with h | h; omega; exact h
        simp only [hf', if_false]
        unfold nlL
        rw [if_pos (by omega), nlP_flat_eq hv]
        simp [flat]
      · simp only [e0]; simp
  · simp only [e0]; simp
theorem stF_n {w : Int} {sg : List Nat} {n : Nat} {cur : List WP} {ls : List (List Nat)} {p : WP} : (stF w sg (n, cur, ls) p).1 = 0 ∨ (stF w sg (n, cur, ls) p).1 = n := by
  unfold stF chF
  simp only
  split
  · split
    · exact .inl rfl
    · unfold elL; split
      · exact .inl rfl
      · exact .inr rfl
  · exact .inr rfl
theorem feed_cat {w : Int} {sg : List Nat} : ∀ (ps : List WP) (n : Nat) (cur : List WP) (ls : List (List Nat)) (tot : Nat), StOk (n, cur, ls) tot → PsVis ps → (n = 0 ∨ ∀ p ∈ ps, p.1 ≠ []) →
    (feedF w sg (n, cur, ls) ps).2.2.flatten ++ flat (feedF w sg (n, cur, ls) ps).2.1 = ls.flatten ++ flat cur ++ flat ps
  | [], n, cur, ls, tot, h, _, _ => by simp [feedF, flat]
  | p :: r, n, cur, ls, tot, h, hp, hf => by
    have h1 := stF_ok (w := w) (sg := sg) h (hp.sub (qs := [p]) (by simp))
    have h2 := stF_cat (w := w) (sg := sg) (n := n) (ls := ls) h.vis (p := p) (hf.imp id fun h => h p (by simp))
    have hn := stF_n (w := w) (sg := sg) (n := n) (cur := cur) (ls := ls) (p := p)
    have h3 := feed_cat (w := w) (sg := sg) r (stF w sg (n, cur, ls) p).1 (stF w sg (n, cur, ls) p).2.1 (stF w sg (n, cur, ls) p).2.2 _ h1 (hp.sub fun q hq => List.mem_cons_of_mem _ hq) (by
      rcases hn with hn | hn
      · exact .inl hn
      · rcases hf with hf | hf
        · left; rw [hn]; exact hf
        · exact .inr fun q hq => hf q (List.mem_cons_of_mem _ hq))
    rw [feed_cons, show stF w sg (n, cur, ls) p = ((stF w sg (n, cur, ls) p).1, (stF w sg (n, cur, ls) p).2.1, (stF w sg (n, cur, ls) p).2.2) from rfl, h3, h2, flat_cons]
    simp
theorem rowsOf_cat {st : St} {tot : Nat} (h : StOk st tot) : (rowsOf st).flatten = st.2.2.flatten ++ flat st.2.1 := by
  unfold rowsOf
  have key : (nlL st.1 st.2.1 st.2.2).flatten = st.2.2.flatten ++ flat st.2.1 := by
    unfold nlL
    rw [nlP_flat_eq h.vis]
    split
    · simp
    · rename_i h0
      have : flat st.2.1 = [] := List.eq_nil_of_length_eq_zero (by omega)
      rw [this]; simp
  split
  · rename_i h0
    rw [h0] at key
    rw [← key]; simp
  · exact key
theorem st0_ok (n : Nat) : StOk (n, [], []) 0 := ⟨⟨fun p hp => (nomatch hp), fun p hp => (nomatch hp)⟩, fun x hx => (nomatch hx), by simp [sumL, flat]⟩
theorem rows_cat {n : Nat} {w : Int} {sg : List Nat} {ps : List WP} (hp : PsVis ps) (hf : n = 0 ∨ ∀ p ∈ ps, p.1 ≠ []) : (rowsF n w sg ps).flatten = flat ps := by
  unfold rowsF
  rw [rowsOf_cat (feed_ok ps _ _ (st0_ok n) hp), feed_cat ps n [] [] 0 (st0_ok n) hp hf]
  simp [flat]
theorem rowsOf_first {n : Nat} {cur : List WP} {x : List Nat} {ls : List (List Nat)} : rowsOf (n, cur, x :: ls) = x :: nlL n cur ls := by
  unfold rowsOf nlL
  simp only
  split
  · simp
  · simp
end Mine
end
section
open PySem PySem.W PySem.Calls PyProof.Rows
set_option maxRecDepth 100000
set_option linter.unusedVariables false
set_option linter.unusedSimpArgs false
namespace Mine
def posW (ps : List WP) (k : Nat) : Nat := (flat (ps.take k)).length
def seg (ps : List WP) (s e : Nat) : List WP := (ps.take e).drop s
section
variable {sg : List Nat} {ps : List WP} {w : Int}
theorem posW_seg {s e : Nat} (h : s ≤ e) : posW ps s + (flat (seg ps s e)).length = posW ps e := by
  unfold posW seg
  have e1 : flat (ps.take e) = flat ((ps.take e).take s) ++ flat ((ps.take e).drop s) := by rw [← flat_app, List.take_append_drop]
  have e2 := congrArg List.length e1
  rw [List.length_append, List.take_take, show min s e = s by omega] at e2
  omega
theorem posW_mono {s e : Nat} (h : s ≤ e) : posW ps s ≤ posW ps e := by have := posW_seg (ps := ps) h; omega
theorem posW_all : posW ps ps.length = (flat ps).length := by unfold posW; rw [List.take_length]
theorem posW_zero : posW ps 0 = 0 := rfl
theorem posW_lt (hv : PsVis ps) {s e : Nat} (h : s < e) (he : e ≤ ps.length) : posW ps s < posW ps e := by
  have h1 := posW_mono (ps := ps) (s := s + 1) (e := e) (by omega)
  have h2 : posW ps s < posW ps (s + 1) := by
    have hp := getD_of (d := (([], []) : WP)) (show s < ps.length by omega)
    have hm := getD_mem (show s < ps.length by omega)
    generalize ps.getD s ([], []) = p at hp hm
    unfold posW
    rw [take_succ_get hp, flat_app, flat_cons, List.length_append, List.length_append, List.length_append]
    obtain ⟨x, hx, _⟩ := hv.vis p hm
    have := List.length_pos_of_mem hx
    omega
  omega
theorem seg_zero {e : Nat} : seg ps 0 e = ps.take e := rfl
theorem seg_len {s e : Nat} (he : e ≤ ps.length) : (seg ps s e).length = e - s := by unfold seg; simp; omega
theorem seg_self {s : Nat} : seg ps s s = [] := by unfold seg; simp
theorem seg_snoc {s e : Nat} {p : WP} (hp : ps[e]? = some p) (h : s ≤ e) : seg ps s (e + 1) = seg ps s e ++ [p] := by
  have := (List.getElem?_eq_some_iff.1 hp).1
  unfold seg
  rw [take_succ_get hp, List.drop_append_of_le_length (by simp; omega)]
theorem seg_one {e : Nat} {p : WP} (hp : ps[e]? = some p) : seg ps e (e + 1) = [p] := by
  rw [seg_snoc hp (Nat.le_refl _), seg_self]; rfl
theorem seg_eq {s e : Nat} : seg ps s e = (ps.drop s).take (e - s) := by unfold seg; rw [List.drop_take]
theorem seg_drop {s i e : Nat} : (seg ps s e).drop i = seg ps (s + i) e := by unfold seg; rw [List.drop_drop]
theorem seg_take {s i e : Nat} (h : s + i ≤ e) : (seg ps s e).take i = seg ps s (s + i) := by
  rw [seg_eq, seg_eq, List.take_take, show min i (e - s) = s + i - s by omega]
theorem seg_vis (hv : PsVis ps) {s e : Nat} : PsVis (seg ps s e) := hv.sub fun p hp => List.mem_of_mem_take (List.mem_of_mem_drop hp)
theorem rank_drop {s j : Nat} (h : 1 ≤ j) : rankAt sg (ps.drop s) j = rankAt sg ps (s + j) := by
  rw [rankAt_pos (by omega), rankAt_pos (by omega)]
  have e : ∀ k : Nat, (ps.drop s).getD k ([], []) = ps.getD (s + k) ([], []) := by
    intro k
    rw [List.getD_eq_getElem?_getD, List.getD_eq_getElem?_getD, List.getElem?_drop]
  rw [e, e, show s + (j - 1) = s + j - 1 by omega]
theorem WhiteB.drop (W : WhiteB ps) {s : Nat} : WhiteB (ps.drop s) := fun k p hp => W (s + k) p (by rw [List.getElem?_drop] at hp; rw [← hp]; congr 1)
def LastMin (rk : Nat → Nat) (s m i : Nat) : Prop := s < i ∧ i ≤ m ∧ rk i < 99 ∧ (∀ j, s < j → j ≤ m → rk i ≤ rk j) ∧ (∀ j, i < j → j ≤ m → rk i < rk j)
theorem cut_seg (W : WhiteB ps) (hsg : sg.length ≤ 98) {s m : Nat} (hs : s ≤ m) (hm : m < ps.length) :
    (cutAt sg (seg ps s (m + 1)) = none ∧ ∀ j, s < j → j ≤ m → ¬ rankAt sg ps j < 99) ∨ ∃ i, cutAt sg (seg ps s (m + 1)) = some i ∧ LastMin (rankAt sg ps) s m (s + i) := by
  have e : seg ps s (m + 1) = (ps.drop s).take (m - s + 1) := by rw [seg_eq, show m + 1 - s = m - s + 1 by omega]
  have hk : m - s < (ps.drop s).length := by simp; omega
  rw [e]
  cases hc : cutAt sg ((ps.drop s).take (m - s + 1)) with
  | none =>
    left
    refine ⟨rfl, fun j j1 j2 h => ?_⟩
    have := cutAt_none W.drop hk hc (j := j - s) (by omega) (by omega)
    rw [rank_drop (by omega), show s + (j - s) = j by omega] at this
    exact this h
  | some i =>
    right
    obtain ⟨a1, a2, a3, a4, a5⟩ := cutAt_some W.drop hsg hk hc
    rw [rank_drop a1] at a3
    refine ⟨i, rfl, by omega, by omega, a3, fun j j1 j2 => ?_, fun j j1 j2 => ?_⟩
    · have := a4 (j - s) (by omega) (by omega)
      rw [rank_drop a1, rank_drop (by omega), show s + (j - s) = j by omega] at this
      exact this
    · have := a5 (j - s) (by omega) (by omega)
      rw [rank_drop a1, rank_drop (by omega), show s + (j - s) = j by omega] at this
      exact this
theorem feed_ind {size : Nat} (hv : PsVis ps) (hb : size = 0 ∨ ∀ p ∈ ps, p.1 ≠ []) (W : WhiteB ps) (hsg : sg.length ≤ 98) (I : Nat → Nat → Nat → List (List Nat) → Prop) (h0 : I 0 0 size [])
    (hfit : ∀ m s n ls, m < ps.length → s ≤ m → (0 < s → n = 0) → n ≤ size → I m s n ls → ((n + (flat (seg ps s (m + 1))).length : Nat) : Int) ≤ w → I (m + 1) s n ls)
    (hcut : ∀ m s n ls i, m < ps.length → s ≤ m → (0 < s → n = 0) → n ≤ size → I m s n ls → w < ((n + (flat (seg ps s (m + 1))).length : Nat) : Int) → LastMin (rankAt sg ps) s m i → I (m + 1) i 0 (ls ++ [flat (seg ps s i)]))
    (hhead : ∀ m n ls, m < ps.length → 0 < n → n ≤ size → I m 0 n ls → w < ((n + (flat (seg ps 0 (m + 1))).length : Nat) : Int) → (∀ j, 0 < j → j ≤ m → ¬ rankAt sg ps j < 99) → I (m + 1) m 0 (ls ++ [flat (seg ps 0 m)]))
    (hstay : ∀ m s ls, m < ps.length → s ≤ m → I m s 0 ls → w < (((flat (seg ps s (m + 1))).length : Nat) : Int) → (∀ j, s < j → j ≤ m → ¬ rankAt sg ps j < 99) → I (m + 1) s 0 ls) :
    ∀ m, m ≤ ps.length → ∃ s n ls, feedF w sg (size, [], []) (ps.take m) = (n, seg ps s m, ls) ∧ s ≤ m ∧ (0 < m → s < m) ∧ (0 < s → n = 0) ∧ n ≤ size ∧ I m s n ls := by
  intro m
  induction m with
  | zero => intro _; exact ⟨0, size, [], rfl, by omega, by omega, by omega, Nat.le_refl _, h0⟩
  | succ m ih =>
    intro hm
    obtain ⟨s, n, ls, e, h1, h2, h3, h4, h5⟩ := ih (by omega)
    have hp := getD_of (d := (([], []) : WP)) (show m < ps.length by omega)
    have hpm := getD_mem (show m < ps.length by omega)
    generalize ps.getD m ([], []) = p at hp hpm
    rw [take_succ_get hp, feed_snoc, e]
    have hs1 : seg ps s m ++ [(p.1, p.2)] = seg ps s (m + 1) := (seg_snoc hp h1).symm
    show ∃ s' n' ls', chF w sg n (seg ps s m) ls p.1 p.2 = _ ∧ _
    unfold chF
    rw [hs1]
    by_cases hw : w < ((n + (flat (seg ps s (m + 1))).length : Nat) : Int)
    · rw [if_pos hw]
      rcases cut_seg W hsg h1 (show m < ps.length by omega) with ⟨c1, c2⟩ | ⟨i, c1, c2⟩
      · rw [c1]
        unfold elL
        by_cases hn : 0 < n
        · have hs0 : s = 0 := by omega
          subst hs0
          have hbn : p.1 ≠ [] := by
            rcases hb with h | h
            · omega
            · exact h p hpm
          simp only [hn, if_true, hbn, if_false]
          refine ⟨m, 0, ls ++ [flat (seg ps 0 m)], ?_, by omega, by omega, by omega, by omega, hhead m n ls (by omega) hn h4 h5 hw (fun j j1 j2 => c2 j j1 j2)⟩
          rw [seg_one hp]
          unfold nlL
          rw [if_pos (by omega), nlP_flat_eq (seg_vis hv)]
        · have hn0 : n = 0 := by omega
          subst hn0
          simp only [Nat.lt_irrefl, if_false]
          refine ⟨s, 0, ls, ?_, by omega, by omega, by omega, by omega, hstay m s ls (by omega) h1 h5 (by simpa using hw) c2⟩
          rw [← hs1]
      · rw [c1]
        have hi := c2.1
        have hi2 := c2.2.1
        refine ⟨s + i, 0, ls ++ [flat (seg ps s (s + i))], ?_, by omega, by omega, by omega, by omega, hcut m s n ls (s + i) (by omega) h1 h3 h4 h5 hw c2⟩
        simp only [seg_drop]
        rw [seg_take (by omega)]
    · rw [if_neg hw]
      exact ⟨s, n, ls, rfl, by omega, by omega, h3, h4, hfit m s n ls (by omega) h1 h3 h4 h5 (by omega)⟩
theorem rows_of_feed {size s n : Nat} {ls : List (List Nat)} (hv : PsVis ps) (h0 : ps ≠ []) (hs : s < ps.length) (e : feedF w sg (size, [], []) ps = (n, seg ps s ps.length, ls)) : rowsF size w sg ps = ls ++ [flat (seg ps s ps.length)] := by
  have h1 := posW_seg (ps := ps) (s := s) (e := ps.length) (by omega)
  have h2 := posW_lt hv hs (Nat.le_refl _)
  unfold rowsF rowsOf nlL
  rw [e]
  simp only [nlP_flat_eq (seg_vis hv)]
  rw [if_pos (show 0 < n + (flat (seg ps s ps.length)).length by omega), if_neg (by simp)]
theorem rows_nil {size : Nat} : rowsF size w sg [] = [[]] := by
  unfold rowsF rowsOf nlL feedF
  simp [nlP, lastP, flat]
end
end Mine
end
section
open PySem PySem.W PySem.Calls PyProof.Rows
set_option maxRecDepth 100000
set_option linter.unusedVariables false
set_option linter.unusedSimpArgs false
namespace Mine
def runs (a : Nat) : List (List Nat) → List Nat
  | [] => []
  | x :: r => (a + x.length) :: runs (a + x.length) r
theorem runs_snoc {x : List Nat} : ∀ (ls : List (List Nat)) (a : Nat), runs a (ls ++ [x]) = runs a ls ++ [a + sumL ls + x.length]
  | [], a => by simp [runs, sumL]
  | y :: r, a => by
    rw [List.cons_append, runs, runs, runs_snoc r]
    have : sumL (y :: r) = y.length + sumL r := by simp [sumL]
    rw [this, List.cons_append, show a + y.length + sumL r + x.length = a + (y.length + sumL r) + x.length by omega]
theorem runs_len : ∀ (ls : List (List Nat)) (a : Nat), (runs a ls).length = ls.length
  | [], _ => rfl
  | _ :: r, a => by rw [runs, List.length_cons, List.length_cons, runs_len r]
def Block (rk : Nat → Nat) (len D a b : Nat) : Prop := a < b ∧ b ≤ len ∧ (∀ k, a < k → k < b → D ≤ rk k) ∧ (a = 0 ∨ rk a < D) ∧ (b = len ∨ rk b < D)
section
variable {sg : List Nat} {ps : List WP} {w : Int} {size : Nat}
def Good (w : Int) (sg : List Nat) (size : Nat) (ps : List WP) (k : Nat) : Prop := ∀ D a b, D ≤ 98 → Block (rankAt sg ps) ps.length D a b → ((posW ps b - posW ps a + (if a = 0 then size else 0) : Nat) : Int) ≤ w → ¬ (a < k ∧ k < b)
theorem cuts_good (hv : PsVis ps) (hb : size = 0 ∨ ∀ p ∈ ps, p.1 ≠ []) (W : WhiteB ps) (hsg : sg.length ≤ 98) (h0 : ps ≠ []) :
    ∃ ls x, rowsF size w sg ps = ls ++ [x] ∧ ∀ c ∈ runs 0 ls, ∃ k, k ≤ ps.length ∧ c = posW ps k ∧ Good w sg size ps k := by
  have hl := List.length_pos_iff.2 h0
  obtain ⟨s, n, ls, e, h1, h2, h3, h4, h5, h6⟩ := feed_ind (w := w) hv hb W hsg (fun m s n ls => sumL ls = posW ps s ∧ ∀ c ∈ runs 0 ls, ∃ k, k ≤ ps.length ∧ c = posW ps k ∧ Good w sg size ps k) ⟨rfl, fun c hc => (nomatch hc)⟩
    (fun m s n ls _ _ _ _ h _ => h)
    (fun m s n ls i hm hs hn hn2 h hw hc => by
      obtain ⟨c1, c2, c3, c4, c5⟩ := hc
      have hp := posW_seg (ps := ps) (s := s) (e := i) (by omega)
      refine ⟨by rw [sumL_app, sumL_one, h.1]; exact hp, fun c hc => ?_⟩
      rw [runs_snoc] at hc
      rcases List.mem_append.1 hc with hc | hc
      · exact h.2 c hc
      · have := List.mem_singleton.1 hc
        subst this
        refine ⟨i, by omega, by rw [Nat.zero_add, h.1, hp], fun D a b hD B hf hk => ?_⟩
        obtain ⟨b1, b2, b3, b4, b5⟩ := B
        have hDi := b3 i hk.1 hk.2
        have hsa : a ≤ s := by
          rcases Nat.lt_or_ge s a with h | h
          · have := c4 a h (by omega); omega
          · exact h
        have hsa' : a ≤ s := hsa
        have hbm : m < b := by
          rcases Nat.lt_or_ge m b with h | h
          · exact h
          · have := c4 b (by omega) h
            omega
        have p1 := posW_seg (ps := ps) (s := s) (e := m + 1) (by omega)
        have p2 := posW_mono (ps := ps) hsa'
        have p3 := posW_mono (ps := ps) (s := m + 1) (e := b) (by omega)
        by_cases ha : a = 0
        · subst ha
          simp only [if_true] at hf
          have := posW_zero (ps := ps)
          omega
        · simp only [ha, if_false] at hf
          have := hn (by omega)
          omega)
    (fun m n ls hm hn hn2 h hw hc => by
      have hp := posW_seg (ps := ps) (s := 0) (e := m) (by omega)
      refine ⟨by rw [sumL_app, sumL_one, h.1]; exact hp, fun c hc' => ?_⟩
      rw [runs_snoc] at hc'
      rcases List.mem_append.1 hc' with hc' | hc'
      · exact h.2 c hc'
      · have := List.mem_singleton.1 hc'
        subst this
        refine ⟨m, by omega, by rw [Nat.zero_add, h.1, hp], fun D a b hD B hf hk => ?_⟩
        obtain ⟨b1, b2, b3, b4, b5⟩ := B
        have ha : a = 0 := by
          rcases b4 with h | h
          · exact h
          · rcases Nat.eq_zero_or_pos a with h' | h'
            · exact h'
            · exact absurd (show rankAt sg ps a < 99 by omega) (hc a h' (by omega))
        subst ha
        simp only [if_true] at hf
        have p1 := posW_seg (ps := ps) (s := 0) (e := m + 1) (by omega)
        have p3 := posW_mono (ps := ps) (s := m + 1) (e := b) (by omega)
        have := posW_zero (ps := ps)
        omega)
    (fun m s ls hm hs h hw hc => h) ps.length (Nat.le_refl _)
  rw [List.take_length] at e
  exact ⟨ls, _, rows_of_feed hv h0 (h2 hl) e, h6⟩
theorem must_cut (hv : PsVis ps) (hb : size = 0 ∨ ∀ p ∈ ps, p.1 ≠ []) (W : WhiteB ps) (hsg : sg.length ≤ 98) (h0 : ps ≠ []) (hw : w < ((size + (flat ps).length : Nat) : Int)) (hm : 0 < size ∨ ∃ k, 0 < k ∧ k < ps.length ∧ rankAt sg ps k < 99) :
    1 < (rowsF size w sg ps).length := by
  have hl := List.length_pos_iff.2 h0
  obtain ⟨s, n, ls, e, h1, h2, _, _, h5⟩ := feed_ind (w := w) hv hb W hsg (fun m s n ls => ls = [] → s = 0 ∧ n = size ∧ ∀ m', m' < m → w < ((size + posW ps (m' + 1) : Nat) : Int) → size = 0 ∧ ∀ j, 0 < j → j ≤ m' → ¬ rankAt sg ps j < 99) (fun _ => ⟨rfl, rfl, fun m' h => by omega⟩)
    (fun m s n ls hm hs hn hn2 h hw e => by
      obtain ⟨rfl, rfl, q⟩ := h e
      refine ⟨rfl, rfl, fun m' hm' hw' => ?_⟩
      rcases Nat.lt_or_ge m' m with h' | h'
      · exact q m' h' hw'
      · have : m' = m := by omega
        subst this
        have p1 := posW_seg (ps := ps) (s := 0) (e := m' + 1) (by omega)
        have := posW_zero (ps := ps)
        omega)
    (fun m s n ls i hm hs hn hn2 h hw hc e => by simp at e)
    (fun m n ls hm hn hn2 h hw hc e => by simp at e)
    (fun m s ls hm hs h hw hc e => by
      obtain ⟨rfl, q0, q⟩ := h e
      refine ⟨rfl, q0, fun m' hm' hw' => ?_⟩
      rcases Nat.lt_or_ge m' m with h' | h'
      · exact q m' h' hw'
      · have : m' = m := by omega
        subst this
        exact ⟨q0.symm, hc⟩) ps.length (Nat.le_refl _)
  rw [List.take_length] at e
  rw [rows_of_feed hv h0 (h2 hl) e, List.length_append, List.length_singleton]
  have : ls ≠ [] := by
    intro he
    obtain ⟨r1, r2, r3⟩ := h5 he
    obtain ⟨q1, q2⟩ := r3 (ps.length - 1) (by omega) (by rw [show ps.length - 1 + 1 = ps.length by omega, posW_all]; exact hw)
    rcases hm with h | ⟨k, k1, k2, k3⟩
    · omega
    · exact q2 k k1 (by omega) k3
  have := List.length_pos_iff.2 this
  omega
end
def spB (rk : Nat → Nat) (D : Nat) : Nat → List (Nat × Nat) × Nat
  | 0 => ([], 0)
  | k + 1 => if 0 < k ∧ D ≤ rk k then spB rk D k else if k = 0 then ([], 0) else ((spB rk D k).1 ++ [((spB rk D k).2, k)], k)
def spansW (rk : Nat → Nat) (D m : Nat) : List (Nat × Nat) := if m = 0 then [] else (spB rk D m).1 ++ [((spB rk D m).2, m)]
theorem spansW_join {rk : Nat → Nat} {D k : Nat} (h : 0 < k ∧ D ≤ rk k) : spansW rk D (k + 1) = (spB rk D k).1 ++ [((spB rk D k).2, k + 1)] ∧ spansW rk D k = (spB rk D k).1 ++ [((spB rk D k).2, k)] := by
  unfold spansW
  rw [if_neg (by omega), if_neg (by omega), spB, if_pos h]
  exact ⟨rfl, rfl⟩
theorem spansW_new {rk : Nat → Nat} {D k : Nat} (h : ¬ (0 < k ∧ D ≤ rk k)) : spansW rk D (k + 1) = spansW rk D k ++ [(k, k + 1)] := by
  unfold spansW
  rw [if_neg (by omega), spB, if_neg h]
  by_cases h0 : k = 0
  · subst h0; rfl
  · rw [if_neg h0, if_neg h0]
theorem spB_ok {rk : Nat → Nat} {D : Nat} : ∀ m, 1 ≤ m → (∀ p ∈ (spB rk D m).1, p.1 < p.2 ∧ p.2 < m ∧ (∀ k, p.1 < k → k < p.2 → D ≤ rk k) ∧ (p.1 = 0 ∨ rk p.1 < D) ∧ rk p.2 < D) ∧
    (spB rk D m).2 < m ∧ (∀ k, (spB rk D m).2 < k → k < m → D ≤ rk k) ∧ ((spB rk D m).2 = 0 ∨ rk (spB rk D m).2 < D) := by
  intro m
  induction m with
  | zero => intro h; omega
  | succ k ih =>
    intro _
    rw [spB]
    by_cases h : 0 < k ∧ D ≤ rk k
    · rw [if_pos h]
      obtain ⟨a1, a2, a3, a4⟩ := ih h.1
      refine ⟨fun p hp => ?_, by omega, fun j j1 j2 => ?_, a4⟩
      · obtain ⟨b1, b2, b3⟩ := a1 p hp
        exact ⟨b1, by omega, b3⟩
      · rcases Nat.lt_or_ge j k with h' | h'
        · exact a3 j j1 h'
        · have : j = k := by omega
          subst this; exact h.2
    · rw [if_neg h]
      by_cases h0 : k = 0
      · rw [if_pos h0]
        subst h0
        exact ⟨fun p hp => (nomatch hp), by decide, fun j j1 j2 => by simp at j1; omega, .inl rfl⟩
      · rw [if_neg h0]
        obtain ⟨a1, a2, a3, a4⟩ := ih (by omega)
        have hk : rk k < D := by omega
        refine ⟨fun p hp => ?_, by simp, fun j j1 j2 => by simp at j1; omega, .inr hk⟩
        rcases List.mem_append.1 hp with hp | hp
        · obtain ⟨b1, b2, b3⟩ := a1 p hp
          exact ⟨b1, by omega, b3⟩
        · have := List.mem_singleton.1 hp
          subst this
          exact ⟨a2, by simp, a3, a4, hk⟩
theorem spans_block {rk : Nat → Nat} {D m : Nat} {p : Nat × Nat} (hp : p ∈ spansW rk D m) : Block rk m D p.1 p.2 := by
  unfold spansW at hp
  split at hp
  · cases hp
  · rename_i h
    obtain ⟨a1, a2, a3, a4⟩ := spB_ok (rk := rk) (D := D) m (by omega)
    rcases List.mem_append.1 hp with hp | hp
    · obtain ⟨b1, b2, b3, b4, b5⟩ := a1 p hp
      exact ⟨b1, by omega, b3, b4, .inr b5⟩
    · have := List.mem_singleton.1 hp
      subst this
      exact ⟨a2, Nat.le_refl _, a3, a4, .inl rfl⟩
theorem spansW_len {rk : Nat → Nat} {D : Nat} : ∀ m, (spansW rk D m).length ≤ m := by
  intro m
  induction m with
  | zero => simp [spansW]
  | succ k ih =>
    by_cases h : 0 < k ∧ D ≤ rk k
    · obtain ⟨e1, e2⟩ := spansW_join h
      rw [e2] at ih
      rw [e1]
      simp at ih ⊢
      omega
    · rw [spansW_new h]; simp; omega
theorem spansW_ne {rk : Nat → Nat} {D m : Nat} (h : 0 < m) : spansW rk D m ≠ [] := by
  unfold spansW; rw [if_neg (by omega)]; simp
end Mine
end
section
open PySem PySem.W PySem.Calls PyProof.Rows
set_option maxRecDepth 100000
set_option linter.unusedVariables false
set_option linter.unusedSimpArgs false
namespace Mine
section
variable {Q : Fl → List (Option PV) → List PO → Prop}
theorem turns_list {tgt : FA} {body els : FS} {L : Nat} {l : List PV} (I : Nat → List (Option PV) → List PO → Prop)
    (hL : ∀ k ρ σ, I k ρ σ → σ[L]? = some (.list l))
    (hb : ∀ k p ρ σ, l[k]? = some p → I k ρ σ → wO (tgt p ρ σ) fun ρ₁ σ₁ => wS (body ρ₁ σ₁) fun fl ρ' σ' => match fl with
      | .next => I (k + 1) ρ' σ'
      | .cont => I (k + 1) ρ' σ'
      | .brk => Q .next ρ' σ'
      | .ret p => Q (.ret p) ρ' σ')
    (he : ∀ ρ σ, I l.length ρ σ → wS (els ρ σ) Q) :
    ∀ n (k : Nat) ρ σ, l.length - k < n → k ≤ l.length → I k ρ σ → wS (turns n tgt body els (.seq L k) ρ σ) Q := by
  intro n
  induction n with
  | zero => intro k ρ σ h; omega
  | succ n ih =>
    intro k ρ σ h hk hI
    unfold turns PIt.next
    simp only [hL k ρ σ hI]
    rcases Nat.lt_or_ge k l.length with h1 | h1
    · have e := List.getElem?_eq_getElem h1
      rw [e]
      obtain ⟨ρ₁, σ₁, e1, fl, ρ', σ', e2, q⟩ := hb k l[k] ρ σ e hI
      simp only [e1, e2]
      cases fl with
      | next => exact ih (k + 1) ρ' σ' (by omega) (by omega) q
      | cont => exact ih (k + 1) ρ' σ' (by omega) (by omega) q
      | brk => exact ⟨_, _, _, rfl, q⟩
      | ret p => exact ⟨_, _, _, rfl, q⟩
    · rw [List.getElem?_eq_none h1]
      have : k = l.length := by omega
      subst this
      exact he ρ σ hI
theorem for_list {tgt : FA} {f : FE} {body els : FS} {ρ : List (Option PV)} {σ : List PO} {L : Nat} {l : List PV} (I : Nat → List (Option PV) → List PO → Prop)
    (hf : wO (f ρ σ) fun p σ₁ => p = .ref L ∧ l.length < 1000 ∧ I 0 ρ σ₁)
    (hL : ∀ k ρ σ, I k ρ σ → σ[L]? = some (.list l))
    (hb : ∀ k p ρ σ, l[k]? = some p → I k ρ σ → wO (tgt p ρ σ) fun ρ₁ σ₁ => wS (body ρ₁ σ₁) fun fl ρ' σ' => match fl with
      | .next => I (k + 1) ρ' σ'
      | .cont => I (k + 1) ρ' σ'
      | .brk => Q .next ρ' σ'
      | .ret p => Q (.ret p) ρ' σ')
    (he : ∀ ρ σ, I l.length ρ σ → wS (els ρ σ) Q) : wS (fFor 1000 tgt f body els ρ σ) Q := by
  obtain ⟨p, σ₁, e, rfl, h1, h2⟩ := hf
  unfold fFor
  rw [e]
  simp only [iterOf, hL 0 ρ σ₁ h2]
  exact turns_list I hL hb he 1000 0 ρ σ₁ (by omega) (by omega) h2
end
section
variable {σ : List PO}
theorem eSlice_eq {f a b : FE} {ρ : List (Option PV)} {l : List PV} {i : Nat} {x y : PV} {lo hi : Option Int} (hf : f ρ σ = some (.ref i, σ)) (ha : a ρ σ = some (x, σ)) (hb : b ρ σ = some (y, σ)) (hx : partOf x = some lo) (hy : partOf y = some hi) (h : σ[i]? = some (.list l)) (hl : l.length ≤ 1000000) :
    eSlice f a b ρ σ = some (.ref σ.length, σ ++ [PO.list (sliceL l lo hi)]) := by
  unfold eSlice
  have hs : szOk l.length = true := by rw [szOk_eq]; exact hl
  simp only [hf, ha, hb, hx, hy, h, hs]
theorem slice_go {f a b : FE} {ρ : List (Option PV)} {l : List PV} {i : Nat} {x y : PV} {lo hi : Option Int} {Q : PV → List PO → Prop} (hf : f ρ σ = some (.ref i, σ)) (ha : a ρ σ = some (x, σ)) (hb : b ρ σ = some (y, σ)) (hx : partOf x = some lo) (hy : partOf y = some hi) (h : σ[i]? = some (.list l)) (hl : l.length ≤ 1000000) (hq : Q (.ref σ.length) (σ ++ [PO.list (sliceL l lo hi)])) :
    wO (eSlice f a b ρ σ) Q := by
  rw [eSlice_eq hf ha hb hx hy h hl, wO_some]; exact hq
theorem clip_min {n k : Nat} : clipAt n (k : Int) = min k n := by
  unfold clipAt; rw [if_neg (by omega)]; omega
theorem slice_mid {l : List PV} {lo hi : Nat} : sliceL l (some (lo : Int)) (some (hi : Int)) = (l.drop lo).take (hi - lo) := by
  unfold sliceL
  simp only [Option.elim, clip_min]
  rcases Nat.lt_or_ge lo l.length with h | h
  · rw [show min lo l.length = lo by omega]
    rcases Nat.lt_or_ge hi l.length with h2 | h2
    · rw [show min hi l.length = hi by omega]
    · rw [show min hi l.length = l.length by omega, List.take_of_length_le (by simp), List.take_of_length_le (by simp; omega)]
  · rw [show min lo l.length = l.length by omega]
    simp [List.drop_eq_nil_of_le h]
theorem slice_from {l : List PV} {lo : Nat} : sliceL l (some (lo : Int)) none = l.drop lo := by
  unfold sliceL
  simp only [Option.elim, clip_min]
  rcases Nat.lt_or_ge lo l.length with h | h
  · rw [show min lo l.length = lo by omega, List.take_of_length_le (by simp)]
  · rw [show min lo l.length = l.length by omega]
    simp [List.drop_eq_nil_of_le h]
theorem eqFs_strs : ∀ {n : Nat} (a b : List (List Nat)), a.length = b.length → eqFs (n + 1) σ (a.map fun x => .str (mkS x)) (b.map fun x => .str (mkS x)) = some (a == b)
  | n, [], [], _ => by rw [List.map_nil, eqFs]; rfl
  | n, x :: a, y :: b, h => by
    have := eqFs_strs (n := n) a b (by simpa using h)
    rw [List.map_cons, List.map_cons, eqFs, this, eqF]
    simp only [mkS_beq]
    rfl
theorem eq_lines {a b : List (List Nat)} {i j : Nat} (h : σ[i]? = some (linesO a)) (h2 : σ[j]? = some (linesO b)) (hij : i ≠ j) : eqB 5 (.ref i) (.ref j) σ = some (a == b) := by
  unfold eqB
  rw [eqF]
  simp only [h, h2, linesO, hij, if_false, List.length_map]
  by_cases hl : a.length = b.length
  · rw [if_pos hl]; exact eqFs_strs a b hl
  · rw [if_neg hl]
    have : ¬ a = b := fun e => hl (by rw [e])
    simp [this]
theorem eq_bool {a b : Bool} : eqB 5 (.bool a) (.bool b) σ = some (a == b) := by unfold eqB; rw [eqF]
theorem neB_of {a b : PV} {r : Bool} (h : eqB 5 a b σ = some r) : neB 5 a b σ = some (!r) := by
  unfold eqB at h
  simp only [neB, h]
theorem foldl_min_cast (l : List Nat) (a : Nat) : (l.map fun n : Nat => (n : Int)).foldl min (a : Int) = ((l.foldl min a : Nat) : Int) := by
  induction l generalizing a with
  | nil => rfl
  | cons b r ih =>
    rw [List.map_cons, List.foldl_cons, List.foldl_cons, show min (a : Int) (b : Int) = ((min a b : Nat) : Int) by omega, ih]
end
theorem lrank_run {f : CF} (D V : Addr) (hf : f = runBody [] 3 6 (fSeq (fAsg (fComp 1000 [none, none, some 1, some 0, some 2] (aVar 1) (cOr (cCmp (eqB 5) (eBin idxF (eVar 3) (eLit (.int 0))) (eBin idxF (eVar 4) (eVar 1))) (cCmp (eqB 5) (eBin idxF (eVar 2) (eUn negF (eLit (.int 1)))) (eBin idxF (eVar 4) (eVar 1)))) (eVar 1) (eCall rangeF (eCons (eCall (lenF D (G_len D V)) (eCons (eVar 2) eNil)) eNil))) (aVar 3)) (fSeq (fRet (eIf (cCmp (eqB 5) (eVar 3) (eList eNil)) (eLit (.int 99)) (eBin idxF (eVar 3) (eLit (.int 0))))) fSkip)))
    {σ : List PO} {p q : WP} {sg : List Nat} (nq : q.1 ≠ []) (np : p.2 ≠ []) (sq : q.1.length ≤ 1000) (sp : p.2.length ≤ 1000) (hsg : sg.length ≤ 98) :
    ∃ σ', f [.str (mkS q.1), .str (mkS p.2), .str (mkS sg)] σ = some (.int (rankOf sg p q : Nat), σ') ∧ Keep σ σ' [] := by
  suffices k : wO (f [.str (mkS q.1), .str (mkS p.2), .str (mkS sg)] σ) fun r σ' => r = .int (rankOf sg p q : Nat) ∧ Keep σ σ' [] by
    obtain ⟨r, σ', e, rfl, h⟩ := k; exact ⟨σ', e, h⟩
  subst hf
  obtain ⟨x, qa, hqa⟩ := List.exists_cons_of_ne_nil nq
  obtain ⟨pa, y, hpa⟩ : ∃ a y, p.2 = a ++ [y] := by
    rcases List.eq_nil_or_concat p.2 with h | ⟨a, y, h⟩
    · exact absurd h np
    · exact ⟨a, y, by rw [h, List.concat_eq_append]⟩
  simp only [wO_some, wO_none, w1_some, w1_none, wS_some, wS_none, if_none, szOk_eq, strOk_eq, p_var, p_lit, p_bin, p_un, p_if, p_cmpE, p_cmp, p_not, p_and, p_or, p_val, p_true, p_eAnd, p_eOr, p_notF, p_nil, p_cons, p_tup, p_list, p_call, p_meth, p_star, p_attr, p_skip, p_brk, p_cont, p_retN, p_seq, p_fif, p_ret, p_exp, p_asg, p_aug, p_aVar, p_aPair, p_run, List.map_cons, List.map_nil, List.cons_append, List.nil_append, List.append_nil, List.length_cons, List.length_nil, List.getElem?_cons_zero, List.getElem?_cons_succ, List.set_cons_zero, List.set_cons_succ, List.reduceReplicate, true_and, and_true, if_true, ite_true, Bool.false_eq_true, if_false, reduceIte, false_and, and_false, p_aAttr, p_eSliceA, Nat.reduceLT, Nat.reduceSub, Nat.reduceAdd, Nat.reduceEqDiff, Nat.lt_irrefl, Nat.zero_le]
  refine comp_rng (a := 0) (b := sg.length) (n := sg.length) (hitR sg p q) (fun r => .int r) ?_
  simp only [wO_some, wO_none, w1_some, w1_none, wS_some, wS_none, if_none, szOk_eq, strOk_eq, p_var, p_lit, p_bin, p_un, p_if, p_cmpE, p_cmp, p_not, p_and, p_or, p_val, p_true, p_eAnd, p_eOr, p_notF, p_nil, p_cons, p_tup, p_list, p_call, p_meth, p_star, p_attr, p_skip, p_brk, p_cont, p_retN, p_seq, p_fif, p_ret, p_exp, p_asg, p_aug, p_aVar, p_aPair, p_run, List.map_cons, List.map_nil, List.cons_append, List.nil_append, List.append_nil, List.length_cons, List.length_nil, List.getElem?_cons_zero, List.getElem?_cons_succ, List.set_cons_zero, List.set_cons_succ, List.reduceReplicate, true_and, and_true, if_true, ite_true, Bool.false_eq_true, if_false, reduceIte, false_and, and_false, p_aAttr, p_eSliceA, Nat.reduceLT, Nat.reduceSub, Nat.reduceAdd, Nat.reduceEqDiff, Nat.lt_irrefl, Nat.zero_le, lenF_str (show sg.length ≤ 1000000 by omega), p_range1]
  refine ⟨by simp [smallI]; omega, by omega, by omega, by omega, by omega, ?_, ?_⟩
  · intro r hr acc
    have i3 : idxF (.str (mkS q.1)) (.int 0) (σ ++ [PO.list acc]) = some (.str (mkS [x]), σ ++ [PO.list acc]) := by rw [hqa]; exact idx_s0 (by rw [← hqa]; omega)
    have i4 : idxF (.str (mkS p.2)) (.int (-1)) (σ ++ [PO.list acc]) = some (.str (mkS [y]), σ ++ [PO.list acc]) := by rw [hpa]; exact idx_sL (by rw [← hpa]; omega)
    have i5 : idxF (.str (mkS sg)) (.int (0 + (r : Int))) (σ ++ [PO.list acc]) = some (.str (mkS [sg.getD r 0]), σ ++ [PO.list acc]) := by
      rw [Int.zero_add]; exact idx_sN (by omega) hr
    simp only [fInner, List.map_cons, List.map_nil, Option.bind_none, Option.bind_some, wO_some, wO_none, w1_some, w1_none, wS_some, wS_none, if_none, szOk_eq, strOk_eq, p_var, p_lit, p_bin, p_un, p_if, p_cmpE, p_cmp, p_not, p_and, p_or, p_val, p_true, p_eAnd, p_eOr, p_notF, p_nil, p_cons, p_tup, p_list, p_call, p_meth, p_star, p_attr, p_skip, p_brk, p_cont, p_retN, p_seq, p_fif, p_ret, p_exp, p_asg, p_aug, p_aVar, p_aPair, p_run, List.map_cons, List.map_nil, List.cons_append, List.nil_append, List.append_nil, List.length_cons, List.length_nil, List.getElem?_cons_zero, List.getElem?_cons_succ, List.set_cons_zero, List.set_cons_succ, List.reduceReplicate, true_and, and_true, if_true, ite_true, Bool.false_eq_true, if_false, reduceIte, false_and, and_false, p_aAttr, p_eSliceA, Nat.reduceLT, Nat.reduceSub, Nat.reduceAdd, Nat.reduceEqDiff, Nat.lt_irrefl, Nat.zero_le, Option.join_some, neg_int, i3, i4, i5, eq_str]
    have h1 : ([x] == [sg.getD r 0]) = (q.1.head? == sg[r]?) := by rw [hqa, getD_of (d := 0) hr]; simp
    have h2 : ([y] == [sg.getD r 0]) = (p.2.getLast? == sg[r]?) := by rw [hpa, getD_of (d := 0) hr]; simp
    rw [h1, h2]
    unfold hitR
    by_cases hh : (q.1.head? == sg[r]?) = true
    · simp only [hh, wO_some, wO_none, w1_some, w1_none, wS_some, wS_none, if_none, szOk_eq, strOk_eq, p_var, p_lit, p_bin, p_un, p_if, p_cmpE, p_cmp, p_not, p_and, p_or, p_val, p_true, p_eAnd, p_eOr, p_notF, p_nil, p_cons, p_tup, p_list, p_call, p_meth, p_star, p_attr, p_skip, p_brk, p_cont, p_retN, p_seq, p_fif, p_ret, p_exp, p_asg, p_aug, p_aVar, p_aPair, p_run, List.map_cons, List.map_nil, List.cons_append, List.nil_append, List.append_nil, List.length_cons, List.length_nil, List.getElem?_cons_zero, List.getElem?_cons_succ, List.set_cons_zero, List.set_cons_succ, List.reduceReplicate, true_and, and_true, if_true, ite_true, Bool.false_eq_true, if_false, reduceIte, false_and, and_false, p_aAttr, p_eSliceA, Nat.reduceLT, Nat.reduceSub, Nat.reduceAdd, Nat.reduceEqDiff, Nat.lt_irrefl, Nat.zero_le, Bool.true_or, Int.zero_add, implies_true, forall_const, and_self]
    · simp only [Bool.not_eq_true] at hh
      simp only [hh, wO_some, wO_none, w1_some, w1_none, wS_some, wS_none, if_none, szOk_eq, strOk_eq, p_var, p_lit, p_bin, p_un, p_if, p_cmpE, p_cmp, p_not, p_and, p_or, p_val, p_true, p_eAnd, p_eOr, p_notF, p_nil, p_cons, p_tup, p_list, p_call, p_meth, p_star, p_attr, p_skip, p_brk, p_cont, p_retN, p_seq, p_fif, p_ret, p_exp, p_asg, p_aug, p_aVar, p_aPair, p_run, List.map_cons, List.map_nil, List.cons_append, List.nil_append, List.append_nil, List.length_cons, List.length_nil, List.getElem?_cons_zero, List.getElem?_cons_succ, List.set_cons_zero, List.set_cons_succ, List.reduceReplicate, true_and, and_true, if_true, ite_true, Bool.false_eq_true, if_false, reduceIte, false_and, and_false, p_aAttr, p_eSliceA, Nat.reduceLT, Nat.reduceSub, Nat.reduceAdd, Nat.reduceEqDiff, Nat.lt_irrefl, Nat.zero_le, Bool.false_or, Int.zero_add, implies_true, forall_const, and_self]
  · have h99 : rankOf sg p q = ((List.range sg.length).filter (hitR sg p q)).headD 99 := rfl
    generalize (List.range sg.length).filter (hitR sg p q) = fl at h99
    have K1 : Keep σ (σ ++ [PO.list (fl.map fun (r : Nat) => PV.int (r : Int))] ++ [PO.list []]) [] := (Keep.app (S := [])).trans (Keep.app (S := [])) (by simp)
    have g2 : (σ ++ [PO.list (fl.map fun (r : Nat) => PV.int (r : Int))] ++ [PO.list []])[σ.length]? = some (.list (fl.map fun (r : Nat) => PV.int (r : Int))) := by simp
    have g3 : (σ ++ [PO.list (fl.map fun (r : Nat) => PV.int (r : Int))] ++ [PO.list []])[(σ ++ [PO.list (fl.map fun (r : Nat) => PV.int (r : Int))]).length]? = some (.list []) := by simp
    rw [eqB_nil g2 g3 (by simp)]
    generalize σ ++ [PO.list (fl.map fun (r : Nat) => PV.int (r : Int))] ++ [PO.list []] = σ2 at K1 g2 g3
    rw [w1_some]
    cases fl with
    | nil =>
      simp only [List.map_nil, List.isEmpty_nil, wO_some, wO_none, w1_some, w1_none, wS_some, wS_none, if_none, szOk_eq, strOk_eq, p_var, p_lit, p_bin, p_un, p_if, p_cmpE, p_cmp, p_not, p_and, p_or, p_val, p_true, p_eAnd, p_eOr, p_notF, p_nil, p_cons, p_tup, p_list, p_call, p_meth, p_star, p_attr, p_skip, p_brk, p_cont, p_retN, p_seq, p_fif, p_ret, p_exp, p_asg, p_aug, p_aVar, p_aPair, p_run, List.map_cons, List.map_nil, List.cons_append, List.nil_append, List.append_nil, List.length_cons, List.length_nil, List.getElem?_cons_zero, List.getElem?_cons_succ, List.set_cons_zero, List.set_cons_succ, List.reduceReplicate, true_and, and_true, if_true, ite_true, Bool.false_eq_true, if_false, reduceIte, false_and, and_false, p_aAttr, p_eSliceA, Nat.reduceLT, Nat.reduceSub, Nat.reduceAdd, Nat.reduceEqDiff, Nat.lt_irrefl, Nat.zero_le]
      exact ⟨by rw [h99]; rfl, K1⟩
    | cons r fl =>
      simp only [List.map_cons, List.isEmpty_cons, wO_some, wO_none, w1_some, w1_none, wS_some, wS_none, if_none, szOk_eq, strOk_eq, p_var, p_lit, p_bin, p_un, p_if, p_cmpE, p_cmp, p_not, p_and, p_or, p_val, p_true, p_eAnd, p_eOr, p_notF, p_nil, p_cons, p_tup, p_list, p_call, p_meth, p_star, p_attr, p_skip, p_brk, p_cont, p_retN, p_seq, p_fif, p_ret, p_exp, p_asg, p_aug, p_aVar, p_aPair, p_run, List.map_cons, List.map_nil, List.cons_append, List.nil_append, List.append_nil, List.length_cons, List.length_nil, List.getElem?_cons_zero, List.getElem?_cons_succ, List.set_cons_zero, List.set_cons_succ, List.reduceReplicate, true_and, and_true, if_true, ite_true, Bool.false_eq_true, if_false, reduceIte, false_and, and_false, p_aAttr, p_eSliceA, Nat.reduceLT, Nat.reduceSub, Nat.reduceAdd, Nat.reduceEqDiff, Nat.lt_irrefl, Nat.zero_le]
      rw [show (0 : Int) = ((0 : Nat) : Int) from rfl, idx_list g2 (show (List.map (fun (r : Nat) => PV.int r) (r :: fl))[(0 : Nat)]? = some (.int r) from rfl) (by omega), wO_some]
      exact ⟨by rw [h99]; rfl, K1⟩
theorem rowsF_len {n : Nat} {w : Int} {sg : List Nat} {ps : List WP} : (rowsF n w sg ps).length ≤ ps.length + 1 := by
  have fb := (feed_bound (w := w) (sg := sg) ps (n, [], [])).2.2.2
  unfold rowsF rowsOf
  generalize feedF w sg (n, [], []) ps = st at fb ⊢
  simp only [List.length_nil] at fb
  split
  · simp
  · unfold nlL
    split
    · simp; omega
    · omega
section
variable {D V : Addr} {σ : List PO} {ps : List WP} {sg wsp : List Nat} {w : Int}
theorem told_run (n : Nat) (W : WfP ps) (P : PsVis ps) (hn : n ≤ 1000) (hf : (flat ps).length ≤ 20000) (hl : ps.length ≤ 800) (hsg : sg.length < 1000) (hsg2 : ∀ c ∈ sg, c < 128) (hws : wsp.length ≤ 1000000) :
    ∃ σ1 σ2, fMake (.inst V []) (G_init_v D V) [.int n, .int w, .str (mkS wsp), .str (mkS sg)] σ = some (.ref σ.length, σ1) ∧ isA V (.ref σ.length) σ1 = true ∧
      G_split D V [.ref σ.length, .str (mkS []), .str (mkS (flat ps)), .str (mkS [])] σ1 = some (.none, σ2) ∧ isA V (.ref σ.length) σ2 = true ∧
      ∃ t r σ3 σ', G_vstr D V [.ref σ.length, .str (mkS [124])] σ2 = some (.str (mkS t), σ3) ∧ splitF [.str (mkS t), .str (mkS [124])] σ3 = some (.ref r, σ') ∧
        σ'[r]? = some (linesO (rowsF n w sg ps)) ∧ Keep σ σ' [] ∧ σ.length ≤ r := by
  have e1 := make_eq (D := D) (V := V) (σ := σ) (n := n) (w := w) (ws := wsp) (signs := sg) hws
  have F1 : FmtAt D V (σ ++ [vfO V w wsp sg (σ.length + 1) (σ.length + 2), PO.list [], accO D n []]) σ.length w wsp sg (σ.length + 1) (σ.length + 2) n [] [] := ⟨by simp, by rw [gx]; rfl, by rw [gx]; rfl⟩
  have K1 : Keep σ (σ ++ [vfO V w wsp sg (σ.length + 1) (σ.length + 2), PO.list [], accO D n []]) [] := Keep.app
  generalize σ ++ [vfO V w wsp sg (σ.length + 1) (σ.length + 2), PO.list [], accO D n []] = σ1 at e1 F1 K1
  obtain ⟨σ2, e2, F2, K2⟩ := split_ok' F1 W (by simp [flat] at hf ⊢; omega) (by simp; omega) (by simp; omega) hsg hsg2
  have fb := feed_bound (w := w) (sg := sg) ps (n, [], [])
  simp only [List.length_nil, flat, List.flatMap_nil] at fb
  have so := feed_ok (w := w) (sg := sg) ps _ _ (st0_ok n) P
  obtain ⟨r, σ', ⟨σ3, e3, e4⟩, hr, K3, hlt⟩ := told_eq F2 so (by omega) (by omega) (by omega) (by omega)
  have hk : Keep σ σ2 [] := K1.trans K2 (by
    intro x hx
    simp only [List.mem_cons, List.not_mem_nil, or_false] at hx
    rcases hx with rfl | rfl <;> left <;> omega)
  refine ⟨σ1, σ2, e1, isA_inst F1.vf, e2, isA_inst F2.vf, _, r, σ3, σ', e3, e4, hr, hk.trans K3 (by
    intro x hx
    simp only [List.mem_cons, List.not_mem_nil, or_false] at hx
    rcases hx with rfl | rfl <;> left <;> omega), ?_⟩
  have : σ.length ≤ σ2.length := hk.len
  omega
end
end Mine
end
section
open PySem PySem.W PySem.Calls PyProof.Rows
set_option maxRecDepth 100000
set_option linter.unusedVariables false
set_option linter.unusedSimpArgs false
namespace Mine
def ckO (op : List Nat) (k : Nat) (x : Int) : WP := (if k = 0 then op else blankL.getD (x / 12 % 4).toNat [], List.replicate (1 + x % 4).toNat (97 + k) ++ endL.getD (x / 4 % 3).toNat [])
def chunksO (op : List Nat) (ns : List Int) : List WP := (List.range ns.length).map fun k => ckO op k (ns.getD k 0)
theorem ws_space {x : Nat} (h : ws x = true) : Unicode.isSpace x = true := by
  unfold ws at h
  simp only [Bool.or_eq_true, beq_iff_eq] at h
  rcases h with rfl | rfl <;> decide +kernel
theorem blank_ws {j : Nat} (h : j < 4) : ∀ x ∈ blankL.getD j [], ws x = true := by
  have : j = 0 ∨ j = 1 ∨ j = 2 ∨ j = 3 := by omega
  rcases this with rfl | rfl | rfl | rfl <;> decide
theorem end_ws {j : Nat} (h : j < 3) : ∀ x ∈ endL.getD j [], ws x = false := by
  have : j = 0 ∨ j = 1 ∨ j = 2 := by omega
  rcases this with rfl | rfl | rfl <;> decide
structure CkW (p : WP) : Prop where
  w : p.2 ≠ []
  l : p.1.length + p.2.length ≤ 7
  vis : ∃ y ∈ p.2, Unicode.isSpace y = false
  bar : 124 ∉ p.1 ∧ 124 ∉ p.2
  bw : ∀ x ∈ p.1, ws x = true
  ww : ∀ x ∈ p.2, ws x = false
theorem ckO_ok {op : List Nat} {k : Nat} {x : Int} (ho : op = [] ∨ op = [32]) (hk : k < 14) : CkW (ckO op k x) := by
  have b := blank_ok (j := (x / 12 % 4).toNat) (by omega)
  have b2 := blank_ws (j := (x / 12 % 4).toNat) (by omega)
  have e := endL_ok (j := (x / 4 % 3).toNat) (by omega)
  have e2 := end_ws (j := (x / 4 % 3).toNat) (by omega)
  have hr : 1 ≤ (1 + x % 4).toNat ∧ (1 + x % 4).toNat ≤ 4 := by omega
  have hmem : (97 + k) ∈ (ckO op k x).2 := by
    unfold ckO
    exact List.mem_append_left _ (List.mem_replicate.2 ⟨by omega, rfl⟩)
  have h1 : (ckO op k x).1.length ≤ 2 ∧ 124 ∉ (ckO op k x).1 ∧ ∀ y ∈ (ckO op k x).1, ws y = true := by
    unfold ckO
    simp only
    split
    · rcases ho with rfl | rfl
      · simp
      · refine ⟨by simp, by simp, by decide⟩
    · exact ⟨b.2.1, b.2.2.2, b2⟩
  refine ⟨List.ne_nil_of_mem hmem, ?_, ⟨_, hmem, letter_ok hk⟩, ⟨h1.2.1, ?_⟩, h1.2.2, ?_⟩
  · have := h1.1
    have h2 : (ckO op k x).2.length ≤ 5 := by unfold ckO; simp only [List.length_append, List.length_replicate]; omega
    omega
  · unfold ckO; simp only
    intro h
    rcases List.mem_append.1 h with h | h
    · have := (List.mem_replicate.1 h).2; omega
    · exact e.2 h
  · unfold ckO; simp only
    intro y hy
    rcases List.mem_append.1 hy with h | h
    · have := (List.mem_replicate.1 h).2
      subst this
      unfold ws
      simp only [Bool.or_eq_false_iff, beq_eq_false_iff_ne]
      omega
    · exact e2 y h
theorem chunksO_get {op : List Nat} {xs : List Int} {k : Nat} {p : WP} (h : (chunksO op xs)[k]? = some p) : k < xs.length ∧ p = ckO op k (xs.getD k 0) := by
  unfold chunksO at h
  rw [List.getElem?_map] at h
  rcases Nat.lt_or_ge k xs.length with h1 | h1
  · rw [List.getElem?_range h1] at h
    exact ⟨h1, (Option.some.inj h).symm⟩
  · rw [List.getElem?_eq_none (by simpa using h1)] at h; cases h
theorem chunksO_len {op : List Nat} {xs : List Int} : (chunksO op xs).length = xs.length := by simp [chunksO]
structure TxOk (ps : List WP) : Prop where
  ck : ∀ p ∈ ps, CkW p
  bl : ∀ (k : Nat) p, ps[k + 1]? = some p → p.1 ≠ []
theorem chunksO_ok {op : List Nat} {xs : List Int} (ho : op = [] ∨ op = [32]) (h : xs.length ≤ 14) : TxOk (chunksO op xs) where
  ck := fun p hp => by
    obtain ⟨k, hk⟩ := List.getElem?_of_mem hp
    obtain ⟨h1, rfl⟩ := chunksO_get hk
    exact ckO_ok ho (by omega)
  bl := fun k p hp => by
    obtain ⟨h1, rfl⟩ := chunksO_get hp
    unfold ckO
    simp only [show ¬ (k + 1 = 0) by omega, if_false]
    exact (blank_ok (by omega)).1
theorem chunksO_op {op : List Nat} {xs : List Int} (ho : op ≠ []) : ∀ p ∈ chunksO op xs, p.1 ≠ [] := by
  intro p hp
  obtain ⟨k, hk⟩ := List.getElem?_of_mem hp
  obtain ⟨h1, rfl⟩ := chunksO_get hk
  unfold ckO
  simp only
  split
  · exact ho
  · exact (blank_ok (by omega)).1
section
variable {ps : List WP}
theorem TxOk.vis (h : TxOk ps) : PsVis ps := ⟨fun p hp => (h.ck p hp).vis, fun p hp => (h.ck p hp).bar⟩
theorem TxOk.white (h : TxOk ps) : WhiteB ps := fun k p hp x hx => ws_space ((h.ck p (List.mem_of_getElem? hp)).bw x hx)
theorem TxOk.psok (h : TxOk ps) : PsOk ps where
  word := fun k p hp => (h.ck p (List.mem_of_getElem? hp)).w
  blank := h.bl
  small := fun p hp => by have := (h.ck p hp).l; omega
theorem TxOk.wf (h : TxOk ps) : WfP ps where
  wne := fun p hp => (h.ck p hp).w
  wok := fun p hp => (h.ck p hp).ww
  bok := fun p hp => (h.ck p hp).bw
  bne := fun p hp => by
    obtain ⟨k, hk⟩ := List.getElem?_of_mem hp
    rw [List.getElem?_tail] at hk
    exact h.bl k p hk
theorem TxOk.flat_le (h : TxOk ps) : (flat ps).length ≤ 7 * ps.length := flat_bound ps fun p hp => (h.ck p hp).l
end
def nums (ns : List Int) : List Int := ns ++ [0, 0]
theorem nums_get {N : List Int} {k : Nat} (h : k < N.length) : (N.map PV.int)[k]? = some (.int (N.getD k 0)) := by
  rw [List.getElem?_map, List.getElem?_eq_getElem h, List.getD_eq_getElem?_getD, List.getElem?_eq_getElem h]; rfl
theorem natsL_snoc {f : Nat → Nat} {k : Nat} : natsL ((List.range (k + 1)).map f) = natsL ((List.range k).map f) ++ [.int (f k : Nat)] := by
  unfold natsL; rw [List.range_succ]; simp
theorem p_cmp2 {ρ : List (Option PV)} {σ : List PO} {k l} {f g j : FE} {Q : Bool → List PO → Prop} : wO (cCmp2 k l f g j ρ σ) Q = wO (f ρ σ) fun x σ₁ => wO (g ρ σ₁) fun y σ₂ => w1 (k x y σ₂) fun r => if r = true then wO (j ρ σ₂) fun z σ₃ => w1 (l y z σ₃) fun r => Q r σ₃ else Q false σ₂ := by
  unfold cCmp2
  cases f ρ σ with
  | none => simp only [wO_none]
  | some r => obtain ⟨x, s⟩ := r; simp only [wO_some]; cases g ρ s with
    | none => simp only [wO_none]
    | some r => obtain ⟨y, t⟩ := r; simp only [wO_some]; cases k x y t with
      | none => simp only [wO_none, w1_none]
      | some r => cases r with
        | false => simp only [wO_some, w1_some, Bool.false_eq_true, if_false]
        | true =>
          simp only [w1_some, if_true]
          cases j ρ t with
          | none => simp only [wO_none]
          | some r => obtain ⟨z, u⟩ := r; simp only [wO_some]; cases l y z u with
            | none => simp only [wO_none, w1_none]
            | some r => simp only [wO_some, w1_some]
theorem natsL_filterMap (l : List Nat) (g : Nat → Bool) : (natsL l).filterMap (fun p => match p with
    | .int k => if g k.toNat = true then some (PV.int k) else none
    | _ => none) = natsL (l.filter g) := by
  induction l with
  | nil => rfl
  | cons x r ih =>
    rw [show natsL (x :: r) = .int (x : Int) :: natsL r from rfl, List.filter_cons]
    by_cases h : g x = true
    · rw [List.filterMap_cons_some (b := .int (x : Int)) (by simp [h]), ih, if_pos h]; rfl
    · rw [List.filterMap_cons_none (by simp [h]), ih, if_neg h]
theorem comp_nats {mp : List (Option Nat)} {i : Nat} {tst : FB} {elt f : FE} {ρ : List (Option PV)} {σ₀ : List PO} {l : List Nat} (g : Nat → Bool) {Q : PV → List PO → Prop}
    (hf : wO (f ρ σ₀) fun x σ => ∃ L, x = .ref L ∧ σ[L]? = some (.list (natsL l)) ∧ l.length < 1000 ∧
      (∀ v ∈ l, ∀ acc, wO (tst ((fInner mp ρ).set i (some (.int (v : Nat)))) (σ ++ [.list acc])) fun t σ₂ => σ₂ = σ ++ [.list acc] ∧ t = g v ∧
        (g v = true → wO (elt ((fInner mp ρ).set i (some (.int (v : Nat)))) (σ ++ [.list acc])) fun q σ₃ => σ₃ = σ ++ [.list acc] ∧ q = .int (v : Nat))) ∧
      Q (.ref σ.length) (σ ++ [.list (natsL (l.filter g))])) :
    wO (fComp 1000 mp (aVar i) tst elt f ρ σ₀) Q := by
  refine comp_pure (items := natsL l) (fun p => match p with
    | .int k => if g k.toNat = true then some (PV.int k) else none
    | _ => none) (fun ρ' => ∃ v, ρ' = (fInner mp ρ).set i v ∨ ρ' = fInner mp ρ) ?_
  refine hf.mono ?_
  rintro x σ ⟨L, rfl, hL, hn2, hs, hQ⟩
  refine ⟨.seq L 0, ?_, its_list (l := natsL l) (fun σ' hσ => ?_) (natsL l) 0 rfl, by rw [natsL_len]; exact hn2, ⟨none, .inr rfl⟩, ?_, ?_⟩
  · simp only [iterOf, hL]
  · obtain ⟨acc, rfl⟩ := hσ
    exact Keep.app (S := []) _ _ hL (by simp)
  · intro p hp ρ' hρ acc
    obtain ⟨v, hv, rfl⟩ := List.mem_map.1 hp
    have e1 : ρ'.set i (some (.int (v : Nat))) = (fInner mp ρ).set i (some (.int (v : Nat))) := by
      obtain ⟨v, rfl | rfl⟩ := hρ
      · rw [List.set_set]
      · rfl
    rw [p_aVar, e1]
    refine ⟨rfl, ⟨_, .inl rfl⟩, ?_⟩
    refine (hs v hv acc).mono ?_
    rintro t σ₂ ⟨rfl, rfl, he⟩
    refine ⟨rfl, ?_⟩
    by_cases hg : g v = true
    · rw [if_pos hg]
      refine (he hg).mono ?_
      rintro q σ₃ ⟨rfl, rfl⟩
      refine ⟨rfl, ?_⟩
      simp only [Int.toNat_natCast, hg, if_true]
    · rw [if_neg hg]
      simp only [Int.toNat_natCast, hg, if_false]
      simp
  · rw [natsL_filterMap]; exact hQ
theorem natsL_drop {l : List Nat} {k : Nat} : (natsL l).drop k = natsL (l.drop k) := by unfold natsL; rw [List.map_drop]
theorem natsL_take {l : List Nat} {k : Nat} : (natsL l).take k = natsL (l.take k) := by unfold natsL; rw [List.map_take]
end Mine
end
section
open PySem PySem.W PySem.Calls PyProof.Rows
set_option maxRecDepth 100000
set_option linter.unusedVariables false
set_option linter.unusedSimpArgs false
namespace Mine
theorem G_lenE : F_len = G_len 200 116 := rfl
theorem G_vstrE : F_vstr = G_vstr 200 116 := rfl
theorem G_init_vE : F_init_v = G_init_v 200 116 := rfl
theorem G_splitE : F_split = G_split 200 116 := rfl
theorem bl_idx {σ : List PO} {j : Nat} (h : j < 4) : idxF pv_law_BLANKS (.int (j : Int)) σ = some (.str (mkS (blankL.getD j [])), σ) := by
  refine idx_tup ?_ (by omega)
  have : j = 0 ∨ j = 1 ∨ j = 2 ∨ j = 3 := by omega
  rcases this with rfl | rfl | rfl | rfl <;> rfl
theorem en_idx {σ : List PO} {j : Nat} (h : j < 3) : idxF pv_law_ENDS (.int (j : Int)) σ = some (.str (mkS (endL.getD j [])), σ) := by
  refine idx_tup ?_ (by omega)
  have : j = 0 ∨ j = 1 ∨ j = 2 := by omega
  rcases this with rfl | rfl | rfl <;> rfl
section
variable {σ : List PO}
theorem lchunks4 {a : Nat} {ns : List Int} {op : List Nat} (h : σ[a]? = some (.list (ns.map .int))) (hn : ns.length ≤ 14) :
    ∃ c σ', F_lchunks [.ref a, .str (mkS op)] σ = some (.ref c, σ') ∧ σ'[c]? = some (.list ((chunksO op ns).map pvP)) ∧ Keep σ σ' [] ∧ σ.length ≤ c := by
  suffices k : wO (F_lchunks [.ref a, .str (mkS op)] σ) fun p σ' => ∃ c, p = .ref c ∧ σ'[c]? = some (.list ((chunksO op ns).map pvP)) ∧ Keep σ σ' [] ∧ σ.length ≤ c by
    obtain ⟨p, σ', e, c, rfl, h⟩ := k; exact ⟨c, σ', e, h⟩
  have hl0 : (ns.map PV.int).length ≤ 1000000 := by simp; omega
  have h1 : (σ ++ [PO.list []])[a]? = some (.list (ns.map .int)) := Keep.app (S := []) _ _ h (by simp)
  simp only [F_lchunks, f_lchunks, wO_some, wO_none, w1_some, w1_none, wS_some, wS_none, if_none, szOk_eq, strOk_eq, p_var, p_lit, p_bin, p_un, p_if, p_cmpE, p_cmp, p_not, p_and, p_or, p_val, p_true, p_eAnd, p_eOr, p_notF, p_nil, p_cons, p_tup, p_list, p_call, p_meth, p_star, p_attr, p_skip, p_brk, p_cont, p_retN, p_seq, p_fif, p_ret, p_exp, p_asg, p_aug, p_aVar, p_aPair, p_run, List.map_cons, List.map_nil, List.cons_append, List.nil_append, List.append_nil, List.length_cons, List.length_nil, List.getElem?_cons_zero, List.getElem?_cons_succ, List.set_cons_zero, List.set_cons_succ, List.reduceReplicate, true_and, and_true, if_true, ite_true, Bool.false_eq_true, if_false, reduceIte, false_and, and_false, p_aAttr, p_eSliceA, Nat.reduceLT, Nat.reduceSub, Nat.reduceAdd, Nat.reduceEqDiff, Nat.lt_irrefl, Nat.zero_le]
  refine for_up (a := 0) (b := ns.length) (fun k ρ' σ' => ∃ j : Nat, k = j ∧ j ≤ ns.length ∧ (∃ v2 v3 v4, ρ' = [some (.ref a), some (.str (mkS op)), some (.ref σ.length), v2, v3, v4, none, none, none, none]) ∧
    σ'[σ.length]? = some (.list (((List.range j).map fun k => ckO op k (ns.getD k 0)).map pvP)) ∧ σ'[a]? = some (.list (ns.map .int)) ∧ Keep σ σ' []) ?_ ?_ ?_
  · simp only [wO_some, wO_none, w1_some, w1_none, wS_some, wS_none, if_none, szOk_eq, strOk_eq, p_var, p_lit, p_bin, p_un, p_if, p_cmpE, p_cmp, p_not, p_and, p_or, p_val, p_true, p_eAnd, p_eOr, p_notF, p_nil, p_cons, p_tup, p_list, p_call, p_meth, p_star, p_attr, p_skip, p_brk, p_cont, p_retN, p_seq, p_fif, p_ret, p_exp, p_asg, p_aug, p_aVar, p_aPair, p_run, List.map_cons, List.map_nil, List.cons_append, List.nil_append, List.append_nil, List.length_cons, List.length_nil, List.getElem?_cons_zero, List.getElem?_cons_succ, List.set_cons_zero, List.set_cons_succ, List.reduceReplicate, true_and, and_true, if_true, ite_true, Bool.false_eq_true, if_false, reduceIte, false_and, and_false, p_aAttr, p_eSliceA, Nat.reduceLT, Nat.reduceSub, Nat.reduceAdd, Nat.reduceEqDiff, Nat.lt_irrefl, Nat.zero_le, G_lenE, lenF_list h1 hl0, p_range1, List.length_map]
    refine ⟨by simp [smallI]; omega, by omega, by omega, by omega, 0, rfl, by omega, ⟨_, _, _, rfl⟩, by simp, h1, Keep.app⟩
  · rintro k ρ' σ' hk ⟨j, rfl, hj, ⟨v2, v3, v4, rfl⟩, hc, ha, K⟩
    have hj : j < ns.length := by omega
    have hx : (ns.map PV.int)[j]? = some (.int (ns.getD j 0)) := by
      rw [List.getElem?_map, List.getElem?_eq_getElem hj, List.getD_eq_getElem?_getD, List.getElem?_eq_getElem hj]; rfl
    generalize hX : ns.getD j 0 = x at hx
    have i1 := idx_list ha hx (by omega)
    have cA : ("abcdefghijklmn" : Str) = mkS [97, 98, 99, 100, 101, 102, 103, 104, 105, 106, 107, 108, 109, 110] := by decide +kernel
    have i2 : idxF (.str ("abcdefghijklmn" : Str)) (.int (j : Int)) σ' = some (.str (mkS [97 + j]), σ') := by
      rw [cA, idx_sN (by decide) (by simp; omega)]
      have : j = 0 ∨ j = 1 ∨ j = 2 ∨ j = 3 ∨ j = 4 ∨ j = 5 ∨ j = 6 ∨ j = 7 ∨ j = 8 ∨ j = 9 ∨ j = 10 ∨ j = 11 ∨ j = 12 ∨ j = 13 := by omega
      rcases this with rfl | rfl | rfl | rfl | rfl | rfl | rfl | rfl | rfl | rfl | rfl | rfl | rfl | rfl <;> rfl
    have m1 : x % 4 = ((x % 4).toNat : Int) := by omega
    have m2 : x / 4 % 3 = ((x / 4 % 3).toNat : Int) := by omega
    have m3 : x / 12 % 4 = ((x / 12 % 4).toNat : Int) := by omega
    have e1 := en_idx (σ := σ') (j := (x / 4 % 3).toNat) (by omega)
    rw [← m2] at e1
    have b1 := bl_idx (σ := σ') (j := (x / 12 % 4).toNat) (by omega)
    rw [← m3] at b1
    have hnew : (List.range (j + 1)).map (fun k => ckO op k (ns.getD k 0)) = (List.range j).map (fun k => ckO op k (ns.getD k 0)) ++ [ckO op j x] := by
      rw [List.range_succ, List.map_append, ← hX]; rfl
    have hend : (endL.getD (x / 4 % 3).toNat []).length ≤ 1 := by
      have : (x / 4 % 3).toNat = 0 ∨ (x / 4 % 3).toNat = 1 ∨ (x / 4 % 3).toNat = 2 := by omega
      rcases this with e | e | e <;> rw [e] <;> decide
    have e5 := mul_str (σ := σ') (a := [97 + j]) (n := 1 + x % 4) (by omega) (by simp)
    rw [flat_rep] at e5
    have e6 := add_str (σ := σ') (a := List.replicate (1 + x % 4).toNat (97 + j)) (b := endL.getD (x / 4 % 3).toNat []) (by rw [List.length_replicate]; omega)
    simp only [wO_some, wO_none, w1_some, w1_none, wS_some, wS_none, if_none, szOk_eq, strOk_eq, p_var, p_lit, p_bin, p_un, p_if, p_cmpE, p_cmp, p_not, p_and, p_or, p_val, p_true, p_eAnd, p_eOr, p_notF, p_nil, p_cons, p_tup, p_list, p_call, p_meth, p_star, p_attr, p_skip, p_brk, p_cont, p_retN, p_seq, p_fif, p_ret, p_exp, p_asg, p_aug, p_aVar, p_aPair, p_run, List.map_cons, List.map_nil, List.cons_append, List.nil_append, List.append_nil, List.length_cons, List.length_nil, List.getElem?_cons_zero, List.getElem?_cons_succ, List.set_cons_zero, List.set_cons_succ, List.reduceReplicate, true_and, and_true, if_true, ite_true, Bool.false_eq_true, if_false, reduceIte, false_and, and_false, p_aAttr, p_eSliceA, Nat.reduceLT, Nat.reduceSub, Nat.reduceAdd, Nat.reduceEqDiff, Nat.lt_irrefl, Nat.zero_le, i1, i2, mod_int (show (0 : Int) < 4 ∧ (4 : Int) < 1000 by omega), mod_int (show (0 : Int) < 3 ∧ (3 : Int) < 1000 by omega), div_int (show (0 : Int) < 4 ∧ (4 : Int) < 1000 by omega), div_int (show (0 : Int) < 12 ∧ (12 : Int) < 1000 by omega), add_int, e1, b1, e5, e6, isL_of hc, eq_int]
    have fin : ∀ p : PV, p = pvP (ckO op j x) → wO (appendF [.ref σ.length, p] σ') fun p σ₁ => p = .none ∧ ∃ j_1 : Nat, ((j : Int) + 1) = j_1 ∧ j_1 ≤ ns.length ∧ (∃ v2 v3 v4, [some (.ref a), some (.str (mkS op)), some (.ref σ.length), some (PV.int (j : Int)), some (.int x), some (.str (mkS (List.replicate (1 + x % 4).toNat (97 + j) ++ endL.getD (x / 4 % 3).toNat []))), none, none, none, none] = [some (.ref a), some (.str (mkS op)), some (.ref σ.length), v2, v3, v4, none, none, none, none]) ∧
        σ₁[σ.length]? = some (.list (((List.range j_1).map fun k => ckO op k (ns.getD k 0)).map pvP)) ∧ σ₁[a]? = some (.list (ns.map .int)) ∧ Keep σ σ₁ [] := by
      rintro p rfl
      rw [append_eq hc (by simp; omega), wO_some]
      refine ⟨rfl, j + 1, by omega, by omega, ⟨_, _, _, rfl⟩, ?_, ?_, ?_⟩
      · rw [hnew, List.getElem?_set_self (List.getElem?_eq_some_iff.1 hc).1]; simp
      · have : σ.length ≠ a := by have := (List.getElem?_eq_some_iff.1 h).1; omega
        rw [List.getElem?_set_ne this]; exact ha
      · exact K.trans Keep.set (by simp)
    by_cases hj0 : j = 0
    · rw [if_pos (by simp [hj0])]
      exact ⟨by omega, fin _ (by subst hj0; simp only [pvP, ckO, if_true])⟩
    · rw [if_neg (by simp; omega)]
      exact ⟨by omega, fin _ (by simp only [pvP, ckO, hj0, if_false])⟩
  · rintro k ρ' σ' hk ⟨j, rfl, hj, ⟨v2, v3, v4, rfl⟩, hc, ha, K⟩
    have : j = ns.length := by omega
    subst this
    simp only [wO_some, wO_none, w1_some, w1_none, wS_some, wS_none, if_none, szOk_eq, strOk_eq, p_var, p_lit, p_bin, p_un, p_if, p_cmpE, p_cmp, p_not, p_and, p_or, p_val, p_true, p_eAnd, p_eOr, p_notF, p_nil, p_cons, p_tup, p_list, p_call, p_meth, p_star, p_attr, p_skip, p_brk, p_cont, p_retN, p_seq, p_fif, p_ret, p_exp, p_asg, p_aug, p_aVar, p_aPair, p_run, List.map_cons, List.map_nil, List.cons_append, List.nil_append, List.append_nil, List.length_cons, List.length_nil, List.getElem?_cons_zero, List.getElem?_cons_succ, List.set_cons_zero, List.set_cons_succ, List.reduceReplicate, true_and, and_true, if_true, ite_true, Bool.false_eq_true, if_false, reduceIte, false_and, and_false, p_aAttr, p_eSliceA, Nat.reduceLT, Nat.reduceSub, Nat.reduceAdd, Nat.reduceEqDiff, Nat.lt_irrefl, Nat.zero_le]
    exact ⟨_, rfl, hc, K, by omega⟩
theorem lranks_eq {c : Nat} {ps : List WP} {sg : List Nat} (h : σ[c]? = some (.list (ps.map pvP))) (hn : ps.length ≤ 900) (P : PsOk ps) (hsg : sg.length ≤ 98) :
    ∃ r σ', F_lranks [.ref c, .str (mkS sg)] σ = some (.ref r, σ') ∧ σ'[r]? = some (.list (ranksOf sg ps (max 1 ps.length))) ∧ Keep σ σ' [] ∧ σ.length ≤ r := by
  suffices k : wO (F_lranks [.ref c, .str (mkS sg)] σ) fun p σ' => ∃ r, p = .ref r ∧ σ'[r]? = some (.list (ranksOf sg ps (max 1 ps.length))) ∧ Keep σ σ' [] ∧ σ.length ≤ r by
    obtain ⟨p, σ', e, c, rfl, h⟩ := k; exact ⟨c, σ', e, h⟩
  have hl0 : (ps.map pvP).length ≤ 1000000 := by simp; omega
  have h1 : (σ ++ [PO.list [.int 99]])[c]? = some (.list (ps.map pvP)) := Keep.app (S := []) _ _ h (by simp)
  simp only [F_lranks, f_lranks, wO_some, wO_none, w1_some, w1_none, wS_some, wS_none, if_none, szOk_eq, strOk_eq, p_var, p_lit, p_bin, p_un, p_if, p_cmpE, p_cmp, p_not, p_and, p_or, p_val, p_true, p_eAnd, p_eOr, p_notF, p_nil, p_cons, p_tup, p_list, p_call, p_meth, p_star, p_attr, p_skip, p_brk, p_cont, p_retN, p_seq, p_fif, p_ret, p_exp, p_asg, p_aug, p_aVar, p_aPair, p_run, List.map_cons, List.map_nil, List.cons_append, List.nil_append, List.append_nil, List.length_cons, List.length_nil, List.getElem?_cons_zero, List.getElem?_cons_succ, List.set_cons_zero, List.set_cons_succ, List.reduceReplicate, true_and, and_true, if_true, ite_true, Bool.false_eq_true, if_false, reduceIte, false_and, and_false, p_aAttr, p_eSliceA, Nat.reduceLT, Nat.reduceSub, Nat.reduceAdd, Nat.reduceEqDiff, Nat.lt_irrefl, Nat.zero_le]
  refine ⟨by omega, ?_⟩
  refine for_up (a := 1) (b := ps.length) (fun k ρ' σ' => ∃ j : Nat, k = j ∧ 1 ≤ j ∧ (j ≤ max 1 ps.length) ∧ (∃ v3 v4, ρ' = [some (.ref c), some (.str (mkS sg)), some (.ref σ.length), v3, v4, none, none]) ∧
    σ'[σ.length]? = some (.list (ranksOf sg ps j)) ∧ σ'[c]? = some (.list (ps.map pvP)) ∧ Keep σ σ' []) ?_ ?_ ?_
  · simp only [wO_some, wO_none, w1_some, w1_none, wS_some, wS_none, if_none, szOk_eq, strOk_eq, p_var, p_lit, p_bin, p_un, p_if, p_cmpE, p_cmp, p_not, p_and, p_or, p_val, p_true, p_eAnd, p_eOr, p_notF, p_nil, p_cons, p_tup, p_list, p_call, p_meth, p_star, p_attr, p_skip, p_brk, p_cont, p_retN, p_seq, p_fif, p_ret, p_exp, p_asg, p_aug, p_aVar, p_aPair, p_run, List.map_cons, List.map_nil, List.cons_append, List.nil_append, List.append_nil, List.length_cons, List.length_nil, List.getElem?_cons_zero, List.getElem?_cons_succ, List.set_cons_zero, List.set_cons_succ, List.reduceReplicate, true_and, and_true, if_true, ite_true, Bool.false_eq_true, if_false, reduceIte, false_and, and_false, p_aAttr, p_eSliceA, Nat.reduceLT, Nat.reduceSub, Nat.reduceAdd, Nat.reduceEqDiff, Nat.lt_irrefl, Nat.zero_le, G_lenE, lenF_list h1 hl0, p_range2, List.length_map]
    refine ⟨by simp [smallI]; omega, by omega, by omega, by omega, 1, rfl, by omega, by omega, ⟨_, _, rfl⟩, by simp; rfl, h1, Keep.app⟩
  · rintro k ρ' σ' hk ⟨j, rfl, hj1, hj2, ⟨v3, v4, rfl⟩, hr, hc, K⟩
    have hjl : j < ps.length := by omega
    obtain ⟨i, rfl⟩ : ∃ i, j = i + 1 := ⟨j - 1, by omega⟩
    have hq := getD_of (d := (([], []) : WP)) hjl
    have hp := getD_of (l := ps) (k := i) (d := (([], []) : WP)) (by omega)
    have mq := getD_mem hjl
    have mp := getD_mem (ps := ps) (k := i) (by omega)
    have nq := P.blank i _ hq
    have np := P.word i _ hp
    have hR : rankAt sg ps (i + 1) = rankOf sg (ps.getD i ([], [])) (ps.getD (i + 1) ([], [])) := by unfold rankAt; rw [if_neg (by omega)]; rfl
    generalize ps.getD (i + 1) ([], []) = q at *
    generalize ps.getD i ([], []) = p at *
    have sq := P.small q mq
    have sp := P.small p mp
    have hq' : (ps.map pvP)[i + 1]? = some (pvP q) := by rw [List.getElem?_map, hq]; rfl
    have hp' : (ps.map pvP)[i]? = some (pvP p) := by rw [List.getElem?_map, hp]; rfl
    obtain ⟨x, qa, hqa⟩ := List.exists_cons_of_ne_nil nq
    obtain ⟨pa, y, hpa⟩ : ∃ a y, p.2 = a ++ [y] := by
      rcases List.eq_nil_or_concat p.2 with h | ⟨a, y, h⟩
      · exact absurd h np
      · exact ⟨a, y, by rw [h, List.concat_eq_append]⟩
    simp only [List.set_cons_succ, List.set_cons_zero]
    rw [p_seq, p_asg]
    refine comp_rng (a := 0) (b := sg.length) (n := sg.length) (hitR sg p q) (fun r => .int r) ?_
    simp only [wO_some, wO_none, w1_some, w1_none, wS_some, wS_none, if_none, szOk_eq, strOk_eq, p_var, p_lit, p_bin, p_un, p_if, p_cmpE, p_cmp, p_not, p_and, p_or, p_val, p_true, p_eAnd, p_eOr, p_notF, p_nil, p_cons, p_tup, p_list, p_call, p_meth, p_star, p_attr, p_skip, p_brk, p_cont, p_retN, p_seq, p_fif, p_ret, p_exp, p_asg, p_aug, p_aVar, p_aPair, p_run, List.map_cons, List.map_nil, List.cons_append, List.nil_append, List.append_nil, List.length_cons, List.length_nil, List.getElem?_cons_zero, List.getElem?_cons_succ, List.set_cons_zero, List.set_cons_succ, List.reduceReplicate, true_and, and_true, if_true, ite_true, Bool.false_eq_true, if_false, reduceIte, false_and, and_false, p_aAttr, p_eSliceA, Nat.reduceLT, Nat.reduceSub, Nat.reduceAdd, Nat.reduceEqDiff, Nat.lt_irrefl, Nat.zero_le, G_lenE, lenF_str (show sg.length ≤ 1000000 by omega), p_range1]
    refine ⟨by simp [smallI]; omega, by omega, by omega, by omega, by omega, ?_, ?_⟩
    · intro r hr acc
      have c1 : (σ' ++ [PO.list acc])[c]? = some (.list (ps.map pvP)) := Keep.app (S := []) _ _ hc (by simp)
      have i1 := idx_list c1 hq' (by omega)
      have i2 := idx_list c1 hp' (by omega)
      have i3 : idxF (.str (mkS q.1)) (.int 0) (σ' ++ [PO.list acc]) = some (.str (mkS [x]), σ' ++ [PO.list acc]) := by rw [hqa]; exact idx_s0 (by rw [← hqa]; omega)
      have i4 : idxF (.str (mkS p.2)) (.int (-1)) (σ' ++ [PO.list acc]) = some (.str (mkS [y]), σ' ++ [PO.list acc]) := by rw [hpa]; exact idx_sL (by rw [← hpa]; omega)
      have i5 : idxF (.str (mkS sg)) (.int (0 + (r : Int))) (σ' ++ [PO.list acc]) = some (.str (mkS [sg.getD r 0]), σ' ++ [PO.list acc]) := by
        rw [Int.zero_add]; exact idx_sN (by omega) hr
      have ej : ((i + 1 : Nat) : Int) - 1 = (i : Int) := by omega
      simp only [fInner, List.map_cons, List.map_nil, Option.bind_none, Option.bind_some, wO_some, wO_none, w1_some, w1_none, wS_some, wS_none, if_none, szOk_eq, strOk_eq, p_var, p_lit, p_bin, p_un, p_if, p_cmpE, p_cmp, p_not, p_and, p_or, p_val, p_true, p_eAnd, p_eOr, p_notF, p_nil, p_cons, p_tup, p_list, p_call, p_meth, p_star, p_attr, p_skip, p_brk, p_cont, p_retN, p_seq, p_fif, p_ret, p_exp, p_asg, p_aug, p_aVar, p_aPair, p_run, List.map_cons, List.map_nil, List.cons_append, List.nil_append, List.append_nil, List.length_cons, List.length_nil, List.getElem?_cons_zero, List.getElem?_cons_succ, List.set_cons_zero, List.set_cons_succ, List.reduceReplicate, true_and, and_true, if_true, ite_true, Bool.false_eq_true, if_false, reduceIte, false_and, and_false, p_aAttr, p_eSliceA, Nat.reduceLT, Nat.reduceSub, Nat.reduceAdd, Nat.reduceEqDiff, Nat.lt_irrefl, Nat.zero_le, Option.join_some, i1, i2, sub_int, ej, neg_int, idx_p0, idx_p1, i3, i4, i5, eq_str]
      have h1 : ([x] == [sg.getD r 0]) = (q.1.head? == sg[r]?) := by rw [hqa, getD_of (d := 0) hr]; simp
      have h2 : ([y] == [sg.getD r 0]) = (p.2.getLast? == sg[r]?) := by rw [hpa, getD_of (d := 0) hr]; simp
      rw [h1, h2]
      unfold hitR
      by_cases hh : (q.1.head? == sg[r]?) = true
      · simp only [hh, wO_some, wO_none, w1_some, w1_none, wS_some, wS_none, if_none, szOk_eq, strOk_eq, p_var, p_lit, p_bin, p_un, p_if, p_cmpE, p_cmp, p_not, p_and, p_or, p_val, p_true, p_eAnd, p_eOr, p_notF, p_nil, p_cons, p_tup, p_list, p_call, p_meth, p_star, p_attr, p_skip, p_brk, p_cont, p_retN, p_seq, p_fif, p_ret, p_exp, p_asg, p_aug, p_aVar, p_aPair, p_run, List.map_cons, List.map_nil, List.cons_append, List.nil_append, List.append_nil, List.length_cons, List.length_nil, List.getElem?_cons_zero, List.getElem?_cons_succ, List.set_cons_zero, List.set_cons_succ, List.reduceReplicate, true_and, and_true, if_true, ite_true, Bool.false_eq_true, if_false, reduceIte, false_and, and_false, p_aAttr, p_eSliceA, Nat.reduceLT, Nat.reduceSub, Nat.reduceAdd, Nat.reduceEqDiff, Nat.lt_irrefl, Nat.zero_le, Bool.true_or, Int.zero_add, implies_true, forall_const, and_self]
      · simp only [Bool.not_eq_true] at hh
        simp only [hh, wO_some, wO_none, w1_some, w1_none, wS_some, wS_none, if_none, szOk_eq, strOk_eq, p_var, p_lit, p_bin, p_un, p_if, p_cmpE, p_cmp, p_not, p_and, p_or, p_val, p_true, p_eAnd, p_eOr, p_notF, p_nil, p_cons, p_tup, p_list, p_call, p_meth, p_star, p_attr, p_skip, p_brk, p_cont, p_retN, p_seq, p_fif, p_ret, p_exp, p_asg, p_aug, p_aVar, p_aPair, p_run, List.map_cons, List.map_nil, List.cons_append, List.nil_append, List.append_nil, List.length_cons, List.length_nil, List.getElem?_cons_zero, List.getElem?_cons_succ, List.set_cons_zero, List.set_cons_succ, List.reduceReplicate, true_and, and_true, if_true, ite_true, Bool.false_eq_true, if_false, reduceIte, false_and, and_false, p_aAttr, p_eSliceA, Nat.reduceLT, Nat.reduceSub, Nat.reduceAdd, Nat.reduceEqDiff, Nat.lt_irrefl, Nat.zero_le, Bool.false_or, Int.zero_add, implies_true, forall_const, and_self]
    · have h99 : rankOf sg p q = ((List.range sg.length).filter (hitR sg p q)).headD 99 := rfl
      have hfl2 : ((List.range sg.length).filter (hitR sg p q)).length ≤ 98 := Nat.le_trans (List.length_filter_le ..) (by simpa using hsg)
      generalize (List.range sg.length).filter (hitR sg p q) = fl at h99 hfl2
      have K1 : Keep σ' (σ' ++ [PO.list (fl.map fun (r : Nat) => PV.int (r : Int))] ++ [PO.list []]) [] := (Keep.app (S := [])).trans (Keep.app (S := [])) (by simp)
      have g1 := K1 _ _ hr (by simp)
      have gc := K1 _ _ hc (by simp)
      have g0 : (σ' ++ [PO.list (fl.map fun (r : Nat) => PV.int (r : Int))])[σ.length]? = some (.list (ranksOf sg ps (i + 1))) := Keep.app (S := []) _ _ hr (by simp)
      have g2 : (σ' ++ [PO.list (fl.map fun (r : Nat) => PV.int (r : Int))] ++ [PO.list []])[σ'.length]? = some (.list (fl.map fun (r : Nat) => PV.int (r : Int))) := by simp
      have g3 : (σ' ++ [PO.list (fl.map fun (r : Nat) => PV.int (r : Int))] ++ [PO.list []])[(σ' ++ [PO.list (fl.map fun (r : Nat) => PV.int (r : Int))]).length]? = some (.list []) := by simp
      have hlc : c ≠ σ.length := by have := (List.getElem?_eq_some_iff.1 h).1; omega
      rw [eqB_nil g2 g3 (by simp)]
      generalize σ' ++ [PO.list (fl.map fun (r : Nat) => PV.int (r : Int))] ++ [PO.list []] = σ2 at K1 g1 gc g2 g3
      have fin : ∀ v : Int, v = (rankOf sg p q : Nat) → ∃ p' s', appendF [.ref σ.length, .int v] σ2 = some (p', s') ∧ p' = PV.none ∧ ∃ j : Nat, ((i + 1 : Nat) : Int) + 1 = j ∧ 1 ≤ j ∧ j ≤ max 1 ps.length ∧ (∃ v3 v4,
                          [some (PV.ref c), some (PV.str (mkS sg)), some (PV.ref σ.length), some (PV.int ((i + 1 : Nat) : Int)), some (PV.ref σ'.length), none, none] =
                            [some (PV.ref c), some (PV.str (mkS sg)), some (PV.ref σ.length), v3, v4, none, none]) ∧
                        s'[σ.length]? = some (PO.list (ranksOf sg ps j)) ∧ s'[c]? = some (PO.list (ps.map pvP)) ∧ Keep σ s' [] := by
        rintro v rfl
        refine ⟨_, _, append_eq g1 (by simp [ranksOf]; omega), rfl, i + 2, by omega, by omega, by omega, ⟨_, _, rfl⟩, ?_, ?_, ?_⟩
        · rw [List.getElem?_set_self (List.getElem?_eq_some_iff.1 g1).1]
          have : ranksOf sg ps (i + 2) = ranksOf sg ps (i + 1) ++ [.int (rankOf sg p q : Nat)] := by
            unfold ranksOf
            rw [List.range_succ (n := i + 1), List.map_append, List.map_cons, List.map_nil, hR]
          rw [this]
        · rw [List.getElem?_set_ne (Ne.symm hlc)]; exact gc
        · exact (K.trans K1 (by simp)).trans Keep.set (by simp)
      rw [w1_some]
      refine ⟨isL_of g0, ?_⟩
      cases fl with
      | nil =>
        simp only [List.map_nil, List.isEmpty_nil, if_true]
        exact fin 99 (by rw [h99]; rfl)
      | cons r fl =>
        simp only [List.map_cons, List.isEmpty_cons, Bool.false_eq_true, if_false]
        rw [show (0 : Int) = ((0 : Nat) : Int) from rfl, idx_list g2 (show (List.map (fun (r : Nat) => PV.int r) (r :: fl))[(0 : Nat)]? = some (.int r) from rfl) (by omega), wO_some]
        exact fin r (by rw [h99]; rfl)
  · rintro k ρ' σ' hk ⟨j, rfl, hj1, hj2, ⟨v3, v4, rfl⟩, hr, hc, K⟩
    have : j = max 1 ps.length := by omega
    subst this
    simp only [wO_some, wO_none, w1_some, w1_none, wS_some, wS_none, if_none, szOk_eq, strOk_eq, p_var, p_lit, p_bin, p_un, p_if, p_cmpE, p_cmp, p_not, p_and, p_or, p_val, p_true, p_eAnd, p_eOr, p_notF, p_nil, p_cons, p_tup, p_list, p_call, p_meth, p_star, p_attr, p_skip, p_brk, p_cont, p_retN, p_seq, p_fif, p_ret, p_exp, p_asg, p_aug, p_aVar, p_aPair, p_run, List.map_cons, List.map_nil, List.cons_append, List.nil_append, List.append_nil, List.length_cons, List.length_nil, List.getElem?_cons_zero, List.getElem?_cons_succ, List.set_cons_zero, List.set_cons_succ, List.reduceReplicate, true_and, and_true, if_true, ite_true, Bool.false_eq_true, if_false, reduceIte, false_and, and_false, p_aAttr, p_eSliceA, Nat.reduceLT, Nat.reduceSub, Nat.reduceAdd, Nat.reduceEqDiff, Nat.lt_irrefl, Nat.zero_le]
    exact ⟨_, rfl, hr, K, by omega⟩
theorem aBack_eq {f g : FE} {ρ : List (Option PV)} {i : Nat} {l : List PV} {x p : PV} (hf : f ρ σ = some (.ref i, σ)) (hg : g ρ σ = some (.int (-1), σ)) (h : σ[i]? = some (.list (l ++ [x]))) : aBack f g p ρ σ = some (ρ, σ.set i (.list (l ++ [p]))) := by
  unfold aBack
  have e : (-1 + ((l ++ [x]).length : Int)).toNat = l.length := by rw [List.length_append, List.length_singleton]; omega
  simp only [hf, hg, h, e]
  rw [if_pos (by simp; omega)]
  simp
theorem idx_last {i : Nat} {l : List PV} {x : PV} (h : σ[i]? = some (.list (l ++ [x]))) : idxF (.ref i) (.int (-1)) σ = some (x, σ) := by
  have e : (-1 + ((l ++ [x]).length : Int)).toNat = l.length := by rw [List.length_append, List.length_singleton]; omega
  simp only [idxF, h, pyAt]
  rw [if_neg (by omega), if_neg (by omega), if_pos (by simp; omega), e]
  simp
def pvB (ps : List WP) (p : Nat × Nat) : PV := .tup [.int (posW ps p.1 : Nat), .int (posW ps p.2 : Nat)]
theorem lspans4 {c r : Nat} {ps : List WP} {sg : List Nat} {D : Nat} (h : σ[c]? = some (.list (ps.map pvP))) (hr : σ[r]? = some (.list (ranksOf sg ps (max 1 ps.length)))) (hn : ps.length ≤ 900) (hsm : ∀ p ∈ ps, p.1.length + p.2.length ≤ 1000) :
    ∃ l σ', F_lspans [.ref c, .ref r, .int (D : Nat)] σ = some (.ref l, σ') ∧ σ'[l]? = some (.list ((spansW (rankAt sg ps) D ps.length).map (pvB ps))) ∧ Keep σ σ' [] ∧ σ.length ≤ l := by
  suffices k : wO (F_lspans [.ref c, .ref r, .int (D : Nat)] σ) fun p σ' => ∃ l, p = .ref l ∧ σ'[l]? = some (.list ((spansW (rankAt sg ps) D ps.length).map (pvB ps))) ∧ Keep σ σ' [] ∧ σ.length ≤ l by
    obtain ⟨p, σ', e, c, rfl, h⟩ := k; exact ⟨c, σ', e, h⟩
  have h1 : (σ ++ [PO.list []])[c]? = some (.list (ps.map pvP)) := Keep.app (S := []) _ _ h (by simp)
  simp only [F_lspans, f_lspans, wO_some, wO_none, w1_some, w1_none, wS_some, wS_none, if_none, szOk_eq, strOk_eq, p_var, p_lit, p_bin, p_un, p_if, p_cmpE, p_cmp, p_not, p_and, p_or, p_val, p_true, p_eAnd, p_eOr, p_notF, p_nil, p_cons, p_tup, p_list, p_call, p_meth, p_star, p_attr, p_skip, p_brk, p_cont, p_retN, p_seq, p_fif, p_ret, p_exp, p_asg, p_aug, p_aVar, p_aPair, p_run, List.map_cons, List.map_nil, List.cons_append, List.nil_append, List.append_nil, List.length_cons, List.length_nil, List.getElem?_cons_zero, List.getElem?_cons_succ, List.set_cons_zero, List.set_cons_succ, List.reduceReplicate, true_and, and_true, if_true, ite_true, Bool.false_eq_true, if_false, reduceIte, false_and, and_false, p_aAttr, p_eSliceA, Nat.reduceLT, Nat.reduceSub, Nat.reduceAdd, Nat.reduceEqDiff, Nat.lt_irrefl, Nat.zero_le]
  refine for_up (a := 0) (b := ps.length) (fun k ρ' σ' => ∃ j : Nat, k = j ∧ j ≤ ps.length ∧ (∃ v5 v6, ρ' = [some (.ref c), some (.ref r), some (.int (D : Nat)), some (.ref σ.length), some (.int (posW ps j : Nat)), v5, v6, none, none]) ∧
    σ'[σ.length]? = some (.list ((spansW (rankAt sg ps) D j).map (pvB ps))) ∧ Keep σ σ' []) ?_ ?_ ?_
  · simp only [wO_some, wO_none, w1_some, w1_none, wS_some, wS_none, if_none, szOk_eq, strOk_eq, p_var, p_lit, p_bin, p_un, p_if, p_cmpE, p_cmp, p_not, p_and, p_or, p_val, p_true, p_eAnd, p_eOr, p_notF, p_nil, p_cons, p_tup, p_list, p_call, p_meth, p_star, p_attr, p_skip, p_brk, p_cont, p_retN, p_seq, p_fif, p_ret, p_exp, p_asg, p_aug, p_aVar, p_aPair, p_run, List.map_cons, List.map_nil, List.cons_append, List.nil_append, List.append_nil, List.length_cons, List.length_nil, List.getElem?_cons_zero, List.getElem?_cons_succ, List.set_cons_zero, List.set_cons_succ, List.reduceReplicate, true_and, and_true, if_true, ite_true, Bool.false_eq_true, if_false, reduceIte, false_and, and_false, p_aAttr, p_eSliceA, Nat.reduceLT, Nat.reduceSub, Nat.reduceAdd, Nat.reduceEqDiff, Nat.lt_irrefl, Nat.zero_le, G_lenE, lenF_list h1 (show _ ≤ 1000000 by simp; omega), p_range1, List.length_map]
    refine ⟨by simp [smallI]; omega, by omega, by omega, by omega, 0, rfl, by omega, ⟨_, _, rfl⟩, by simp [spansW], Keep.app⟩
  · rintro k ρ' σ' hk ⟨j, rfl, hj, ⟨v5, v6, rfl⟩, hl, K⟩
    have hj : j < ps.length := by omega
    have hc := K _ _ h (by simp)
    have hr' := K _ _ hr (by simp)
    have hq := getD_of (d := (([], []) : WP)) hj
    have mq := hsm _ (getD_mem hj)
    have hend : ((posW ps j : Nat) : Int) + ((ps.getD j ([], [])).1.length : Int) + ((ps.getD j ([], [])).2.length : Int) = ((posW ps (j + 1) : Nat) : Int) := by
      unfold posW
      rw [take_succ_get hq, flat_app, flat_cons]
      simp [flat]; omega
    generalize ps.getD j ([], []) = q at *
    have i1 := idx_list hc (show (ps.map pvP)[j]? = some (pvP q) by rw [List.getElem?_map, hq]; rfl) (by omega)
    have x1 := idx_list hr' (ranks_get (sg := sg) (ps := ps) (n := max 1 ps.length) (k := j) (by omega)) (by omega)
    have hlen := spansW_len (rk := rankAt sg ps) (D := D) j
    have hd0 : decide ((0 : Int) < (j : Int)) = decide (0 < j) := by apply decide_eq_decide.2; omega
    have hd1 : decide (((D : Nat) : Int) ≤ ((rankAt sg ps j : Nat) : Int)) = decide (D ≤ rankAt sg ps j) := by apply decide_eq_decide.2; omega
    simp only [wO_some, wO_none, w1_some, w1_none, wS_some, wS_none, if_none, szOk_eq, strOk_eq, p_var, p_lit, p_bin, p_un, p_if, p_cmpE, p_cmp, p_not, p_and, p_or, p_val, p_true, p_eAnd, p_eOr, p_notF, p_nil, p_cons, p_tup, p_list, p_call, p_meth, p_star, p_attr, p_skip, p_brk, p_cont, p_retN, p_seq, p_fif, p_ret, p_exp, p_asg, p_aug, p_aVar, p_aPair, p_run, List.map_cons, List.map_nil, List.cons_append, List.nil_append, List.append_nil, List.length_cons, List.length_nil, List.getElem?_cons_zero, List.getElem?_cons_succ, List.set_cons_zero, List.set_cons_succ, List.reduceReplicate, true_and, and_true, if_true, ite_true, Bool.false_eq_true, if_false, reduceIte, false_and, and_false, p_aAttr, p_eSliceA, Nat.reduceLT, Nat.reduceSub, Nat.reduceAdd, Nat.reduceEqDiff, Nat.lt_irrefl, Nat.zero_le, i1, idx_p0, idx_p1, G_lenE, lenF_str (show q.1.length ≤ 1000000 by omega), lenF_str (show q.2.length ≤ 1000000 by omega), add_int, hend, gtB, hd0, x1, geB, hd1]
    have hlt : σ.length < σ'.length := (List.getElem?_eq_some_iff.1 hl).1
    by_cases hc1 : 0 < j ∧ D ≤ rankAt sg ps j
    · obtain ⟨s1, s2⟩ := spansW_join hc1
      rw [s2, List.map_append, List.map_cons, List.map_nil] at hl
      have i0 : ∀ x y : PV, idxF (.tup [x, y]) (.int 0) σ' = some (x, σ') := fun x y => rfl
      simp only [hc1.1, hc1.2, decide_true, wO_some, wO_none, w1_some, w1_none, wS_some, wS_none, if_none, szOk_eq, strOk_eq, p_var, p_lit, p_bin, p_un, p_if, p_cmpE, p_cmp, p_not, p_and, p_or, p_val, p_true, p_eAnd, p_eOr, p_notF, p_nil, p_cons, p_tup, p_list, p_call, p_meth, p_star, p_attr, p_skip, p_brk, p_cont, p_retN, p_seq, p_fif, p_ret, p_exp, p_asg, p_aug, p_aVar, p_aPair, p_run, List.map_cons, List.map_nil, List.cons_append, List.nil_append, List.append_nil, List.length_cons, List.length_nil, List.getElem?_cons_zero, List.getElem?_cons_succ, List.set_cons_zero, List.set_cons_succ, List.reduceReplicate, true_and, and_true, if_true, ite_true, Bool.false_eq_true, if_false, reduceIte, false_and, and_false, p_aAttr, p_eSliceA, Nat.reduceLT, Nat.reduceSub, Nat.reduceAdd, Nat.reduceEqDiff, Nat.lt_irrefl, Nat.zero_le, neg_int, idx_last hl, pvB, i0]
      rw [aBack_eq rfl rfl hl]
      simp only [wO_some, wO_none, w1_some, w1_none, wS_some, wS_none, if_none, szOk_eq, strOk_eq, p_var, p_lit, p_bin, p_un, p_if, p_cmpE, p_cmp, p_not, p_and, p_or, p_val, p_true, p_eAnd, p_eOr, p_notF, p_nil, p_cons, p_tup, p_list, p_call, p_meth, p_star, p_attr, p_skip, p_brk, p_cont, p_retN, p_seq, p_fif, p_ret, p_exp, p_asg, p_aug, p_aVar, p_aPair, p_run, List.map_cons, List.map_nil, List.cons_append, List.nil_append, List.append_nil, List.length_cons, List.length_nil, List.getElem?_cons_zero, List.getElem?_cons_succ, List.set_cons_zero, List.set_cons_succ, List.reduceReplicate, true_and, and_true, if_true, ite_true, Bool.false_eq_true, if_false, reduceIte, false_and, and_false, p_aAttr, p_eSliceA, Nat.reduceLT, Nat.reduceSub, Nat.reduceAdd, Nat.reduceEqDiff, Nat.lt_irrefl, Nat.zero_le]
      refine ⟨by omega, j + 1, by omega, by omega, ⟨_, _, rfl⟩, ?_, K.trans Keep.set (by simp)⟩
      rw [List.getElem?_set_self hlt, s1, List.map_append]; rfl
    · have hnew := spansW_new hc1
      have fin : wO (appendF [.ref σ.length, .tup [.int (posW ps j : Nat), .int (posW ps (j + 1) : Nat)]] σ') fun p σ₁ => p = .none ∧ ∃ j_1 : Nat, ((j : Int) + 1) = j_1 ∧ j_1 ≤ ps.length ∧ (∃ v5 v6, [some (.ref c), some (.ref r), some (.int (D : Nat)), some (.ref σ.length), some (.int (posW ps (j + 1) : Nat)), some (PV.int (j : Int)), some (PV.int (posW ps (j + 1) : Nat)), none, none] = [some (.ref c), some (.ref r), some (.int (D : Nat)), some (.ref σ.length), some (.int (posW ps j_1 : Nat)), v5, v6, none, none]) ∧
          σ₁[σ.length]? = some (.list ((spansW (rankAt sg ps) D j_1).map (pvB ps))) ∧ Keep σ σ₁ [] := by
        rw [append_eq hl (by simp; omega), wO_some]
        refine ⟨rfl, j + 1, by omega, by omega, ⟨_, _, rfl⟩, ?_, K.trans Keep.set (by simp)⟩
        rw [hnew, List.getElem?_set_self hlt, List.map_append]; rfl
      by_cases hj0 : 0 < j
      · have hD : ¬ D ≤ rankAt sg ps j := fun h => hc1 ⟨hj0, h⟩
        simp only [hj0, hD, decide_true, decide_false, wO_some, wO_none, w1_some, w1_none, wS_some, wS_none, if_none, szOk_eq, strOk_eq, p_var, p_lit, p_bin, p_un, p_if, p_cmpE, p_cmp, p_not, p_and, p_or, p_val, p_true, p_eAnd, p_eOr, p_notF, p_nil, p_cons, p_tup, p_list, p_call, p_meth, p_star, p_attr, p_skip, p_brk, p_cont, p_retN, p_seq, p_fif, p_ret, p_exp, p_asg, p_aug, p_aVar, p_aPair, p_run, List.map_cons, List.map_nil, List.cons_append, List.nil_append, List.append_nil, List.length_cons, List.length_nil, List.getElem?_cons_zero, List.getElem?_cons_succ, List.set_cons_zero, List.set_cons_succ, List.reduceReplicate, true_and, and_true, if_true, ite_true, Bool.false_eq_true, if_false, reduceIte, false_and, and_false, p_aAttr, p_eSliceA, Nat.reduceLT, Nat.reduceSub, Nat.reduceAdd, Nat.reduceEqDiff, Nat.lt_irrefl, Nat.zero_le, isL_of hl]
        exact ⟨by omega, fin⟩
      · simp only [hj0, decide_false, wO_some, wO_none, w1_some, w1_none, wS_some, wS_none, if_none, szOk_eq, strOk_eq, p_var, p_lit, p_bin, p_un, p_if, p_cmpE, p_cmp, p_not, p_and, p_or, p_val, p_true, p_eAnd, p_eOr, p_notF, p_nil, p_cons, p_tup, p_list, p_call, p_meth, p_star, p_attr, p_skip, p_brk, p_cont, p_retN, p_seq, p_fif, p_ret, p_exp, p_asg, p_aug, p_aVar, p_aPair, p_run, List.map_cons, List.map_nil, List.cons_append, List.nil_append, List.append_nil, List.length_cons, List.length_nil, List.getElem?_cons_zero, List.getElem?_cons_succ, List.set_cons_zero, List.set_cons_succ, List.reduceReplicate, true_and, and_true, if_true, ite_true, Bool.false_eq_true, if_false, reduceIte, false_and, and_false, p_aAttr, p_eSliceA, Nat.reduceLT, Nat.reduceSub, Nat.reduceAdd, Nat.reduceEqDiff, Nat.lt_irrefl, Nat.zero_le, isL_of hl]
        exact ⟨by omega, fin⟩
  · rintro k ρ' σ' hk ⟨j, rfl, hj, ⟨v5, v6, rfl⟩, hl, K⟩
    have : j = ps.length := by omega
    subst this
    simp only [wO_some, wO_none, w1_some, w1_none, wS_some, wS_none, if_none, szOk_eq, strOk_eq, p_var, p_lit, p_bin, p_un, p_if, p_cmpE, p_cmp, p_not, p_and, p_or, p_val, p_true, p_eAnd, p_eOr, p_notF, p_nil, p_cons, p_tup, p_list, p_call, p_meth, p_star, p_attr, p_skip, p_brk, p_cont, p_retN, p_seq, p_fif, p_ret, p_exp, p_asg, p_aug, p_aVar, p_aPair, p_run, List.map_cons, List.map_nil, List.cons_append, List.nil_append, List.append_nil, List.length_cons, List.length_nil, List.getElem?_cons_zero, List.getElem?_cons_succ, List.set_cons_zero, List.set_cons_succ, List.reduceReplicate, true_and, and_true, if_true, ite_true, Bool.false_eq_true, if_false, reduceIte, false_and, and_false, p_aAttr, p_eSliceA, Nat.reduceLT, Nat.reduceSub, Nat.reduceAdd, Nat.reduceEqDiff, Nat.lt_irrefl, Nat.zero_le]
    exact ⟨_, rfl, hl, K, by omega⟩
end
end Mine
end
section
open PySem PySem.W PySem.Calls PyProof.Rows
set_option maxRecDepth 100000
set_option linter.unusedVariables false
set_option linter.unusedSimpArgs false
namespace Mine
def h6 (a : Addr) (ns : List Int) : FS := (fSeq (fAsg (eAnd truF (eBin (eCmp (neB 5)) (eVar 7) (eLit (.str ""))) (eAnd truF (eBin (eCmp gtB) (eBin addF (eVar 5) (eCall (lenF 200 F_len) (eCons (eVar 7) eNil))) (eVar 10)) (eOr truF (eBin (eCmp gtB) (eVar 5) (eLit (.int 0))) (eBin (eCmp (neB 5)) (fComp 1000 [none, none] (aVar 1) (cCmp ltB (eVar 1) (eLit (.int 99))) (eVar 1) (eVar 8)) (eList eNil))))) (aVar 21)) (fSeq (fRet (eOr truF (eBin (eCmp gtB) (eCall (lenF 200 F_len) (eCons (eVar 13) eNil)) (eLit (.int 1))) (eUn (notF truF) (eVar 21)))) fSkip))
def h5 (a : Addr) (ns : List Int) : FS := (fSeq (fFor 1000 (aVar 17) (eCall rangeF (eCons (eLit (.int 1)) (eCons (eBin addF (eCall (lenF 200 F_len) (eCons (eVar 4) eNil)) (eLit (.int 1))) eNil))) (fSeq (fFor 1000 (aPair (aVar 18) (aVar 19)) (eCall F_lspans (eCons (eVar 6) (eCons (eVar 8) (eCons (eVar 17) eNil)))) (fSeq (fAsg (eBin (eCmp leB) (eBin addF (eBin subF (eVar 19) (eVar 18)) (eIf (cCmp (eqB 5) (eVar 18) (eLit (.int 0))) (eVar 5) (eLit (.int 0)))) (eVar 10)) (aVar 20)) (fSeq (fIf (cAnd (cVal truF (eVar 20)) (cCmp (neB 5) (fComp 1000 [none, none, some 19, some 18] (aVar 1) (cCmp2 ltB ltB (eVar 3) (eVar 1) (eVar 2)) (eVar 1) (eVar 14)) (eList eNil))) (fSeq (fRet (eLit (.bool false))) fSkip) fSkip) fSkip)) fSkip) fSkip) fSkip) (h6 a ns))
def h4 (a : Addr) (ns : List Int) : FS := (fSeq (fAsg (eList eNil) (aVar 14)) (fSeq (fAsg (eLit (.int 0)) (aVar 15)) (fSeq (fFor 1000 (aVar 16) (eSlice (eVar 13) (eLit .none) (eUn negF (eLit (.int 1)))) (fSeq (fAug 15 iaddF (eCall (lenF 200 F_len) (eCons (eVar 16) eNil))) (fSeq (fExp (eMeth isL appendF (eVar 14) (eCons (eVar 15) eNil))) fSkip)) fSkip) (h5 a ns))))
def h3 (a : Addr) (ns : List Int) : FS := (fSeq (fAsg (eCall (fMake (.inst 116 []) F_init_v) (eCons (eVar 5) (eCons (eVar 10) (eCons (eLit (.str " ")) (eCons (eVar 4) eNil))))) (aVar 12)) (fSeq (fExp (eMeth (isA 116) F_split (eVar 12) (eCons (eLit (.str "")) (eCons (eVar 7) (eCons (eLit (.str "")) eNil))))) (fSeq (fAsg (eMeth isS splitF (eMeth (isA 116) F_vstr (eVar 12) (eCons (eLit (.str "|")) eNil)) (eCons (eLit (.str "|")) eNil)) (aVar 13)) (fSeq (fIf (cCmp (neB 5) (eMeth isS joinF (eLit (.str "")) (eCons (eVar 13) eNil)) (eVar 7)) (fSeq (fRet (eLit (.bool false))) fSkip) fSkip) (h4 a ns)))))
def h2 (a : Addr) (ns : List Int) : FS := (fSeq (fAsg (eMeth isS joinF (eLit (.str "")) (eCons (fComp 1000 [none, none, none] (aPair (aVar 1) (aVar 2)) fTrue (eBin addF (eVar 1) (eVar 2)) (eVar 6)) eNil)) (aVar 7)) (fSeq (fAsg (eCall F_lranks (eCons (eVar 6) (eCons (eVar 4) eNil))) (aVar 8)) (fSeq (fAsg (eCall F_lspans (eCons (eVar 6) (eCons (eVar 8) (eCons (eBin addF (eLit (.int 1)) (eBin modF (eBin divF (eVar 2) (eLit (.int 8))) (eCall (lenF 200 F_len) (eCons (eVar 4) eNil)))) eNil)))) (aVar 9)) (fSeq (fAsg (eBin idxF (eTup (eCons (eUn negF (eLit (.int 1))) (eCons (eLit (.int 0)) (eCons (eLit (.int 0)) (eCons (eLit (.int 1)) (eCons (eLit (.int 2)) eNil)))))) (eBin modF (eBin divF (eVar 3) (eLit (.int 3))) (eLit (.int 5)))) (aVar 10)) (fSeq (fIf (cCmp (neB 5) (eVar 9) (eList eNil)) (fSeq (fAsg (eBin idxF (eVar 9) (eBin modF (eBin divF (eVar 3) (eLit (.int 15))) (eCall (lenF 200 F_len) (eCons (eVar 9) eNil)))) (aVar 11)) (fSeq (fAug 10 iaddF (eBin addF (eBin subF (eBin idxF (eVar 11) (eLit (.int 1))) (eBin idxF (eVar 11) (eLit (.int 0)))) (eIf (cCmp (eqB 5) (eBin idxF (eVar 11) (eLit (.int 0))) (eLit (.int 0))) (eVar 5) (eLit (.int 0))))) fSkip)) fSkip) (h3 a ns))))))
def h1 (a : Addr) (ns : List Int) : FS := (fSeq (fAsg (eBin addLF (eCall (listLitF a ns) (eCons (eVar 0) eNil)) (eList (eCons (eLit (.int 0)) (eCons (eLit (.int 0)) eNil)))) (aVar 1)) (fSeq (fAsg (eBin idxF (eVar 1) (eLit (.int 0))) (aVar 2)) (fSeq (fAsg (eBin idxF (eVar 1) (eLit (.int 1))) (aVar 3)) (fSeq (fAsg (eBin idxF (eLit pv_law_SIGNS) (eBin modF (eVar 2) (eLit (.int 8)))) (aVar 4)) (fSeq (fAsg (eBin idxF (eTup (eCons (eLit (.int 0)) (eCons (eLit (.int 3)) (eCons (eLit (.int 6)) eNil)))) (eBin modF (eVar 3) (eLit (.int 3)))) (aVar 5)) (fSeq (fAsg (eCall F_lchunks (eCons (eSlice (eVar 1) (eLit (.int 2)) (eLit (.int 16))) (eCons (eIf (cCmp gtB (eVar 5) (eLit (.int 0))) (eLit (.str " ")) (eLit (.str ""))) eNil))) (aVar 6)) (h2 a ns)))))))
theorem f_law_segs (a : Addr) (ns : List Int) : f_law a ns = h1 a ns := rfl
def signs6 : List (List Nat) := [[59, 44, 32], [44, 32, 59], [32, 59, 44], [59, 44, 32, 9], [44, 9, 32], [9, 32, 59], [59, 44], [59, 32]]
theorem sg6_ok {j : Nat} (h : j < 8) : ((signs6.getD j []).length ≤ 98 ∧ 2 ≤ (signs6.getD j []).length) ∧ ∀ c ∈ signs6.getD j [], c < 128 := by
  have : j = 0 ∨ j = 1 ∨ j = 2 ∨ j = 3 ∨ j = 4 ∨ j = 5 ∨ j = 6 ∨ j = 7 := by omega
  rcases this with rfl | rfl | rfl | rfl | rfl | rfl | rfl | rfl <;> decide
theorem sign_idx {σ : List PO} {j : Nat} (h : j < 8) : idxF pv_law_SIGNS (.int (j : Int)) σ = some (.str (mkS (signs6.getD j [])), σ) := by
  refine idx_tup ?_ (by omega)
  have : j = 0 ∨ j = 1 ∨ j = 2 ∨ j = 3 ∨ j = 4 ∨ j = 5 ∨ j = 6 ∨ j = 7 := by omega
  rcases this with rfl | rfl | rfl | rfl | rfl | rfl | rfl | rfl <;> rfl
theorem size_idx {σ : List PO} {j : Nat} (h : j < 3) : ∃ n : Nat, n ≤ 6 ∧ idxF (.tup [.int 0, .int 3, .int 6]) (.int (j : Int)) σ = some (.int (n : Nat), σ) := by
  have : j = 0 ∨ j = 1 ∨ j = 2 := by omega
  rcases this with rfl | rfl | rfl
  · exact ⟨0, by omega, rfl⟩
  · exact ⟨3, by omega, rfl⟩
  · exact ⟨6, by omega, rfl⟩
theorem width_idx {σ : List PO} {j : Nat} (h : j < 5) : ∃ w : Int, idxF (.tup [.int (-1), .int 0, .int 0, .int 1, .int 2]) (.int (j : Int)) σ = some (.int w, σ) := by
  have : j = 0 ∨ j = 1 ∨ j = 2 ∨ j = 3 ∨ j = 4 := by omega
  rcases this with rfl | rfl | rfl | rfl | rfl <;> exact ⟨_, rfl⟩
theorem seg1 {a : Addr} {ns : List Int} (hn : ns.length ≤ 63) {Q : Fl → List (Option PV) → List PO → Prop}
    (hQ : ∀ v1 hd b sg (size : Nat) ps c σ, sg.length ≤ 98 → 2 ≤ sg.length → (∀ x ∈ sg, x < 128) → size ≤ 6 → TxOk ps → (size = 0 ∨ ∀ p ∈ ps, p.1 ≠ []) → ps.length ≤ 14 → σ[c]? = some (.list (ps.map pvP)) →
      wS (h2 a ns [some (.lit (.ref a)), v1, some (.int hd), some (.int b), some (.str (mkS sg)), some (.int (size : Nat)), some (.ref c), none, none, none, none, none, none, none, none, none, none, none, none, none, none, none, none, none, none, none, none, none, none, none] σ) Q) :
    wS (h1 a ns [some (.lit (.ref a)), none, none, none, none, none, none, none, none, none, none, none, none, none, none, none, none, none, none, none, none, none, none, none, none, none, none, none, none, none] []) Q := by
  have c0 : ("" : Str) = mkS [] := by decide +kernel
  have c1 : (" " : Str) = mkS [32] := by decide +kernel
  have hl : isLit a (.lit (.ref a)) = true := by simp [isLit]
  have hs : szOk ns.length = true := by rw [szOk_eq]; omega
  have ad : addLF (.ref 0) (.ref 1) [PO.list (ns.map PV.int), PO.list [PV.int 0, PV.int 0]] = some (.ref 2, [PO.list (ns.map PV.int), PO.list [PV.int 0, PV.int 0], PO.list ((nums ns).map PV.int)]) := by
    have h2 : szOk 2 = true := by decide
    have e : ((nums ns).map PV.int) = ns.map PV.int ++ [PV.int 0, PV.int 0] := by simp [nums]
    rw [e]
    simp [addLF, hs, h2]
  simp only [h1, wO_some, wO_none, w1_some, w1_none, wS_some, wS_none, if_none, szOk_eq, strOk_eq, p_var, p_lit, p_bin, p_un, p_if, p_cmpE, p_cmp, p_not, p_and, p_or, p_val, p_true, p_eAnd, p_eOr, p_notF, p_nil, p_cons, p_tup, p_list, p_call, p_meth, p_star, p_attr, p_skip, p_brk, p_cont, p_retN, p_seq, p_fif, p_ret, p_exp, p_asg, p_aug, p_aVar, p_aPair, p_run, List.map_cons, List.map_nil, List.cons_append, List.nil_append, List.append_nil, List.length_cons, List.length_nil, List.getElem?_cons_zero, List.getElem?_cons_succ, List.set_cons_zero, List.set_cons_succ, List.reduceReplicate, true_and, and_true, if_true, ite_true, Bool.false_eq_true, if_false, reduceIte, false_and, and_false, p_aAttr, p_eSliceA, Nat.reduceLT, Nat.reduceSub, Nat.reduceAdd, Nat.reduceEqDiff, Nat.lt_irrefl, Nat.zero_le, listLitF, hl, hs, and_self, ad]
  have hN : 2 ≤ (nums ns).length ∧ (nums ns).length ≤ 65 := by simp [nums]; omega
  generalize nums ns = N at hN
  have hσ : ∀ s : List PO, s = [PO.list (ns.map PV.int), PO.list [PV.int 0, PV.int 0], PO.list (N.map PV.int)] → s[2]? = some (.list (N.map PV.int)) := by rintro s rfl; rfl
  generalize hs0 : [PO.list (ns.map PV.int), PO.list [PV.int 0, PV.int 0], PO.list (N.map PV.int)] = σ
  have g := hσ σ hs0.symm
  clear hσ hs0
  have i0 := idx_list g (nums_get (N := N) (k := 0) (by omega)) (by omega)
  have i1 := idx_list g (nums_get (N := N) (k := 1) (by omega)) (by omega)
  simp only [show ((0 : Nat) : Int) = 0 from rfl, show ((1 : Nat) : Int) = 1 from rfl] at i0 i1
  generalize N.getD 0 0 = hd at *
  generalize N.getD 1 0 = b at *
  have m1 : hd % 8 = ((hd % 8).toNat : Int) := by omega
  have es := sign_idx (σ := σ) (j := (hd % 8).toNat) (by omega)
  have hsg := sg6_ok (j := (hd % 8).toNat) (by omega)
  rw [← m1] at es
  have m2 : b % 3 = ((b % 3).toNat : Int) := by omega
  obtain ⟨size, hsz, e3⟩ := size_idx (σ := σ) (j := (b % 3).toNat) (by omega)
  rw [← m2] at e3
  simp only [wO_some, wO_none, w1_some, w1_none, wS_some, wS_none, if_none, szOk_eq, strOk_eq, p_var, p_lit, p_bin, p_un, p_if, p_cmpE, p_cmp, p_not, p_and, p_or, p_val, p_true, p_eAnd, p_eOr, p_notF, p_nil, p_cons, p_tup, p_list, p_call, p_meth, p_star, p_attr, p_skip, p_brk, p_cont, p_retN, p_seq, p_fif, p_ret, p_exp, p_asg, p_aug, p_aVar, p_aPair, p_run, List.map_cons, List.map_nil, List.cons_append, List.nil_append, List.append_nil, List.length_cons, List.length_nil, List.getElem?_cons_zero, List.getElem?_cons_succ, List.set_cons_zero, List.set_cons_succ, List.reduceReplicate, true_and, and_true, if_true, ite_true, Bool.false_eq_true, if_false, reduceIte, false_and, and_false, p_aAttr, p_eSliceA, Nat.reduceLT, Nat.reduceSub, Nat.reduceAdd, Nat.reduceEqDiff, Nat.lt_irrefl, Nat.zero_le, i0, i1, mod_int (show (0 : Int) < 8 ∧ (8 : Int) < 1000 by omega), mod_int (show (0 : Int) < 3 ∧ (3 : Int) < 1000 by omega), es, e3]
  generalize signs6.getD (hd % 8).toNat [] = sg at *
  refine ⟨by omega, by omega, ?_⟩
  refine slice_go (i := 2) (x := .int 2) (y := .int 16) (lo := some 2) (hi := some 16) rfl rfl rfl rfl rfl g (by simp; omega) ?_
  have sm := slice_mid (l := N.map PV.int) (lo := 2) (hi := 16)
  simp only [show ((2 : Nat) : Int) = 2 from rfl, show ((16 : Nat) : Int) = 16 from rfl, show 16 - 2 = 14 from rfl, ← List.map_drop, ← List.map_take] at sm
  rw [sm]
  have hx : ((N.drop 2).take 14).length ≤ 14 := by simp; omega
  generalize (N.drop 2).take 14 = xs at hx
  have hg : decide ((0 : Int) < (size : Int)) = decide (0 < size) := by apply decide_eq_decide.2; omega
  have key : ∀ op : List Nat, (op = [] ∨ op = [32]) → (size = 0 ∨ op ≠ []) → ∃ c σ', F_lchunks [.ref σ.length, .str (mkS op)] (σ ++ [PO.list (xs.map PV.int)]) = some (.ref c, σ') ∧ wS (h2 a ns [some (.lit (.ref a)), some (.ref 2), some (.int hd), some (.int b), some (.str (mkS sg)), some (.int (size : Nat)), some (.ref c), none, none, none, none, none, none, none, none, none, none, none, none, none, none, none, none, none, none, none, none, none, none, none] σ') Q := by
    intro op h1 h2
    obtain ⟨c, σ', e, hc, K, _⟩ := lchunks4 (σ := σ ++ [PO.list (xs.map PV.int)]) (a := σ.length) (ns := xs) (op := op) (by simp) hx
    refine ⟨c, σ', e, hQ _ _ _ sg size (chunksO op xs) c σ' hsg.1.1 hsg.1.2 hsg.2 hsz (chunksO_ok h1 hx) (h2.imp_right chunksO_op) (by rw [chunksO_len]; exact hx) hc⟩
  by_cases h0 : 0 < size
  · obtain ⟨c, σ', e, q⟩ := key [32] (.inr rfl) (.inr (by simp))
    simp only [wO_some, wO_none, w1_some, w1_none, wS_some, wS_none, if_none, szOk_eq, strOk_eq, p_var, p_lit, p_bin, p_un, p_if, p_cmpE, p_cmp, p_not, p_and, p_or, p_val, p_true, p_eAnd, p_eOr, p_notF, p_nil, p_cons, p_tup, p_list, p_call, p_meth, p_star, p_attr, p_skip, p_brk, p_cont, p_retN, p_seq, p_fif, p_ret, p_exp, p_asg, p_aug, p_aVar, p_aPair, p_run, List.map_cons, List.map_nil, List.cons_append, List.nil_append, List.append_nil, List.length_cons, List.length_nil, List.getElem?_cons_zero, List.getElem?_cons_succ, List.set_cons_zero, List.set_cons_succ, List.reduceReplicate, true_and, and_true, if_true, ite_true, Bool.false_eq_true, if_false, reduceIte, false_and, and_false, p_aAttr, p_eSliceA, Nat.reduceLT, Nat.reduceSub, Nat.reduceAdd, Nat.reduceEqDiff, Nat.lt_irrefl, Nat.zero_le, gtB, hg, h0, decide_true, c1, e]
    exact q
  · obtain ⟨c, σ', e, q⟩ := key [] (.inl rfl) (.inl (by omega))
    simp only [wO_some, wO_none, w1_some, w1_none, wS_some, wS_none, if_none, szOk_eq, strOk_eq, p_var, p_lit, p_bin, p_un, p_if, p_cmpE, p_cmp, p_not, p_and, p_or, p_val, p_true, p_eAnd, p_eOr, p_notF, p_nil, p_cons, p_tup, p_list, p_call, p_meth, p_star, p_attr, p_skip, p_brk, p_cont, p_retN, p_seq, p_fif, p_ret, p_exp, p_asg, p_aug, p_aVar, p_aPair, p_run, List.map_cons, List.map_nil, List.cons_append, List.nil_append, List.append_nil, List.length_cons, List.length_nil, List.getElem?_cons_zero, List.getElem?_cons_succ, List.set_cons_zero, List.set_cons_succ, List.reduceReplicate, true_and, and_true, if_true, ite_true, Bool.false_eq_true, if_false, reduceIte, false_and, and_false, p_aAttr, p_eSliceA, Nat.reduceLT, Nat.reduceSub, Nat.reduceAdd, Nat.reduceEqDiff, Nat.lt_irrefl, Nat.zero_le, gtB, hg, h0, decide_false, c0, e]
    exact q
section
variable {a : Addr} {ns : List Int} {hd b : Int} {sg : List Nat} {size c : Nat} {ps : List WP} {σ : List PO} {v1 : Option PV} {Q : Fl → List (Option PV) → List PO → Prop}
theorem seg2 (hsg : sg.length ≤ 98) (hsg1 : 2 ≤ sg.length) (hT : TxOk ps) (hl : ps.length ≤ 14) (hc : σ[c]? = some (.list (ps.map pvP)))
    (hQ : ∀ r v9 (w : Int) v11 σ', σ'[c]? = some (.list (ps.map pvP)) → σ'[r]? = some (.list (ranksOf sg ps (max 1 ps.length))) →
      wS (h3 a ns [some (.lit (.ref a)), v1, some (.int hd), some (.int b), some (.str (mkS sg)), some (.int (size : Nat)), some (.ref c), some (.str (mkS (flat ps))), some (.ref r), v9, some (.int w), v11, none, none, none, none, none, none, none, none, none, none, none, none, none, none, none, none, none, none] σ') Q) :
    wS (h2 a ns [some (.lit (.ref a)), v1, some (.int hd), some (.int b), some (.str (mkS sg)), some (.int (size : Nat)), some (.ref c), none, none, none, none, none, none, none, none, none, none, none, none, none, none, none, none, none, none, none, none, none, none, none] σ) Q := by
  have c0 : ("" : Str) = mkS [] := by decide +kernel
  have hfl := hT.flat_le
  simp only [h2, wO_some, wO_none, w1_some, w1_none, wS_some, wS_none, if_none, szOk_eq, strOk_eq, p_var, p_lit, p_bin, p_un, p_if, p_cmpE, p_cmp, p_not, p_and, p_or, p_val, p_true, p_eAnd, p_eOr, p_notF, p_nil, p_cons, p_tup, p_list, p_call, p_meth, p_star, p_attr, p_skip, p_brk, p_cont, p_retN, p_seq, p_fif, p_ret, p_exp, p_asg, p_aug, p_aVar, p_aPair, p_run, List.map_cons, List.map_nil, List.cons_append, List.nil_append, List.append_nil, List.length_cons, List.length_nil, List.getElem?_cons_zero, List.getElem?_cons_succ, List.set_cons_zero, List.set_cons_succ, List.reduceReplicate, true_and, and_true, if_true, ite_true, Bool.false_eq_true, if_false, reduceIte, false_and, and_false, p_aAttr, p_eSliceA, Nat.reduceLT, Nat.reduceSub, Nat.reduceAdd, Nat.reduceEqDiff, Nat.lt_irrefl, Nat.zero_le, isS_of, c0]
  refine comp_cat (ps := ps) (L := c) ?_
  simp only [wO_some, wO_none, w1_some, w1_none, wS_some, wS_none, if_none, szOk_eq, strOk_eq, p_var, p_lit, p_bin, p_un, p_if, p_cmpE, p_cmp, p_not, p_and, p_or, p_val, p_true, p_eAnd, p_eOr, p_notF, p_nil, p_cons, p_tup, p_list, p_call, p_meth, p_star, p_attr, p_skip, p_brk, p_cont, p_retN, p_seq, p_fif, p_ret, p_exp, p_asg, p_aug, p_aVar, p_aPair, p_run, List.map_cons, List.map_nil, List.cons_append, List.nil_append, List.append_nil, List.length_cons, List.length_nil, List.getElem?_cons_zero, List.getElem?_cons_succ, List.set_cons_zero, List.set_cons_succ, List.reduceReplicate, true_and, and_true, if_true, ite_true, Bool.false_eq_true, if_false, reduceIte, false_and, and_false, p_aAttr, p_eSliceA, Nat.reduceLT, Nat.reduceSub, Nat.reduceAdd, Nat.reduceEqDiff, Nat.lt_irrefl, Nat.zero_le]
  refine ⟨hc, by omega, fun p hp => by have := (hT.ck p hp).l; omega, ?_⟩
  have K2 : Keep σ (σ ++ [linesO (ps.map fun p => p.1 ++ p.2)]) [] := Keep.app
  have hc2 := K2 _ _ hc (by simp)
  have j1 := join_cat (σ := σ ++ [linesO (ps.map fun p => p.1 ++ p.2)]) (i := σ.length) (ps := ps) (by simp) (by omega)
  simp only [wO_some, wO_none, w1_some, w1_none, wS_some, wS_none, if_none, szOk_eq, strOk_eq, p_var, p_lit, p_bin, p_un, p_if, p_cmpE, p_cmp, p_not, p_and, p_or, p_val, p_true, p_eAnd, p_eOr, p_notF, p_nil, p_cons, p_tup, p_list, p_call, p_meth, p_star, p_attr, p_skip, p_brk, p_cont, p_retN, p_seq, p_fif, p_ret, p_exp, p_asg, p_aug, p_aVar, p_aPair, p_run, List.map_cons, List.map_nil, List.cons_append, List.nil_append, List.append_nil, List.length_cons, List.length_nil, List.getElem?_cons_zero, List.getElem?_cons_succ, List.set_cons_zero, List.set_cons_succ, List.reduceReplicate, true_and, and_true, if_true, ite_true, Bool.false_eq_true, if_false, reduceIte, false_and, and_false, p_aAttr, p_eSliceA, Nat.reduceLT, Nat.reduceSub, Nat.reduceAdd, Nat.reduceEqDiff, Nat.lt_irrefl, Nat.zero_le, j1]
  generalize σ ++ [linesO (ps.map fun p => p.1 ++ p.2)] = σ1 at *
  obtain ⟨r, σ2, e2, hr, K3, _⟩ := lranks_eq (sg := sg) hc2 (by omega) hT.psok hsg
  have hc3 := K3 _ _ hc2 (by simp)
  have hlm : (0 : Int) < (sg.length : Int) ∧ (sg.length : Int) < 1000 := by omega
  have m1 : 1 + hd / 8 % (sg.length : Int) = ((1 + hd / 8 % (sg.length : Int)).toNat : Int) := by
    have := Int.emod_nonneg (hd / 8) (show (sg.length : Int) ≠ 0 by omega)
    omega
  simp only [wO_some, wO_none, w1_some, w1_none, wS_some, wS_none, if_none, szOk_eq, strOk_eq, p_var, p_lit, p_bin, p_un, p_if, p_cmpE, p_cmp, p_not, p_and, p_or, p_val, p_true, p_eAnd, p_eOr, p_notF, p_nil, p_cons, p_tup, p_list, p_call, p_meth, p_star, p_attr, p_skip, p_brk, p_cont, p_retN, p_seq, p_fif, p_ret, p_exp, p_asg, p_aug, p_aVar, p_aPair, p_run, List.map_cons, List.map_nil, List.cons_append, List.nil_append, List.append_nil, List.length_cons, List.length_nil, List.getElem?_cons_zero, List.getElem?_cons_succ, List.set_cons_zero, List.set_cons_succ, List.reduceReplicate, true_and, and_true, if_true, ite_true, Bool.false_eq_true, if_false, reduceIte, false_and, and_false, p_aAttr, p_eSliceA, Nat.reduceLT, Nat.reduceSub, Nat.reduceAdd, Nat.reduceEqDiff, Nat.lt_irrefl, Nat.zero_le, e2, mod_int hlm, div_int (show (0 : Int) < 8 ∧ (8 : Int) < 1000 by omega), G_lenE, lenF_str (show sg.length ≤ 1000000 by omega), add_int]
  rw [m1]
  generalize (1 + hd / 8 % (sg.length : Int)).toNat = D
  obtain ⟨s, σ3, e3, hs, K4, _⟩ := lspans4 (D := D) hc3 hr (by omega) (fun p hp => by have := (hT.ck p hp).l; omega)
  have hc4 := K4 _ _ hc3 (by simp)
  have hr4 := K4 _ _ hr (by simp)
  have m2 : b / 3 % 5 = ((b / 3 % 5).toNat : Int) := by omega
  obtain ⟨w, e4⟩ := width_idx (σ := σ3) (j := (b / 3 % 5).toNat) (by omega)
  rw [← m2] at e4
  simp only [wO_some, wO_none, w1_some, w1_none, wS_some, wS_none, if_none, szOk_eq, strOk_eq, p_var, p_lit, p_bin, p_un, p_if, p_cmpE, p_cmp, p_not, p_and, p_or, p_val, p_true, p_eAnd, p_eOr, p_notF, p_nil, p_cons, p_tup, p_list, p_call, p_meth, p_star, p_attr, p_skip, p_brk, p_cont, p_retN, p_seq, p_fif, p_ret, p_exp, p_asg, p_aug, p_aVar, p_aPair, p_run, List.map_cons, List.map_nil, List.cons_append, List.nil_append, List.append_nil, List.length_cons, List.length_nil, List.getElem?_cons_zero, List.getElem?_cons_succ, List.set_cons_zero, List.set_cons_succ, List.reduceReplicate, true_and, and_true, if_true, ite_true, Bool.false_eq_true, if_false, reduceIte, false_and, and_false, p_aAttr, p_eSliceA, Nat.reduceLT, Nat.reduceSub, Nat.reduceAdd, Nat.reduceEqDiff, Nat.lt_irrefl, Nat.zero_le, e3, neg_int, mod_int (show (0 : Int) < 5 ∧ (5 : Int) < 1000 by omega), div_int (show (0 : Int) < 3 ∧ (3 : Int) < 1000 by omega), e4]
  have K5 : Keep σ3 (σ3 ++ [PO.list []]) [] := Keep.app
  have hlt : s < σ3.length := (List.getElem?_eq_some_iff.1 hs).1
  have q1 := neB_of (eqB_nil (K5 _ _ hs (by simp)) (show (σ3 ++ [PO.list []])[σ3.length]? = some (.list []) by simp) (by omega))
  have hs5 := K5 _ _ hs (by simp)
  have hc5 := K5 _ _ hc4 (by simp)
  have hr5 := K5 _ _ hr4 (by simp)
  generalize σ3 ++ [PO.list []] = σ4 at *
  have hlen := spansW_len (rk := rankAt sg ps) (D := D) ps.length
  simp only [q1, w1_some]
  generalize hL : (spansW (rankAt sg ps) D ps.length) = L at *
  cases L with
  | nil =>
    simp only [List.map_nil, List.isEmpty_nil, Bool.not_true, wO_some, wO_none, w1_some, w1_none, wS_some, wS_none, if_none, szOk_eq, strOk_eq, p_var, p_lit, p_bin, p_un, p_if, p_cmpE, p_cmp, p_not, p_and, p_or, p_val, p_true, p_eAnd, p_eOr, p_notF, p_nil, p_cons, p_tup, p_list, p_call, p_meth, p_star, p_attr, p_skip, p_brk, p_cont, p_retN, p_seq, p_fif, p_ret, p_exp, p_asg, p_aug, p_aVar, p_aPair, p_run, List.map_cons, List.map_nil, List.cons_append, List.nil_append, List.append_nil, List.length_cons, List.length_nil, List.getElem?_cons_zero, List.getElem?_cons_succ, List.set_cons_zero, List.set_cons_succ, List.reduceReplicate, true_and, and_true, if_true, ite_true, Bool.false_eq_true, if_false, reduceIte, false_and, and_false, p_aAttr, p_eSliceA, Nat.reduceLT, Nat.reduceSub, Nat.reduceAdd, Nat.reduceEqDiff, Nat.lt_irrefl, Nat.zero_le]
    exact ⟨by omega, hQ r _ w _ σ4 hc5 hr5⟩
  | cons p L =>
    simp only [List.map_cons, List.isEmpty_cons, Bool.not_false, wO_some, wO_none, w1_some, w1_none, wS_some, wS_none, if_none, szOk_eq, strOk_eq, p_var, p_lit, p_bin, p_un, p_if, p_cmpE, p_cmp, p_not, p_and, p_or, p_val, p_true, p_eAnd, p_eOr, p_notF, p_nil, p_cons, p_tup, p_list, p_call, p_meth, p_star, p_attr, p_skip, p_brk, p_cont, p_retN, p_seq, p_fif, p_ret, p_exp, p_asg, p_aug, p_aVar, p_aPair, p_run, List.map_cons, List.map_nil, List.cons_append, List.nil_append, List.append_nil, List.length_cons, List.length_nil, List.getElem?_cons_zero, List.getElem?_cons_succ, List.set_cons_zero, List.set_cons_succ, List.reduceReplicate, true_and, and_true, if_true, ite_true, Bool.false_eq_true, if_false, reduceIte, false_and, and_false, p_aAttr, p_eSliceA, Nat.reduceLT, Nat.reduceSub, Nat.reduceAdd, Nat.reduceEqDiff, Nat.lt_irrefl, Nat.zero_le]
    refine ⟨by omega, ?_⟩
    simp only [List.length_cons] at hlen
    have hlm2 : (0 : Int) < ((L.length + 1 : Nat) : Int) ∧ ((L.length + 1 : Nat) : Int) < 1000 := by omega
    have hz := lenF_list (C := 200) (Φ := G_len 200 116) hs5 (show _ ≤ 1000000 by simp; omega)
    rw [List.length_map, List.length_cons] at hz
    have m3 : b / 15 % ((L.length + 1 : Nat) : Int) = ((b / 15 % ((L.length + 1 : Nat) : Int)).toNat : Int) := by
      have := Int.emod_nonneg (b / 15) (show ((L.length + 1 : Nat) : Int) ≠ 0 by omega)
      omega
    have hj : (b / 15 % ((L.length + 1 : Nat) : Int)).toNat < L.length + 1 := by
      have := Int.emod_lt_of_pos (b / 15) (show (0 : Int) < ((L.length + 1 : Nat) : Int) by omega)
      omega
    simp only [hz, mod_int hlm2, div_int (show (0 : Int) < 15 ∧ (15 : Int) < 1000 by omega), wO_some, wO_none, w1_some, w1_none, wS_some, wS_none, if_none, szOk_eq, strOk_eq, p_var, p_lit, p_bin, p_un, p_if, p_cmpE, p_cmp, p_not, p_and, p_or, p_val, p_true, p_eAnd, p_eOr, p_notF, p_nil, p_cons, p_tup, p_list, p_call, p_meth, p_star, p_attr, p_skip, p_brk, p_cont, p_retN, p_seq, p_fif, p_ret, p_exp, p_asg, p_aug, p_aVar, p_aPair, p_run, List.map_cons, List.map_nil, List.cons_append, List.nil_append, List.append_nil, List.length_cons, List.length_nil, List.getElem?_cons_zero, List.getElem?_cons_succ, List.set_cons_zero, List.set_cons_succ, List.reduceReplicate, true_and, and_true, if_true, ite_true, Bool.false_eq_true, if_false, reduceIte, false_and, and_false, p_aAttr, p_eSliceA, Nat.reduceLT, Nat.reduceSub, Nat.reduceAdd, Nat.reduceEqDiff, Nat.lt_irrefl, Nat.zero_le]
    rw [m3]
    generalize (b / 15 % ((L.length + 1 : Nat) : Int)).toNat = j at hj
    have hg : (List.map (pvB ps) (p :: L))[j]? = some (pvB ps ((p :: L).getD j (0, 0))) := by
      rw [List.getElem?_map, getD_of (d := (0, 0)) (show j < (p :: L).length by simpa using hj)]; rfl
    have i1 := idx_list hs5 hg (by omega)
    generalize (p :: L).getD j (0, 0) = q at i1
    have i0 : ∀ x y : PV, idxF (.tup [x, y]) (.int 0) σ4 = some (x, σ4) := fun x y => rfl
    have i2 : ∀ x y : PV, idxF (.tup [x, y]) (.int 1) σ4 = some (y, σ4) := fun x y => rfl
    simp only [i1, wO_some, wO_none, w1_some, w1_none, wS_some, wS_none, if_none, szOk_eq, strOk_eq, p_var, p_lit, p_bin, p_un, p_if, p_cmpE, p_cmp, p_not, p_and, p_or, p_val, p_true, p_eAnd, p_eOr, p_notF, p_nil, p_cons, p_tup, p_list, p_call, p_meth, p_star, p_attr, p_skip, p_brk, p_cont, p_retN, p_seq, p_fif, p_ret, p_exp, p_asg, p_aug, p_aVar, p_aPair, p_run, List.map_cons, List.map_nil, List.cons_append, List.nil_append, List.append_nil, List.length_cons, List.length_nil, List.getElem?_cons_zero, List.getElem?_cons_succ, List.set_cons_zero, List.set_cons_succ, List.reduceReplicate, true_and, and_true, if_true, ite_true, Bool.false_eq_true, if_false, reduceIte, false_and, and_false, p_aAttr, p_eSliceA, Nat.reduceLT, Nat.reduceSub, Nat.reduceAdd, Nat.reduceEqDiff, Nat.lt_irrefl, Nat.zero_le, pvB, i0, i2, sub_int, add_int, eq_int, iaddF]
    by_cases h0 : (((posW ps q.1 : Nat) : Int) == 0) = true
    · rw [if_pos h0]
      exact hQ r _ _ _ σ4 hc5 hr5
    · rw [if_neg h0]
      exact hQ r _ _ _ σ4 hc5 hr5
end
end Mine
end
section
open PySem PySem.W PySem.Calls PyProof.Rows
set_option maxRecDepth 100000
set_option linter.unusedVariables false
set_option linter.unusedSimpArgs false
namespace Mine
section
variable {a : Addr} {ns : List Int} {hd b w : Int} {sg : List Nat} {size c r : Nat} {ps : List WP} {σ : List PO} {v1 v9 v11 : Option PV} {Q : Fl → List (Option PV) → List PO → Prop}
theorem rows_split4 (hb : size = 0 ∨ ∀ p ∈ ps, p.1 ≠ []) (hT : TxOk ps) (hsg : sg.length ≤ 98) : ∃ ls x, rowsF size w sg ps = ls ++ [x] ∧ ∀ c ∈ runs 0 ls, ∃ k, k ≤ ps.length ∧ c = posW ps k ∧ Good w sg size ps k := by
  by_cases h0 : ps = []
  · subst h0
    exact ⟨[], [], rows_nil, fun c hc => (nomatch hc)⟩
  · exact cuts_good hT.vis hb hT.white hsg h0
theorem seg3 (hsg : sg.length ≤ 98) (hsg2 : ∀ x ∈ sg, x < 128) (hsz : size ≤ 6) (hb : size = 0 ∨ ∀ p ∈ ps, p.1 ≠ []) (hT : TxOk ps) (hl : ps.length ≤ 14) (hc : σ[c]? = some (.list (ps.map pvP))) (hr : σ[r]? = some (.list (ranksOf sg ps (max 1 ps.length))))
    (hQ : ∀ t v12 σ', σ'[c]? = some (.list (ps.map pvP)) → σ'[r]? = some (.list (ranksOf sg ps (max 1 ps.length))) → σ'[t]? = some (linesO (rowsF size w sg ps)) →
      wS (h4 a ns [some (.lit (.ref a)), v1, some (.int hd), some (.int b), some (.str (mkS sg)), some (.int (size : Nat)), some (.ref c), some (.str (mkS (flat ps))), some (.ref r), v9, some (.int w), v11, v12, some (.ref t), none, none, none, none, none, none, none, none, none, none, none, none, none, none, none, none] σ') Q) :
    wS (h3 a ns [some (.lit (.ref a)), v1, some (.int hd), some (.int b), some (.str (mkS sg)), some (.int (size : Nat)), some (.ref c), some (.str (mkS (flat ps))), some (.ref r), v9, some (.int w), v11, none, none, none, none, none, none, none, none, none, none, none, none, none, none, none, none, none, none] σ) Q := by
  have c0 : ("" : Str) = mkS [] := by decide +kernel
  have c1 : (" " : Str) = mkS [32] := by decide +kernel
  have c2 : ("|" : Str) = mkS [124] := by decide +kernel
  have hfl := hT.flat_le
  obtain ⟨σ1, σ2, e1, a1, e2, a2, t, tr, σ3, σ', e3, e4, ht, K, L⟩ := told_run (D := 200) (V := 116) (σ := σ) (w := w) (sg := sg) (wsp := [32]) size hT.wf hT.vis (by omega) (by omega) (by omega) (by omega) hsg2 (by simp)
  have hcat := rows_cat (w := w) (sg := sg) hT.vis hb
  have hrl := rowsF_len (n := size) (w := w) (sg := sg) (ps := ps)
  have j1 := join_eq (s := []) ht (by rw [← List.length_flatten, hcat]; simp; omega)
  rw [ljoin_nil, hcat] at j1
  simp only [h3, wO_some, wO_none, w1_some, w1_none, wS_some, wS_none, if_none, szOk_eq, strOk_eq, p_var, p_lit, p_bin, p_un, p_if, p_cmpE, p_cmp, p_not, p_and, p_or, p_val, p_true, p_eAnd, p_eOr, p_notF, p_nil, p_cons, p_tup, p_list, p_call, p_meth, p_star, p_attr, p_skip, p_brk, p_cont, p_retN, p_seq, p_fif, p_ret, p_exp, p_asg, p_aug, p_aVar, p_aPair, p_run, List.map_cons, List.map_nil, List.cons_append, List.nil_append, List.append_nil, List.length_cons, List.length_nil, List.getElem?_cons_zero, List.getElem?_cons_succ, List.set_cons_zero, List.set_cons_succ, List.reduceReplicate, true_and, and_true, if_true, ite_true, Bool.false_eq_true, if_false, reduceIte, false_and, and_false, p_aAttr, p_eSliceA, Nat.reduceLT, Nat.reduceSub, Nat.reduceAdd, Nat.reduceEqDiff, Nat.lt_irrefl, Nat.zero_le, c0, c1, c2, G_init_vE, G_splitE, G_vstrE, e1, a1, e2, a2, e3, isS_of, e4, j1, neB_of eq_str, beq_self_eq_true, Bool.not_true]
  exact hQ tr _ σ' (K _ _ hc (by simp)) (K _ _ hr (by simp)) ht
theorem seg4 {t : Nat} {v12 : Option PV} {ls : List (List Nat)} {x : List Nat} (hl : ps.length ≤ 14) (hls : ls.length ≤ 20) (hx : ∀ y ∈ ls, y.length ≤ 1000) (hc : σ[c]? = some (.list (ps.map pvP))) (hr : σ[r]? = some (.list (ranksOf sg ps (max 1 ps.length)))) (ht : σ[t]? = some (linesO (ls ++ [x])))
    (hQ : ∀ q v15 v16 σ', σ'[c]? = some (.list (ps.map pvP)) → σ'[r]? = some (.list (ranksOf sg ps (max 1 ps.length))) → σ'[t]? = some (linesO (ls ++ [x])) → σ'[q]? = some (.list (natsL (runs 0 ls))) →
      wS (h5 a ns [some (.lit (.ref a)), v1, some (.int hd), some (.int b), some (.str (mkS sg)), some (.int (size : Nat)), some (.ref c), some (.str (mkS (flat ps))), some (.ref r), v9, some (.int w), v11, v12, some (.ref t), some (.ref q), v15, v16, none, none, none, none, none, none, none, none, none, none, none, none, none] σ') Q) :
    wS (h4 a ns [some (.lit (.ref a)), v1, some (.int hd), some (.int b), some (.str (mkS sg)), some (.int (size : Nat)), some (.ref c), some (.str (mkS (flat ps))), some (.ref r), v9, some (.int w), v11, v12, some (.ref t), none, none, none, none, none, none, none, none, none, none, none, none, none, none, none, none] σ) Q := by
  simp only [h4, wO_some, wO_none, w1_some, w1_none, wS_some, wS_none, if_none, szOk_eq, strOk_eq, p_var, p_lit, p_bin, p_un, p_if, p_cmpE, p_cmp, p_not, p_and, p_or, p_val, p_true, p_eAnd, p_eOr, p_notF, p_nil, p_cons, p_tup, p_list, p_call, p_meth, p_star, p_attr, p_skip, p_brk, p_cont, p_retN, p_seq, p_fif, p_ret, p_exp, p_asg, p_aug, p_aVar, p_aPair, p_run, List.map_cons, List.map_nil, List.cons_append, List.nil_append, List.append_nil, List.length_cons, List.length_nil, List.getElem?_cons_zero, List.getElem?_cons_succ, List.set_cons_zero, List.set_cons_succ, List.reduceReplicate, true_and, and_true, if_true, ite_true, Bool.false_eq_true, if_false, reduceIte, false_and, and_false, p_aAttr, p_eSliceA, Nat.reduceLT, Nat.reduceSub, Nat.reduceAdd, Nat.reduceEqDiff, Nat.lt_irrefl, Nat.zero_le]
  have K0 : Keep σ (σ ++ [PO.list []]) [] := Keep.app
  have ht0 := K0 _ _ ht (by simp)
  have hsl : sliceL (List.map (fun x => PV.str (mkS x)) (ls ++ [x])) none (some (-1)) = ls.map fun x => PV.str (mkS x) := by
    unfold sliceL
    have e : clipAt (List.map (fun x => PV.str (mkS x)) (ls ++ [x])).length (-1) = ls.length := by
      rw [List.length_map, List.length_append, List.length_singleton]
      unfold clipAt
      rw [if_pos (by omega)]
      omega
    simp only [Option.elim, e, Nat.sub_zero, List.drop_zero, ← List.map_take]
    simp
  have K1 : Keep (σ ++ [PO.list []]) (σ ++ [PO.list []] ++ [linesO ls]) [] := Keep.app
  have K := K0.trans K1 (by simp)
  have hn0 : (σ ++ [PO.list []] ++ [linesO ls])[σ.length]? = some (.list []) := K1 _ _ (by simp) (by simp)
  have hm0 : (σ ++ [PO.list []] ++ [linesO ls])[(σ ++ [PO.list []]).length]? = some (linesO ls) := by simp
  have hqm : σ.length ≠ (σ ++ [PO.list []]).length := by simp
  have hc1 := K _ _ hc (by simp)
  have hr1 := K _ _ hr (by simp)
  have ht1 := K _ _ ht (by simp)
  have lc : c < σ.length := (List.getElem?_eq_some_iff.1 hc).1
  have lr : r < σ.length := (List.getElem?_eq_some_iff.1 hr).1
  have lt : t < σ.length := (List.getElem?_eq_some_iff.1 ht).1
  refine for_list (L := (σ ++ [PO.list []]).length) (l := ls.map fun x => PV.str (mkS x)) (fun k ρ' σ' => k ≤ ls.length ∧ (∃ v16, ρ' = [some (.lit (.ref a)), v1, some (.int hd), some (.int b), some (.str (mkS sg)), some (.int (size : Nat)), some (.ref c), some (.str (mkS (flat ps))), some (.ref r), v9, some (.int w), v11, v12, some (.ref t), some (.ref σ.length), some (.int (sumL (ls.take k) : Nat)), v16, none, none, none, none, none, none, none, none, none, none, none, none, none]) ∧
    σ'[(σ ++ [PO.list []]).length]? = some (linesO ls) ∧ σ'[c]? = some (.list (ps.map pvP)) ∧ σ'[r]? = some (.list (ranksOf sg ps (max 1 ps.length))) ∧ σ'[t]? = some (linesO (ls ++ [x])) ∧ σ'[σ.length]? = some (.list (natsL (runs 0 (ls.take k))))) ?_ (fun k ρ' σ' h => h.2.2.1) ?_ ?_
  · refine slice_go (lo := none) (hi := some (-1)) rfl rfl rfl rfl rfl ht0 (by simp; omega) ?_
    rw [hsl]
    exact ⟨rfl, by simp; omega, by omega, ⟨_, rfl⟩, hm0, hc1, hr1, ht1, hn0⟩
  · rintro k p ρ' σ' hp ⟨hk, ⟨v16, rfl⟩, g1, g2, g3, g4, g5⟩
    have hk : k < ls.length := by have := (List.getElem?_eq_some_iff.1 hp).1; simpa using this
    have hq := getD_of (d := ([] : List Nat)) hk
    have mq : ls.getD k [] ∈ ls := by rw [List.getD_eq_getElem?_getD, List.getElem?_eq_getElem hk]; exact List.getElem_mem hk
    rw [List.getElem?_map, hq] at hp
    obtain rfl := Option.some.inj hp
    have hx2 := hx _ mq
    have htk : ls.take (k + 1) = ls.take k ++ [ls.getD k []] := by rw [List.take_add_one, hq]; rfl
    generalize ls.getD k [] = y at *
    have hs : ((sumL (ls.take k) : Nat) : Int) + (y.length : Int) = ((sumL (ls.take (k + 1)) : Nat) : Int) := by
      rw [htk, sumL_app, sumL_one]; omega
    rw [p_aVar]
    have hrl := runs_len (ls.take k) 0
    simp only [wO_some, wO_none, w1_some, w1_none, wS_some, wS_none, if_none, szOk_eq, strOk_eq, p_var, p_lit, p_bin, p_un, p_if, p_cmpE, p_cmp, p_not, p_and, p_or, p_val, p_true, p_eAnd, p_eOr, p_notF, p_nil, p_cons, p_tup, p_list, p_call, p_meth, p_star, p_attr, p_skip, p_brk, p_cont, p_retN, p_seq, p_fif, p_ret, p_exp, p_asg, p_aug, p_aVar, p_aPair, p_run, List.map_cons, List.map_nil, List.cons_append, List.nil_append, List.append_nil, List.length_cons, List.length_nil, List.getElem?_cons_zero, List.getElem?_cons_succ, List.set_cons_zero, List.set_cons_succ, List.reduceReplicate, true_and, and_true, if_true, ite_true, Bool.false_eq_true, if_false, reduceIte, false_and, and_false, p_aAttr, p_eSliceA, Nat.reduceLT, Nat.reduceSub, Nat.reduceAdd, Nat.reduceEqDiff, Nat.lt_irrefl, Nat.zero_le, G_lenE, lenF_str (show y.length ≤ 1000000 by omega), iaddF, hs, isL_of g5, append_eq g5 (show _ ≤ 1000000 by rw [natsL_len, hrl]; simp; omega)]
    refine ⟨by omega, ⟨_, rfl⟩, ?_, ?_, ?_, ?_, ?_⟩
    · rw [List.getElem?_set_ne hqm]; exact g1
    · rw [List.getElem?_set_ne (by omega)]; exact g2
    · rw [List.getElem?_set_ne (by omega)]; exact g3
    · rw [List.getElem?_set_ne (by omega)]; exact g4
    · rw [List.getElem?_set_self (List.getElem?_eq_some_iff.1 g5).1, htk, runs_snoc, Nat.zero_add, ← sumL_one y, ← sumL_app, sumL_app, sumL_one]
      simp [natsL]
  · rintro ρ' σ' ⟨hk, ⟨v16, rfl⟩, g1, g2, g3, g4, g5⟩
    simp only [wO_some, wO_none, w1_some, w1_none, wS_some, wS_none, if_none, szOk_eq, strOk_eq, p_var, p_lit, p_bin, p_un, p_if, p_cmpE, p_cmp, p_not, p_and, p_or, p_val, p_true, p_eAnd, p_eOr, p_notF, p_nil, p_cons, p_tup, p_list, p_call, p_meth, p_star, p_attr, p_skip, p_brk, p_cont, p_retN, p_seq, p_fif, p_ret, p_exp, p_asg, p_aug, p_aVar, p_aPair, p_run, List.map_cons, List.map_nil, List.cons_append, List.nil_append, List.append_nil, List.length_cons, List.length_nil, List.getElem?_cons_zero, List.getElem?_cons_succ, List.set_cons_zero, List.set_cons_succ, List.reduceReplicate, true_and, and_true, if_true, ite_true, Bool.false_eq_true, if_false, reduceIte, false_and, and_false, p_aAttr, p_eSliceA, Nat.reduceLT, Nat.reduceSub, Nat.reduceAdd, Nat.reduceEqDiff, Nat.lt_irrefl, Nat.zero_le]
    rw [List.length_map, List.take_length] at g5
    exact hQ _ _ _ σ' g2 g3 g4 g5
end
end Mine
end
section
open PySem PySem.W PySem.Calls PyProof.Rows
set_option maxRecDepth 100000
set_option linter.unusedVariables false
set_option linter.unusedSimpArgs false
namespace Mine
theorem cuts_none {σ : List PO} {q f g : Nat} {l : List Nat} {ρ : List (Option PV)} (hq : σ[q]? = some (.list (natsL l))) (hlen : l.length < 1000) (h14 : ρ[(14 : Nat)]? = some (some (.ref q))) (h18 : ρ[(18 : Nat)]? = some (some (.int (f : Nat)))) (h19 : ρ[(19 : Nat)]? = some (some (.int (g : Nat))))
    (hno : ∀ y ∈ l, ¬ (f < y ∧ y < g)) {Q : PV → List PO → Prop} (hQ : Q (.ref σ.length) (σ ++ [PO.list []])) :
    wO (fComp 1000 [none, none, some 19, some 18] (aVar 1) (cCmp2 ltB ltB (eVar 3) (eVar 1) (eVar 2)) (eVar 1) (eVar 14) ρ σ) Q := by
  refine comp_nats (l := l) (fun y => decide (f < y) && decide (y < g)) ?_
  simp only [p_var, h14, w1_some]
  refine ⟨q, rfl, hq, hlen, ?_, ?_⟩
  · intro v hv acc
    have d1 : decide (((f : Nat) : Int) < ((v : Nat) : Int)) = decide (f < v) := by apply decide_eq_decide.2; omega
    have d2 : decide (((v : Nat) : Int) < ((g : Nat) : Int)) = decide (v < g) := by apply decide_eq_decide.2; omega
    simp only [fInner, List.map_cons, List.map_nil, Option.bind_none, Option.bind_some, h18, h19, wO_some, wO_none, w1_some, w1_none, wS_some, wS_none, if_none, szOk_eq, strOk_eq, p_var, p_lit, p_bin, p_un, p_if, p_cmpE, p_cmp, p_not, p_and, p_or, p_val, p_true, p_eAnd, p_eOr, p_notF, p_nil, p_cons, p_tup, p_list, p_call, p_meth, p_star, p_attr, p_skip, p_brk, p_cont, p_retN, p_seq, p_fif, p_ret, p_exp, p_asg, p_aug, p_aVar, p_aPair, p_run, List.map_cons, List.map_nil, List.cons_append, List.nil_append, List.append_nil, List.length_cons, List.length_nil, List.getElem?_cons_zero, List.getElem?_cons_succ, List.set_cons_zero, List.set_cons_succ, List.reduceReplicate, true_and, and_true, if_true, ite_true, Bool.false_eq_true, if_false, reduceIte, false_and, and_false, p_aAttr, p_eSliceA, Nat.reduceLT, Nat.reduceSub, Nat.reduceAdd, Nat.reduceEqDiff, Nat.lt_irrefl, Nat.zero_le, Option.join_some, p_cmp2, ltB, d1, d2]
    by_cases h1 : f < v
    · simp only [h1, decide_true, if_true, Bool.true_and, implies_true, and_self]
    · simp only [h1, decide_false, Bool.false_and, wO_some, wO_none, w1_some, w1_none, wS_some, wS_none, if_none, szOk_eq, strOk_eq, p_var, p_lit, p_bin, p_un, p_if, p_cmpE, p_cmp, p_not, p_and, p_or, p_val, p_true, p_eAnd, p_eOr, p_notF, p_nil, p_cons, p_tup, p_list, p_call, p_meth, p_star, p_attr, p_skip, p_brk, p_cont, p_retN, p_seq, p_fif, p_ret, p_exp, p_asg, p_aug, p_aVar, p_aPair, p_run, List.map_cons, List.map_nil, List.cons_append, List.nil_append, List.append_nil, List.length_cons, List.length_nil, List.getElem?_cons_zero, List.getElem?_cons_succ, List.set_cons_zero, List.set_cons_succ, List.reduceReplicate, true_and, and_true, if_true, ite_true, Bool.false_eq_true, if_false, reduceIte, false_and, and_false, p_aAttr, p_eSliceA, Nat.reduceLT, Nat.reduceSub, Nat.reduceAdd, Nat.reduceEqDiff, Nat.lt_irrefl, Nat.zero_le]
      simp
  · have : l.filter (fun y => decide (f < y) && decide (y < g)) = [] := by
      rw [List.filter_eq_nil_iff]
      intro y hy h
      simp at h
      exact hno y hy h
    rw [this]; exact hQ
section
variable {a : Addr} {ns : List Int} {hd b w : Int} {sg : List Nat} {size c r t q : Nat} {ps : List WP} {σ : List PO} {v1 v9 v11 v12 v15 v16 v17 v18 v19 v20 : Option PV} {Q : Fl → List (Option PV) → List PO → Prop}
theorem seg5 {ls : List (List Nat)} {x : List Nat} (hsg : sg.length ≤ 98) (hT : TxOk ps) (hl : ps.length ≤ 14) (hls : ls.length ≤ 20) (hg : ∀ c ∈ runs 0 ls, ∃ k, k ≤ ps.length ∧ c = posW ps k ∧ Good w sg size ps k)
    (hc : σ[c]? = some (.list (ps.map pvP))) (hr : σ[r]? = some (.list (ranksOf sg ps (max 1 ps.length)))) (ht : σ[t]? = some (linesO (ls ++ [x]))) (hq : σ[q]? = some (.list (natsL (runs 0 ls))))
    (hQ : ∀ v17 v18 v19 v20 σ', σ'[r]? = some (.list (ranksOf sg ps (max 1 ps.length))) → σ'[t]? = some (linesO (ls ++ [x])) →
      wS (h6 a ns [some (.lit (.ref a)), v1, some (.int hd), some (.int b), some (.str (mkS sg)), some (.int (size : Nat)), some (.ref c), some (.str (mkS (flat ps))), some (.ref r), v9, some (.int w), v11, v12, some (.ref t), some (.ref q), v15, v16, v17, v18, v19, v20, none, none, none, none, none, none, none, none, none] σ') Q) :
    wS (h5 a ns [some (.lit (.ref a)), v1, some (.int hd), some (.int b), some (.str (mkS sg)), some (.int (size : Nat)), some (.ref c), some (.str (mkS (flat ps))), some (.ref r), v9, some (.int w), v11, v12, some (.ref t), some (.ref q), v15, v16, none, none, none, none, none, none, none, none, none, none, none, none, none] σ) Q := by
  unfold h5
  rw [p_seq]
  refine for_up (a := 1) (b := (sg.length : Int) + 1) (fun k ρ' σ' => ∃ D : Nat, k = D ∧ D ≤ sg.length + 1 ∧ (∃ v17 v18 v19 v20, ρ' = [some (.lit (.ref a)), v1, some (.int hd), some (.int b), some (.str (mkS sg)), some (.int (size : Nat)), some (.ref c), some (.str (mkS (flat ps))), some (.ref r), v9, some (.int w), v11, v12, some (.ref t), some (.ref q), v15, v16, v17, v18, v19, v20, none, none, none, none, none, none, none, none, none]) ∧
    Keep σ σ' []) ?_ ?_ ?_
  · simp only [wO_some, wO_none, w1_some, w1_none, wS_some, wS_none, if_none, szOk_eq, strOk_eq, p_var, p_lit, p_bin, p_un, p_if, p_cmpE, p_cmp, p_not, p_and, p_or, p_val, p_true, p_eAnd, p_eOr, p_notF, p_nil, p_cons, p_tup, p_list, p_call, p_meth, p_star, p_attr, p_skip, p_brk, p_cont, p_retN, p_seq, p_fif, p_ret, p_exp, p_asg, p_aug, p_aVar, p_aPair, p_run, List.map_cons, List.map_nil, List.cons_append, List.nil_append, List.append_nil, List.length_cons, List.length_nil, List.getElem?_cons_zero, List.getElem?_cons_succ, List.set_cons_zero, List.set_cons_succ, List.reduceReplicate, true_and, and_true, if_true, ite_true, Bool.false_eq_true, if_false, reduceIte, false_and, and_false, p_aAttr, p_eSliceA, Nat.reduceLT, Nat.reduceSub, Nat.reduceAdd, Nat.reduceEqDiff, Nat.lt_irrefl, Nat.zero_le, G_lenE, lenF_str (show sg.length ≤ 1000000 by omega), add_int, p_range2]
    exact ⟨by simp [smallI]; omega, by omega, by omega, by omega, 1, rfl, by omega, ⟨_, _, _, _, rfl⟩, Keep.refl⟩
  · rintro k ρ' σ' hk ⟨D, rfl, hD, ⟨v17, v18, v19, v20, rfl⟩, K⟩
    obtain ⟨s, σ3, e3, hs, K4, _⟩ := lspans4 (D := D) (K _ _ hc (by simp)) (K _ _ hr (by simp)) (by omega) (fun p hp => by have := (hT.ck p hp).l; omega)
    have K5 := K.trans K4 (by simp)
    have hlt : s < σ3.length := (List.getElem?_eq_some_iff.1 hs).1
    have hlen := spansW_len (rk := rankAt sg ps) (D := D) ps.length
    simp only [List.set_cons_succ, List.set_cons_zero]
    rw [p_seq]
    refine for_list (L := s) (l := (spansW (rankAt sg ps) D ps.length).map (pvB ps)) (fun k ρ' σ' => (∃ v18 v19 v20, ρ' = [some (.lit (.ref a)), v1, some (.int hd), some (.int b), some (.str (mkS sg)), some (.int (size : Nat)), some (.ref c), some (.str (mkS (flat ps))), some (.ref r), v9, some (.int w), v11, v12, some (.ref t), some (.ref q), v15, v16, some (.int (D : Nat)), v18, v19, v20, none, none, none, none, none, none, none, none, none]) ∧
      Keep σ3 σ' []) ?_ (fun k ρ' σ' h => h.2 _ _ hs (by simp)) ?_ ?_
    · simp only [wO_some, wO_none, w1_some, w1_none, wS_some, wS_none, if_none, szOk_eq, strOk_eq, p_var, p_lit, p_bin, p_un, p_if, p_cmpE, p_cmp, p_not, p_and, p_or, p_val, p_true, p_eAnd, p_eOr, p_notF, p_nil, p_cons, p_tup, p_list, p_call, p_meth, p_star, p_attr, p_skip, p_brk, p_cont, p_retN, p_seq, p_fif, p_ret, p_exp, p_asg, p_aug, p_aVar, p_aPair, p_run, List.map_cons, List.map_nil, List.cons_append, List.nil_append, List.append_nil, List.length_cons, List.length_nil, List.getElem?_cons_zero, List.getElem?_cons_succ, List.set_cons_zero, List.set_cons_succ, List.reduceReplicate, true_and, and_true, if_true, ite_true, Bool.false_eq_true, if_false, reduceIte, false_and, and_false, p_aAttr, p_eSliceA, Nat.reduceLT, Nat.reduceSub, Nat.reduceAdd, Nat.reduceEqDiff, Nat.lt_irrefl, Nat.zero_le, e3]
      exact ⟨by simp; omega, ⟨_, _, _, rfl⟩, Keep.refl⟩
    · rintro j p ρ' σ' hp ⟨⟨v18, v19, v20, rfl⟩, K6⟩
      obtain ⟨B, hB, rfl⟩ : ∃ B ∈ spansW (rankAt sg ps) D ps.length, pvB ps B = p := by
        have := List.mem_of_getElem? hp
        exact List.mem_map.1 this
      have hq6 := K6 _ _ (K5 _ _ hq (by simp)) (by simp)
      have hBk := spans_block hB
      simp only [pvB, p_aPair]
      refine ⟨_, _, rfl, ?_⟩
      have hfit : ((((posW ps B.2 : Nat) : Int) - ((posW ps B.1 : Nat) : Int) + if ((posW ps B.1 : Nat) : Int) == 0 then ((size : Nat) : Int) else 0) ≤ w) → ∀ y ∈ runs 0 ls, ¬ (posW ps B.1 < y ∧ y < posW ps B.2) := by
        intro hf y hy hyy
        obtain ⟨k, hk, rfl, hgood⟩ := hg y hy
        have hm := posW_mono (ps := ps) (s := B.1) (e := B.2) (by have := hBk.1; omega)
        refine hgood D B.1 B.2 (by omega) hBk ?_ ⟨?_, ?_⟩
        · by_cases h0 : B.1 = 0
          · rw [h0, posW_zero] at hf
            rw [if_pos h0, h0, posW_zero]
            simp at hf
            omega
          · rw [if_neg h0]
            have h1 := posW_lt hT.vis (show 0 < B.1 by omega) (by have := hBk.1; have := hBk.2.1; omega)
            rw [posW_zero] at h1
            rw [if_neg (by rw [beq_iff_eq]; omega)] at hf
            omega
        · rcases Nat.lt_or_ge B.1 k with h | h
          · exact h
          · have := posW_mono (ps := ps) h; omega
        · rcases Nat.lt_or_ge k B.2 with h | h
          · exact h
          · have := posW_mono (ps := ps) h; omega
      generalize posW ps B.1 = f at *
      generalize posW ps B.2 = g at *
      simp only [wO_some, wO_none, w1_some, w1_none, wS_some, wS_none, if_none, szOk_eq, strOk_eq, p_var, p_lit, p_bin, p_un, p_if, p_cmpE, p_cmp, p_not, p_and, p_or, p_val, p_true, p_eAnd, p_eOr, p_notF, p_nil, p_cons, p_tup, p_list, p_call, p_meth, p_star, p_attr, p_skip, p_brk, p_cont, p_retN, p_seq, p_fif, p_ret, p_exp, p_asg, p_aug, p_aVar, p_aPair, p_run, List.map_cons, List.map_nil, List.cons_append, List.nil_append, List.append_nil, List.length_cons, List.length_nil, List.getElem?_cons_zero, List.getElem?_cons_succ, List.set_cons_zero, List.set_cons_succ, List.reduceReplicate, true_and, and_true, if_true, ite_true, Bool.false_eq_true, if_false, reduceIte, false_and, and_false, p_aAttr, p_eSliceA, Nat.reduceLT, Nat.reduceSub, Nat.reduceAdd, Nat.reduceEqDiff, Nat.lt_irrefl, Nat.zero_le, sub_int, eq_int]
      have hrl := runs_len ls 0
      have K7 : Keep σ' (σ' ++ [PO.list []] ++ [PO.list []]) [] := (Keep.app (S := [])).trans (Keep.app (S := [])) (by simp)
      have q0 := neB_of (eqB_nil (σ := σ' ++ [PO.list []] ++ [PO.list []]) (i := σ'.length) (j := (σ' ++ [PO.list []]).length) (l := []) (by simp) (by simp) (by simp))
      by_cases h0 : (((f : Nat) : Int) == 0) = true
      · rw [if_pos h0] at hfit ⊢
        simp only [add_int, wO_some, wO_none, w1_some, w1_none, wS_some, wS_none, if_none, szOk_eq, strOk_eq, p_var, p_lit, p_bin, p_un, p_if, p_cmpE, p_cmp, p_not, p_and, p_or, p_val, p_true, p_eAnd, p_eOr, p_notF, p_nil, p_cons, p_tup, p_list, p_call, p_meth, p_star, p_attr, p_skip, p_brk, p_cont, p_retN, p_seq, p_fif, p_ret, p_exp, p_asg, p_aug, p_aVar, p_aPair, p_run, List.map_cons, List.map_nil, List.cons_append, List.nil_append, List.append_nil, List.length_cons, List.length_nil, List.getElem?_cons_zero, List.getElem?_cons_succ, List.set_cons_zero, List.set_cons_succ, List.reduceReplicate, true_and, and_true, if_true, ite_true, Bool.false_eq_true, if_false, reduceIte, false_and, and_false, p_aAttr, p_eSliceA, Nat.reduceLT, Nat.reduceSub, Nat.reduceAdd, Nat.reduceEqDiff, Nat.lt_irrefl, Nat.zero_le, leB]
        by_cases hz : ((g : Nat) : Int) - ((f : Nat) : Int) + ((size : Nat) : Int) ≤ w
        · simp only [hz, decide_true, truB, wO_some, wO_none, w1_some, w1_none, wS_some, wS_none, if_none, szOk_eq, strOk_eq, p_var, p_lit, p_bin, p_un, p_if, p_cmpE, p_cmp, p_not, p_and, p_or, p_val, p_true, p_eAnd, p_eOr, p_notF, p_nil, p_cons, p_tup, p_list, p_call, p_meth, p_star, p_attr, p_skip, p_brk, p_cont, p_retN, p_seq, p_fif, p_ret, p_exp, p_asg, p_aug, p_aVar, p_aPair, p_run, List.map_cons, List.map_nil, List.cons_append, List.nil_append, List.append_nil, List.length_cons, List.length_nil, List.getElem?_cons_zero, List.getElem?_cons_succ, List.set_cons_zero, List.set_cons_succ, List.reduceReplicate, true_and, and_true, if_true, ite_true, Bool.false_eq_true, if_false, reduceIte, false_and, and_false, p_aAttr, p_eSliceA, Nat.reduceLT, Nat.reduceSub, Nat.reduceAdd, Nat.reduceEqDiff, Nat.lt_irrefl, Nat.zero_le]
          refine cuts_none hq6 (by omega) rfl rfl rfl (hfit hz) ?_
          simp only [q0, List.isEmpty_nil, Bool.not_true, wO_some, wO_none, w1_some, w1_none, wS_some, wS_none, if_none, szOk_eq, strOk_eq, p_var, p_lit, p_bin, p_un, p_if, p_cmpE, p_cmp, p_not, p_and, p_or, p_val, p_true, p_eAnd, p_eOr, p_notF, p_nil, p_cons, p_tup, p_list, p_call, p_meth, p_star, p_attr, p_skip, p_brk, p_cont, p_retN, p_seq, p_fif, p_ret, p_exp, p_asg, p_aug, p_aVar, p_aPair, p_run, List.map_cons, List.map_nil, List.cons_append, List.nil_append, List.append_nil, List.length_cons, List.length_nil, List.getElem?_cons_zero, List.getElem?_cons_succ, List.set_cons_zero, List.set_cons_succ, List.reduceReplicate, true_and, and_true, if_true, ite_true, Bool.false_eq_true, if_false, reduceIte, false_and, and_false, p_aAttr, p_eSliceA, Nat.reduceLT, Nat.reduceSub, Nat.reduceAdd, Nat.reduceEqDiff, Nat.lt_irrefl, Nat.zero_le]
          exact ⟨⟨_, _, _, rfl⟩, K6.trans K7 (by simp)⟩
        · simp only [hz, decide_false, truB, wO_some, wO_none, w1_some, w1_none, wS_some, wS_none, if_none, szOk_eq, strOk_eq, p_var, p_lit, p_bin, p_un, p_if, p_cmpE, p_cmp, p_not, p_and, p_or, p_val, p_true, p_eAnd, p_eOr, p_notF, p_nil, p_cons, p_tup, p_list, p_call, p_meth, p_star, p_attr, p_skip, p_brk, p_cont, p_retN, p_seq, p_fif, p_ret, p_exp, p_asg, p_aug, p_aVar, p_aPair, p_run, List.map_cons, List.map_nil, List.cons_append, List.nil_append, List.append_nil, List.length_cons, List.length_nil, List.getElem?_cons_zero, List.getElem?_cons_succ, List.set_cons_zero, List.set_cons_succ, List.reduceReplicate, true_and, and_true, if_true, ite_true, Bool.false_eq_true, if_false, reduceIte, false_and, and_false, p_aAttr, p_eSliceA, Nat.reduceLT, Nat.reduceSub, Nat.reduceAdd, Nat.reduceEqDiff, Nat.lt_irrefl, Nat.zero_le]
          exact ⟨⟨_, _, _, rfl⟩, K6⟩
      · rw [if_neg h0] at hfit ⊢
        simp only [add_int, wO_some, wO_none, w1_some, w1_none, wS_some, wS_none, if_none, szOk_eq, strOk_eq, p_var, p_lit, p_bin, p_un, p_if, p_cmpE, p_cmp, p_not, p_and, p_or, p_val, p_true, p_eAnd, p_eOr, p_notF, p_nil, p_cons, p_tup, p_list, p_call, p_meth, p_star, p_attr, p_skip, p_brk, p_cont, p_retN, p_seq, p_fif, p_ret, p_exp, p_asg, p_aug, p_aVar, p_aPair, p_run, List.map_cons, List.map_nil, List.cons_append, List.nil_append, List.append_nil, List.length_cons, List.length_nil, List.getElem?_cons_zero, List.getElem?_cons_succ, List.set_cons_zero, List.set_cons_succ, List.reduceReplicate, true_and, and_true, if_true, ite_true, Bool.false_eq_true, if_false, reduceIte, false_and, and_false, p_aAttr, p_eSliceA, Nat.reduceLT, Nat.reduceSub, Nat.reduceAdd, Nat.reduceEqDiff, Nat.lt_irrefl, Nat.zero_le, leB]
        by_cases hz : ((g : Nat) : Int) - ((f : Nat) : Int) + 0 ≤ w
        · simp only [hz, decide_true, truB, wO_some, wO_none, w1_some, w1_none, wS_some, wS_none, if_none, szOk_eq, strOk_eq, p_var, p_lit, p_bin, p_un, p_if, p_cmpE, p_cmp, p_not, p_and, p_or, p_val, p_true, p_eAnd, p_eOr, p_notF, p_nil, p_cons, p_tup, p_list, p_call, p_meth, p_star, p_attr, p_skip, p_brk, p_cont, p_retN, p_seq, p_fif, p_ret, p_exp, p_asg, p_aug, p_aVar, p_aPair, p_run, List.map_cons, List.map_nil, List.cons_append, List.nil_append, List.append_nil, List.length_cons, List.length_nil, List.getElem?_cons_zero, List.getElem?_cons_succ, List.set_cons_zero, List.set_cons_succ, List.reduceReplicate, true_and, and_true, if_true, ite_true, Bool.false_eq_true, if_false, reduceIte, false_and, and_false, p_aAttr, p_eSliceA, Nat.reduceLT, Nat.reduceSub, Nat.reduceAdd, Nat.reduceEqDiff, Nat.lt_irrefl, Nat.zero_le]
          refine cuts_none hq6 (by omega) rfl rfl rfl (hfit hz) ?_
          simp only [q0, List.isEmpty_nil, Bool.not_true, wO_some, wO_none, w1_some, w1_none, wS_some, wS_none, if_none, szOk_eq, strOk_eq, p_var, p_lit, p_bin, p_un, p_if, p_cmpE, p_cmp, p_not, p_and, p_or, p_val, p_true, p_eAnd, p_eOr, p_notF, p_nil, p_cons, p_tup, p_list, p_call, p_meth, p_star, p_attr, p_skip, p_brk, p_cont, p_retN, p_seq, p_fif, p_ret, p_exp, p_asg, p_aug, p_aVar, p_aPair, p_run, List.map_cons, List.map_nil, List.cons_append, List.nil_append, List.append_nil, List.length_cons, List.length_nil, List.getElem?_cons_zero, List.getElem?_cons_succ, List.set_cons_zero, List.set_cons_succ, List.reduceReplicate, true_and, and_true, if_true, ite_true, Bool.false_eq_true, if_false, reduceIte, false_and, and_false, p_aAttr, p_eSliceA, Nat.reduceLT, Nat.reduceSub, Nat.reduceAdd, Nat.reduceEqDiff, Nat.lt_irrefl, Nat.zero_le]
          exact ⟨⟨_, _, _, rfl⟩, K6.trans K7 (by simp)⟩
        · simp only [hz, decide_false, truB, wO_some, wO_none, w1_some, w1_none, wS_some, wS_none, if_none, szOk_eq, strOk_eq, p_var, p_lit, p_bin, p_un, p_if, p_cmpE, p_cmp, p_not, p_and, p_or, p_val, p_true, p_eAnd, p_eOr, p_notF, p_nil, p_cons, p_tup, p_list, p_call, p_meth, p_star, p_attr, p_skip, p_brk, p_cont, p_retN, p_seq, p_fif, p_ret, p_exp, p_asg, p_aug, p_aVar, p_aPair, p_run, List.map_cons, List.map_nil, List.cons_append, List.nil_append, List.append_nil, List.length_cons, List.length_nil, List.getElem?_cons_zero, List.getElem?_cons_succ, List.set_cons_zero, List.set_cons_succ, List.reduceReplicate, true_and, and_true, if_true, ite_true, Bool.false_eq_true, if_false, reduceIte, false_and, and_false, p_aAttr, p_eSliceA, Nat.reduceLT, Nat.reduceSub, Nat.reduceAdd, Nat.reduceEqDiff, Nat.lt_irrefl, Nat.zero_le]
          exact ⟨⟨_, _, _, rfl⟩, K6⟩
    · rintro ρ' σ' ⟨⟨v18, v19, v20, rfl⟩, K6⟩
      simp only [wO_some, wO_none, w1_some, w1_none, wS_some, wS_none, if_none, szOk_eq, strOk_eq, p_var, p_lit, p_bin, p_un, p_if, p_cmpE, p_cmp, p_not, p_and, p_or, p_val, p_true, p_eAnd, p_eOr, p_notF, p_nil, p_cons, p_tup, p_list, p_call, p_meth, p_star, p_attr, p_skip, p_brk, p_cont, p_retN, p_seq, p_fif, p_ret, p_exp, p_asg, p_aug, p_aVar, p_aPair, p_run, List.map_cons, List.map_nil, List.cons_append, List.nil_append, List.append_nil, List.length_cons, List.length_nil, List.getElem?_cons_zero, List.getElem?_cons_succ, List.set_cons_zero, List.set_cons_succ, List.reduceReplicate, true_and, and_true, if_true, ite_true, Bool.false_eq_true, if_false, reduceIte, false_and, and_false, p_aAttr, p_eSliceA, Nat.reduceLT, Nat.reduceSub, Nat.reduceAdd, Nat.reduceEqDiff, Nat.lt_irrefl, Nat.zero_le]
      exact ⟨D + 1, by omega, by omega, ⟨_, _, _, _, rfl⟩, K5.trans K6 (by simp)⟩
  · rintro k ρ' σ' hk ⟨D, rfl, hD, ⟨v17, v18, v19, v20, rfl⟩, K⟩
    simp only [wO_some, wO_none, w1_some, w1_none, wS_some, wS_none, if_none, szOk_eq, strOk_eq, p_var, p_lit, p_bin, p_un, p_if, p_cmpE, p_cmp, p_not, p_and, p_or, p_val, p_true, p_eAnd, p_eOr, p_notF, p_nil, p_cons, p_tup, p_list, p_call, p_meth, p_star, p_attr, p_skip, p_brk, p_cont, p_retN, p_seq, p_fif, p_ret, p_exp, p_asg, p_aug, p_aVar, p_aPair, p_run, List.map_cons, List.map_nil, List.cons_append, List.nil_append, List.append_nil, List.length_cons, List.length_nil, List.getElem?_cons_zero, List.getElem?_cons_succ, List.set_cons_zero, List.set_cons_succ, List.reduceReplicate, true_and, and_true, if_true, ite_true, Bool.false_eq_true, if_false, reduceIte, false_and, and_false, p_aAttr, p_eSliceA, Nat.reduceLT, Nat.reduceSub, Nat.reduceAdd, Nat.reduceEqDiff, Nat.lt_irrefl, Nat.zero_le]
    exact hQ _ _ _ _ σ' (K _ _ hr (by simp)) (K _ _ ht (by simp))
end
end Mine
end
section
open PySem PySem.W PySem.Calls PyProof.Rows
set_option maxRecDepth 100000
set_option linter.unusedVariables false
set_option linter.unusedSimpArgs false
namespace Mine
section
variable {a : Addr} {ns : List Int} {hd b w : Int} {sg : List Nat} {size c r t q : Nat} {ps : List WP} {σ : List PO} {v1 v9 v11 v12 v14 v15 v16 v17 v18 v19 v20 : Option PV} {Q : Fl → List (Option PV) → List PO → Prop}
theorem seg6 (hsg : sg.length ≤ 98) (hb : size = 0 ∨ ∀ p ∈ ps, p.1 ≠ []) (hT : TxOk ps) (hl : ps.length ≤ 14)
    (hr : σ[r]? = some (.list (ranksOf sg ps (max 1 ps.length)))) (ht : σ[t]? = some (linesO (rowsF size w sg ps))) :
    wS (h6 a ns [some (.lit (.ref a)), v1, some (.int hd), some (.int b), some (.str (mkS sg)), some (.int (size : Nat)), some (.ref c), some (.str (mkS (flat ps))), some (.ref r), v9, some (.int w), v11, v12, some (.ref t), v14, v15, v16, v17, v18, v19, v20, none, none, none, none, none, none, none, none, none] σ) fun fl _ _ => fl = .ret (.bool true) := by
  have c0 : ("" : Str) = mkS [] := by decide +kernel
  have hfl := hT.flat_le
  have hrl := rowsF_len (n := size) (w := w) (sg := sg) (ps := ps)
  have fin : ∀ (m : Bool) (σ' : List PO), σ'[t]? = some (linesO (rowsF size w sg ps)) → (m = true → 1 < (rowsF size w sg ps).length) →
      wO ((eOr truF (eBin (eCmp gtB) (eCall (lenF 200 F_len) (eCons (eVar 13) eNil)) (eLit (.int 1))) (eUn (notF truF) (eVar 21))) [some (.lit (.ref a)), v1, some (.int hd), some (.int b), some (.str (mkS sg)), some (.int (size : Nat)), some (.ref c), some (.str (mkS (flat ps))), some (.ref r), v9, some (.int w), v11, v12, some (.ref t), v14, v15, v16, v17, v18, v19, v20, some (.bool m), none, none, none, none, none, none, none, none] σ') fun p _ => p = .bool true := by
    intro m σ' ht' hm
    have hz := lenF_list (C := 200) (Φ := G_len 200 116) ht' (show _ ≤ 1000000 by simp; omega)
    rw [List.length_map] at hz
    simp only [wO_some, wO_none, w1_some, w1_none, wS_some, wS_none, if_none, szOk_eq, strOk_eq, p_var, p_lit, p_bin, p_un, p_if, p_cmpE, p_cmp, p_not, p_and, p_or, p_val, p_true, p_eAnd, p_eOr, p_notF, p_nil, p_cons, p_tup, p_list, p_call, p_meth, p_star, p_attr, p_skip, p_brk, p_cont, p_retN, p_seq, p_fif, p_ret, p_exp, p_asg, p_aug, p_aVar, p_aPair, p_run, List.map_cons, List.map_nil, List.cons_append, List.nil_append, List.append_nil, List.length_cons, List.length_nil, List.getElem?_cons_zero, List.getElem?_cons_succ, List.set_cons_zero, List.set_cons_succ, List.reduceReplicate, true_and, and_true, if_true, ite_true, Bool.false_eq_true, if_false, reduceIte, false_and, and_false, p_aAttr, p_eSliceA, Nat.reduceLT, Nat.reduceSub, Nat.reduceAdd, Nat.reduceEqDiff, Nat.lt_irrefl, Nat.zero_le, G_lenE, hz, gtB, truB]
    by_cases h1 : 1 < (rowsF size w sg ps).length
    · have : decide ((1 : Int) < (((rowsF size w sg ps).length : Nat) : Int)) = true := by rw [decide_eq_true_eq]; omega
      rw [this]; simp
    · have h2 : decide ((1 : Int) < (((rowsF size w sg ps).length : Nat) : Int)) = false := by rw [decide_eq_false_iff_not]; omega
      rw [h2]
      have : m = false := by
        rw [← Bool.not_eq_true]; exact fun h => h1 (hm h)
      rw [this]; simp
  have hpost : ∀ (m : Bool) (σ' : List PO), σ'[t]? = some (linesO (rowsF size w sg ps)) → (m = true → 1 < (rowsF size w sg ps).length) → ∀ K : PV → List PO → Prop, (∀ p s, p = .bool true → K p s) → wO ((eOr truF (eBin (eCmp gtB) (eCall (lenF 200 F_len) (eCons (eVar 13) eNil)) (eLit (.int 1))) (eUn (notF truF) (eVar 21))) [some (.lit (.ref a)), v1, some (.int hd), some (.int b), some (.str (mkS sg)), some (.int (size : Nat)), some (.ref c), some (.str (mkS (flat ps))), some (.ref r), v9, some (.int w), v11, v12, some (.ref t), v14, v15, v16, v17, v18, v19, v20, some (.bool m), none, none, none, none, none, none, none, none] σ') K := fun m σ' h1 h2 K hK => (fin m σ' h1 h2).mono hK
  unfold h6
  generalize (eOr truF (eBin (eCmp gtB) (eCall (lenF 200 F_len) (eCons (eVar 13) eNil)) (eLit (.int 1))) (eUn (notF truF) (eVar 21))) = E at hpost ⊢
  simp only [p_seq, p_asg, p_ret]
  have hd1 : decide (w < ((size : Nat) : Int) + (((flat ps).length : Nat) : Int)) = decide (w < ((size + (flat ps).length : Nat) : Int)) := by apply decide_eq_decide.2; omega
  have hd2 : decide ((0 : Int) < ((size : Nat) : Int)) = decide (0 < size) := by apply decide_eq_decide.2; omega
  simp only [p_eAnd, p_eOr, p_bin, p_var, p_lit, p_cmpE, p_call, p_cons, p_nil, p_aVar, List.getElem?_cons_succ, List.getElem?_cons_zero, w1_some, c0, neB_of eq_str, G_lenE, lenF_str (show (flat ps).length ≤ 1000000 by omega), wO_some, add_int, gtB, truB, hd1, hd2, List.set_cons_succ, List.set_cons_zero]
  by_cases t1 : flat ps = []
  · rw [t1]
    simp only [beq_self_eq_true, Bool.not_true, Bool.false_eq_true, if_false]
    rw [← t1]
    exact hpost false σ ht (by simp) _ (fun p s h => by rw [h])
  · have e1 : (flat ps == []) = false := by simpa using t1
    simp only [e1, Bool.not_false, if_true]
    by_cases t2 : w < ((size + (flat ps).length : Nat) : Int)
    · simp only [t2, decide_true, if_true]
      have hne : ps ≠ [] := by intro e; rw [e] at t1; exact t1 rfl
      by_cases t3 : 0 < size
      · simp only [t3, decide_true, if_true]
        exact hpost true σ ht (fun _ => must_cut hT.vis hb hT.white hsg hne t2 (.inl t3)) _ (fun p s h => by rw [h])
      · simp only [t3, decide_false, Bool.false_eq_true, if_false]
        refine comp_nats (l := (List.range (max 1 ps.length)).map (rankAt sg ps)) (fun k => decide (k < 99)) ?_
        simp only [p_var, List.getElem?_cons_succ, List.getElem?_cons_zero, w1_some]
        refine ⟨r, rfl, ?_, by simp; omega, ?_, ?_⟩
        · rw [hr]; simp only [ranksOf, natsL, List.map_map]; rfl
        · intro v hv acc
          have d1 : decide (((v : Nat) : Int) < 99) = decide (v < 99) := by apply decide_eq_decide.2; omega
          simp only [fInner, List.map_cons, List.map_nil, Option.bind_none, Option.bind_some, wO_some, wO_none, w1_some, w1_none, wS_some, wS_none, if_none, szOk_eq, strOk_eq, p_var, p_lit, p_bin, p_un, p_if, p_cmpE, p_cmp, p_not, p_and, p_or, p_val, p_true, p_eAnd, p_eOr, p_notF, p_nil, p_cons, p_tup, p_list, p_call, p_meth, p_star, p_attr, p_skip, p_brk, p_cont, p_retN, p_seq, p_fif, p_ret, p_exp, p_asg, p_aug, p_aVar, p_aPair, p_run, List.map_cons, List.map_nil, List.cons_append, List.nil_append, List.append_nil, List.length_cons, List.length_nil, List.getElem?_cons_zero, List.getElem?_cons_succ, List.set_cons_zero, List.set_cons_succ, List.reduceReplicate, true_and, and_true, if_true, ite_true, Bool.false_eq_true, if_false, reduceIte, false_and, and_false, p_aAttr, p_eSliceA, Nat.reduceLT, Nat.reduceSub, Nat.reduceAdd, Nat.reduceEqDiff, Nat.lt_irrefl, Nat.zero_le, Option.join_some, ltB, d1, implies_true, and_self]
        · have K7 : Keep σ (σ ++ [PO.list (natsL (((List.range (max 1 ps.length)).map (rankAt sg ps)).filter fun k => decide (k < 99)))] ++ [PO.list []]) [] := (Keep.app (S := [])).trans (Keep.app (S := [])) (by simp)
          have q0 := neB_of (eqB_nil (σ := σ ++ [PO.list (natsL (((List.range (max 1 ps.length)).map (rankAt sg ps)).filter fun k => decide (k < 99)))] ++ [PO.list []]) (i := σ.length) (j := (σ ++ [PO.list (natsL (((List.range (max 1 ps.length)).map (rankAt sg ps)).filter fun k => decide (k < 99)))]).length) (l := natsL (((List.range (max 1 ps.length)).map (rankAt sg ps)).filter fun k => decide (k < 99))) (by simp) (by simp) (by simp))
          simp only [p_list, p_nil, wO_some, q0, w1_some, List.length_nil, szOk_eq, Nat.zero_le, true_and]
          refine hpost _ _ (K7 _ _ ht (by simp)) (fun h => ?_) _ (fun p s h => by rw [h])
          have hne2 : ((List.range (max 1 ps.length)).map (rankAt sg ps)).filter (fun k => decide (k < 99)) ≠ [] := by
            intro e
            rw [e] at h
            simp [natsL] at h
          obtain ⟨y, hy⟩ := List.exists_mem_of_ne_nil _ hne2
          obtain ⟨h3, h4⟩ := List.mem_filter.1 hy
          obtain ⟨k, hk, rfl⟩ := List.mem_map.1 h3
          have hk := List.mem_range.1 hk
          have hk0 : 0 < k := by
            rcases Nat.eq_zero_or_pos k with rfl | h
            · simp [rankAt] at h4
            · exact h
          exact must_cut hT.vis hb hT.white hsg hne t2 (.inr ⟨k, hk0, by omega, by simpa using h4⟩)
    · simp only [t2, decide_false, Bool.false_eq_true, if_false]
      exact hpost false σ ht (by simp) _ (fun p s h => by rw [h])
theorem pure04 (a : Addr) (ns : List Int) (hn : ns.length ≤ 63) : ∃ σ', F_law a ns [.lit (.ref a)] [] = some (.bool true, σ') := by
  suffices k : wO (F_law a ns [.lit (.ref a)] []) fun p _ => p = .bool true by
    obtain ⟨p, σ', e, rfl⟩ := k; exact ⟨σ', e⟩
  simp only [F_law, p_run, f_law_segs, List.length_cons, List.length_nil, List.append_nil, List.map_cons, List.map_nil]
  refine ⟨trivial, ?_⟩
  refine seg1 hn fun v1 hd b sg size ps c σ g1 g2 g3 g4 g5 g6 g7 hc => ?_
  refine seg2 g1 g2 g5 g7 hc fun r v9 w v11 σ2 hc2 hr2 => ?_
  refine seg3 g1 g3 g4 g6 g5 g7 hc2 hr2 fun t v12 σ3 hc3 hr3 ht3 => ?_
  obtain ⟨ls, x, e, hg⟩ := rows_split4 (w := w) g6 g5 g1
  have hrl := rowsF_len (n := size) (w := w) (sg := sg) (ps := ps)
  have hcat := rows_cat (w := w) (sg := sg) g5.vis g6
  have hfl := g5.flat_le
  have ht3' := ht3
  rw [e] at ht3' hrl hcat
  simp only [List.length_append, List.length_singleton] at hrl
  have hy : ∀ y ∈ ls, y.length ≤ 1000 := by
    intro y hy
    have := congrArg List.length hcat
    obtain ⟨s, t, rfl⟩ := List.append_of_mem hy
    simp only [List.flatten_append, List.flatten_cons, List.length_append] at this
    omega
  refine seg4 g7 (by omega) hy hc3 hr3 ht3' fun q v15 v16 σ4 hc4 hr4 ht4 hq4 => ?_
  refine seg5 g1 g5 g7 (by omega) hg hc4 hr4 ht4 hq4 fun v17 v18 v19 v20 σ5 hr5 ht5 => ?_
  rw [← e] at ht5
  obtain ⟨fl, ρ, s, e1, rfl⟩ := seg6 (a := a) (ns := ns) (hd := hd) (b := b) (c := c) (v1 := v1) (v9 := v9) (v11 := v11) (v12 := v12) (v14 := some (.ref q)) (v15 := v15) (v16 := v16) (v17 := v17) (v18 := v18) (v19 := v19) (v20 := v20) g1 g6 g5 g7 hr5 ht5
  exact ⟨_, _, _, e1, rfl⟩
end
end Mine
end
open PySem PySem.W PyProof.Rows PySem.W.X
set_option maxRecDepth 100000 in
set_option maxHeartbeats 8000000 in
theorem PySem.Challenge.cw_dw5002_04_holds : PySem.Challenge.rw_dw5002_04.Holds := by
  w_on; o_law; x_head; (case hw => w_witness2)
  k_fill
  intro w s₀ s₁ mg mb G Y fa o pm cd doc dV kV ho hd hcd hD hmg hg args vals as hpre hlay hrd hwl hlo
  have KX := kIn_of Y
  have X := (Ground.X G).1
  have V := (Ground.X G).2
  refine Ground.open G ?_
  intro T B D TE TW
  wrow_args hpre hlay hrd hwl hlo
  all_goals (
    x_fa T KX hmg
    refine Mine.joined KX T (by kernel_rfl) (by kernel_rfl) (by constructor; all_goals (intros; kernel_rfl)) hg (by assumption) (by assumption) (Mine.pure04 _ _ (by omega)) ?_
    intro s' h1 h2 h3
    exact ⟨.inl ⟨_, _, [], rfl, fun _ => rfl, ReadsW.bool true, by first | rfl | wrow_post, fun _ => ⟨List.nodup_nil, fun _ hm => nomatch hm⟩⟩, h1, h2, h3⟩)
