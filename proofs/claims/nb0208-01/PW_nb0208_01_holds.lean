import PyProof.Rows.All
import Wide.All
import OpenK.AllK
import Wide.FinOn
import PySem.Challenge.RW_nb0208_01
set_option Elab.async false
set_option maxRecDepth 100000
namespace Mine
section
open PySem PyProof.Rows
/-- abstract values: tokens are forgotten (an int's is not nought) -/
inductive PV where
  | any
  | none
  | bool (b : Bool)
  | int (i : Int)
  | int0 (i : Int)
  | str (x : Str)
  | bytes (b : Array UInt8)
  | tup (l : List PV)
  | ref (a : Addr)
mutual
inductive Is (h : Heap) : PV → Value → Prop
  | any (v : Value) : Is h .any v
  | none : Is h .none .none
  | bool (b : Bool) : Is h (.bool b) (.bool b)
  | int (i : Int) (t : Tok) : t ≠ 0 → Is h (.int i) (.int i t)
  | int0 (i : Int) (t : Tok) : Is h (.int0 i) (.int i t)
  | str (x : Str) (t : Tok) : Is h (.str x) (.str x t)
  | bytes (b : Array UInt8) (t : Tok) : Is h (.bytes b) (.bytes b t)
  | ref (a : Addr) : Is h (.ref a) (.ref a)
  | tup {l : List PV} {a : Addr} {vs : List Value} : IsTup h a vs.toArray → IsAll h l vs → Is h (.tup l) (.ref a)
inductive IsAll (h : Heap) : List PV → List Value → Prop
  | nil : IsAll h [] []
  | cons {d : PV} {v : Value} {ds : List PV} {vs : List Value} : Is h d v → IsAll h ds vs → IsAll h (d :: ds) (v :: vs)
end
noncomputable def Mono (h h' : Heap) : Prop := ∀ a vs, IsTup h a vs → IsTup h' a vs
theorem Mono.keep {h h' : Heap} (k : ∀ b o, h.get? b = some o → h'.get? b = some o) : Mono h h' :=
  fun _ _ ⟨o, e, r⟩ => ⟨o, k _ o e, r⟩
mutual
theorem Is.mono {h h' : Heap} (m : Mono h h') : ∀ {d : PV} {v : Value}, Is h d v → Is h' d v
  | _, _, .any v => .any v
  | _, _, .none => .none
  | _, _, .bool b => .bool b
  | _, _, .int i t ht => .int i t ht
  | _, _, .int0 i t => .int0 i t
  | _, _, .str x t => .str x t
  | _, _, .bytes b t => .bytes b t
  | _, _, .ref a => .ref a
  | _, _, .tup t a => .tup (m _ _ t) (IsAll.mono m a)
theorem IsAll.mono {h h' : Heap} (m : Mono h h') : ∀ {d : List PV} {v : List Value}, IsAll h d v → IsAll h' d v
  | _, _, .nil => .nil
  | _, _, .cons x r => .cons (Is.mono m x) (IsAll.mono m r)
end
theorem IsAll.length {h : Heap} : ∀ {ds : List PV} {vs : List Value}, IsAll h ds vs → vs.length = ds.length
  | _, _, .nil => by simp
  | _, _, .cons _ r => by simp [r.length]
theorem IsAll.get {h : Heap} {ds : List PV} {vs : List Value} (a : IsAll h ds vs) {i : Nat} {d : PV} (e : ds[i]? = some d) : ∃ v, vs[i]? = some v ∧ Is h d v := by
  induction i generalizing ds vs with
  | zero => cases a with
    | nil => simp at e
    | cons x r => simp at e; subst e; exact ⟨_, by simp, x⟩
  | succ i ih => cases a with
    | nil => simp at e
    | cons x r => simp at e; simpa using ih r e
theorem IsAll.append {h : Heap} {ds es : List PV} {vs us : List Value} (a : IsAll h ds vs) (b : IsAll h es us) : IsAll h (ds ++ es) (vs ++ us) := by
  induction ds generalizing vs with
  | nil => cases a; exact b
  | cons d ds ih => cases a with | cons x r => exact .cons x (ih r)
theorem IsAll.set {h : Heap} {ds : List PV} {vs : List Value} (a : IsAll h ds vs) {i : Nat} {d : PV} {v : Value} (x : Is h d v) : IsAll h (ds.set i d) (vs.set i v) := by
  induction i generalizing ds vs with
  | zero => cases a with
    | nil => exact .nil
    | cons y r => exact .cons x r
  | succ i ih => cases a with
    | nil => exact .nil
    | cons y r => exact .cons y (ih r)
theorem IsAll.take {h : Heap} {ds : List PV} {vs : List Value} (a : IsAll h ds vs) (n : Nat) : IsAll h (ds.take n) (vs.take n) := by
  induction n generalizing ds vs with
  | zero => simpa using IsAll.nil
  | succ i ih => cases a with
    | nil => exact .nil
    | cons y r => exact .cons y (ih r)
theorem IsAll.drop {h : Heap} {ds : List PV} {vs : List Value} (a : IsAll h ds vs) (n : Nat) : IsAll h (ds.drop n) (vs.drop n) := by
  induction n generalizing ds vs with
  | zero => simpa using a
  | succ i ih => cases a with
    | nil => exact .nil
    | cons y r => exact ih r
inductive AObj where
  | list (l : List PV)
  | barr (b : Array UInt8)
  | cell (d : Option PV)
abbrev lstObj (vs : Array Value) (n : Nat) : Obj := { cls := .type "list", data := .seq vs n }
noncomputable def ObjIs (h : Heap) (a : Addr) : AObj → Prop
  | .list l => ∃ vs n, h.get? a = some (lstObj vs n) ∧ IsAll h l vs.toList
  | .barr b => h.get? a = some { cls := .type "bytearray", data := .bytearray b 0 }
  | .cell (some d) => ∃ v, h.IsCell a (some v) ∧ Is h d v
  | .cell none => h.IsCell a none
theorem ObjIs.at {h h' : Heap} {a : Addr} {x : AObj} (o : ObjIs h a x) (m : Mono h h') (e : ∀ o, h.get? a = some o → h'.get? a = some o) : ObjIs h' a x := by
  cases x with
  | list l => obtain ⟨vs, n, g, i⟩ := o; exact ⟨vs, n, e _ g, i.mono m⟩
  | barr b => exact e _ o
  | cell d => cases d with
    | none => obtain ⟨ob, g, dd⟩ := o; exact ⟨ob, e _ g, dd⟩
    | some d => obtain ⟨v, ⟨ob, g, dd⟩, i⟩ := o; exact ⟨v, ⟨ob, e _ g, dd⟩, i.mono m⟩
theorem ObjIs.notTup {h : Heap} {a : Addr} {x : AObj} (o : ObjIs h a x) (vs : Array Value) : ¬ IsTup h a vs := by
  rintro ⟨ob, e, c, n, d⟩
  cases x with
  | list l => obtain ⟨_, _, g, _⟩ := o; rw [g] at e; cases e; simp at c
  | barr b => have g : h.get? a = some _ := o; rw [g] at e; cases e; simp at c
  | cell x => cases x with
    | none => obtain ⟨ob', g, dd⟩ := o; rw [g] at e; cases e; rw [dd] at d; cases d
    | some x => obtain ⟨_, ⟨ob', g, dd⟩, _⟩ := o; rw [g] at e; cases e; rw [dd] at d; cases d
theorem ObjIs.notNs {h : Heap} {a : Addr} {x : AObj} {m : Str → Option Value} (o : ObjIs h a x) : ¬ h.Ns a m := by
  rintro ⟨ob, es, ep, e, d, _⟩
  cases x with
  | list l => obtain ⟨_, _, g, _⟩ := o; rw [g] at e; cases e; simp at d
  | barr b => have g : h.get? a = some _ := o; rw [g] at e; cases e; simp at d
  | cell x => cases x with
    | none => obtain ⟨ob', g, dd⟩ := o; rw [g] at e; cases e; rw [dd] at d; cases d
    | some x => obtain ⟨_, ⟨ob', g, dd⟩, _⟩ := o; rw [g] at e; cases e; rw [dd] at d; cases d
theorem ObjIs.lt {h : Heap} {a : Addr} {x : AObj} (o : ObjIs h a x) : a < h.objs.size := by
  cases x with
  | list l => obtain ⟨_, _, g, _⟩ := o; exact Heap.lt_size g
  | barr b => exact Heap.lt_size o
  | cell x => cases x with
    | none => obtain ⟨_, g, _⟩ := o; exact Heap.lt_size g
    | some x => obtain ⟨_, ⟨_, g, _⟩, _⟩ := o; exact Heap.lt_size g
theorem ObjIs.live {h : Heap} {a : Addr} {x : AObj} (o : ObjIs h a x) : ∃ ob, h.get? a = some ob := by
  cases x with
  | list l => obtain ⟨_, _, g, _⟩ := o; exact ⟨_, g⟩
  | barr b => exact ⟨_, o⟩
  | cell x => cases x with
    | none => obtain ⟨_, g, _⟩ := o; exact ⟨_, g⟩
    | some x => obtain ⟨_, ⟨_, g, _⟩, _⟩ := o; exact ⟨_, g⟩
structure St where
  loc : List (Str × PV)
  own : List (Addr × AObj)
structure Cx where
  A : Around
  env : Env
  h0 : Heap
  W : List Addr
  ro : List (Addr × AObj)
structure CxOk (B : Heap) (C : Cx) : Prop where
  base : ∀ b o, B.get? b = some o → C.h0.get? b = some o
  wb : ∀ a ∈ C.W, B.get? a = none
  lnew : C.h0.get? C.env.locals = none
  kind : C.env.scope.kind = .function
  glob : C.env.globals = mainGlobals
  blt : C.env.builtins = builtinsNs
  ro : ∀ p ∈ C.ro, ObjIs C.h0 p.1 p.2 ∧ p.1 ∉ C.W
structure Rel (C : Cx) (S : St) (h : Heap) : Prop where
  keep : ∀ b o, C.h0.get? b = some o → b ∉ C.W → h.get? b = some o
  loc : ∃ m, h.Ns C.env.locals m ∧ ∀ p ∈ S.loc, p.2 = .any ∨ ∃ v, m p.1 = some v ∧ Is h p.2 v
  kinds : ∀ p ∈ S.loc, C.env.kindOf p.1 = some .local ∧ (p.1 == ("__debug__" : Str)) = false
  lnd : (S.loc.map Prod.fst).Nodup
  own : ∀ p ∈ S.own, ObjIs h p.1 p.2
  nd : (S.own.map Prod.fst).Nodup
  apart : ∀ p ∈ S.own, p.1 ∈ C.W ∨ C.h0.get? p.1 = none
  wtup : ∀ a ∈ C.W, ∀ vs, ¬ IsTup C.h0 a vs
  wlive : ∀ a ∈ C.W, (∃ o, C.h0.get? a = some o) ∧ ∃ o, h.get? a = some o
theorem Rel.keepB {B : Heap} {C : Cx} {S : St} {h : Heap} (k : CxOk B C) (r : Rel C S h) : ∀ b o, B.get? b = some o → h.get? b = some o :=
  fun b o e => r.keep b o (k.base b o e) fun m => by rw [k.wb b m] at e; cases e
theorem Rel.mono0 {C : Cx} {S : St} {h : Heap} (r : Rel C S h) : Mono C.h0 h :=
  fun a vs t => by
    obtain ⟨o, e, x⟩ := id t
    exact ⟨o, r.keep a o e (fun m => r.wtup a m vs t), x⟩
theorem Rel.ro {B : Heap} {C : Cx} {S : St} {h : Heap} (k : CxOk B C) (r : Rel C S h) {p : Addr × AObj} (m : p ∈ C.ro) : ObjIs h p.1 p.2 :=
  (k.ro p m).1.at r.mono0 fun o e => r.keep _ o e (k.ro p m).2
/-- what may be read -/
noncomputable def Has (C : Cx) (S : St) (a : Addr) (x : AObj) : Prop := (a, x) ∈ S.own ∨ (a, x) ∈ C.ro
theorem Rel.has {B : Heap} {C : Cx} {S : St} {h : Heap} (k : CxOk B C) (r : Rel C S h) {a : Addr} {x : AObj} (m : Has C S a x) : ObjIs h a x :=
  m.elim (fun m => r.own _ m) (fun m => r.ro k m)
theorem Mono.sameBut {h h' : Heap} {a : Addr} (n : ∀ vs, ¬ IsTup h a vs) (s : Heap.SameBut a h h') : Mono h h' :=
  fun b vs t => by
    obtain ⟨o, e, r⟩ := id t
    refine ⟨o, (s.2 b fun q => ?_).trans e, r⟩
    subst q; exact n vs t
theorem Mono.push {h : Heap} (o : Obj) : Mono h (h.push o) := Mono.keep fun _ _ e => Heap.get?_push_of_some o e
theorem Rel.push {C : Cx} {S : St} {h : Heap} (r : Rel C S h) (o : Obj) : Rel C S (h.push o) where
  keep := fun b o' e n => Heap.get?_push_of_some o (r.keep b o' e n)
  loc := let ⟨m, n, f⟩ := r.loc; ⟨m, n.push o, fun p q => (f p q).imp id fun ⟨v, a, b⟩ => ⟨v, a, b.mono (Mono.push o)⟩⟩
  kinds := r.kinds
  lnd := r.lnd
  own := fun p q => (r.own p q).at (Mono.push o) fun _ e => Heap.get?_push_of_some o e
  nd := r.nd
  apart := r.apart
  wtup := r.wtup
  wlive := fun a m => ⟨(r.wlive a m).1, let ⟨o', e⟩ := (r.wlive a m).2; ⟨o', Heap.get?_push_of_some o e⟩⟩
theorem Rel.grow {C : Cx} {S : St} {h : Heap} (r : Rel C S h) {a : Addr} {x : AObj} (o : ObjIs h a x) (n : ∀ p ∈ S.own, p.1 ≠ a) (hn : C.h0.get? a = none) : Rel C { S with own := (a, x) :: S.own } h :=
  { r with
    own := fun p q => by
      rcases List.mem_cons.mp q with rfl | q
      · exact o
      · exact r.own p q
    nd := by
      simp only [List.map_cons, List.nodup_cons]
      exact ⟨fun m => by obtain ⟨p, q, e⟩ := List.mem_map.mp m; exact n p q e, r.nd⟩
    apart := fun p q => by
      rcases List.mem_cons.mp q with rfl | q
      · exact .inr hn
      · exact r.apart p q }
theorem Rel.none_size {C : Cx} {S : St} {h : Heap} (r : Rel C S h) : C.h0.get? h.objs.size = none := by
  cases e : C.h0.get? h.objs.size with
  | none => rfl
  | some o =>
    by_cases m : h.objs.size ∈ C.W
    · obtain ⟨o', e'⟩ := (r.wlive _ m).2
      exact absurd (Heap.lt_size e') (Nat.lt_irrefl _)
    · exact absurd (Heap.lt_size (r.keep _ o e m)) (Nat.lt_irrefl _)
/-- one owned object's place -/
inductive Upd {α β : Type} (a : α) (x y : β) : List (α × β) → List (α × β) → Prop
  | here {r : List (α × β)} : Upd a x y ((a, x) :: r) ((a, y) :: r)
  | skip {p : α × β} {r r' : List (α × β)} : Upd a x y r r' → Upd a x y (p :: r) (p :: r')
theorem Upd.keys {α β : Type} {a : α} {x y : β} {l l' : List (α × β)} (u : Upd a x y l l') : l'.map Prod.fst = l.map Prod.fst := by
  induction u with
  | here => rfl
  | skip _ ih => simp [ih]
theorem Upd.old {α β : Type} {a : α} {x y : β} {l l' : List (α × β)} (u : Upd a x y l l') : (a, x) ∈ l := by
  induction u with
  | here => exact .head _
  | skip _ ih => exact .tail _ ih
theorem Upd.mem {α β : Type} {a : α} {x y : β} {l l' : List (α × β)} (u : Upd a x y l l') (nd : (l.map Prod.fst).Nodup) : ∀ p ∈ l', p = (a, y) ∨ (p ∈ l ∧ p.1 ≠ a) := by
  induction u with
  | here =>
    intro p q
    rcases List.mem_cons.mp q with rfl | q
    · exact .inl rfl
    · refine .inr ⟨.tail _ q, fun e => ?_⟩
      simp only [List.map_cons, List.nodup_cons] at nd
      exact nd.1 (e ▸ List.mem_map_of_mem q)
  | @skip p₀ r r' u ih =>
    intro p q
    simp only [List.map_cons, List.nodup_cons] at nd
    rcases List.mem_cons.mp q with rfl | q
    · refine .inr ⟨.head _, fun e => nd.1 ?_⟩
      rw [e]; exact List.mem_map_of_mem (f := Prod.fst) u.old
    · exact (ih nd.2 p q).imp id fun ⟨a, b⟩ => ⟨.tail _ a, b⟩
theorem Rel.upd {C : Cx} {S : St} {h h' : Heap} {a : Addr} {x y : AObj} {own' : List (Addr × AObj)} (r : Rel C S h) (u : Upd a x y S.own own') (s : Heap.SameBut a h h') (o : Mono h h' → ObjIs h' a y) :
    Rel C { S with own := own' } h' ∧ Mono h h' := by
  have hm := r.own _ u.old
  have M : Mono h h' := Mono.sameBut (fun vs => hm.notTup vs) s
  have ha := r.apart _ u.old
  refine ⟨?_, M⟩
  exact {
    keep := fun b o' e n => (s.2 b fun q => by subst q; rcases ha with ha | ha; exact n ha; rw [ha] at e; cases e).trans (r.keep b o' e n)
    loc := by
      obtain ⟨m, n, f⟩ := r.loc
      have hL : C.env.locals ≠ a := fun q => hm.notNs (m := m) (show h.Ns a m from q ▸ n)
      exact ⟨m, n.sameBut s hL, fun p q => (f p q).imp id fun ⟨v, a, b⟩ => ⟨v, a, b.mono M⟩⟩
    kinds := r.kinds
    lnd := r.lnd
    own := fun p q => by
      rcases u.mem r.nd p q with rfl | ⟨q, n⟩
      · exact o M
      · exact (r.own p q).at M fun o e => (s.2 _ n).trans e
    nd := by show (own'.map Prod.fst).Nodup; rw [u.keys]; exact r.nd
    apart := fun p q => by
      rcases u.mem r.nd p q with rfl | ⟨q, n⟩
      · exact ha
      · exact r.apart p q
    wtup := r.wtup
    wlive := fun b m => by
      refine ⟨(r.wlive b m).1, ?_⟩
      by_cases e : b = a
      · subst e; exact (o M).live
      · obtain ⟨o', e'⟩ := (r.wlive b m).2
        exact ⟨o', (s.2 b e).trans e'⟩ }
theorem Rel.store {C : Cx} {S : St} {h h' : Heap} {x : Str} {d₀ d : PV} {v : Value} {loc' : List (Str × PV)} {m : Str → Option Value} (r : Rel C S h) (hm : h.Ns C.env.locals m) (hf : ∀ p ∈ S.loc, p.2 = .any ∨ ∃ v, m p.1 = some v ∧ Is h p.2 v)
    (u : Upd x d₀ d S.loc loc') (hn : h'.Ns C.env.locals (fun y => if y = x then some v else m y)) (s : Heap.SameBut C.env.locals h h') (i : Is h d v) (hL : C.h0.get? C.env.locals = none) :
    Rel C { S with loc := loc' } h' ∧ Mono h h' := by
  have nt : ∀ vs, ¬ IsTup h C.env.locals vs := by
    rintro vs ⟨o, e, c, n, dd⟩
    obtain ⟨o', es, ep, e', d', _⟩ := hm
    rw [e] at e'; cases e'; rw [dd] at d'; cases d'
  have M : Mono h h' := Mono.sameBut nt s
  refine ⟨?_, M⟩
  have ne : ∀ p ∈ S.own, p.1 ≠ C.env.locals := fun p q e => (r.own p q).notNs (m := m) (e ▸ hm)
  exact {
    keep := fun b o' e n => (s.2 b fun q => by subst q; rw [hL] at e; cases e).trans (r.keep b o' e n)
    loc := ⟨_, hn, fun p q => by
      rcases u.mem r.lnd p q with rfl | ⟨q, n⟩
      · exact .inr ⟨v, by simp, i.mono M⟩
      · refine (hf p q).imp id fun ⟨v, a, b⟩ => ⟨v, by simp [n, a], b.mono M⟩⟩
    kinds := fun p q => by
      rcases u.mem r.lnd p q with rfl | ⟨q, n⟩
      · exact r.kinds (x, d₀) u.old
      · exact r.kinds p q
    lnd := by show (loc'.map Prod.fst).Nodup; rw [u.keys]; exact r.lnd
    own := fun p q => (r.own p q).at M fun o e => (s.2 _ (ne p q)).trans e
    nd := r.nd
    apart := r.apart
    wtup := r.wtup
    wlive := fun b m => by
      refine ⟨(r.wlive b m).1, ?_⟩
      obtain ⟨o', e'⟩ := (r.wlive b m).2
      refine ⟨o', (s.2 b fun q => ?_).trans e'⟩
      obtain ⟨o₀, e₀⟩ := (r.wlive b m).1
      rw [q, hL] at e₀; cases e₀ }
structure Post (C : Cx) (S : St) (s s' : Shared) (S' : St) : Prop where
  gens : s'.gens = s.gens
  os : s'.os = s.os
  rel : Rel C S' s'.heap
  frame : ∀ b o, s.heap.get? b = some o → b ∉ S.own.map Prod.fst → b ≠ C.env.locals → s'.heap.get? b = some o
  fresh : ∀ p ∈ S'.own, p.1 ∈ S.own.map Prod.fst ∨ s.heap.get? p.1 = none
  live : ∀ b o, s.heap.get? b = some o → ∃ o', s'.heap.get? b = some o'
theorem Rel.notTup {C : Cx} {S : St} {h : Heap} (r : Rel C S h) {a : Addr} {vs : Array Value} (t : IsTup h a vs) : a ∉ S.own.map Prod.fst ∧ a ≠ C.env.locals := by
  refine ⟨fun m => ?_, fun q => ?_⟩
  · obtain ⟨p, q, e⟩ := List.mem_map.mp m
    exact (r.own p q).notTup vs (e ▸ t)
  · obtain ⟨o, e, c, n, dd⟩ := t
    obtain ⟨m, ⟨o', es, ep, e', d', _⟩, _⟩ := r.loc
    rw [q] at e
    rw [e] at e'; cases e'; rw [dd] at d'; cases d'
theorem Post.mono {C : Cx} {S S' : St} {s s' : Shared} (p : Post C S s s' S') (r : Rel C S s.heap) : Mono s.heap s'.heap :=
  fun a vs t => by
    have := r.notTup t
    obtain ⟨o, e, x⟩ := t
    exact ⟨o, p.frame a o e this.1 this.2, x⟩
theorem Post.trans {C : Cx} {s s₁ s₂ : Shared} {S S₁ S₂ : St} (p : Post C S s s₁ S₁) (q : Post C S₁ s₁ s₂ S₂) : Post C S s s₂ S₂ where
  gens := q.gens.trans p.gens
  os := q.os.trans p.os
  rel := q.rel
  live := fun b o e => let ⟨o', e'⟩ := p.live b o e; q.live b o' e'
  frame := fun b o e n l => q.frame b o (p.frame b o e n l) (fun m => by
    obtain ⟨x, y, z⟩ := List.mem_map.mp m
    rcases p.fresh x y with h | h
    · exact n (z ▸ h)
    · rw [z, e] at h; cases h) l
  fresh := fun x y => by
    rcases q.fresh x y with h | h
    · obtain ⟨x', y', z⟩ := List.mem_map.mp h
      rw [← z]; exact p.fresh x' y'
    · by_cases m : x.1 ∈ S.own.map Prod.fst
      · exact .inl m
      · refine .inr ?_
        cases e : s.heap.get? x.1 with
        | none => rfl
        | some o =>
          by_cases l : x.1 = C.env.locals
          · obtain ⟨m, ⟨o', es, ep, e', d', _⟩, _⟩ := p.rel.loc
            rw [l, e'] at h; cases h
          · rw [p.frame _ o e m l] at h; cases h
inductive Ans {α β : Type} (C : Cx) (S : St) (s : Shared) (V : Heap → β → α → Prop) (K : β → St → Prop) (v : α) (s' : Shared) : Prop
  | intro (d : β) (S' : St) (p : Post C S s s' S') (x : V s'.heap d v) (k : K d S') : Ans C S s V K v s'
inductive Ans1 (C : Cx) (S : St) (s : Shared) (K : St → Prop) (s' : Shared) : Prop
  | intro (S' : St) (p : Post C S s s' S') (k : K S') : Ans1 C S s K s'
section
variable (prog : Program) (w : World)
noncomputable def WT {α β : Type} (C : Cx) (t : Sem α) (V : Heap → β → α → Prop) (S : St) (K : β → St → Prop) : Prop :=
  ∀ s : Shared, Rel C S s.heap → s.toks ≠ 0 → wpAny (model prog w) C.A t (Ans C S s V K) (fun _ _ => False) s
inductive PFlow where
  | next
  | brk
  | cont
  | ret (d : PV)
noncomputable def FlowIs (h : Heap) : PFlow → Flow → Prop
  | .next, .next => True
  | .brk, .brk => True
  | .cont, .cont => True
  | .ret d, .ret v => Is h d v
  | _, _ => False
abbrev WE (C : Cx) (e : Expr) (S : St) (K : PV → St → Prop) : Prop := WT prog w C (eval e C.env) Is S K
abbrev WB (C : Cx) (e : Expr) (S : St) (K : Bool → St → Prop) : Prop := WT prog w C (isTrue e C.env (eval e C.env)) (fun _ d v => v = d) S K
abbrev WX (C : Cx) (e : Stmt) (S : St) (K : PFlow → St → Prop) : Prop := WT prog w C (exec e C.env) FlowIs S K
abbrev WXs (C : Cx) (e : List Stmt) (S : St) (K : PFlow → St → Prop) : Prop := WT prog w C (execs e C.env) FlowIs S K
abbrev WL (C : Cx) (pos : Pos) (es : List Expr) (S : St) (K : List PV → St → Prop) : Prop := WT prog w C (spliced (backTo pos (starEach es C.env))) IsAll S K
end
section
variable {prog : Program} {w : World} {C : Cx} {S : St}
/-- what follows, at the bare level -/
theorem WT.run {α β : Type} {t : Sem α} {V : Heap → β → α → Prop} {K : β → St → Prop} {s : Shared} {Q : α → Shared → Prop} {E : Value → Shared → Prop}
    (h : WT prog w C t V S K) (r : Rel C S s.heap) (ht : s.toks ≠ 0) (k : ∀ v s' d S', s'.toks ≠ 0 → Post C S s s' S' → V s'.heap d v → K d S' → Q v s') : wpAny (model prog w) C.A t Q E s :=
  wpAny_mono (wpAny_toks (h s r ht)) (fun v s' ⟨n, d, S', p, x, q⟩ => k v s' d S' (by (first | decide | lia | omega)) p x q) (fun _ _ x => x.2.elim)
theorem Post.same {s : Shared} (r : Rel C S s.heap) {tk : Nat} : Post C S s { s with toks := tk } S := ⟨rfl, rfl, r, fun _ _ e _ _ => e, fun _ q => .inl (List.mem_map_of_mem q), fun _ o e => ⟨o, e⟩⟩
theorem Post.rfl {s : Shared} (r : Rel C S s.heap) : Post C S s s S := ⟨Eq.refl _, Eq.refl _, r, fun _ _ e _ _ => e, fun _ q => .inl (List.mem_map_of_mem q), fun _ o e => ⟨o, e⟩⟩
/-- a new object that nobody writes -/
theorem Post.push {s : Shared} (r : Rel C S s.heap) (o : Obj) {tk : Nat} : Post C S s { s with heap := s.heap.push o, toks := tk } S :=
  ⟨Eq.refl _, Eq.refl _, r.push o, fun _ _ e _ _ => Heap.get?_push_of_some o e, fun _ q => .inl (List.mem_map_of_mem q), fun _ o' e => ⟨o', Heap.get?_push_of_some o e⟩⟩
/-- a new object of one's own -/
theorem Post.new {s : Shared} (r : Rel C S s.heap) {o : Obj} {x : AObj} (ho : ObjIs (s.heap.push o) s.heap.objs.size x) {tk : Nat} :
    Post C S s { s with heap := s.heap.push o, toks := tk } { S with own := (s.heap.objs.size, x) :: S.own } :=
  ⟨Eq.refl _, Eq.refl _, (r.push o).grow ho (fun p q => Nat.ne_of_lt (r.own p q).lt) r.none_size, fun _ _ e _ _ => Heap.get?_push_of_some o e, fun p q => by
    rcases List.mem_cons.mp q with e | q
    · subst e
      refine .inr ?_
      cases e : s.heap.get? s.heap.objs.size with
      | none => rfl
      | some o => exact absurd (Heap.lt_size e) (Nat.lt_irrefl _)
    · exact .inl (List.mem_map_of_mem q), fun _ o' e => ⟨o', Heap.get?_push_of_some o e⟩⟩
/-- an object of one's own is written -/
theorem Post.upd {s : Shared} {h' : Heap} {a : Addr} {x y : AObj} {own' : List (Addr × AObj)} (r : Rel C S s.heap) (u : Upd a x y S.own own') (sb : Heap.SameBut a s.heap h') (o : Mono s.heap h' → ObjIs h' a y) {tk : Nat} :
    Post C S s { s with heap := h', toks := tk } { S with own := own' } :=
  ⟨Eq.refl _, Eq.refl _, (r.upd u sb o).1, fun b o e n _ => (sb.2 b fun q => n (q ▸ List.mem_map_of_mem (f := Prod.fst) u.old)).trans e,
    fun p q => .inl (by rw [← u.keys]; exact List.mem_map_of_mem q), fun b ob e => by
      by_cases q : b = a
      · subst q; exact (o (r.upd u sb o).2).live
      · exact ⟨ob, (sb.2 b q).trans e⟩⟩
theorem WXs_nil {K : PFlow → St → Prop} (h : K .next S) : WXs prog w C [] S K :=
  fun _ r ht => wpAny_execs_nil ⟨.next, S, Post.rfl r, trivial, h⟩
noncomputable def seqK (K₁ : St → Prop) (K : PFlow → St → Prop) : PFlow → St → Prop
  | .next, S => K₁ S
  | f, S => K f S
theorem WXs_cons {st : Stmt} {rest : List Stmt} {K : PFlow → St → Prop} (h : WX prog w C st S (seqK (fun S' => WXs prog w C rest S' K) K)) : WXs prog w C (st :: rest) S K :=
  fun s r ht => wpAny_execs_cons (h.run r ht fun f s' d S' ht' p x q => by
    cases d <;> cases f <;> first | exact x.elim | skip
    · exact WT.run q p.rel ht' fun _ _ d S'' _ p' x q => ⟨d, S'', p.trans p', x, q⟩
    · exact ⟨.brk, S', p, x, q⟩
    · exact ⟨.cont, S', p, x, q⟩
    · exact ⟨.ret _, S', p, x, q⟩)
theorem WE_int {i : Int} {k : Nat} {pos : Pos} {K : PV → St → Prop} (h : K (.int i) S) : WE prog w C (.Constant (.int i) k pos) S K :=
  fun s r ht => wpAny_Constant_int ⟨.int i, S, Post.same r, .int i _ ht, h⟩
theorem WE_none {k : Nat} {pos : Pos} {K : PV → St → Prop} (h : K .none S) : WE prog w C (.Constant .none k pos) S K :=
  fun s r ht => wpAny_Constant_none ⟨.none, S, Post.rfl r, .none, h⟩
theorem WE_true {b : Bool} {k : Nat} {pos : Pos} {K : PV → St → Prop} (h : K (.bool b) S) : WE prog w C (.Constant (.bool b) k pos) S K :=
  fun s r ht => wpAny_Constant_bool ⟨.bool b, S, Post.rfl r, .bool b, h⟩
theorem WE_str {x : Str} {k : Nat} {pos : Pos} {K : PV → St → Prop} (h : K (.str x) S) : WE prog w C (.Constant (.str x) k pos) S K :=
  fun s r ht => wpAny_Constant_str ⟨.str x, S, Post.same r, .str x _, h⟩
theorem WE_bytes {b : List UInt8} {k : Nat} {pos : Pos} {K : PV → St → Prop} (h : K (.bytes b.toArray) S) : WE prog w C (.Constant (.bytes b) k pos) S K :=
  fun s r ht => by
    show wpAny _ _ (mkTextBytes b.toArray) _ _ s
    exact wpAny_mkTextBytes ⟨.bytes b.toArray, S, Post.same r, .bytes _ _, h⟩
/-- a pair's place in a list, by its make -/
inductive InL {α β : Type} (x : α) (d : β) : List (α × β) → Prop
  | here {r : List (α × β)} : InL x d ((x, d) :: r)
  | skip {p : α × β} {r : List (α × β)} : InL x d r → InL x d (p :: r)
theorem InL.mem {α β : Type} {x : α} {d : β} {l : List (α × β)} (h : InL x d l) : (x, d) ∈ l := by
  induction h with
  | here => exact .head _
  | skip _ ih => exact .tail _ ih
noncomputable def PV.known : PV → Bool
  | .any => false
  | _ => true
theorem WE_name {B : Heap} {x : Str} {pos : Pos} {d : PV} {K : PV → St → Prop} (k : CxOk B C) (m : InL x d S.loc) (nd : d.known = true) (h : K d S) : WE prog w C (.Name x pos) S K :=
  fun s r ht => by
    replace m := m.mem
    obtain ⟨m', n, f⟩ := r.loc
    obtain ⟨v, hv, i⟩ := (f _ m).resolve_left (fun e => by cases e; cases nd)
    exact wpAny_Name (wpAny_loadName_local k.kind (r.kinds _ m).1 n hv ⟨d, S, Post.rfl r, i, h⟩) (r.kinds _ m).2
theorem WU_store {B : Heap} {x : Str} {d₀ d : PV} {v : Value} {loc' : List (Str × PV)} {s : Shared} {Q : Unit → Shared → Prop} {E : Value → Shared → Prop} (k : CxOk B C) (r : Rel C S s.heap) (i : Is s.heap d v) (u : Upd x d₀ d S.loc loc')
    (h : ∀ s', Post C S s s' { S with loc := loc' } → Q () s') : wpAny (model prog w) C.A (storeName C.env x v) Q E s := by
  obtain ⟨m, n, f⟩ := r.loc
  refine wpAny_storeName_local (r.kinds _ u.old).1 n (fun h' hn hs => ?_) (by rw [k.kind]; rfl)
  have := r.store n f u hn hs i k.lnew
  exact h _ ⟨Eq.refl _, Eq.refl _, this.1, fun b o e _ l => (hs.2 b l).trans e, fun p q => .inl (List.mem_map_of_mem q), fun b o e => by
    by_cases q : b = C.env.locals
    · obtain ⟨ob, _, _, g, _⟩ := hn; exact ⟨ob, q ▸ g⟩
    · exact ⟨o, (hs.2 b q).trans e⟩⟩
end
end
section
open PySem PyProof.Rows
/-! weakening -/
inductive LocLe : List (Str × PV) → List (Str × PV) → Prop
  | nil : LocLe [] []
  | same {p : Str × PV} {l l' : List (Str × PV)} : LocLe l l' → LocLe (p :: l) (p :: l')
  | any {x : Str} {d : PV} {l l' : List (Str × PV)} : LocLe l l' → LocLe ((x, d) :: l) ((x, .any) :: l')
theorem LocLe.keys {l l' : List (Str × PV)} (h : LocLe l l') : l'.map Prod.fst = l.map Prod.fst := by
  induction h with
  | nil => rfl
  | same _ ih => simp [ih]
  | any _ ih => simp [ih]
theorem LocLe.mem {l l' : List (Str × PV)} (h : LocLe l l') : ∀ p ∈ l', p ∈ l ∨ (p.2 = .any ∧ ∃ q ∈ l, q.1 = p.1) := by
  induction h with
  | nil => intro p q; cases q
  | same _ ih =>
    intro p q
    rcases List.mem_cons.mp q with rfl | q
    · exact .inl (.head _)
    · exact (ih p q).imp (.tail _) fun ⟨a, y, b, c⟩ => ⟨a, y, .tail _ b, c⟩
  | any _ ih =>
    intro p q
    rcases List.mem_cons.mp q with rfl | q
    · exact .inr ⟨rfl, _, .head _, rfl⟩
    · exact (ih p q).imp (.tail _) fun ⟨a, y, b, c⟩ => ⟨a, y, .tail _ b, c⟩
theorem LocLe.rfl : ∀ {l : List (Str × PV)}, LocLe l l
  | [] => .nil
  | _ :: _ => .same LocLe.rfl
structure LeS (S S' : St) : Prop where
  loc : LocLe S.loc S'.loc
  own : S'.own.Sublist S.own
theorem Rel.weaken {C : Cx} {S S' : St} {h : Heap} (r : Rel C S h) (l : LeS S S') : Rel C S' h where
  keep := r.keep
  loc := let ⟨m, n, f⟩ := r.loc; ⟨m, n, fun p q => by
    rcases l.loc.mem p q with h | h
    · exact f p h
    · exact .inl h.1⟩
  kinds := fun p q => by
    rcases l.loc.mem p q with h | ⟨_, y, b, c⟩
    · exact r.kinds p h
    · rw [← c]; exact r.kinds y b
  lnd := by rw [l.loc.keys]; exact r.lnd
  own := fun p q => r.own p (l.own.subset q)
  nd := (l.own.map Prod.fst).nodup r.nd
  apart := fun p q => r.apart p (l.own.subset q)
  wtup := r.wtup
  wlive := r.wlive
theorem Post.weaken {C : Cx} {S S₁ S₂ : St} {s s' : Shared} (p : Post C S s s' S₁) (l : LeS S₁ S₂) : Post C S s s' S₂ :=
  ⟨p.gens, p.os, p.rel.weaken l, p.frame, fun x q => p.fresh x (l.own.subset q), p.live⟩
/-- start from less -/
theorem Post.less {C : Cx} {S S' S₁ : St} {s s' : Shared} (l : LeS S S') (p : Post C S' s s' S₁) : Post C S s s' S₁ :=
  ⟨p.gens, p.os, p.rel, fun b o e n => p.frame b o e fun m => n ((l.own.map Prod.fst).subset m), fun x q => (p.fresh x q).imp (fun m => (l.own.map Prod.fst).subset m) id, p.live⟩
section
variable {prog : Program} {w : World} {C : Cx} {S : St}
theorem WT.less {α β : Type} {t : Sem α} {V : Heap → β → α → Prop} {K : β → St → Prop} {S' : St} (l : LeS S S') (h : WT prog w C t V S' K) : WT prog w C t V S K :=
  fun s r ht => wpAny_mono (h s (r.weaken l) ht) (fun _ _ ⟨d, S₁, p, v, q⟩ => ⟨d, S₁, p.less l, v, q⟩) (fun _ _ x => x)
/-! ints -/
noncomputable def IntOp (op : Operator) (a b : Int) (k : Int → Prop) : Prop :=
  match op with
  | .Add => k (a + b)
  | .Sub => k (a - b)
  | .Mult => (a.natAbs < 2 ^ 62 ∨ b.natAbs < 2 ^ 62) ∧ k (a * b)
  | .FloorDiv => (0 < b ∧ b < 2 ^ 62) ∧ k (a / b)
  | .Mod => 0 < b ∧ k (a % b)
  | .RShift => (0 ≤ a ∧ b = 1) ∧ k (a / 2)
  | .Pow => (a = 35 ∧ 0 ≤ b ∧ b < 1000) ∧ k (a ^ b.toNat)
  | _ => False
theorem bits_le {a : Int} (h : a.natAbs < 2 ^ 62) : Builtin.Int.intBits a ≤ 64 := by
  unfold Builtin.Int.intBits
  split
  · (first | decide | lia | omega)
  · rename_i h0
    have : a.natAbs ≠ 0 := by simpa using h0
    have := (Nat.log2_lt this).mpr h
    (first | decide | lia | omega)
theorem pow35 {b : Int} (h0 : 0 ≤ b) (h1 : b < 1000) : ¬Builtin.Int.intTooBig (((Builtin.Int.intBits 35 : Nat) : Int) * b) = true := by
  have e : Builtin.Int.intBits 35 = 6 := by decide +kernel
  rw [e]
  unfold Builtin.Int.intTooBig
  simp only [bitsLine] at *
  simp
  (first | decide | lia | omega)
theorem intOp_run {A : Around} {op : Operator} {a b : Int} {t u : Tok} {k : Int → Prop} {s : Shared} {Q : Value → Shared → Prop} {E : Value → Shared → Prop} (h : IntOp op a b k)
    (q : ∀ c, k c → Q (.int c s.toks) { s with toks := s.toks + 1 }) : wpAny (model prog w) A (binaryOp op (.int a t) (.int b u)) Q E s := by
  cases op <;> first | exact h.elim | skip
  · exact AutoIntOps.add_0 (q _ h)
  · exact AutoIntOps.sub_0 (q _ h)
  · exact AutoIntOps.mul_0 (q _ h.2) (h.1.elim (fun h => IntMulOk.of_left (bits_le h)) fun h => IntMulOk.of_right (bits_le h))
  · refine AutoIntOps.mod_1 (by have := h.1; simp; (first | decide | lia | omega)) ?_
    rw [Int.fmod_eq_emod_of_nonneg _ (Int.le_of_lt h.1)]
    exact q _ h.2
  · obtain ⟨⟨rfl, h0, h1⟩, h⟩ := h
    by_cases hb : b = 0
    · subst hb; exact AutoIntOps.pow_0 (by (first | decide | lia | omega)) (by simp) (q _ h)
    · exact AutoIntOps.pow_4 (by (first | decide | lia | omega)) (by simpa using hb) (by simp) (by simp) (pow35 h0 h1) (q _ h)
  · obtain ⟨⟨h0, rfl⟩, h⟩ := h
    by_cases hs : (1 : Int) ≥ ((Builtin.Int.intBits a : Nat) : Int)
    · refine AutoIntOps.rshift_1 (by (first | decide | lia | omega)) hs ?_
      have : a / 2 = (if a < 0 then -1 else 0) := by
        unfold Builtin.Int.intBits at hs
        rw [if_neg (by (first | decide | lia | omega))]
        split at hs
        · rename_i h'; have : a = 0 := by simpa using h'
          (first | decide | lia | omega)
        · rename_i h'
          have hn : a.natAbs ≠ 0 := by simpa using h'
          have : a.natAbs.log2 < 1 := by (first | decide | lia | omega)
          have := (Nat.log2_lt hn).mp this
          (first | decide | lia | omega)
      rw [← this]; exact q _ h
    · refine AutoIntOps.rshift_2 (by (first | decide | lia | omega)) hs ?_
      have : a.fdiv (2 ^ (1 : Int).toNat) = a / 2 := Int.fdiv_eq_ediv_of_nonneg _ (by decide)
      rw [this]; exact q _ h
  · refine AutoIntOps.floordiv_1 (by have := h.1.1; simp; (first | decide | lia | omega)) ?_ ?_
    · rw [PyProof.noPylong_of_log2]
      · simp
      · have h1 := h.1.1; have h2 := h.1.2
        have : b.natAbs.log2 < 62 := (Nat.log2_lt (by (first | decide | lia | omega))).mpr (by (first | decide | lia | omega))
        (first | decide | lia | omega)
    · rw [Int.fdiv_eq_ediv_of_nonneg _ (Int.le_of_lt h.1.1)]
      exact q _ h.2
theorem intOp_irun {A : Around} {op : Operator} {a b : Int} {t u : Tok} {k : Int → Prop} {s : Shared} {Q : Value → Shared → Prop} {E : Value → Shared → Prop} (h : IntOp op a b k)
    (hop : op = .Add ∨ op = .FloorDiv ∨ op = .Mod ∨ op = .Sub)
    (q : ∀ c, k c → Q (.int c s.toks) { s with toks := s.toks + 1 }) : wpAny (model prog w) A (inplaceOp op (.int a t) (.int b u)) Q E s := by
  rcases hop with rfl | rfl | rfl | rfl
  · exact AutoIntOps.iadd_0 (q _ h)
  · refine AutoIntOps.ifloordiv_1 (by have := h.1.1; simp; (first | decide | lia | omega)) ?_ ?_
    · rw [PyProof.noPylong_of_log2]
      · simp
      · have h1 := h.1.1; have h2 := h.1.2
        have : b.natAbs.log2 < 62 := (Nat.log2_lt (by (first | decide | lia | omega))).mpr (by (first | decide | lia | omega))
        (first | decide | lia | omega)
    · rw [Int.fdiv_eq_ediv_of_nonneg _ (Int.le_of_lt h.1.1)]
      exact q _ h.2
  · refine AutoIntOps.imod_1 (by have := h.1; simp; (first | decide | lia | omega)) ?_
    rw [Int.fmod_eq_emod_of_nonneg _ (Int.le_of_lt h.1)]
    exact q _ h.2
  · exact AutoIntOps.isub_0 (q _ h)
noncomputable def BinK (op : Operator) : PV → PV → (PV → Prop) → Prop
  | .int a, .int b, k => IntOp op a b fun c => k (.int c)
  | .int0 a, .int b, k => IntOp op a b fun c => k (.int c)
  | .str x, .str y, k => op = .Add ∧ x.length + y.length ≤ 2 ^ 20 ∧ k (.str (x ++ y))
  | .bytes x, .bytes y, k => op = .Add ∧ x.size + y.size ≤ 2 ^ 20 ∧ k (.bytes (x ++ y))
  | _, _, _ => False
theorem BinK.str {x y : Str} {op : Operator} {k : PV → Prop} (h : BinK op (.str x) (.str y) k) : op = .Add ∧ x.length + y.length ≤ 2 ^ 20 ∧ k (.str (x ++ y)) := h
theorem BinK.bytes {x y : Array UInt8} {op : Operator} {k : PV → Prop} (h : BinK op (.bytes x) (.bytes y) k) : op = .Add ∧ x.size + y.size ≤ 2 ^ 20 ∧ k (.bytes (x ++ y)) := h
theorem BinK.int {x y : Int} {op : Operator} {k : PV → Prop} (h : BinK op (.int x) (.int y) k) : IntOp op x y fun c => k (.int c) := h
theorem BinK.int0 {x y : Int} {op : Operator} {k : PV → Prop} (h : BinK op (.int0 x) (.int y) k) : IntOp op x y fun c => k (.int c) := h
theorem Is.int_inv {h : Heap} {i : Int} {v : Value} (x : Is h (.int i) v) : ∃ t, t ≠ 0 ∧ v = .int i t := by
  cases x with | int _ t ht => exact ⟨t, ht, rfl⟩
theorem Is.int0_inv {h : Heap} {i : Int} {v : Value} (x : Is h (.int0 i) v) : ∃ t, v = .int i t := by
  cases x with | int0 _ t => exact ⟨t, rfl⟩
theorem Is.str_inv {h : Heap} {i : Str} {v : Value} (x : Is h (.str i) v) : ∃ t, v = .str i t := by
  cases x with | str _ t => exact ⟨t, rfl⟩
theorem Is.bytes_inv {h : Heap} {i : Array UInt8} {v : Value} (x : Is h (.bytes i) v) : ∃ t, v = .bytes i t := by
  cases x with | bytes _ t => exact ⟨t, rfl⟩
theorem Is.ref_inv {h : Heap} {a : Addr} {v : Value} (x : Is h (.ref a) v) : v = .ref a := by
  cases x; rfl
theorem IsAll.cons_inv {h : Heap} {d : PV} {ds : List PV} {vs : List Value} (x : IsAll h (d :: ds) vs) : ∃ v r, vs = v :: r ∧ Is h d v ∧ IsAll h ds r := by
  cases x with | cons a b => exact ⟨_, _, rfl, a, b⟩
theorem IsAll.nil_inv {h : Heap} {vs : List Value} (x : IsAll h [] vs) : vs = [] := by cases x; rfl
/-- the kinds that BinK takes -/
theorem BinK.inv {a b : PV} {op : Operator} {k : PV → Prop} (h : BinK op a b k) : (∃ x y, a = .int x ∧ b = .int y) ∨ (∃ x y, a = .int0 x ∧ b = .int y) ∨ (∃ x y, a = .str x ∧ b = .str y) ∨ (∃ x y, a = .bytes x ∧ b = .bytes y) := by
  unfold BinK at h
  split at h
  · exact .inl ⟨_, _, rfl, rfl⟩
  · exact .inr (.inl ⟨_, _, rfl, rfl⟩)
  · exact .inr (.inr (.inl ⟨_, _, rfl, rfl⟩))
  · exact .inr (.inr (.inr ⟨_, _, rfl, rfl⟩))
  · exact h.elim
theorem binK_run {a b : PV} {op : Operator} {v u : Value} {s : Shared} {k : PV → Prop} {Q : Value → Shared → Prop} {E : Value → Shared → Prop} {h : Heap} (ia : Is h a v) (ib : Is h b u) (ht : s.toks ≠ 0) (hk : BinK op a b k)
    (q : ∀ d r tk, (∀ h, Is h d r) → k d → Q r { s with toks := tk }) : wpAny (model prog w) C.A (binaryOp op v u) Q E s := by
  rcases hk.inv with ⟨x, y, rfl, rfl⟩ | ⟨x, y, rfl, rfl⟩ | ⟨x, y, rfl, rfl⟩ | ⟨x, y, rfl, rfl⟩
  · obtain ⟨t, _, rfl⟩ := ia.int_inv
    obtain ⟨t', _, rfl⟩ := ib.int_inv
    exact intOp_run (k := fun c => k (.int c)) hk.int fun c kc => q _ _ _ (fun _ => .int c _ ht) kc
  · obtain ⟨t, rfl⟩ := ia.int0_inv
    obtain ⟨t', _, rfl⟩ := ib.int_inv
    exact intOp_run (k := fun c => k (.int c)) hk.int0 fun c kc => q _ _ _ (fun _ => .int c _ ht) kc
  · obtain ⟨t, rfl⟩ := ia.str_inv
    obtain ⟨t', rfl⟩ := ib.str_inv
    obtain ⟨rfl, z, hk⟩ := hk.str
    have hz : x.length + y.length ≤ sizeLine := by rw [sizeLine_eq]; (first | decide | lia | omega)
    exact @PyProof.Rows.add_str prog w C.A E s x y t t' Q (fun t' tk => q (.str (x ++ y)) (.str (x ++ y) t') tk (fun h => Is.str (x ++ y) t') hk) hz
  · obtain ⟨t, rfl⟩ := ia.bytes_inv
    obtain ⟨t', rfl⟩ := ib.bytes_inv
    obtain ⟨rfl, z, hk⟩ := hk.bytes
    have hz : x.size + y.size ≤ 16777216 := by (first | decide | lia | omega)
    exact @PySem.W.KBy.add_bytes prog w C.A E s x y t t' Q hz (fun t' tk => q (.bytes (x ++ y)) (.bytes (x ++ y) t') tk (fun h => Is.bytes (x ++ y) t') hk)
theorem WE_bin {l r : Expr} {op : Operator} {pos : Pos} {K : PV → St → Prop} (h : WE prog w C l S fun a S₁ => WE prog w C r S₁ fun b S₂ => BinK op a b fun c => K c S₂) : WE prog w C (.BinOp l op r pos) S K :=
  fun s rl ht => wpAny_BinOp (h.run rl ht fun v₁ s₁ d₁ S₁ ht₁ p₁ i₁ k₁ => WT.run k₁ p₁.rel ht₁ fun v₂ s₂ d₂ S₂ ht₂ p₂ i₂ k₂ =>
    binK_run (i₁.mono (p₂.mono p₁.rel)) i₂ ht₂ k₂ fun d r tk i k => ⟨d, S₂, (p₁.trans p₂).trans (Post.same p₂.rel), i _, k⟩)
theorem WE_neg {x : Expr} {pos : Pos} {K : PV → St → Prop} (h : WE prog w C x S fun a S₁ => ∃ i, a = .int i ∧ K (.int (-i)) S₁) : WE prog w C (.UnaryOp .USub x pos) S K :=
  fun s rl ht => wpAny_UnaryOp (h.run rl ht fun v₁ s₁ d₁ S₁ ht₁ p₁ i₁ ⟨i, e, k₁⟩ => by
    subst e
    cases i₁ with
    | int _ t _ => exact P.neg_int ⟨_, S₁, p₁.trans (Post.same p₁.rel), .int _ _ ht₁, k₁⟩)
/-! comparisons -/
noncomputable def CmpK (op : CmpOp) : PV → PV → (Bool → Prop) → Prop
  | .int a, .int b, k => match op with
    | .Lt => k (decide (a < b))
    | .LtE => k (decide (a ≤ b))
    | .Gt => k (decide (a > b))
    | .GtE => k (decide (a ≥ b))
    | .Eq => k (decide (a = b))
    | .NotEq => k (decide (a ≠ b))
    | _ => False
  | .str x, .str y, k => match op with
    | .Eq => k (decide (x = y))
    | .NotEq => k (decide (x ≠ y))
    | _ => False
  | .bytes x, .bytes y, k => match op with
    | .Eq => k (decide (x = y))
    | .NotEq => k (decide (x ≠ y))
    | _ => False
  | .none, .none, k => match op with
    | .Is => k true
    | .IsNot => k false
    | _ => False
  | .int _, .none, k | .tup _, .none, k | .ref _, .none, k => match op with
    | .Is => k false
    | .IsNot => k true
    | _ => False
  | _, _, _ => False
theorem cmpK_none {a : PV} {op : CmpOp} {v : Value} {s : Shared} {k : Bool → Prop} {Q : Value → Shared → Prop} {E : Value → Shared → Prop} {h : Heap} (ia : Is h a v) (hk : CmpK op a .none k)
    (q : ∀ c, k c → Q (.bool c) s) : wpAny (model prog w) C.A (compareOp op v .none) Q E s := by
  cases op with
  | Is => cases ia <;> first | exact hk.elim | exact is_none (q _ hk)
  | IsNot => cases ia <;> first | exact hk.elim | exact isNot_none (q _ hk)
  | _ => cases ia <;> exact hk.elim
theorem cmpK_int {a b : Int} {t u : Tok} {op : CmpOp} {s : Shared} {k : Bool → Prop} {Q : Value → Shared → Prop} {E : Value → Shared → Prop} (hk : CmpK op (.int a) (.int b) k)
    (q : ∀ c, k c → Q (.bool c) s) : wpAny (model prog w) C.A (compareOp op (.int a t) (.int b u)) Q E s := by
  cases op with
  | Lt => exact P.lt_int (q _ hk)
  | LtE => exact P.le_int (q _ hk)
  | Gt => exact P.gt_int (q _ hk)
  | GtE => exact P.ge_int (q _ hk)
  | Eq =>
    have e : (a == b) = decide (a = b) := by rw [Bool.eq_iff_iff]; simp
    exact P.eq_int (q _ (e ▸ hk))
  | NotEq =>
    have e : (a != b) = decide (a ≠ b) := by rw [Bool.eq_iff_iff]; simp
    exact P.ne_int (q _ (e ▸ hk))
  | _ => exact hk.elim
theorem cmpK_str {a b : Str} {t u : Tok} {op : CmpOp} {s : Shared} {k : Bool → Prop} {Q : Value → Shared → Prop} {E : Value → Shared → Prop} (hk : CmpK op (.str a) (.str b) k)
    (q : ∀ c, k c → Q (.bool c) s) : wpAny (model prog w) C.A (compareOp op (.str a t) (.str b u)) Q E s := by
  cases op with
  | Eq =>
    have e : (a == b) = decide (a = b) := by rw [Bool.eq_iff_iff]; simp
    exact PyProof.Rows.eq_str (q _ (e ▸ hk))
  | NotEq =>
    have e : (a != b) = decide (a ≠ b) := by rw [Bool.eq_iff_iff]; simp
    exact PyProof.Rows.ne_str (q _ (e ▸ hk))
  | _ => exact hk.elim
theorem cmpK_bytes {a b : Array UInt8} {t u : Tok} {op : CmpOp} {s : Shared} {k : Bool → Prop} {Q : Value → Shared → Prop} {E : Value → Shared → Prop} (hk : CmpK op (.bytes a) (.bytes b) k)
    (q : ∀ c, k c → Q (.bool c) s) : wpAny (model prog w) C.A (compareOp op (.bytes a t) (.bytes b u)) Q E s := by
  cases op with
  | Eq =>
    have e : (a.toList == b.toList) = decide (a = b) := by rw [Bool.eq_iff_iff]; simp
    exact PySem.W.eq_bytes (q _ (e ▸ hk))
  | NotEq =>
    have e : (a.toList != b.toList) = decide (a ≠ b) := by rw [Bool.eq_iff_iff]; simp
    exact PySem.W.ne_bytes (q _ (e ▸ hk))
  | _ => exact hk.elim
theorem cmpK_run {a b : PV} {op : CmpOp} {v u : Value} {s : Shared} {k : Bool → Prop} {Q : Value → Shared → Prop} {E : Value → Shared → Prop} {h : Heap} (ia : Is h a v) (ib : Is h b u) (hk : CmpK op a b k)
    (q : ∀ c, k c → Q (.bool c) s) : wpAny (model prog w) C.A (compareOp op v u) Q E s := by
  cases ib with
  | none => exact cmpK_none ia hk q
  | int => cases ia <;> first | exact hk.elim | exact cmpK_int hk q
  | str => cases ia <;> first | exact hk.elim | exact cmpK_str hk q
  | bytes => cases ia <;> first | exact hk.elim | exact cmpK_bytes hk q
  | _ => cases ia <;> exact hk.elim
theorem WE_cmp {l r : Expr} {op : CmpOp} {pos : Pos} {K : PV → St → Prop} (h : WE prog w C l S fun a S₁ => WE prog w C r S₁ fun b S₂ => CmpK op a b fun c => K (.bool c) S₂)
    (hm : behindInMarks op r = false) : WE prog w C (.Compare l [op] [r] pos) S K :=
  fun s rl ht => wpAny_Compare1 (h.run rl ht fun v₁ s₁ d₁ S₁ ht₁ p₁ i₁ k₁ => WT.run k₁ p₁.rel ht₁ fun v₂ s₂ d₂ S₂ ht₂ p₂ i₂ k₂ =>
    cmpK_run (i₁.mono (p₂.mono p₁.rel)) i₂ k₂ fun c kc => ⟨.bool c, S₂, p₁.trans p₂, .bool c, kc⟩) hm
theorem WB_cmp {l r : Expr} {op : CmpOp} {pos : Pos} {K : Bool → St → Prop} (h : WE prog w C l S fun a S₁ => WE prog w C r S₁ fun b S₂ => CmpK op a b fun c => K c S₂)
    (hm : behindInMarks op r = false) : WB prog w C (.Compare l [op] [r] pos) S K :=
  fun s rl ht => wpAny_isTrue_Compare1 (h.run rl ht fun v₁ s₁ d₁ S₁ ht₁ p₁ i₁ k₁ => WT.run k₁ p₁.rel ht₁ fun v₂ s₂ d₂ S₂ ht₂ p₂ i₂ k₂ =>
    cmpK_run (i₁.mono (p₂.mono p₁.rel)) i₂ k₂ fun c kc => wpAny_truthy_bool ⟨c, S₂, p₁.trans p₂, rfl, kc⟩) hm
/-- l op₁ m op₂ r, as a test -/
theorem WB_cmp2 {l m r : Expr} {o₁ o₂ : CmpOp} {pos : Pos} {K : Bool → St → Prop} (h : WE prog w C l S fun a S₁ => WE prog w C m S₁ fun b S₂ => CmpK o₁ a b fun c =>
      (c = true → WE prog w C r S₂ fun e S₃ => CmpK o₂ b e fun c' => K c' S₃) ∧ (c = false → K false S₂))
    (hm : lastMarks [o₁, o₂] [m, r] = false) : WB prog w C (.Compare l [o₁, o₂] [m, r] pos) S K :=
  fun s rl ht => isTrue_chain (h.run rl ht fun v₁ s₁ d₁ S₁ ht₁ p₁ i₁ k₁ => by
    show wpAny _ _ (testChain pos v₁ [o₁, o₂] [eval m C.env, eval r C.env]) _ _ s₁
    unfold testChain
    refine wpAny_bind (wpAny_holding (WT.run k₁ p₁.rel ht₁ fun v₂ s₂ d₂ S₂ ht₂ p₂ i₂ k₂ => wpAny_bind (wpAny_standAt (wpAny_bind (wpAny_holding
      (cmpK_run (i₁.mono (p₂.mono p₁.rel)) i₂ k₂ fun c kc => wpAny_bind (wpAny_release' (wpAny_bind (wpAny_holding (wpAny_truthy_bool ?_))))))))))
    cases c with
    | false => exact wpAny_pure ⟨false, S₂, p₁.trans p₂, rfl, kc.2 rfl⟩
    | true =>
      show wpAny _ _ (testChain pos v₂ [o₂] [eval r C.env]) _ _ s₂
      unfold testChain
      refine wpAny_bind (wpAny_holding (WT.run (kc.1 rfl) p₂.rel ht₂ fun v₃ s₃ d₃ S₃ ht₃ p₃ i₃ k₃ => wpAny_bind (wpAny_standAt (wpAny_bind (wpAny_operate'
        (cmpK_run (i₂.mono (p₃.mono p₂.rel)) i₃ k₃ fun c kc => wpAny_holding (wpAny_truthy_bool ⟨c, S₃, (p₁.trans p₂).trans p₃, rfl, kc⟩)))))))) hm
theorem WB_not {x : Expr} {pos : Pos} {K : Bool → St → Prop} (h : WB prog w C x S fun b S₁ => K (!b) S₁) : WB prog w C (.UnaryOp .Not x pos) S K :=
  fun s rl ht => wpAny_isTrue_Not (h.run rl ht fun v₁ s₁ d₁ S₁ ht₁ p₁ i₁ k₁ => ⟨_, S₁, p₁, by rw [i₁], k₁⟩)
theorem WB_and {x y : Expr} {pos : Pos} {K : Bool → St → Prop} (h : WB prog w C x S fun b S₁ => (b = true → WB prog w C y S₁ K) ∧ (b = false → K false S₁)) : WB prog w C (.BoolOp .And [x, y] pos) S K :=
  fun s rl ht => wpAny_isTrue_BoolOp (wpAny_allTrue_And_cons (h.run rl ht fun v₁ s₁ d₁ S₁ ht₁ p₁ i₁ k₁ => by
    subst i₁
    cases v₁ with
    | false => simp only [Bool.false_eq_true, if_false]; exact ⟨false, S₁, p₁, rfl, k₁.2 rfl⟩
    | true =>
      simp only [if_true]
      refine wpAny_allTrue_And_cons (WT.run (k₁.1 rfl) p₁.rel ht₁ fun v₂ s₂ d₂ S₂ ht₂ p₂ i₂ k₂ => ?_)
      subst i₂
      cases v₂ with
      | false => simp only [Bool.false_eq_true, if_false]; exact ⟨false, S₂, p₁.trans p₂, rfl, k₂⟩
      | true => simp only [if_true]; exact wpAny_allTrue_And_nil ⟨true, S₂, p₁.trans p₂, rfl, k₂⟩))
noncomputable def TruthK : PV → (Bool → Prop) → Prop
  | .bool b, k => k b
  | .int i, k => k (decide (i ≠ 0))
  | _, _ => False
theorem WB_val {e : Expr} {K : Bool → St → Prop} (h : WE prog w C e S fun a S₁ => TruthK a fun b => K b S₁)
    (he : isTrue e C.env (eval e C.env) = (do let v ← eval e C.env; standAt e.pos; holding [v] (truthy v))) : WB prog w C e S K :=
  fun s rl ht => wpAny_isTrue_value (h.run rl ht fun v₁ s₁ d₁ S₁ ht₁ p₁ i₁ k₁ => by
    cases i₁ <;> first | exact k₁.elim | skip
    · exact wpAny_truthy_bool ⟨_, S₁, p₁, rfl, k₁⟩
    · rename_i i t _
      have e : (i != 0) = decide (i ≠ 0) := by rw [Bool.eq_iff_iff]; simp
      exact P.truthy_int ⟨_, S₁, p₁, rfl, e ▸ k₁⟩) he
theorem WE_ifexp {t a b : Expr} {pos : Pos} {K : PV → St → Prop} (h : WB prog w C t S fun c S₁ => (c = true → WE prog w C a S₁ K) ∧ (c = false → WE prog w C b S₁ K)) : WE prog w C (.IfExp t a b pos) S K :=
  fun s rl ht => by
    show wpAny _ _ (do if ← isTrue t C.env (eval t C.env) then eval a C.env else eval b C.env) _ _ s
    refine wpAny_bind (h.run rl ht fun v₁ s₁ d₁ S₁ ht₁ p₁ i₁ k₁ => ?_)
    subst i₁
    cases v₁ with
    | true => exact WT.run (k₁.1 rfl) p₁.rel ht₁ fun v₂ s₂ d₂ S₂ ht₂ p₂ i₂ k₂ => ⟨d₂, S₂, p₁.trans p₂, i₂, k₂⟩
    | false => exact WT.run (k₁.2 rfl) p₁.rel ht₁ fun v₂ s₂ d₂ S₂ ht₂ p₂ i₂ k₂ => ⟨d₂, S₂, p₁.trans p₂, i₂, k₂⟩
/-! statements -/
theorem WX_if {t : Expr} {a b : List Stmt} {pos : Pos} {K : PFlow → St → Prop} (h : WB prog w C t S fun c S₁ => (c = true → WXs prog w C a S₁ K) ∧ (c = false → WXs prog w C b S₁ K)) : WX prog w C (.If t a b pos) S K :=
  fun s rl ht => wpAny_If (h.run rl ht fun v₁ s₁ d₁ S₁ ht₁ p₁ i₁ k₁ => by
    subst i₁
    cases v₁ with
    | true => exact WT.run (k₁.1 rfl) p₁.rel ht₁ fun v₂ s₂ d₂ S₂ ht₂ p₂ i₂ k₂ => ⟨d₂, S₂, p₁.trans p₂, i₂, k₂⟩
    | false => exact WT.run (k₁.2 rfl) p₁.rel ht₁ fun v₂ s₂ d₂ S₂ ht₂ p₂ i₂ k₂ => ⟨d₂, S₂, p₁.trans p₂, i₂, k₂⟩)
/-- a name of the frame is stored -/
inductive StoreK (x : Str) (d : PV) (S : St) (k : St → Prop) : Prop
  | intro (d₀ : PV) (loc' : List (Str × PV)) (u : Upd x d₀ d S.loc loc') (h : k ⟨loc', S.own⟩) : StoreK x d S k
theorem storeK {x : Str} {d₀ d : PV} {l l' : List (Str × PV)} {o : List (Addr × AObj)} {k : St → Prop} (u : Upd x d₀ d l l') (h : k ⟨l', o⟩) : StoreK x d ⟨l, o⟩ k := ⟨d₀, l', u, h⟩
theorem WX_assign {B : Heap} {x : Str} {pos' pos : Pos} {value : Expr} {K : PFlow → St → Prop} (k : CxOk B C)
    (h : WE prog w C value S fun d S₁ => StoreK x d S₁ (K .next))
    (hs : swapsWith value (some (.Name x pos')) pos.line C.env = pure false) : WX prog w C (.Assign [.Name x pos'] value pos) S K :=
  fun s rl ht => wpAny_Assign_Name (h.run rl ht fun v₁ s₁ d₁ S₁ ht₁ p₁ i₁ ⟨d₀, loc', u, k₁⟩ =>
    WU_store k p₁.rel i₁ u fun s₂ p₂ => ⟨.next, _, p₁.trans p₂, trivial, k₁⟩) hs
theorem WX_aug {B : Heap} {x : Str} {pos' pos : Pos} {op : Operator} {value : Expr} {i : Int} {K : PFlow → St → Prop} (k : CxOk B C) (hx : InL x (PV.int i) S.loc)
    (hop : op = .Add ∨ op = .FloorDiv ∨ op = .Mod ∨ op = .Sub)
    (h : WE prog w C value S fun d S₁ => ∃ j, (d = .int j ∨ d = .int0 j) ∧ IntOp op i j fun c => StoreK x (.int c) S₁ (K .next)) :
    WX prog w C (.AugAssign (.Name x pos') op value pos) S K :=
  fun s rl ht => by
    refine wpAny_AugAssign_Name ?_
    replace hx := hx.mem
    obtain ⟨m', n, f⟩ := rl.loc
    obtain ⟨v, hv, iv⟩ := (f _ hx).resolve_left (by simp)
    refine wpAny_loadName_local k.kind (rl.kinds _ hx).1 n hv ?_
    refine h.run rl ht fun v₁ s₁ d₁ S₁ ht₁ p₁ i₁ ⟨j, e, k₁⟩ => ?_
    have hi : ∃ t, v₁ = .int j t := by rcases e with e | e <;> subst e <;> cases i₁ <;> exact ⟨_, rfl⟩
    obtain ⟨t₁, rfl⟩ := hi
    cases iv
    refine intOp_irun k₁ hop fun c ⟨d₀, loc', u, kc⟩ => ?_
    have p₂ : Post C S₁ s₁ { s₁ with toks := s₁.toks + 1 } S₁ := Post.same p₁.rel
    exact WU_store k p₂.rel (.int c _ ht₁) u fun s₂ p₃ => ⟨.next, _, (p₁.trans p₂).trans p₃, trivial, kc⟩
theorem WX_ret {e : Expr} {pos : Pos} {K : PFlow → St → Prop} (h : WE prog w C e S fun d S₁ => K (.ret d) S₁) : WX prog w C (.Return (some e) pos) S K :=
  fun s rl ht => wpAny_Return_some (h.run rl ht fun v₁ s₁ d₁ S₁ ht₁ p₁ i₁ k₁ => ⟨.ret d₁, S₁, p₁, i₁, k₁⟩)
theorem WX_brk {pos : Pos} {K : PFlow → St → Prop} (h : K .brk S) : WX prog w C (.Break pos) S K :=
  fun s rl ht => wpAny_Break ⟨.brk, S, Post.rfl rl, trivial, h⟩
theorem WX_cont {pos : Pos} {K : PFlow → St → Prop} (h : K .cont S) : WX prog w C (.Continue pos) S K :=
  fun s rl ht => wpAny_Continue ⟨.cont, S, Post.rfl rl, trivial, h⟩
theorem WX_expr {B : Heap} {e : Expr} {pos : Pos} {K : PFlow → St → Prop} (k : CxOk B C) (h : WE prog w C e S fun d S₁ => d = .none ∧ K .next S₁)
    (hs : swapsWith e none pos.line C.env = pure false) : WX prog w C (.Expr e pos) S K :=
  fun s rl ht => wpAny_Expr (h.run rl ht fun v₁ s₁ d₁ S₁ ht₁ p₁ i₁ ⟨e, k₁⟩ => by
    subst e; cases i₁; exact ⟨.next, S₁, p₁, trivial, k₁⟩) (by unfold interactive; rw [k.kind]; rfl) hs
noncomputable def loopK (again : St → Prop) (K : PFlow → St → Prop) : PFlow → St → Prop
  | .next, S => again S
  | .cont, S => again S
  | .brk, S => K .next S
  | .ret d, S => K (.ret d) S
theorem WX_while {X : Type} {test : Expr} {body : List Stmt} {pos : Pos} {K : PFlow → St → Prop} (I : X → St) (P : X → Prop) (μ : X → Nat) (x₀ : X) (h₀ : P x₀) (l₀ : LeS S (I x₀))
    (turn : ∀ x, P x → WB prog w C test (I x) fun b S₁ => (b = true → WXs prog w C body S₁ (loopK (fun S₂ => ∃ y, μ y < μ x ∧ P y ∧ LeS S₂ (I y)) K)) ∧ (b = false → K .next S₁)) :
    WX prog w C (.While test body [] pos) S K := by
  intro s rl ht
  refine wpAny_While (codeAny_whileLoop (fun n s' => s'.toks ≠ 0 ∧ ∃ x, n = μ x ∧ P x ∧ Post C S s s' (I x)) ?_ (μ x₀) ⟨ht, x₀, rfl, h₀, (Post.rfl rl).weaken l₀⟩)
  rintro n s₁ ⟨ht₁, x, rfl, hP, p₁⟩
  refine (turn x hP).run p₁.rel ht₁ fun v₂ s₂ d₂ S₂ ht₂ p₂ i₂ k₂ => ?_
  subst i₂
  cases v₂ with
  | false =>
    simp only [Bool.false_eq_true, if_false]
    exact wpAny_execs_nil ⟨.next, S₂, p₁.trans p₂, trivial, k₂.2 rfl⟩
  | true =>
    simp only [if_true]
    refine WT.run (k₂.1 rfl) p₂.rel ht₂ fun f s₃ d₃ S₃ ht₃ p₃ i₃ k₃ => ?_
    cases d₃ <;> cases f <;> first | exact i₃.elim | skip
    · obtain ⟨y, m, hy, l⟩ := k₃
      exact ⟨μ y, m, ht₃, y, rfl, hy, ((p₁.trans p₂).trans p₃).weaken l⟩
    · exact ⟨.next, S₃, (p₁.trans p₂).trans p₃, trivial, k₃⟩
    · obtain ⟨y, m, hy, l⟩ := k₃
      exact ⟨μ y, m, ht₃, y, rfl, hy, ((p₁.trans p₂).trans p₃).weaken l⟩
    · exact ⟨.ret _, S₃, (p₁.trans p₂).trans p₃, i₃, k₃⟩
/-! small steps -/
theorem BinK_add {a b : Int} {k : PV → Prop} (h : k (.int (a + b))) : BinK .Add (.int a) (.int b) k := h
theorem BinK_sub {a b : Int} {k : PV → Prop} (h : k (.int (a - b))) : BinK .Sub (.int a) (.int b) k := h
theorem BinK_mul {a b : Int} {k : PV → Prop} (g : a.natAbs < 2 ^ 62 ∨ b.natAbs < 2 ^ 62) (h : k (.int (a * b))) : BinK .Mult (.int a) (.int b) k := ⟨g, h⟩
theorem BinK_div {a b : Int} {k : PV → Prop} (g : 0 < b ∧ b < 2 ^ 62) (h : k (.int (a / b))) : BinK .FloorDiv (.int a) (.int b) k := ⟨g, h⟩
theorem BinK_mod {a b : Int} {k : PV → Prop} (g : 0 < b) (h : k (.int (a % b))) : BinK .Mod (.int a) (.int b) k := ⟨g, h⟩
theorem BinK_shr {a : Int} {k : PV → Prop} (g : 0 ≤ a) (h : k (.int (a / 2))) : BinK .RShift (.int a) (.int 1) k := ⟨⟨g, rfl⟩, h⟩
theorem BinK_pow {b : Int} {k : PV → Prop} (g : 0 ≤ b ∧ b < 1000) (h : k (.int (35 ^ b.toNat))) : BinK .Pow (.int 35) (.int b) k := ⟨⟨rfl, g⟩, h⟩
theorem BinK_str {x y : Str} {k : PV → Prop} (g : x.length + y.length ≤ 2 ^ 20) (h : k (.str (x ++ y))) : BinK .Add (.str x) (.str y) k := ⟨rfl, g, h⟩
theorem BinK_bytes {x y : Array UInt8} {k : PV → Prop} (g : x.size + y.size ≤ 2 ^ 20) (h : k (.bytes (x ++ y))) : BinK .Add (.bytes x) (.bytes y) k := ⟨rfl, g, h⟩
theorem CmpK_lt {a b : Int} {k : Bool → Prop} (h : k (decide (a < b))) : CmpK .Lt (.int a) (.int b) k := h
theorem CmpK_le {a b : Int} {k : Bool → Prop} (h : k (decide (a ≤ b))) : CmpK .LtE (.int a) (.int b) k := h
theorem CmpK_gt {a b : Int} {k : Bool → Prop} (h : k (decide (b < a))) : CmpK .Gt (.int a) (.int b) k := h
theorem CmpK_eq {a b : Int} {k : Bool → Prop} (h : k (decide (a = b))) : CmpK .Eq (.int a) (.int b) k := h
theorem CmpK_eqs {a b : Str} {k : Bool → Prop} (h : k (decide (a = b))) : CmpK .Eq (.str a) (.str b) k := h
theorem CmpK_nes {a b : Array UInt8} {k : Bool → Prop} (h : k (decide (a ≠ b))) : CmpK .NotEq (.bytes a) (.bytes b) k := h
theorem IntOp_add {a b : Int} {k : Int → Prop} (h : k (a + b)) : IntOp .Add a b k := h
theorem IntOp_div {a b : Int} {k : Int → Prop} (g : 0 < b ∧ b < 2 ^ 62) (h : k (a / b)) : IntOp .FloorDiv a b k := ⟨g, h⟩
theorem IntOp_mod {a b : Int} {k : Int → Prop} (g : 0 < b) (h : k (a % b)) : IntOp .Mod a b k := ⟨g, h⟩
theorem seqK_next {K₁ : St → Prop} {K : PFlow → St → Prop} {S : St} (h : K₁ S) : seqK K₁ K .next S := h
theorem seqK_ret {K₁ : St → Prop} {K : PFlow → St → Prop} {S : St} {d : PV} (h : K (.ret d) S) : seqK K₁ K (.ret d) S := h
theorem seqK_brk {K₁ : St → Prop} {K : PFlow → St → Prop} {S : St} (h : K .brk S) : seqK K₁ K .brk S := h
theorem seqK_cont {K₁ : St → Prop} {K : PFlow → St → Prop} {S : St} (h : K .cont S) : seqK K₁ K .cont S := h
theorem loopK_next {again : St → Prop} {K : PFlow → St → Prop} {S : St} (h : again S) : loopK again K .next S := h
theorem loopK_cont {again : St → Prop} {K : PFlow → St → Prop} {S : St} (h : again S) : loopK again K .cont S := h
theorem loopK_brk {again : St → Prop} {K : PFlow → St → Prop} {S : St} (h : K .next S) : loopK again K .brk S := h
theorem loopK_ret {again : St → Prop} {K : PFlow → St → Prop} {S : St} {d : PV} (h : K (.ret d) S) : loopK again K (.ret d) S := h
theorem dsplit {p P Q : Prop} [Decidable p] (h₁ : p → P) (h₂ : ¬ p → Q) : (decide p = true → P) ∧ (decide p = false → Q) := ⟨fun h => h₁ (of_decide_eq_true h), fun h => h₂ (of_decide_eq_false h)⟩
theorem dnsplit {p P Q : Prop} [Decidable p] (h₁ : ¬ p → P) (h₂ : p → Q) : ((!decide p) = true → P) ∧ ((!decide p) = false → Q) := ⟨fun h => h₁ (by simpa using h), fun h => h₂ (by simpa using h)⟩
theorem dsplit_t {p P Q : Prop} [Decidable p] (hp : p) (h₁ : P) : (decide p = true → P) ∧ (decide p = false → Q) := ⟨fun _ => h₁, fun h => absurd hp (of_decide_eq_false h)⟩
theorem dsplit_f {p P Q : Prop} [Decidable p] (hp : ¬ p) (h₁ : Q) : (decide p = true → P) ∧ (decide p = false → Q) := ⟨fun h => absurd (of_decide_eq_true h) hp, fun _ => h₁⟩
theorem tsplit {P Q : Prop} (h₁ : P) : (true = true → P) ∧ (true = false → Q) := ⟨fun _ => h₁, fun h => (by cases h)⟩
theorem fsplit {P Q : Prop} (h₁ : Q) : (false = true → P) ∧ (false = false → Q) := ⟨fun h => (by cases h), fun _ => h₁⟩
theorem ex_int {i : Int} {P : Int → Prop} (h : P i) : ∃ j, PV.int i = .int j ∧ P j := ⟨i, rfl, h⟩
theorem ex_int1 {i : Int} {P : Int → Prop} (h : P i) : ∃ j, (PV.int i = .int j ∨ PV.int i = .int0 j) ∧ P j := ⟨i, .inl rfl, h⟩
theorem ex_int0 {i : Int} {P : Int → Prop} (h : P i) : ∃ j, (PV.int0 i = .int j ∨ PV.int0 i = .int0 j) ∧ P j := ⟨i, .inr rfl, h⟩
theorem BinK_add0 {a b : Int} {k : PV → Prop} (h : k (.int (a + b))) : BinK .Add (.int0 a) (.int b) k := h
theorem BinK_div0 {a b : Int} {k : PV → Prop} (g : 0 < b ∧ b < 2 ^ 62) (h : k (.int (a / b))) : BinK .FloorDiv (.int0 a) (.int b) k := ⟨g, h⟩
theorem BinK_mod0 {a b : Int} {k : PV → Prop} (g : 0 < b) (h : k (.int (a % b))) : BinK .Mod (.int0 a) (.int b) k := ⟨g, h⟩
theorem TruthK_int {i : Int} {k : Bool → Prop} (h : k (decide (i ≠ 0))) : TruthK (.int i) k := h
theorem TruthK_bool {b : Bool} {k : Bool → Prop} (h : k b) : TruthK (.bool b) k := h
end
end
section
open PySem PyProof.Rows PySem.Calls
structure Gnd (B : Heap) (mg mb : Str → Option Value) : Prop where
  g : B.Ns mainGlobals mg
  b : B.Ns builtinsNs mb
  lim : B.NoLimit
  blt : ∀ x : Str, x ≠ "__name__" → mb x = bootBuiltins x
  free : ∀ x : Str, (["len", "min", "max", "range", "sorted", "bytes", "bytearray", "enumerate", "chr", "ord", "divmod", "sum", "list", "isinstance", "str", "memoryview"] : List Str).contains x = true → mg x = none
noncomputable def Room (n : Nat) (A : Around) : Prop := A.depth + n ≤ 900 ∧ A.units + 40 * n ≤ 9000 ∧ A.handled = none ∧ A.guards = some []
noncomputable def FnRec (B : Heap) (mg : Str → Option Value) (d : DefRec) : Prop :=
  ∃ a o pm code doc, mg d.name = some (.ref a) ∧ B.get? a = some o ∧ o.data = .func (docDef d.name d.params d.body d.scope pm code doc) ∧ B.CodeRec code d.name
structure Out (s s' : Shared) (W : List Addr) (post : List (Addr × AObj)) : Prop where
  gens : s'.gens = s.gens
  os : s'.os = s.os
  frame : ∀ b o, s.heap.get? b = some o → b ∉ W → s'.heap.get? b = some o
  objs : ∀ p ∈ post, ObjIs s'.heap p.1 p.2
  nd : (post.map Prod.fst).Nodup
  fresh : ∀ p ∈ post, p.1 ∈ W ∨ s.heap.get? p.1 = none
inductive FOut (s : Shared) (W : List Addr) (Q : PV → List (Addr × AObj) → Prop) (v : Value) (s' : Shared) : Prop
  | intro (d : PV) (post : List (Addr × AObj)) (o : Out s s' W post) (i : Is s'.heap d v) (q : Q d post) : FOut s W Q v s'
noncomputable def Fun (prog : Program) (w : World) (B : Heap) (mg : Str → Option Value) (n : Nat) (x : Str) (args : List PV) (pre : List (Addr × AObj)) (W : List Addr) (Q : PV → List (Addr × AObj) → Prop) : Prop :=
  ∃ a o fd, mg x = some (.ref a) ∧ B.get? a = some o ∧ o.data = .func fd ∧
    ∀ (A : Around) (s : Shared) (vs : List Value), Room n A → s.toks ≠ 0 → (∀ b o, B.get? b = some o → s.heap.get? b = some o) → (∀ p ∈ pre, ObjIs s.heap p.1 p.2) → (∀ a ∈ W, B.get? a = none) → IsAll s.heap args vs →
      wpAny (model prog w) A (call (.ref a) vs) (FOut s W Q) (fun _ _ => False) s
noncomputable def retK (W : List Addr) (Q : PV → List (Addr × AObj) → Prop) : PFlow → St → Prop
  | .ret d, S => ∃ post, post.Sublist S.own ∧ Q d post
  | .next, S => ∃ post, post.Sublist S.own ∧ Q .none post
  | _, _ => False
theorem zip_lookup {h : Heap} {d : PV} {x : Str} : ∀ {names : List Str} {args : List PV} {vs : List Value}, names.Nodup → IsAll h args vs → (x, d) ∈ names.zip args → ∃ v, (names.zip vs).reverse.lookup x = some v ∧ Is h d v
  | [], _, _, _, _, m => by simp at m
  | n :: ns, _, _, nd, .nil, m => by simp at m
  | n :: ns, _ :: args, v :: vs, nd, .cons i r, m => by
    simp only [List.nodup_cons] at nd
    simp only [List.zip_cons_cons, List.reverse_cons, List.lookup_append]
    rcases List.mem_cons.mp m with e | m
    · cases e
      have hnone : (ns.zip vs).reverse.lookup x = none := by
        rw [List.lookup_eq_none_iff]
        intro p hp
        rw [List.mem_reverse] at hp
        have : p.1 ∈ ns := (List.of_mem_zip (a := p.1) (b := p.2) hp).1
        simp only [bne_iff_ne, ne_eq]
        intro e; exact nd.1 (e ▸ this)
      rw [hnone]
      exact ⟨v, by simp, i⟩
    · obtain ⟨u, e, j⟩ := zip_lookup nd.2 r m
      exact ⟨u, by rw [e]; rfl, j⟩
noncomputable def locOk (scope : Scope) (keys : List Str) : Bool := (keys.all fun x => scope.names.lookup x == some .local && (x == ("__debug__" : Str)) == false) && decide keys.Nodup
theorem locOk_kind {scope : Scope} {keys : List Str} (h : locOk scope keys = true) : (∀ x ∈ keys, scope.names.lookup x = some .local ∧ (x == ("__debug__" : Str)) = false) ∧ keys.Nodup := by
  unfold locOk at h
  rw [Bool.and_eq_true] at h
  refine ⟨fun x m => ?_, of_decide_eq_true h.2⟩
  have := List.all_eq_true.mp h.1 x m
  rw [Bool.and_eq_true] at this
  exact ⟨by simpa using this.1, by simpa using this.2⟩
theorem map_zip_fst {α β : Type} {xs : List α} {ys : List β} (h : xs.length = ys.length) : (xs.zip ys).map Prod.fst = xs := by
  rw [List.map_fst_zip (by (first | decide | lia | omega))]
theorem Fun_of_body {prog : Program} {w : World} {B : Heap} {mg mb : Str → Option Value} {n : Nat} {d : DefRec} {args : List PV} {own ro : List (Addr × AObj)} {Q : PV → List (Addr × AObj) → Prop}
    (G : Gnd B mg mb) (R : FnRec B mg d) (names others : List Str) (loc : List (Str × PV)) (hloc : loc = names.zip args ++ others.map (·, .any))
    (hbind : ∀ pm code doc vs, vs.length = names.length → bindArgs (docDef d.name d.params d.body d.scope pm code doc) ⟨vs, []⟩ = pure (names.zip vs))
    (hok : locOk d.scope (names ++ others) = true) (hlen : names.length = args.length)
    (hsc : d.scope.isCoroutine = false ∧ d.scope.isGenerator = false ∧ d.scope.kind = .function ∧ ∀ x ∈ d.scope.names, x.2 ≠ .cell)
    (hnd : (own.map Prod.fst).Nodup) (hro : ∀ p ∈ ro, p.1 ∉ own.map Prod.fst)
    (h : ∀ C : Cx, CxOk B C → C.env.scope = d.scope → Room n C.A → C.W = own.map Prod.fst → C.ro = ro →
      WXs prog w C d.body ⟨loc, own⟩ (retK (own.map Prod.fst) Q)) :
    Fun prog w B mg (n + 1) d.name args (own ++ ro) (own.map Prod.fst) Q := by
  obtain ⟨a, o, pm, code, doc, hm, ho, hd, hc⟩ := R
  subst hloc
  refine ⟨a, o, _, hm, ho, hd, fun A s vs room ht kb pre wb ia => ?_⟩
  have hvl : vs.length = names.length := by rw [ia.length, hlen]
  have lk := locOk_kind hok
  refine wpAny_call (call_plain_ret (by have := room.1; unfold recursionLimit; (first | decide | lia | omega)) (kb _ _ ho) hd (G.lim.keeps kb) (hc.keeps kb) (hbind pm code doc vs hvl) ?_ ?_ hsc.1 hsc.2.1 hsc.2.2.1 hsc.2.2.2)
  · intro x hx
    exact (lk.1 x.1 (List.mem_append_left _ (List.of_mem_zip (a := x.1) (b := x.2) hx).1)).1
  · intro h₁ F
    let C : Cx := ⟨A.deeper (envOf d.name d.scope s.heap.objs.size a code), envOf d.name d.scope s.heap.objs.size a code, s.heap, own.map Prod.fst, ro⟩
    have hL : s.heap.get? s.heap.objs.size = none := by
      cases e : s.heap.get? s.heap.objs.size with
      | none => rfl
      | some o => exact absurd (Heap.lt_size e) (Nat.lt_irrefl _)
    have ok : CxOk B C := ⟨kb, wb, hL, hsc.2.2.1, rfl, rfl, fun p m => ⟨pre p (List.mem_append_right _ m), hro p m⟩⟩
    have M : Mono s.heap h₁ := Mono.keep F.keep
    have keys : ((names.zip args ++ others.map (·, PV.any)).map Prod.fst) = names ++ others := by
      rw [List.map_append, map_zip_fst hlen, List.map_map]
      congr 1
      exact List.map_id _
    have rel : Rel C ⟨names.zip args ++ others.map (·, .any), own⟩ h₁ := {
      keep := fun b o e _ => F.keep b o e
      loc := ⟨_, F.ns, fun p m => by
        rcases List.mem_append.mp m with m | m
        · exact .inr (zip_lookup (List.nodup_append.mp lk.2).1 (ia.mono M) (d := p.2) m)
        · obtain ⟨x, _, e⟩ := List.mem_map.mp m
          exact .inl (by rw [← e])⟩
      kinds := fun p m => by
        refine lk.1 p.1 ?_
        rw [← keys]; exact List.mem_map_of_mem m
      lnd := by show (List.map Prod.fst _).Nodup; rw [keys]; exact lk.2
      own := fun p m => (pre p (List.mem_append_left _ m)).at M fun o e => F.keep _ o e
      nd := hnd
      apart := fun p m => .inl (List.mem_map_of_mem m)
      wtup := fun x m vs => by
        obtain ⟨p, m, e⟩ := List.mem_map.mp m
        rw [← e]; exact (pre p (List.mem_append_left _ m)).notTup vs
      wlive := fun x m => by
        obtain ⟨p, m, e⟩ := List.mem_map.mp m
        obtain ⟨ob, g⟩ := (pre p (List.mem_append_left _ m)).live
        rw [← e]
        exact ⟨⟨ob, g⟩, ob, F.keep _ _ g⟩ }
    have run := h C ok rfl ⟨by show A.depth + 1 + n ≤ 900; have := room.1; (first | decide | lia | omega), by show A.units + 3 + 40 * n ≤ 9000; have := room.2.1; (first | decide | lia | omega), room.2.2⟩ rfl rfl
    have fin : ∀ (v : Value) (s' : Shared) (dd : PV) (S' : St), Post C ⟨names.zip args ++ others.map (·, .any), own⟩ { s with heap := h₁, toks := s.toks + (names.zip vs).length } s' S' → Is s'.heap dd v → (∃ post, post.Sublist S'.own ∧ Q dd post) →
        FOut s (own.map Prod.fst) Q v s' := by
      rintro v s' dd S' p i ⟨post, sub, q⟩
      exact ⟨dd, post, ⟨p.gens, p.os, fun b o e m => p.rel.keep b o e m, fun x m => p.rel.own x (sub.subset m), (sub.map Prod.fst).nodup p.rel.nd, fun x m => p.rel.apart x (sub.subset m)⟩, i, q⟩
    refine WT.run (s := { s with heap := h₁, toks := s.toks + (names.zip vs).length }) run rel (by show s.toks + _ ≠ 0; (first | decide | lia | omega)) fun f s' dd S' ht' p i q => ?_
    cases dd <;> cases f <;> first | exact i.elim | exact q.elim | skip
    · exact fin .none s' .none S' p .none q
    · exact fin _ s' _ S' p i q
theorem retK_ret {W : List Addr} {Q : PV → List (Addr × AObj) → Prop} {d : PV} {S : St} (post : List (Addr × AObj)) (h : post.Sublist S.own) (q : Q d post) : retK W Q (.ret d) S := ⟨post, h, q⟩
theorem retK_next {W : List Addr} {Q : PV → List (Addr × AObj) → Prop} {S : St} (post : List (Addr × AObj)) (h : post.Sublist S.own) (q : Q .none post) : retK W Q .next S := ⟨post, h, q⟩
end
section
open PySem PyProof.Rows PySem.Calls
section
variable {prog : Program} {w : World} {B : Heap} {mg mb : Str → Option Value} {C : Cx} {S : St} {sc : Scope}
inductive Call0K (prog : Program) (w : World) (B : Heap) (mg : Str → Option Value) (C : Cx) (f : Str) (ds : List PV) (S₁ : St) (K : PV → St → Prop) : Prop
  | intro (n : Nat) (pre : List (Addr × AObj)) (Q : PV → List (Addr × AObj) → Prop) (hF : Fun prog w B mg n f ds pre [] Q) (room : Room n C.A) (hp : ∀ p ∈ pre, Has C S₁ p.1 p.2) (hK : ∀ d post, Q d post → K d { S₁ with own := post ++ S₁.own }) : Call0K prog w B mg C f ds S₁ K
inductive Upd1K (a : Addr) (x : AObj) (S₁ : St) (K : St → Prop) (post : List (Addr × AObj)) : Prop
  | intro (y : AObj) (post' own' : List (Addr × AObj)) (e : post = (a, y) :: post') (u : Upd a x y S₁.own own') (k : K { S₁ with own := post' ++ own' }) : Upd1K a x S₁ K post
inductive Call1K (prog : Program) (w : World) (B : Heap) (mg : Str → Option Value) (C : Cx) (f : Str) (ds : List PV) (S₁ : St) (K : PV → St → Prop) : Prop
  | intro (n : Nat) (pre : List (Addr × AObj)) (a : Addr) (x : AObj) (Q : PV → List (Addr × AObj) → Prop) (hF : Fun prog w B mg n f ds pre [a] Q) (room : Room n C.A) (hp : ∀ p ∈ pre, Has C S₁ p.1 p.2) (hm : (a, x) ∈ S₁.own)
      (hK : ∀ d post, Q d post → Upd1K a x S₁ (K d) post) : Call1K prog w B mg C f ds S₁ K
theorem WL_nil {pos : Pos} {K : List PV → St → Prop} (h : K [] S) : WL prog w C pos [] S K :=
  fun s rl ht => args_nil ⟨[], S, Post.rfl rl, .nil, h⟩
theorem WL_cons {pos : Pos} {e : Expr} {rest : List Expr} {K : List PV → St → Prop} (h : WE prog w C e S fun d S₁ => WL prog w C pos rest S₁ fun ds S₂ => K (d :: ds) S₂)
    (he : starEach (e :: rest) C.env = (false, eval e C.env) :: starEach rest C.env) : WL prog w C pos (e :: rest) S K :=
  fun s rl ht => args_cons (h.run rl ht fun v₁ s₁ d₁ S₁ ht₁ p₁ i₁ k₁ => WT.run k₁ p₁.rel ht₁ fun v₂ s₂ d₂ S₂ ht₂ p₂ i₂ k₂ =>
    ⟨d₁ :: d₂, S₂, p₁.trans p₂, .cons (i₁.mono (p₂.mono p₁.rel)) i₂, k₂⟩) he
/-- a def's name -/
theorem fn_name (k : CxOk B C) (G : Gnd B mg mb) (hs : C.env.scope = sc) {f : Str} {p : Pos} {v : Value} {s : Shared} {Q : Value → Shared → Prop} {E : Value → Shared → Prop} (rl : Rel C S s.heap) (hf : sc.names.lookup f = some .globalImplicit) (hd : (f == ("__debug__" : Str)) = false)
    (hv : mg f = some v) (h : Q v s) : wpAny (model prog w) C.A (eval (.Name f p) C.env) Q E s :=
  Name_function_global k.kind (show C.env.scope.names.lookup f = _ by rw [hs]; exact hf) (loadGlobal_global (mg := mg) (by rw [k.glob]; exact G.g.keeps (rl.keepB k)) hv h) hd
theorem blt_name (k : CxOk B C) (G : Gnd B mg mb) (hs : C.env.scope = sc) {f : Str} {p : Pos} {v : Value} {s : Shared} {Q : Value → Shared → Prop} {E : Value → Shared → Prop} (rl : Rel C S s.heap) (hf : sc.names.lookup f = some .globalImplicit) (hd : (f == ("__debug__" : Str)) = false)
    (hv : (["len", "min", "max", "range", "sorted", "bytes", "bytearray", "enumerate", "chr", "ord", "divmod", "sum", "list", "isinstance", "str", "memoryview"] : List Str).contains f = true) (hb : bootBuiltins f = some v) (hn : f ≠ "__name__") (h : Q v s) : wpAny (model prog w) C.A (eval (.Name f p) C.env) Q E s :=
  Name_function_global k.kind (show C.env.scope.names.lookup f = _ by rw [hs]; exact hf) (loadGlobal_builtin (mg := mg) (mb := mb) (by rw [k.glob]; exact G.g.keeps (rl.keepB k)) (G.free f hv) (by rw [k.blt]; exact G.b.keeps (rl.keepB k)) (by rw [G.blt f hn]; exact hb) h) hd
theorem Out.mono {s s' : Shared} {W : List Addr} {post : List (Addr × AObj)} (o : Out s s' W post) (n : ∀ a ∈ W, ∀ vs, ¬ IsTup s.heap a vs) : Mono s.heap s'.heap :=
  fun a vs t => by obtain ⟨ob, e, r⟩ := id t; exact ⟨ob, o.frame a ob e (fun m => n a m vs t), r⟩
theorem Post.call0 {s s' : Shared} {post : List (Addr × AObj)} (rl : Rel C S s.heap) (o : Out s s' [] post) : Post C S s s' { S with own := post ++ S.own } := by
  have M : Mono s.heap s'.heap := o.mono (fun _ m => by cases m)
  have fr : ∀ b ob, s.heap.get? b = some ob → s'.heap.get? b = some ob := fun b ob e => o.frame b ob e (by simp)
  have pf : ∀ p ∈ post, s.heap.get? p.1 = none := fun p m => (o.fresh p m).resolve_left (by simp)
  refine ⟨o.gens, o.os, ?_, fun b ob e _ _ => fr b ob e, fun p m => ?_, fun b ob e => ⟨ob, fr b ob e⟩⟩
  · exact {
      keep := fun b ob e n => fr b ob (rl.keep b ob e n)
      loc := let ⟨m, n, f⟩ := rl.loc; ⟨m, n.keeps fr, fun p q => (f p q).imp id fun ⟨v, a, b⟩ => ⟨v, a, b.mono M⟩⟩
      kinds := rl.kinds
      lnd := rl.lnd
      own := fun p m => by
        rcases List.mem_append.mp m with m | m
        · exact o.objs p m
        · exact (rl.own p m).at M fun ob e => fr _ ob e
      nd := by
        rw [List.map_append, List.nodup_append]
        refine ⟨o.nd, rl.nd, fun a ha b hb e => ?_⟩
        obtain ⟨p, m, rfl⟩ := List.mem_map.mp ha
        obtain ⟨q, n, e'⟩ := List.mem_map.mp hb
        obtain ⟨ob, g⟩ := (rl.own q n).live
        have := pf p m
        rw [e, ← e', g] at this; cases this
      apart := fun p m => by
        rcases List.mem_append.mp m with m | m
        · by_cases hw : p.1 ∈ C.W
          · exact .inl hw
          · refine .inr ?_
            cases e : C.h0.get? p.1 with
            | none => rfl
            | some ob => have := rl.keep _ ob e hw; rw [pf p m] at this; cases this
        · exact rl.apart p m
      wtup := rl.wtup
      wlive := fun b m => ⟨(rl.wlive b m).1, let ⟨ob, e⟩ := (rl.wlive b m).2; ⟨ob, fr _ _ e⟩⟩ }
  · rcases List.mem_append.mp m with m | m
    · exact .inr (pf p m)
    · exact .inl (List.mem_map_of_mem m)
theorem Post.call1 {s s' : Shared} {a : Addr} {x y : AObj} {post own' : List (Addr × AObj)} (rl : Rel C S s.heap) (u : Upd a x y S.own own') (o : Out s s' [a] ((a, y) :: post)) : Post C S s s' { S with own := post ++ own' } := by
  have hx := rl.own _ u.old
  have M : Mono s.heap s'.heap := o.mono (fun b m vs => by rw [List.mem_singleton] at m; subst m; exact hx.notTup vs)
  have fr : ∀ b ob, b ≠ a → s.heap.get? b = some ob → s'.heap.get? b = some ob := fun b ob n e => o.frame b ob e (by simpa using n)
  have pa : ∀ p ∈ post, p.1 ≠ a := fun p m e => by
    have := o.nd
    simp only [List.map_cons, List.nodup_cons] at this
    exact this.1 (e ▸ List.mem_map_of_mem m)
  have pf : ∀ p ∈ post, s.heap.get? p.1 = none := fun p m => (o.fresh p (.tail _ m)).resolve_left (by simpa using pa p m)
  refine ⟨o.gens, o.os, ?_, fun b ob e n _ => fr b ob (fun q => n (q ▸ List.mem_map_of_mem (f := Prod.fst) u.old)) e, fun p m => ?_, fun b ob e => ?_⟩
  · exact {
      keep := fun b ob e n => by
        refine fr b ob (fun q => ?_) (rl.keep b ob e n)
        subst q
        rcases rl.apart _ u.old with h | h
        · exact n h
        · rw [h] at e; cases e
      loc := by
        obtain ⟨m, n, f⟩ := rl.loc
        refine ⟨m, ?_, fun p q => (f p q).imp id fun ⟨v, a, b⟩ => ⟨v, a, b.mono M⟩⟩
        have hL : C.env.locals ≠ a := fun q => hx.notNs (m := m) (show s.heap.Ns a m from q ▸ n)
        obtain ⟨ob, es, ep, e, r⟩ := n
        exact ⟨ob, es, ep, fr _ _ hL e, r⟩
      kinds := rl.kinds
      lnd := rl.lnd
      own := fun p m => by
        rcases List.mem_append.mp m with m | m
        · exact o.objs p (.tail _ m)
        · rcases u.mem rl.nd p m with rfl | ⟨m, n⟩
          · exact o.objs _ (.head _)
          · exact (rl.own p m).at M fun ob e => fr _ ob n e
      nd := by
        rw [List.map_append, List.nodup_append]
        have := o.nd
        simp only [List.map_cons, List.nodup_cons] at this
        refine ⟨this.2, by rw [u.keys]; exact rl.nd, fun c ha b hb e => ?_⟩
        obtain ⟨p, m, rfl⟩ := List.mem_map.mp ha
        rw [u.keys] at hb
        obtain ⟨q, n, e'⟩ := List.mem_map.mp hb
        obtain ⟨ob, g⟩ := (rl.own q n).live
        have := pf p m
        rw [e, ← e', g] at this; cases this
      apart := fun p m => by
        rcases List.mem_append.mp m with m | m
        · by_cases hw : p.1 ∈ C.W
          · exact .inl hw
          · refine .inr ?_
            cases e : C.h0.get? p.1 with
            | none => rfl
            | some ob => have := rl.keep _ ob e hw; rw [pf p m] at this; cases this
        · rcases u.mem rl.nd p m with rfl | ⟨m, n⟩
          · exact rl.apart (a, x) u.old
          · exact rl.apart p m
      wtup := rl.wtup
      wlive := fun b m => by
        refine ⟨(rl.wlive b m).1, ?_⟩
        by_cases q : b = a
        · subst q; exact (o.objs _ (.head _)).live
        · obtain ⟨ob, e⟩ := (rl.wlive b m).2
          exact ⟨ob, fr _ _ q e⟩ }
  · rcases List.mem_append.mp m with m | m
    · exact .inr (pf p m)
    · refine .inl ?_
      rw [← u.keys]; exact List.mem_map_of_mem m
  · by_cases q : b = a
    · subst q; exact (o.objs _ (.head _)).live
    · exact ⟨ob, fr b ob q e⟩
/-- a call that writes nothing that stood -/
theorem WE_call0 {f : Str} {p pos : Pos} {e : Expr} {rest : List Expr} {K : PV → St → Prop} (k : CxOk B C) (G : Gnd B mg mb) (hs : C.env.scope = sc) (hf : sc.names.lookup f = some .globalImplicit) (hd : (f == ("__debug__" : Str)) = false)
    (h : WL prog w C pos (e :: rest) S fun ds S₁ => Call0K prog w B mg C f ds S₁ K)
    (hF : ∃ n args pre W Q, Fun prog w B mg n f args pre W Q)
    (he : starEach (e :: rest) C.env = (false, eval e C.env) :: starEach rest C.env) :
    WE prog w C (.Call (.Name f p) (e :: rest) [] pos) S K := by
  intro s rl ht
  obtain ⟨_, _, _, _, _, a, o, fd, hm, ho, hdat, _⟩ := hF
  refine Call_ (fn_name k G hs rl hf hd hm ?_) (by rfl)
  refine callWith_def hdat (h.run rl ht fun vs s₁ ds S₁ ht₁ p₁ i₁ ⟨n, pre, Q, hF, room, hp, hK⟩ => ⟨p₁.rel.keepB k _ _ ho, ?_⟩) he
  obtain ⟨a', o', fd', hm', _, _, run⟩ := hF
  rw [hm] at hm'; cases hm'
  refine wpAny_mono (run C.A s₁ vs room ht₁ (p₁.rel.keepB k) (fun p m => p₁.rel.has k (hp p m)) (fun _ m => by cases m) i₁) (fun v s₂ ⟨d, post, ou, i, q⟩ => ?_) (fun _ _ x => x)
  exact ⟨d, _, p₁.trans (Post.call0 p₁.rel ou), i, hK d post q⟩
/-- a call that writes one object of one's own -/
theorem WE_call1 {f : Str} {p pos : Pos} {e : Expr} {rest : List Expr} {K : PV → St → Prop} (k : CxOk B C) (G : Gnd B mg mb) (hs : C.env.scope = sc) (hf : sc.names.lookup f = some .globalImplicit) (hd : (f == ("__debug__" : Str)) = false)
    (h : WL prog w C pos (e :: rest) S fun ds S₁ => Call1K prog w B mg C f ds S₁ K)
    (hF : ∃ n args pre W Q, Fun prog w B mg n f args pre W Q)
    (he : starEach (e :: rest) C.env = (false, eval e C.env) :: starEach rest C.env) :
    WE prog w C (.Call (.Name f p) (e :: rest) [] pos) S K := by
  intro s rl ht
  obtain ⟨_, _, _, _, _, a, o, fd, hm, ho, hdat, _⟩ := hF
  refine Call_ (fn_name k G hs rl hf hd hm ?_) (by rfl)
  refine callWith_def hdat (h.run rl ht fun vs s₁ ds S₁ ht₁ p₁ i₁ ⟨n, pre, b, x, Q, hF, room, hp, hb, hK⟩ => ⟨p₁.rel.keepB k _ _ ho, ?_⟩) he
  obtain ⟨a', o', fd', hm', _, _, run⟩ := hF
  rw [hm] at hm'; cases hm'
  have hB : B.get? b = none := by
    cases e : B.get? b with
    | none => rfl
    | some ob =>
      rcases p₁.rel.apart _ hb with h | h
      · rw [k.wb _ h] at e; cases e
      · rw [k.base _ _ e] at h; cases h
  refine wpAny_mono (run C.A s₁ vs room ht₁ (p₁.rel.keepB k) (fun p m => p₁.rel.has k (hp p m)) (fun c m => by rw [List.mem_singleton] at m; subst m; exact hB) i₁) (fun v s₂ ⟨d, post, ou, i, q⟩ => ?_) (fun _ _ x => x)
  obtain ⟨y, post', own', rfl, u, kk⟩ := hK d post q
  exact ⟨d, _, p₁.trans (Post.call1 p₁.rel u ou), i, kk⟩
end
/-! the text's defs -/
noncomputable def fnd (i : Nat) : DefRec := match PySem.Challenge.pw_nb0208_01.main.body[i]? with
  | some (.FunctionDef name a b _ _ _ sc _ _ pos) => ⟨name, a, b, sc, pos⟩
  | _ => ⟨"", ⟨[], [], none, [], [], none, []⟩, [], ⟨.module, [], false, false, []⟩, ⟨0, 0, 0, 0⟩⟩
end
section
open PySem PyProof.Rows PySem.Calls
section
variable {prog : Program} {w : World} {B : Heap} {mg mb : Str → Option Value} {C : Cx} {S : St} {sc : Scope}
/-! objects that only a step of the machine knows -/
theorem Rel.h0_none {h : Heap} (r : Rel C S h) {a : Addr} (e : h.get? a = none) : C.h0.get? a = none := by
  cases q : C.h0.get? a with
  | none => rfl
  | some o =>
    by_cases m : a ∈ C.W
    · obtain ⟨o', e'⟩ := (r.wlive a m).2; rw [e] at e'; cases e'
    · have := r.keep a o q m; rw [e] at this; cases this
theorem ObjIs.notFields {h : Heap} {a : Addr} {x : AObj} (o : ObjIs h a x) {ob : Obj} {vs : Array Value} (e : h.get? a = some ob) (f : ob.data = .fields vs) : False := by
  cases x with
  | list l => obtain ⟨_, _, g, _⟩ := o; rw [g] at e; cases e; simp at f
  | barr b => have g : h.get? a = some _ := o; rw [g] at e; cases e; simp at f
  | cell x => cases x with
    | none => obtain ⟨ob', g, dd⟩ := o; rw [g] at e; cases e; rw [dd] at f; cases f
    | some x => obtain ⟨_, ⟨ob', g, dd⟩, _⟩ := o; rw [g] at e; cases e; rw [dd] at f; cases f
theorem Rel.priv {h h' : Heap} {pv : List Addr} (r : Rel C S h) (hn : ∀ a ∈ pv, C.h0.get? a = none) (hf : ∀ a ∈ pv, ∃ o, h.get? a = some o ∧ ∃ vs, o.data = .fields vs)
    (e : ∀ b o, b ∉ pv → h.get? b = some o → h'.get? b = some o) : Rel C S h' ∧ Mono h h' := by
  have M : Mono h h' := fun a vs ⟨o, g, c, n, d⟩ => ⟨o, e a o (fun m => by
    obtain ⟨o', g', vs', d'⟩ := hf a m
    rw [g] at g'; cases g'; rw [d] at d'; cases d') g, c, n, d⟩
  have own : ∀ q ∈ S.own, q.1 ∉ pv := fun q m mm => by
    obtain ⟨o', g', vs', d'⟩ := hf _ mm
    exact (r.own q m).notFields g' d'
  refine ⟨?_, M⟩
  exact {
      keep := fun b o g n => e b o (fun m => by rw [hn b m] at g; cases g) (r.keep b o g n)
      loc := by
        obtain ⟨m, n, f⟩ := r.loc
        refine ⟨m, ?_, fun q z => (f q z).imp id fun ⟨v, a, b⟩ => ⟨v, a, b.mono M⟩⟩
        obtain ⟨ob, es, ep, g, d, rest⟩ := n
        refine ⟨ob, es, ep, e _ _ (fun mm => ?_) g, d, rest⟩
        obtain ⟨o', g', vs', d'⟩ := hf _ mm
        rw [g] at g'; cases g'; rw [d] at d'; cases d'
      kinds := r.kinds
      lnd := r.lnd
      own := fun q m => (r.own q m).at M fun o g => e _ o (own q m) g
      nd := r.nd
      apart := r.apart
      wtup := r.wtup
      wlive := fun a m => by
        refine ⟨(r.wlive a m).1, ?_⟩
        obtain ⟨o, g⟩ := (r.wlive a m).2
        refine ⟨o, e a o (fun mm => ?_) g⟩
        obtain ⟨o', g'⟩ := (r.wlive a m).1
        rw [hn a mm] at g'; cases g' }
theorem Post.priv {s s₁ : Shared} {S₁ : St} {h' : Heap} {pv : List Addr} {tk : Nat} (p : Post C S s s₁ S₁) (r : Rel C S s.heap) (hn : ∀ a ∈ pv, s.heap.get? a = none) (hf : ∀ a ∈ pv, ∃ o, s₁.heap.get? a = some o ∧ ∃ vs, o.data = .fields vs)
    (e : ∀ b o, b ∉ pv → s₁.heap.get? b = some o → h'.get? b = some o) : Post C S s { s₁ with heap := h', toks := tk } S₁ ∧ Mono s₁.heap h' := by
  have q := p.rel.priv (fun a m => r.h0_none (hn a m)) hf e
  refine ⟨⟨p.gens, p.os, q.1, fun b o g n l => e b o (fun m => ?_) (p.frame b o g n l), p.fresh, fun b o g => ?_⟩, q.2⟩
  · rw [hn b m] at g; cases g
  · obtain ⟨o', g'⟩ := p.live b o g
    exact ⟨o', e b o' (fun m => by rw [hn b m] at g; cases g) g'⟩
/-- new objects alone -/
theorem Post.grown {s : Shared} {h' : Heap} {tk : Nat} (r : Rel C S s.heap) (e : ∀ b o, s.heap.get? b = some o → h'.get? b = some o) : Post C S s { s with heap := h', toks := tk } S :=
  ((Post.rfl r).priv (pv := []) r (by simp) (by simp) fun b o _ g => e b o g).1
theorem size_none (h : Heap) : h.get? h.objs.size = none := by
  cases e : h.get? h.objs.size with
  | none => rfl
  | some o => exact absurd (Heap.lt_size e) (Nat.lt_irrefl _)
theorem extBut_size {h h' : Heap} (e : Heap.ExtBut h.objs.size h h') : ∀ b o, h.get? b = some o → h'.get? b = some o :=
  fun b o g => e b o (Nat.ne_of_lt (Heap.lt_size g)) g
theorem Post.noneAt {s s₁ : Shared} {S₁ : St} (p : Post C S s s₁ S₁) : s.heap.get? s₁.heap.objs.size = none := by
  cases q : s.heap.get? s₁.heap.objs.size with
  | none => rfl
  | some o =>
    obtain ⟨o', e⟩ := p.live _ o q
    exact absurd (Heap.lt_size e) (Nat.lt_irrefl _)
/-! targets -/
noncomputable def WA (prog : Program) (w : World) (C : Cx) (t : Expr) (d : PV) (S : St) (K : St → Prop) : Prop :=
  ∀ (v : Value) (s : Shared), Rel C S s.heap → s.toks ≠ 0 → Is s.heap d v → wpAny (model prog w) C.A (assign t C.env v) (fun _ s' => Ans1 C S s K s') (fun _ _ => False) s
theorem WA_name {x : Str} {pos : Pos} {d : PV} {K : St → Prop} (k : CxOk B C) (h : StoreK x d S K) : WA prog w C (.Name x pos) d S K :=
  fun v s rl ht i => by
    obtain ⟨d₀, loc', u, kk⟩ := h
    exact PySem.wpAny_assign_Name (WU_store k rl i u fun s' p => ⟨_, p, kk⟩)
noncomputable def WAs (prog : Program) (w : World) (C : Cx) : List Expr → List PV → St → (St → Prop) → Prop
  | t :: ts, d :: ds, S, K => WA prog w C t d S fun S₁ => WAs prog w C ts ds S₁ K
  | [], [], S, K => K S
  | _, _, _, _ => False
theorem WAs_run {K : St → Prop} : ∀ {ts : List Expr} {ds : List PV} {vs : List Value} {S : St} {s : Shared}, (∀ t ∈ ts, ∀ r, assignEach (t :: r) C.env = (false, assign t C.env) :: assignEach r C.env) → WAs prog w C ts ds S K → Rel C S s.heap → s.toks ≠ 0 → IsAll s.heap ds vs →
    wpAny (model prog w) C.A (assignInOrder ((assignEach ts C.env).map (·.2)) vs) (fun _ s' => Ans1 C S s K s') (fun _ _ => False) s
  | [], [], _, S, s, _, h, rl, ht, .nil => assignInOrder_nil ⟨S, Post.rfl rl, h⟩
  | t :: ts, d :: ds, _, S, s, he, h, rl, ht, .cons i r => by
    rw [he t (.head _)]
    refine assignInOrder_cons (wpAny_mono (wpAny_toks (h _ s rl ht i)) (fun _ s₁ ⟨n, S₁, p₁, k₁⟩ => ?_) (fun _ _ x => x.2.elim))
    refine wpAny_mono (WAs_run (fun t m => he t (.tail _ m)) k₁ p₁.rel (by (first | decide | lia | omega)) (r.mono (p₁.mono rl))) (fun _ s₂ ⟨S₂, p₂, k₂⟩ => ⟨S₂, p₁.trans p₂, k₂⟩) (fun _ _ x => x)
  | [], _ :: _, _, _, _, _, h, _, _, _ => h.elim
  | _ :: _, [], _, _, _, _, h, _, _, _ => h.elim
theorem WA_tuple {ts : List Expr} {kk : Nat} {pos : Pos} {ds : List PV} {K : St → Prop} (hh : C.A.handled = none) (h : WAs prog w C ts ds S K) (hl : ts.length = ds.length)
    (he : ∀ t ∈ ts, ∀ r, assignEach (t :: r) C.env = (false, assign t C.env) :: assignEach r C.env) : WA prog w C (.Tuple ts kk pos) (.tup ds) S K :=
  fun v s rl ht i => by
    cases i with
    | tup it ia =>
      rename_i a vs
      have len : (assignEach ts C.env).length = ts.length := by
        clear h hl
        induction ts with
        | nil => rfl
        | cons t ts ih => rw [he t (.head _)]; simp [ih fun t m => he t (.tail _ m)]
      have hst : (assignEach ts C.env).findIdx? (·.1) = none := by
        clear h hl len
        induction ts with
        | nil => rfl
        | cons t ts ih => rw [he t (.head _), List.findIdx?_cons]; simp [ih fun t m => he t (.tail _ m)]
      refine assign_Tuple_tuple hh it (by rw [len, hl, ← ia.length]; simp) hst fun h' e => ?_
      have p := Post.grown (tk := s.toks) rl (extBut_size e)
      exact wpAny_mono (WAs_run (s := { s with heap := h' }) he h p.rel ht (ia.mono (p.mono rl))) (fun _ s₁ ⟨S₁, p₁, k₁⟩ => ⟨S₁, p.trans p₁, k₁⟩) (fun _ _ x => x)
/-! loops over an iterator -/
structure Itr (prog : Program) (w : World) (C : Cx) (it : Addr) (pv : List Addr) (n : Nat) (item : Nat → PV) (Side : Heap → Prop) (J : Nat → Heap → Prop) (target : Expr) : Prop where
  mem : ∀ i h, J i h → ∀ a ∈ pv, ∃ o, h.get? a = some o ∧ ∃ vs, o.data = .fields vs
  stable : ∀ i h h', J i h → (∀ a ∈ pv, ∀ o, h.get? a = some o → h'.get? a = some o) → J i h'
  next : ∀ i (s : Shared), i < n → J i s.heap → Side s.heap → s.toks ≠ 0 →
    wpAny (model prog w) C.A (pyNext (.ref it)) (fun r s₁ => ∃ v, r = some v ∧ wpAny (model prog w) C.A (letOwnedTupleGo target (.ref it) v) (fun _ s₂ => ∃ h' tk, s₂ = { s with heap := h', toks := tk } ∧ tk ≠ 0 ∧ J (i + 1) h' ∧ Is h' (item i) v ∧
      ∀ b o, b ∉ pv → s.heap.get? b = some o → h'.get? b = some o) (fun _ _ => False) s₁) (fun _ _ => False) s
  self : ∀ i (s : Shared) (Q : Value → Shared → Prop) (E : Value → Shared → Prop), J i s.heap → Q (.ref it) s → wpAny (model prog w) C.A (pyIter (.ref it)) Q E s
  fin : ∀ (s : Shared), J n s.heap → Side s.heap → s.toks ≠ 0 →
    wpAny (model prog w) C.A (pyNext (.ref it)) (fun r s₁ => r = none ∧ ∃ h' tk, s₁ = { s with heap := h', toks := tk } ∧ ∀ b o, b ∉ pv → s.heap.get? b = some o → h'.get? b = some o) (fun _ _ => False) s
theorem for_run {X : Type} {target : Expr} {body : List Stmt} {K : PFlow → St → Prop} {it : Addr} {pv : List Addr} {n : Nat} {item : Nat → PV} {Side : Heap → Prop} {J : Nat → Heap → Prop} {s s₁ : Shared} (I : Nat → X → St) (P : Nat → X → Prop) {x₀ : X}
    (r : Rel C S s.heap) (p₁ : Post C S s s₁ (I 0 x₀)) (h₀ : P 0 x₀) (Y : Itr prog w C it pv n item Side J target) (hn : ∀ a ∈ pv, s.heap.get? a = none) (hL : C.env.locals ∉ pv) (j₀ : J 0 s₁.heap) (ht₁ : s₁.toks ≠ 0)
    (side : ∀ i x h, i ≤ n → P i x → Rel C (I i x) h → Side h)
    (turn : ∀ i x, i < n → P i x → WA prog w C target (item i) (I i x) fun S₁ => WXs prog w C body S₁ (loopK (fun S₂ => ∃ y, P (i + 1) y ∧ LeS S₂ (I (i + 1) y)) K))
    (fin : ∀ x, P n x → K .next (I n x)) (E : Value → Shared → Prop) :
    codeAny (model prog w) C.A (.forLoop target (.ref it) body [] C.env) (fun r s' => match r with | .ok f => Ans C S s FlowIs K f s' | .error e => E e s') s₁ := by
  refine codeAny_forLoop_any (fun m s' => s'.toks ≠ 0 ∧ ∃ i x, i ≤ n ∧ m = n - i ∧ P i x ∧ Post C S s s' (I i x) ∧ J i s'.heap) ?_ n ⟨ht₁, 0, x₀, Nat.zero_le _, rfl, h₀, p₁, j₀⟩
  rintro m s₂ ⟨ht₂, i, x, hi, rfl, hP, p₂, j₂⟩
  have sd := side i x _ hi hP p₂.rel
  by_cases hlt : i < n
  · refine wpAny_mono (wpAny_toks (Y.next i s₂ hlt j₂ sd ht₂)) (fun rr s₃ ⟨tk₃, v, e, h₃⟩ => ?_) (fun _ _ x => x.2.elim)
    subst e
    refine wpAny_mono h₃ (fun _ s₄ ⟨h', tk, e, tk0, j₄, i₄, fr⟩ => ?_) (fun _ _ x => x.elim)
    subst e
    have p₄ := (p₂.priv (tk := tk) r hn (Y.mem i _ j₂) fr).1
    refine wpAny_mono (wpAny_toks (turn i x hlt hP v _ p₄.rel tk0 i₄)) (fun _ s₅ ⟨tk₅, S₅, p₅, k₅⟩ => ?_) (fun _ _ x => x.2.elim)
    have ht₅ : s₅.toks ≠ 0 := by simp only at tk₅; (first | decide | lia | omega)
    have j₅ : J (i + 1) s₅.heap := Y.stable _ _ _ j₄ fun a m o g => p₅.frame a o g (fun mm => by
      obtain ⟨q, mq, e⟩ := List.mem_map.mp mm
      obtain ⟨o', g', vs', d'⟩ := Y.mem _ _ j₄ a m
      exact (p₄.rel.own q mq).notFields (by rw [e]; exact g') d') fun l => hL (l ▸ m)
    refine WT.run k₅ p₅.rel ht₅ fun f s₆ d₆ S₆ ht₆ p₆ f₆ k₆ => ?_
    have j₆ : J (i + 1) s₆.heap := Y.stable _ _ _ j₅ fun a m o g => p₆.frame a o g (fun mm => by
      obtain ⟨q, mq, e⟩ := List.mem_map.mp mm
      obtain ⟨o', g', vs', d'⟩ := Y.mem _ _ j₅ a m
      exact (p₅.rel.own q mq).notFields (by rw [e]; exact g') d') fun l => hL (l ▸ m)
    have q := (p₄.trans p₅).trans p₆
    cases d₆ <;> cases f <;> first | exact f₆.elim | skip
    · obtain ⟨y, hy, l⟩ := k₆
      exact ⟨n - (i + 1), by (first | decide | lia | omega), ht₆, i + 1, y, hlt, rfl, hy, q.weaken l, j₆⟩
    · exact ⟨.next, S₆, q, trivial, k₆⟩
    · obtain ⟨y, hy, l⟩ := k₆
      exact ⟨n - (i + 1), by (first | decide | lia | omega), ht₆, i + 1, y, hlt, rfl, hy, q.weaken l, j₆⟩
    · exact ⟨.ret _, S₆, q, f₆, k₆⟩
  · have e : i = n := by (first | decide | lia | omega)
    subst e
    refine wpAny_mono (Y.fin s₂ j₂ sd ht₂) (fun rr s₃ ⟨e, h', tk, e', fr⟩ => ?_) (fun _ _ x => x.elim)
    subst e; subst e'
    have p₃ := (p₂.priv (tk := tk) r hn (Y.mem i _ j₂) fr).1
    exact wpAny_execs_nil ⟨.next, _, p₃, trivial, fin x hP⟩
/-- the iterable, its iterator, what it hands out -/
inductive AnsI (prog : Program) (w : World) (C : Cx) (S : St) (s : Shared) (target : Expr) (K : Nat → (Nat → PV) → (St → Prop) → St → Prop) (iv : Value) (s₂ : Shared) : Prop
  | intro (it : Addr) (pv : List Addr) (n : Nat) (item : Nat → PV) (SideH : Heap → Prop) (SideS : St → Prop) (J : Nat → Heap → Prop) (S' : St) (e : iv = .ref it) (p : Post C S s s₂ S') (y : Itr prog w C it pv n item SideH J target) (j : J 0 s₂.heap) (hn : ∀ a ∈ pv, s.heap.get? a = none) (hL : C.env.locals ∉ pv) (hside : ∀ S h, SideS S → Rel C S h → SideH h) (k : K n item SideS S') : AnsI prog w C S s target K iv s₂
noncomputable def WI (prog : Program) (w : World) (C : Cx) (iter target : Expr) (S : St) (K : Nat → (Nat → PV) → (St → Prop) → St → Prop) : Prop :=
  ∀ s : Shared, Rel C S s.heap → s.toks ≠ 0 → wpAny (model prog w) C.A (eval iter C.env) (fun x s₁ => wpAny (model prog w) C.A (pyIter x) (AnsI prog w C S s target K) (fun _ _ => False) s₁) (fun _ _ => False) s
theorem WX_for {X : Type} {target iter : Expr} {body : List Stmt} {pos : Pos} {K : PFlow → St → Prop}
    (h : WI prog w C iter target S fun n item Side S₁ => ∃ (I : Nat → X → St) (P : Nat → X → Prop) (x₀ : X), P 0 x₀ ∧ LeS S₁ (I 0 x₀) ∧ (∀ i y, i ≤ n → P i y → Side (I i y)) ∧
      (∀ i y, i < n → P i y → WA prog w C target (item i) (I i y) fun S₁ => WXs prog w C body S₁ (loopK (fun S₂ => ∃ z, P (i + 1) z ∧ LeS S₂ (I (i + 1) z)) K)) ∧ (∀ y, P n y → K .next (I n y)))
    (hs : ∀ x, foldedSetIterable iter C.env x = pure x) : WX prog w C (.For target iter body [] pos) S K := by
  intro s rl ht
  refine PySem.wpAny_For (wpAny_mono (wpAny_toks (h s rl ht)) (fun x s₁ ⟨tk₁, h₁⟩ => wpAny_mono (wpAny_toks h₁) (fun iv s₂ ⟨tk₂, h₂⟩ => ?_) (fun _ _ x => x.2)) (fun _ _ x => x.2)) hs
  obtain ⟨it, pv, n, item, SideH, SideS, J, S', rfl, p, Y, j, hn, hL, hside, I, P, x₀, h₀, l₀, sd, turn, fin⟩ := h₂
  exact for_run I P rl (p.weaken l₀) h₀ Y hn hL j (by (first | decide | lia | omega)) (fun i x hh hi hP r => hside _ _ (sd i x hi hP) r) turn fin _
theorem letGo_listIter {target : Expr} {v : Value} {it a : Addr} {i : Nat} {A : Around} {s : Shared} {Q : Unit → Shared → Prop} {E : Value → Shared → Prop} (j : s.heap.IsListIter it a i) (h : Q () s) : wpAny (model prog w) A (letOwnedTupleGo target (.ref it) v) Q E s := by
  obtain ⟨o, g, c, d⟩ := j
  have fin : wpAny (model prog w) A (do
      let (.ref r, .ref a) := ((Value.ref it), v) | return
      let o ← load r
      match o.cls, o.data with
      | .type n, .fields vs =>
        if ["enumerate", "zip", "dict_itemiterator", "dict_reverseitemiterator", "odict_iterator", "itertools.zip_longest", "itertools.pairwise"].contains n && vs[0]? == some (rawInt a) then
          rule "for.unpacks-the-owned-tuple"
          updateField r 0 .none
      | _, _ => pure () : Sem Unit) Q E s := by
    cases v <;> first | exact wpAny_pure h | skip
    refine wpAny_bind (wpAny_load g ?_)
    rw [c, d]
    exact wpAny_pure h
  cases target <;> first | exact wpAny_pure h | exact fin
/-- over a list -/
theorem itr_list {it a : Addr} {l : List PV} {target : Expr} (hh : C.A.handled = none) :
    Itr prog w C it [it] l.length (fun i => l.getD i .any) (fun h => ObjIs h a (.list l)) (fun i h => h.IsListIter it a i) target where
  mem := fun i h ⟨o, g, c, d⟩ b m => by rw [List.mem_singleton] at m; subst m; exact ⟨o, g, _, d⟩
  stable := fun i h h' ⟨o, g, r⟩ k => ⟨o, k it (.head _) o g, r⟩
  self := fun i s Q E j q => wpAny_pyIter_listiter j q
  next := fun i s hi j ⟨vs, n, g, ia⟩ ht => by
    obtain ⟨v, ev, iv⟩ := ia.get (i := i) (d := l.getD i .any) (by simp [hi])
    refine wpAny_pyNext_list_item j ⟨_, g, rfl, n, rfl⟩ (by simpa using ev) fun h' j' sb => ⟨v, rfl, letGo_listIter (s := { s with heap := h' }) j' ⟨h', s.toks, rfl, ht, j', iv.mono ?_, fun b o m e => (sb.2 b (by simpa using m)).trans e⟩⟩
    refine Mono.sameBut (fun vs' t => ?_) sb
    obtain ⟨o, g', _, _, d⟩ := t
    obtain ⟨o', g'', _, d'⟩ := j
    rw [g'] at g''; cases g''; rw [d] at d'; cases d'
  fin := fun s j ⟨vs, n, g, ia⟩ ht => by
    refine wpAny_pyNext_list_end hh j ⟨_, g, rfl, n, rfl⟩ ?_ fun h' eb => ⟨rfl, h', s.toks, rfl, fun b o m e => eb b o (by simpa using m) e⟩
    have := ia.length
    simp only [Array.length_toList] at this
    simp [this]
theorem Rel.loc_ne {h : Heap} (r : Rel C S h) : C.env.locals ≠ h.objs.size := fun e => by
  obtain ⟨m', n', _⟩ := r.loc
  rw [e] at n'
  exact absurd n'.lt (Nat.lt_irrefl _)
theorem Rel.loc_lt {h : Heap} (r : Rel C S h) : C.env.locals < h.objs.size := by
  obtain ⟨m', n', _⟩ := r.loc
  exact n'.lt
theorem WI_list {iter target : Expr} {K : Nat → (Nat → PV) → (St → Prop) → St → Prop} (k : CxOk B C) (hh : C.A.handled = none)
    (h : WE prog w C iter S fun d S₁ => ∃ a l, d = .ref a ∧ Has C S₁ a (.list l) ∧ K l.length (fun i => l.getD i .any) (fun S => Has C S a (.list l)) S₁) : WI prog w C iter target S K := by
  intro s rl ht
  refine h.run rl ht fun v s₁ d S₁ ht₁ p₁ i₁ ⟨a, l, e, hl, kk⟩ => ?_
  subst e
  cases i₁
  obtain ⟨vs, n, g, ia⟩ := p₁.rel.has k hl
  refine wpAny_pyIter_list ⟨_, g, rfl, n, rfl⟩ ?_
  refine ⟨s₁.heap.objs.size, [s₁.heap.objs.size], _, _, _, _, _, S₁, rfl, p₁.trans (Post.push (tk := s₁.toks) p₁.rel _), itr_list (a := a) (l := l) hh, ⟨_, Heap.get?_push_size _ rfl, rfl, rfl⟩, ?_, ?_, fun S h hs r => r.has k hs, kk⟩
  · simpa using p₁.noneAt
  · simpa using p₁.rel.loc_ne
/-- over a range -/
noncomputable def RangeOf : List PV → Int → Int → Nat → Prop
  | [.int n], a, c, cnt => (n < 2 ^ 60 ∧ -(2 ^ 60) < n) ∧ a = 0 ∧ c = 1 ∧ cnt = n.toNat
  | [.int x, .int y, .int z], a, c, cnt => (x < 2 ^ 60 ∧ -1 ≤ x) ∧ y = -1 ∧ z = -1 ∧ a = x ∧ c = -1 ∧ cnt = (x + 1).toNat
  | _, _, _, _ => False
theorem RangeOf.inv {ds : List PV} {a c : Int} {cnt : Nat} (h : RangeOf ds a c cnt) : (∃ n, ds = [.int n] ∧ (n < 2 ^ 60 ∧ -(2 ^ 60) < n) ∧ a = 0 ∧ c = 1 ∧ cnt = n.toNat) ∨ (∃ x, ds = [.int x, .int (-1), .int (-1)] ∧ (x < 2 ^ 60 ∧ -1 ≤ x) ∧ a = x ∧ c = -1 ∧ cnt = (x + 1).toNat) := by
  unfold RangeOf at h
  split at h
  · exact .inl ⟨_, rfl, h⟩
  · obtain ⟨h1, rfl, rfl, h2⟩ := h
    exact .inr ⟨_, rfl, h1, h2⟩
  · exact h.elim
theorem itr_range {it : Addr} {a c : Int} {n : Nat} {x : Str} {px : Pos} (hh : C.A.handled = none) :
    Itr prog w C it [it] n (fun i => .int (a + i * c)) (fun _ => True) (fun i h => IsRangeIter h it (a + i * c) (n - i) c) (.Name x px) where
  mem := fun i h g b m => by rw [List.mem_singleton] at m; subst m; exact ⟨_, g, _, rfl⟩
  stable := fun i h h' g k => k it (.head _) _ g
  self := fun i s Q E j q => wpAny_pyIter_rangeiter j q
  next := fun i s hi j _ ht => by
    refine wpAny_pyNext_range_item j (by (first | decide | lia | omega)) fun h' j' sb => ⟨_, rfl, wpAny_pure ⟨h', s.toks + 1, rfl, Nat.succ_ne_zero _, ?_, .int _ _ ht, fun b o m e => (sb.2 b (by simpa using m)).trans e⟩⟩
    have e1 : a + ((i + 1 : Nat) : Int) * c = a + i * c + c := by rw [Int.natCast_add, Int.add_mul]; (first | decide | lia | omega)
    have e2 : (n : Int) - ((i + 1 : Nat) : Int) = n - i - 1 := by (first | decide | lia | omega)
    show IsRangeIter h' it (a + ((i + 1 : Nat) : Int) * c) ((n : Int) - ((i + 1 : Nat) : Int)) c
    rw [e1, e2]; exact j'
  fin := fun s j _ ht => wpAny_pyNext_range_end hh j (by (first | decide | lia | omega)) fun h' eb => ⟨rfl, h', s.toks, rfl, fun b o m e => eb b o (by simpa using m) e⟩
theorem range_size1 (n : Int) : Builtin.Range.rangeSize 0 n 1 = n.toNat := by rw [rangeSize_one]; split <;> (first | decide | lia | omega)
theorem range_sized (x : Int) (h : -1 ≤ x) : Builtin.Range.rangeSize x (-1) (-1) = (x + 1).toNat := by
  unfold Builtin.Range.rangeSize
  simp
  (first | decide | lia | omega)
theorem small_down {x : Int} (h : -1 ≤ x) (h' : x < 2 ^ 60) : Builtin.Range.small x (-1) (-1) = true := by
  unfold Builtin.Range.small
  rw [range_sized x h]
  simp [Builtin.Range.rangeFitsLong]
  (first | decide | lia | omega)
theorem boot_range' : bootBuiltins "range" = some (.type "range") := by decide +kernel
theorem boot_enum' : bootBuiltins "enumerate" = some (.type "enumerate") := by decide +kernel
theorem WI_range {x : Str} {px p pos : Pos} {e : Expr} {rest : List Expr} {K : Nat → (Nat → PV) → (St → Prop) → St → Prop} (k : CxOk B C) (G : Gnd B mg mb) (hs : C.env.scope = sc) (hf : sc.names.lookup ("range" : Str) = some .globalImplicit) (hh : C.A.handled = none)
    (h : WL prog w C pos (e :: rest) S fun ds S₁ => ∃ a c cnt, RangeOf ds a c cnt ∧ K cnt (fun i => .int (a + i * c)) (fun _ => True) S₁)
    (he : starEach (e :: rest) C.env = (false, eval e C.env) :: starEach rest C.env) (hp : (backTo pos (starEach rest C.env)).any (·.1) = false) :
    WI prog w C (.Call (.Name "range" p) (e :: rest) [] pos) (.Name x px) S K := by
  intro s rl ht
  refine Call_ (blt_name k G hs rl hf (by decide) (by decide) boot_range' (by decide) ?_) (by rfl)
  refine callWith_type1 (h.run rl ht fun vs s₁ ds S₁ ht₁ p₁ i₁ ⟨a, c, cnt, hr, kk⟩ => ?_) he hp
  have fin : ∀ (s₂ : Shared) (r : Addr) (b : Int) (t u v : Tok), Post C S s s₂ S₁ → IsRange s₂.heap r a b c t u v → Builtin.Range.small a b c = true → Builtin.Range.rangeSize a b c = cnt →
      wpAny (model prog w) C.A (pyIter (.ref r)) (AnsI prog w C S s (.Name x px) K) (fun _ _ => False) s₂ := by
    intro s₂ r b t u v p₂ hr sm sz
    refine wpAny_pyIter_range hr sm ⟨s₂.heap.objs.size, [s₂.heap.objs.size], cnt, _, _, _, _, S₁, rfl, p₂.trans (Post.push (tk := s₂.toks) p₂.rel _), itr_range (a := a) (c := c) hh, ?_, ?_, ?_, fun _ _ _ _ => trivial, kk⟩
    · rw [sz]
      show Heap.get? _ _ = _
      simp only [Int.natCast_zero, Int.zero_mul, Int.add_zero, Int.sub_zero]
      exact Heap.get?_push_size _ rfl
    · simpa using p₂.noneAt
    · simpa using p₂.rel.loc_ne
  rcases hr.inv with ⟨n, rfl, ⟨b1, b2⟩, rfl, rfl, rfl⟩ | ⟨y, rfl, ⟨b1, b2⟩, rfl, rfl, rfl⟩
  · obtain ⟨v, r, rfl, i, j⟩ := i₁.cons_inv
    obtain ⟨t, _, rfl⟩ := i.int_inv
    obtain rfl := j.nil_inv
    exact call_range_1 (fin _ _ _ _ _ _ (p₁.trans (Post.push p₁.rel _)) (IsRange.new _ _ _ _ _ _ _) (small_one (by (first | decide | lia | omega)) (by (first | decide | lia | omega)) (by (first | decide | lia | omega)) (by (first | decide | lia | omega))) (range_size1 _))
  · obtain ⟨v1, r1, rfl, j1, k1⟩ := i₁.cons_inv
    obtain ⟨v2, r2, rfl, j2, k2⟩ := k1.cons_inv
    obtain ⟨v3, r3, rfl, j3, k3⟩ := k2.cons_inv
    obtain ⟨t1, _, rfl⟩ := j1.int_inv
    obtain ⟨t2, _, rfl⟩ := j2.int_inv
    obtain ⟨t3, _, rfl⟩ := j3.int_inv
    obtain rfl := k3.nil_inv
    exact PySem.call_range_3 (by decide) (fin _ _ _ _ _ _ (p₁.trans (Post.push p₁.rel _)) (IsRange.new _ _ _ _ _ _ _) (small_down b2 b1) (range_sized _ b2)) (.inl (PyProof.noPylong_of_log2 (by decide +kernel)))
end
end
section
open PySem PyProof.Rows PySem.Calls
section
variable {prog : Program} {w : World} {B : Heap} {mg mb : Str → Option Value} {C : Cx} {S : St} {sc : Scope}
theorem Has.own {a : Addr} {x : AObj} (h : InL a x S.own) : Has C S a x := .inl h.mem
theorem Has.roAt {a : Addr} {x : AObj} {ro : List (Addr × AObj)} (e : C.ro = ro) (h : InL a x ro) : Has C S a x := .inr (e ▸ h.mem)
/-- a new object of one's own -/
noncomputable def NewK (x : AObj) (S : St) (K : PV → St → Prop) : Prop := ∀ a, K (.ref a) ⟨S.loc, (a, x) :: S.own⟩
theorem newK {x : AObj} {l : List (Str × PV)} {o : List (Addr × AObj)} {K : PV → St → Prop} (h : ∀ a, K (.ref a) ⟨l, (a, x) :: o⟩) : NewK x ⟨l, o⟩ K := h
theorem ObjIs.newList {h : Heap} {ds : List PV} {vs : List Value} (ia : IsAll h ds vs) : ObjIs (h.push { cls := .type "list", data := .seq vs.toArray }) h.objs.size (.list ds) :=
  ⟨vs.toArray, 0, Heap.get?_push_size _ rfl, by simpa using ia.mono (Mono.push _)⟩
theorem WE_list {es : List Expr} {pos : Pos} {K : PV → St → Prop} (h : WL prog w C pos es S fun ds S₁ => ds.length ≤ 2 ^ 20 ∧ NewK (.list ds) S₁ K) : WE prog w C (.List es pos) S K :=
  fun s rl ht => wpAny_List (h.run rl ht fun vs s₁ ds S₁ ht₁ p₁ ia ⟨hl, kk⟩ => ⟨by rw [ia.length, sizeLine_eq]; (first | decide | lia | omega), _, _, p₁.trans (Post.new (tk := s₁.toks) p₁.rel (ObjIs.newList ia)), .ref _, kk _⟩)
theorem WE_tuple {es : List Expr} {n : Nat} {pos : Pos} {K : PV → St → Prop} (h : WL prog w C pos es S fun ds S₁ => ds.length ≤ 2 ^ 20 ∧ K (.tup ds) S₁) : WE prog w C (.Tuple es n pos) S K :=
  fun s rl ht => wpAny_Tuple (h.run rl ht fun vs s₁ ds S₁ ht₁ p₁ ia ⟨hl, kk⟩ => ⟨by rw [ia.length, sizeLine_eq]; (first | decide | lia | omega), _, _, p₁.trans (Post.push (tk := s₁.toks) p₁.rel _),
    .tup (vs := vs) ⟨_, Heap.get?_push_size _ rfl, rfl, 0, rfl⟩ (ia.mono (Mono.push _)), kk⟩)
/-! items -/
noncomputable def ItemK (C : Cx) (S : St) (k : PV → Prop) : PV → PV → Prop
  | .ref a, .int n => ∃ l j e, Has C S a (.list l) ∧ l.length ≤ 2 ^ 30 ∧ seqIndex? n l.length = some j ∧ l[j]? = some e ∧ k e
  | .tup l, .int n => ∃ j e, l.length ≤ 2 ^ 30 ∧ seqIndex? n l.length = some j ∧ l[j]? = some e ∧ k e
  | .bytes b, .int n => (0 ≤ n ∧ n < b.size ∧ b.size ≤ 2 ^ 30) ∧ k (.int (b.toList.getD n.toNat 0).toNat)
  | _, _ => False
theorem seqIndex_bounds {n : Int} {m j : Nat} (h : seqIndex? n m = some j) : -(m : Int) ≤ n ∧ n < m ∧ j < m ∧ ((0 ≤ n ∧ j = n.toNat) ∨ (n < 0 ∧ j = (n + m).toNat)) := by
  unfold seqIndex? at h
  split at h
  · rename_i hn
    dsimp only at h
    split at h
    · rename_i hb
      simp only [Bool.and_eq_true, decide_eq_true_eq] at hb
      have := Option.some.inj h
      (first | decide | lia | omega)
    · cases h
  · rename_i hn
    dsimp only at h
    split at h
    · rename_i hb
      simp only [Bool.and_eq_true, decide_eq_true_eq] at hb
      have := Option.some.inj h
      (first | decide | lia | omega)
    · cases h
theorem seqIndex_nn {n : Int} {m : Nat} (h : 0 ≤ n) (h' : n < m) : seqIndex? n m = some n.toNat := by
  unfold seqIndex?
  have : ¬ n < 0 := by (first | decide | lia | omega)
  simp only [this, if_false]
  rw [if_pos (by simp only [Bool.and_eq_true, decide_eq_true_eq]; (first | decide | lia | omega))]
theorem seqIndex_last {m : Nat} : seqIndex? (-1) (m + 1) = some m := by
  rw [seqIndex_neg (by (first | decide | lia | omega)) (by (first | decide | lia | omega))]
  congr 1
  (first | decide | lia | omega)
theorem item_run {s : Shared} {d i : PV} {v u : Value} {k : PV → Prop} {Q : Value → Shared → Prop} {E : Value → Shared → Prop} (kx : CxOk B C) (rl : Rel C S s.heap) (hk : ItemK C S k d i) (id' : Is s.heap d v) (ii : Is s.heap i u) (ht : s.toks ≠ 0)
    (q : ∀ e r tk, tk ≠ 0 → Is s.heap e r → k e → Q r { s with toks := tk }) : wpAny (model prog w) C.A (getItem v u) Q E s ∧ ∃ T id, s.TypeIs v T ∧ typeLookup (.type T) "__getitem__" = pure (some (.builtin id)) := by
  cases ii with
  | int n t ht' =>
    cases id' <;> first | exact hk.elim | skip
    · rename_i b t'
      obtain ⟨⟨h0, h1, h2⟩, kk⟩ := hk
      have := PySem.W.getItem_bytes (prog := prog) (w := w) (A := C.A) (E := E) (s := s) (t := t') (u := t) (l := b.toList) (i := n) (Q := Q) (by simpa using (by (first | decide | lia | omega) : b.size ≤ 1099511627776)) h0 (by simpa using h1) (q _ _ _ (Nat.succ_ne_zero _) (.int _ _ ht) kk)
      rw [Array.toArray_toList] at this
      exact ⟨this, _, _, PySem.W.typeIs_bytes _ _ _, PySem.W.FB.slot_bytes_getitem.lookup⟩
    · rename_i a
      obtain ⟨l, j, e, hl, hz, hj, he, kk⟩ := hk
      obtain ⟨vs, n', g, ia⟩ := rl.has kx hl
      obtain ⟨r, er, ir⟩ := ia.get he
      have L : s.heap.IsList a vs := ⟨_, g, rfl, n', rfl⟩
      have hlen := ia.length
      simp only [Array.length_toList] at hlen
      obtain ⟨b1, b2, b3, b4⟩ := seqIndex_bounds hj
      refine ⟨?_, _, _, L.typeIs, slot_list_getitem.lookup⟩
      rcases b4 with ⟨h0, rfl⟩ | ⟨h0, rfl⟩
      · exact wpAny_getItem_list L h0 (by (first | decide | lia | omega)) (by simpa using er) (q e r s.toks ht ir kk)
      · exact wpAny_getItem_list_neg L h0 (by rw [hlen]; exact b1) (by (first | decide | lia | omega)) (by rw [hlen]; simpa using er) (q e r s.toks ht ir kk)
    · rename_i l a vs it ia
      obtain ⟨j, e, hz, hj, he, kk⟩ := hk
      obtain ⟨r, er, ir⟩ := ia.get he
      obtain ⟨b1, b2, b3, b4⟩ := seqIndex_bounds hj
      refine ⟨?_, _, _, it.typeIs, slot_tuple_getitem.lookup⟩
      exact PyProof.Rows.getItem_tuple it (by (first | decide | lia | omega)) (by (first | decide | lia | omega)) (j := j) (by simpa [ia.length] using hj) (by simpa using er) (q e r s.toks ht ir kk)
  | _ => cases d <;> exact hk.elim
theorem WE_item {value slice : Expr} {pos : Pos} {K : PV → St → Prop} (k : CxOk B C) (h : WE prog w C value S fun d S₁ => WE prog w C slice S₁ fun i S₂ => ItemK C S₂ (fun e => K e S₂) d i)
    (hs : ∀ o i, subscripted slice false o i = operate [o, i] (getItem o i)) : WE prog w C (.Subscript value slice pos) S K :=
  fun s rl ht => Subscript_ (h.run rl ht fun v s₁ d S₁ ht₁ p₁ i₁ k₁ => WT.run k₁ p₁.rel ht₁ fun u s₂ i S₂ ht₂ p₂ i₂ k₂ => by
    have := item_run (prog := prog) (w := w) (E := fun _ _ => False) (Q := Ans C S s Is K) k p₂.rel k₂ (i₁.mono (p₂.mono p₁.rel)) i₂ ht₂ fun e r tk _ ir kk => ⟨e, S₂, (p₁.trans p₂).trans (Post.same p₂.rel), ir, kk⟩
    obtain ⟨g, T, id, hT, hl⟩ := this
    exact tail_any hT hl g (hs _ _))
/-! an item stored -/
noncomputable def SetK (S : St) (e : PV) (k : St → Prop) : PV → PV → Prop
  | .ref a, .int n => ∃ l own', Upd a (.list l) (.list (l.set n.toNat e)) S.own own' ∧ l.length ≤ 2 ^ 30 ∧ 0 ≤ n ∧ n < l.length ∧ k ⟨S.loc, own'⟩
  | _, _ => False
theorem setItem_exact {A : Around} {s : Shared} {a : Addr} {vs : Array Value} {ne : Nat} {n : Int} {t : Tok} {v : Value} {Q : Unit → Shared → Prop} {E : Value → Shared → Prop} (g : s.heap.get? a = some (lstObj vs ne)) (h0 : 0 ≤ n) (hfit : n < 2 ^ 63) (hn : n < vs.size)
    (hQ : Q () { s with heap := s.heap.update a (Obj.mapSeq (·.setIfInBounds n.toNat v)) }) : wpAny (model prog w) A (setItem (.ref a) (.int n t) v) Q E s := by
  have hT : s.TypeIs (.ref a) "list" := ⟨_, g, rfl⟩
  unfold setItem
  refine wpAny_holding (wpAny_bind (wpAny_sequenceKey hT (by decide) ?_))
  refine wpAny_bind (wpAny_callSpecial?_slot (name := Str.ofString "__setitem__") hT slot_list_setitem
    (wpAny_call_entry slot_list_setitem hT entry_list_setitem ?_ (args_list_setitem _ _ _)))
  show wpAny _ _ (Builtin.List.listSubscript? (.int n t) >>= _) _ _ s
  refine wpAny_bind (wpAny_listSubscript_int (fitsIndex_of h0 hfit) ?_)
  obtain ⟨j, rfl⟩ := Int.eq_ofNat_of_zero_le h0
  have hj : j < vs.size := by (first | decide | lia | omega)
  show wpAny _ _ ((seqItemAt a j >>= fun r => pure (r.map (j, ·))) >>= _) _ _ s
  refine wpAny_bind (wpAny_bind (wpAny_seqItemAt g rfl (wpAny_pure ?_)))
  rw [Array.getElem?_eq_getElem hj]
  show wpAny _ _ (setSeqItemAt a j v >>= _) _ _ s
  refine wpAny_bind (wpAny_setSeqItemAt g rfl ?_)
  first
    | exact wpAny_bind (wpAny_pure (wpAny_pure ⟨.none, rfl, wpAny_pure hQ⟩))
    | exact wpAny_pure ⟨.none, rfl, wpAny_pure hQ⟩
theorem ObjIs.listUpd {h : Heap} {a : Addr} {vs : Array Value} {n : Nat} {f : Array Value → Array Value} {ds : List PV} (g : h.get? a = some (lstObj vs n)) (M : Mono h (h.update a (Obj.mapSeq f))) (ia : IsAll h ds (f vs).toList) : ObjIs (h.update a (Obj.mapSeq f)) a (.list ds) :=
  ⟨f vs, _, Heap.get?_update_self _ g rfl, ia.mono M⟩
theorem set_run {s : Shared} {d i e : PV} {v u x : Value} {k : St → Prop} {Q : Unit → Shared → Prop} {E : Value → Shared → Prop} (rl : Rel C S s.heap) (hk : SetK S e k d i) (id' : Is s.heap d v) (ii : Is s.heap i u) (ie : Is s.heap e x)
    (q : ∀ s' S', Post C S s s' S' → k S' → Q () s') : wpAny (model prog w) C.A (setItem v u x) Q E s := by
  cases ii with
  | int n t ht' =>
    cases id' <;> first | exact hk.elim | skip
    rename_i a
    obtain ⟨l, own', up, hz, h0, h1, kk⟩ := hk
    obtain ⟨vs, n', g, ia⟩ := rl.own _ up.old
    have hlen := ia.length
    simp only [Array.length_toList] at hlen
    refine setItem_exact g h0 (by (first | decide | lia | omega)) (by (first | decide | lia | omega)) (q _ _ (Post.upd (tk := s.toks) rl up (Heap.SameBut.update ..) fun M => ObjIs.listUpd g M ?_) kk)
    simpa using ia.set (i := n.toNat) ie
  | _ => cases d <;> exact hk.elim
theorem WX_setItem {o i value : Expr} {pos' pos : Pos} {K : PFlow → St → Prop} (h : WE prog w C value S fun e S₁ => WE prog w C o S₁ fun d S₂ => WE prog w C i S₂ fun j S₃ => SetK S₃ e (K .next) d j)
    (hs : swapsWith value (some (.Subscript o i pos')) pos.line C.env = pure false) : WX prog w C (.Assign [.Subscript o i pos'] value pos) S K :=
  fun s rl ht => wpAny_Assign_Subscript (h.run rl ht fun v s₁ e S₁ ht₁ p₁ i₁ k₁ => WT.run k₁ p₁.rel ht₁ fun u s₂ d S₂ ht₂ p₂ i₂ k₂ => WT.run k₂ p₂.rel ht₂ fun x s₃ j S₃ ht₃ p₃ i₃ k₃ =>
    set_run p₃.rel k₃ (i₂.mono (p₃.mono p₂.rel)) i₃ ((i₁.mono (p₂.mono p₁.rel)).mono (p₃.mono p₂.rel)) fun s' S' p kk => ⟨.next, S', ((p₁.trans p₂).trans p₃).trans p, trivial, kk⟩) hs
/-- xs[i] += e, for ints -/
theorem WX_augItem {o value : Expr} {x : Str} {px pos' pos : Pos} {K : PFlow → St → Prop} (k : CxOk B C)
    (h : WE prog w C o S fun d S₁ => WE prog w C (.Name x px) S₁ fun i S₂ => ItemK C S₂ (fun old => ∃ a, old = .int a ∧ WE prog w C value S₂ fun b S₃ => ∃ c, b = .int c ∧ SetK S₃ (.int (a + c)) (K .next) d i) d i) :
    WX prog w C (.AugAssign (.Subscript o (.Name x px) pos') .Add value pos) S K :=
  fun s rl ht => wpAny_AugAssign_Subscript (h.run rl ht fun v s₁ d S₁ ht₁ p₁ i₁ k₁ => WT.run k₁ p₁.rel ht₁ fun u s₂ i S₂ ht₂ p₂ i₂ k₂ => by
    have i₁' := i₁.mono (p₂.mono p₁.rel)
    refine (item_run (prog := prog) (w := w) (E := fun _ _ => False) k p₂.rel k₂ i₁' i₂ ht₂ fun e r tk tk0 ir ⟨a, e', kk⟩ => ?_).1
    subst e'
    cases ir
    have p₃ : Post C S₂ s₂ { s₂ with toks := tk } S₂ := Post.same p₂.rel
    refine WT.run kk p₃.rel tk0 fun x s₄ b S₄ ht₄ p₄ i₄ ⟨c, e, k₄⟩ => ?_
    subst e
    cases i₄
    refine AutoIntOps.iadd_0 ?_
    have p₅ : Post C S₄ s₄ { s₄ with toks := s₄.toks + 1 } S₄ := Post.same p₄.rel
    have m := (p₃.trans p₄).mono p₂.rel
    exact set_run (s := { s₄ with toks := s₄.toks + 1 }) p₅.rel k₄ (i₁'.mono m) (i₂.mono m) (.int _ _ ht₄) fun s' S' p kk => ⟨.next, S', (((p₁.trans p₂).trans (p₃.trans p₄)).trans p₅).trans p, trivial, kk⟩)
end
end
section
open PySem PyProof.Rows PySem.Calls
section
variable {prog : Program} {w : World} {B : Heap} {mg mb : Str → Option Value} {C : Cx} {S : St} {sc : Scope}
/-- a built-in method looked up at its object -/
noncomputable def MethAt (C : Cx) (S : St) (d : PV) (name : Str) (id : String) : Prop :=
  ∀ (v : Value) (s : Shared), Rel C S s.heap → Is s.heap d v → ∃ T, PlainAttrs T ∧ Slot T name id ∧ typeOf (.builtin id) = pure (.type "method_descriptor") ∧ s.TypeIs v T ∧ (∀ a, v = .ref a → ∃ ob, s.heap.get? a = some ob ∧ ob.dict = none)
/-- a built-in called -/
noncomputable def CallB (prog : Program) (w : World) (C : Cx) (id : String) (ds : List PV) (S : St) (K : PV → St → Prop) : Prop :=
  ∀ (vs : List Value) (s : Shared), Rel C S s.heap → s.toks ≠ 0 → IsAll s.heap ds vs → wpAny (model prog w) C.A (call (.builtin id) vs) (Ans C S s Is K) (fun _ _ => False) s
noncomputable def CallT (prog : Program) (w : World) (C : Cx) (T : String) (ds : List PV) (S : St) (K : PV → St → Prop) : Prop :=
  ∀ (vs : List Value) (s : Shared), Rel C S s.heap → s.toks ≠ 0 → IsAll s.heap ds vs → wpAny (model prog w) C.A (call (.type T) vs) (Ans C S s Is K) (fun _ _ => False) s
theorem WE_meth {o : Expr} {name : Str} {apos pos : Pos} {e : Expr} {rest : List Expr} {K : PV → St → Prop} (id : String)
    (h : WE prog w C o S fun d S₁ => MethAt C S₁ d name id ∧ WL prog w C pos (e :: rest) S₁ fun ds S₂ => CallB prog w C id (d :: ds) S₂ K)
    (hbase : attributeBase o name C.env (eval o C.env) = eval o C.env) (hline : (apos.endLine == pos.line) = true)
    (hfew : ((backTo pos (starEach (e :: rest) C.env)).all (fun x => !x.1) && (backToKw pos (keywordEach [] C.env)).all (fun x => x.1.isSome)
      && decide ((e :: rest).length + ([] : List Keyword).length + (if ([] : List Keyword).isEmpty then 0 else 1) < 30)) = true)
    (he : starEach (e :: rest) C.env = (false, eval e C.env) :: starEach rest C.env) (hp : (backTo pos (starEach rest C.env)).any (·.1) = false) :
    WE prog w C (.Call (.Attribute o name apos) (e :: rest) [] pos) S K :=
  fun s rl ht => wpAny_Call_method_lateS hbase hfew hline (h.run rl ht fun v s₁ d S₁ ht₁ p₁ i₁ ⟨m, k₁⟩ => by
    obtain ⟨T, pa, sl, ty, hT, hd⟩ := m v s₁ p₁.rel i₁
    refine ⟨T, id, pa, sl, ty, hT, hd, callWith_method1 (WT.run k₁ p₁.rel ht₁ fun vs s₂ ds S₂ ht₂ p₂ i₂ k₂ => ?_) he hp⟩
    exact wpAny_mono (k₂ (v :: vs) s₂ p₂.rel ht₂ (.cons (i₁.mono (p₂.mono p₁.rel)) i₂)) (fun r s₃ ⟨d, S₃, p₃, i₃, k₃⟩ => ⟨d, S₃, (p₁.trans p₂).trans p₃, i₃, k₃⟩) (fun _ _ x => x))
theorem WE_meth0 {o : Expr} {name : Str} {apos pos : Pos} {K : PV → St → Prop} (id : String)
    (h : WE prog w C o S fun d S₁ => MethAt C S₁ d name id ∧ CallB prog w C id [d] S₁ K)
    (hbase : attributeBase o name C.env (eval o C.env) = eval o C.env) (hline : (apos.endLine == pos.line) = true) :
    WE prog w C (.Call (.Attribute o name apos) [] [] pos) S K :=
  fun s rl ht => Call_method0 hbase hline (h.run rl ht fun v s₁ d S₁ ht₁ p₁ i₁ ⟨m, k₁⟩ => by
    obtain ⟨T, pa, sl, ty, hT, hd⟩ := m v s₁ p₁.rel i₁
    refine ⟨T, id, pa, sl, ty, hT, hd, callWith_method0 (env := C.env) ?_⟩
    exact wpAny_mono (k₁ [v] s₁ p₁.rel ht₁ (.cons i₁ .nil)) (fun r s₃ ⟨d, S₃, p₃, i₃, k₃⟩ => ⟨d, S₃, p₁.trans p₃, i₃, k₃⟩) (fun _ _ x => x))
theorem WE_blt {f : Str} {id : String} {p pos : Pos} {e : Expr} {rest : List Expr} {K : PV → St → Prop} (k : CxOk B C) (G : Gnd B mg mb) (hs : C.env.scope = sc) (hf : sc.names.lookup f = some .globalImplicit) (hd : (f == ("__debug__" : Str)) = false)
    (hv : (["len", "min", "max", "range", "sorted", "bytes", "bytearray", "enumerate", "chr", "ord", "divmod", "sum", "list", "isinstance", "str", "memoryview"] : List Str).contains f = true) (hb : bootBuiltins f = some (.builtin id)) (hn : f ≠ "__name__")
    (h : WL prog w C pos (e :: rest) S fun ds S₁ => CallB prog w C id ds S₁ K)
    (he : starEach (e :: rest) C.env = (false, eval e C.env) :: starEach rest C.env) (hp : (backTo pos (starEach rest C.env)).any (·.1) = false) :
    WE prog w C (.Call (.Name f p) (e :: rest) [] pos) S K :=
  fun s rl ht => Call_ (blt_name k G hs rl hf hd hv hb hn (callWith_builtin1 (h.run rl ht fun vs s₁ ds S₁ ht₁ p₁ i₁ k₁ =>
    wpAny_mono (k₁ vs s₁ p₁.rel ht₁ i₁) (fun r s₃ ⟨d, S₃, p₃, i₃, k₃⟩ => ⟨d, S₃, p₁.trans p₃, i₃, k₃⟩) (fun _ _ x => x)) he hp)) (by rfl)
theorem WE_typ {f : Str} {T : String} {p pos : Pos} {e : Expr} {rest : List Expr} {K : PV → St → Prop} (k : CxOk B C) (G : Gnd B mg mb) (hs : C.env.scope = sc) (hf : sc.names.lookup f = some .globalImplicit) (hd : (f == ("__debug__" : Str)) = false)
    (hv : (["len", "min", "max", "range", "sorted", "bytes", "bytearray", "enumerate", "chr", "ord", "divmod", "sum", "list", "isinstance", "str", "memoryview"] : List Str).contains f = true) (hb : bootBuiltins f = some (.type T)) (hn : f ≠ "__name__")
    (h : WL prog w C pos (e :: rest) S fun ds S₁ => CallT prog w C T ds S₁ K)
    (he : starEach (e :: rest) C.env = (false, eval e C.env) :: starEach rest C.env) (hp : (backTo pos (starEach rest C.env)).any (·.1) = false) :
    WE prog w C (.Call (.Name f p) (e :: rest) [] pos) S K :=
  fun s rl ht => Call_ (blt_name k G hs rl hf hd hv hb hn (callWith_type1 (h.run rl ht fun vs s₁ ds S₁ ht₁ p₁ i₁ k₁ =>
    wpAny_mono (k₁ vs s₁ p₁.rel ht₁ i₁) (fun r s₃ ⟨d, S₃, p₃, i₃, k₃⟩ => ⟨d, S₃, p₁.trans p₃, i₃, k₃⟩) (fun _ _ x => x)) he hp)) (by rfl)
/-! lists: append, pop -/
theorem meth_list {a : Addr} {l : List PV} (k : CxOk B C) (h : Has C S a (.list l)) {name : Str} {id : String} (sl : Slot "list" name id) (ty : typeOf (.builtin id) = pure (.type "method_descriptor")) : MethAt C S (.ref a) name id :=
  fun v s rl i => by
    cases i
    obtain ⟨vs, n, g, _⟩ := rl.has k h
    exact ⟨"list", PySem.F.plainAttrs_list, sl, ty, ⟨_, g, rfl⟩, fun a e => by cases e; exact ⟨_, g, rfl⟩⟩
theorem callB_append {a : Addr} {l : List PV} {d : PV} {own' : List (Addr × AObj)} {K : PV → St → Prop} (u : Upd a (.list l) (.list (l ++ [d])) S.own own') (hl : l.length ≤ 2 ^ 20) (h : K .none ⟨S.loc, own'⟩) : CallB prog w C "list.append" [.ref a, d] S K := by
  intro vs s rl ht ia
  cases ia with
  | cons i r => cases r with
    | cons j r => cases r; cases i
                  rename_i x
                  obtain ⟨us, n, g, ia⟩ := rl.own _ u.old
                  have hlen := ia.length
                  simp only [Array.length_toList] at hlen
                  have hT : s.TypeIs (.ref a) "list" := ⟨_, g, rfl⟩
                  refine wpAny_call_entry slot_list_append hT entry_list_append ?_ (args_list_append _ _)
                  show wpAny _ _ (updateSeq a (·.push x) >>= fun _ => ret .none) _ _ s
                  refine wpAny_bind (wpAny_updateSeq g rfl (wpAny_pure ⟨.none, rfl, .none, _, Post.upd (tk := s.toks) rl u (Heap.SameBut.update ..) fun M => ObjIs.listUpd g M ?_, .none, h⟩) (by rw [sizeLine_eq]; (first | decide | lia | omega)) (by simp only [Array.size_push]; rw [sizeLine_eq]; (first | decide | lia | omega)))
                  simpa using ia.append (.cons j .nil)
theorem callB_pop {a : Addr} {l : List PV} {d : PV} {own' : List (Addr × AObj)} {K : PV → St → Prop} (u : Upd a (.list (l ++ [d])) (.list l) S.own own') (hl : l.length ≤ 2 ^ 20) (h : K d ⟨S.loc, own'⟩) : CallB prog w C "list.pop" [.ref a] S K := by
  intro vs s rl ht ia
  obtain ⟨v₀, r₀, rfl, iv, rv⟩ := ia.cons_inv
  obtain rfl := rv.nil_inv
  obtain rfl := iv.ref_inv
  obtain ⟨us, n, g, ia⟩ := rl.own _ u.old
  have hlen := ia.length
  simp only [Array.length_toList, List.length_append, List.length_cons, List.length_nil] at hlen
  obtain ⟨x, ex, ix⟩ := ia.get (i := l.length) (d := d) (by simp)
  have ex' : us[l.length]? = some x := by simpa using ex
  have hk : us.size - 1 = l.length := by (first | decide | lia | omega)
  refine call_meets PySem.F.slot_list_pop ⟨_, g, rfl⟩ PySem.F.entry_list_pop (PySem.F.args_list_pop_1 _) (PySem.MeetsSeq.list_pop_last a us n x (by rw [hk]; exact ex') (by rw [sizeLine_eq]; (first | decide | lia | omega)))
    ⟨g, d, _, Post.upd (tk := s.toks) rl u (Heap.SameBut.update ..) (fun M => ObjIs.listUpd g M ?_), ix.mono (rl.upd u (Heap.SameBut.update ..) fun M => ObjIs.listUpd g M ?_).2, h⟩ <;>
  · have e : (us.eraseIdxIfInBounds (us.size - 1)).toList = us.toList.take l.length := by
      unfold Array.eraseIdxIfInBounds
      rw [dif_pos (by (first | decide | lia | omega)), Array.toList_eraseIdx, hk]
      have : us.toList.length = l.length + 1 := by simpa using hlen
      rw [List.eraseIdx_eq_take_drop_succ, List.drop_eq_nil_of_le (by (first | decide | lia | omega)), List.append_nil]
    show IsAll s.heap l (us.eraseIdxIfInBounds (us.size - 1)).toList
    rw [e]
    simpa using ia.take l.length
/-! built-in functions -/
theorem boot_len' : bootBuiltins "len" = some (.builtin "len") := by decide +kernel
theorem boot_min' : bootBuiltins "min" = some (.builtin "min") := by decide +kernel
theorem boot_max' : bootBuiltins "max" = some (.builtin "max") := by decide +kernel
theorem boot_sum' : bootBuiltins "sum" = some (.builtin "sum") := by decide +kernel
theorem boot_divmod' : bootBuiltins "divmod" = some (.builtin "divmod") := by decide +kernel
theorem boot_chr' : bootBuiltins "chr" = some (.builtin "chr") := by decide +kernel
theorem boot_sorted' : bootBuiltins "sorted" = some (.builtin "sorted") := by decide +kernel
theorem boot_isinstance' : bootBuiltins "isinstance" = some (.builtin "isinstance") := by decide +kernel
theorem boot_bytes' : bootBuiltins "bytes" = some (.type "bytes") := by decide +kernel
theorem boot_bytearray' : bootBuiltins "bytearray" = some (.type "bytearray") := by decide +kernel
theorem boot_list' : bootBuiltins "list" = some (.type "list") := by decide +kernel
theorem boot_str' : bootBuiltins "str" = some (.type "str") := by decide +kernel
theorem boot_memoryview' : bootBuiltins "memoryview" = some (.type "memoryview") := by decide +kernel
theorem callB_lenList {a : Addr} {l : List PV} {K : PV → St → Prop} (k : CxOk B C) (m : Has C S a (.list l)) (hl : l.length ≤ 2 ^ 30) (h : K (.int l.length) S) : CallB prog w C "len" [.ref a] S K := by
  intro vs s rl ht ia
  obtain ⟨v₀, r₀, rfl, iv, rv⟩ := ia.cons_inv
  obtain rfl := rv.nil_inv
  obtain rfl := iv.ref_inv
  obtain ⟨us, n, g, ia⟩ := rl.has k m
  have hlen := ia.length
  simp only [Array.length_toList] at hlen
  exact call_len_list ⟨_, g, rfl, n, rfl⟩ (by (first | decide | lia | omega)) ⟨.int l.length, S, Post.same rl, by rw [hlen]; exact .int _ _ (Nat.succ_ne_zero _), h⟩
theorem callB_lenBytes {b : Array UInt8} {K : PV → St → Prop} (hl : b.size ≤ 2 ^ 30) (h : K (.int b.size) S) : CallB prog w C "len" [.bytes b] S K := by
  intro vs s rl ht ia
  obtain ⟨v₀, r₀, rfl, iv, rv⟩ := ia.cons_inv
  obtain rfl := rv.nil_inv
  obtain ⟨t₀, rfl⟩ := iv.bytes_inv
  exact PySem.W.len_bytes (by (first | decide | lia | omega)) ⟨.int b.size, S, Post.same rl, .int _ _ (Nat.succ_ne_zero _), h⟩
theorem callB_lenStr {x : Str} {K : PV → St → Prop} (hl : x.length ≤ 2 ^ 30) (h : K (.int x.length) S) : CallB prog w C "len" [.str x] S K := by
  intro vs s rl ht ia
  obtain ⟨v₀, r₀, rfl, iv, rv⟩ := ia.cons_inv
  obtain rfl := rv.nil_inv
  obtain ⟨t₀, rfl⟩ := iv.str_inv
  exact PyProof.Rows.len_str (by (first | decide | lia | omega)) ⟨.int x.length, S, Post.same rl, .int _ _ (Nat.succ_ne_zero _), h⟩
theorem callB_max {a b : Int} {K : PV → St → Prop} (hh : C.A.handled = none) (h : K (.int (max a b)) S) : CallB prog w C "max" [.int a, .int b] S K := by
  intro vs s rl ht ia
  obtain ⟨v₀, r₀, rfl, iv, rv⟩ := ia.cons_inv
  obtain ⟨v₁, r₁, rfl, jv, sv⟩ := rv.cons_inv
  obtain rfl := sv.nil_inv
  obtain ⟨t₀, h₀, rfl⟩ := iv.int_inv
  obtain ⟨t₁, h₁, rfl⟩ := jv.int_inv
  refine max_two_ints hh fun h' tk e => ⟨.int (max a b), S, Post.grown rl e, ?_, h⟩
  split
  · rw [show max a b = b by (first | decide | lia | omega)]; exact .int _ _ (by assumption)
  · rw [show max a b = a by (first | decide | lia | omega)]; exact .int _ _ (by assumption)
theorem callB_min {a b : Int} {K : PV → St → Prop} (hh : C.A.handled = none) (h : K (.int (min a b)) S) : CallB prog w C "min" [.int a, .int b] S K := by
  intro vs s rl ht ia
  obtain ⟨v₀, r₀, rfl, iv, rv⟩ := ia.cons_inv
  obtain ⟨v₁, r₁, rfl, jv, sv⟩ := rv.cons_inv
  obtain rfl := sv.nil_inv
  obtain ⟨t₀, h₀, rfl⟩ := iv.int_inv
  obtain ⟨t₁, h₁, rfl⟩ := jv.int_inv
  refine min_two_ints hh fun h' tk e => ⟨.int (min a b), S, Post.grown rl e, ?_, h⟩
  split
  · rw [show min a b = b by (first | decide | lia | omega)]; exact .int _ _ (by assumption)
  · rw [show min a b = a by (first | decide | lia | omega)]; exact .int _ _ (by assumption)
theorem callB_divmod {a b : Int} {K : PV → St → Prop} (hb : 0 < b) (hb' : b < 2 ^ 30) (h : K (.tup [.int (a / b), .int (a % b)]) S) : CallB prog w C "divmod" [.int a, .int b] S K := by
  intro vs s rl ht ia
  obtain ⟨v₀, r₀, rfl, iv, rv⟩ := ia.cons_inv
  obtain ⟨v₁, r₁, rfl, jv, sv⟩ := rv.cons_inv
  obtain rfl := sv.nil_inv
  obtain ⟨t₀, h₀, rfl⟩ := iv.int_inv
  obtain ⟨t₁, h₁, rfl⟩ := jv.int_inv
  refine PyProof.Rows.divmod_int (by (first | decide | lia | omega)) ⟨_, S, Post.push rl _, .tup (vs := [_, _]) ⟨_, Heap.get?_push_size _ rfl, rfl, 0, rfl⟩ (.cons (d := .int (a / b)) ?_ (.cons (d := .int (a % b)) ?_ .nil)), h⟩ (.inl (PyProof.noPylong_small (by (first | decide | lia | omega))))
  · rw [Int.fdiv_eq_ediv_of_nonneg _ (by (first | decide | lia | omega))]; exact .int _ _ ht
  · rw [Int.fmod_eq_emod_of_nonneg _ (by (first | decide | lia | omega))]; exact .int _ _ (Nat.succ_ne_zero _)
theorem callB_chr {i : Int} {K : PV → St → Prop} (h0 : 0 ≤ i) (h1 : i ≤ 0x10FFFF) (h : K (.str ⟨#[i.toNat]⟩) S) : CallB prog w C "chr" [.int i] S K := by
  intro vs s rl ht ia
  obtain ⟨v₀, r₀, rfl, iv, rv⟩ := ia.cons_inv
  obtain rfl := rv.nil_inv
  obtain ⟨t₀, h₀, rfl⟩ := iv.int_inv
  exact PySem.P.chr_of_int (by simp; (first | decide | lia | omega)) ⟨_, S, Post.same rl, .str _ _, h⟩
end
end
section
open PySem PyProof.Rows PySem.Calls
section
variable {prog : Program} {w : World} {B : Heap} {mg mb : Str → Option Value} {C : Cx} {S : St} {sc : Scope}
/-! slices -/
noncomputable def sl {α : Type} : Option Int → Option Int → List α → List α
  | none, some j, l => l.take j.toNat
  | some i, none, l => l.drop i.toNat
  | _, _, l => l
noncomputable def slOk : Option Int → Option Int → Prop
  | none, some j => 0 ≤ j
  | some i, none => 0 ≤ i
  | _, _ => False
noncomputable def WP (prog : Program) (w : World) (C : Cx) : Option Expr → St → (Option Int → St → Prop) → Prop
  | none, S, K => K none S
  | some e, S, K => WE prog w C e S fun d S₁ => ∃ i, d = .int i ∧ K (some i) S₁
inductive IsPartT : Value → Option Int → Prop
  | none : IsPartT .none none
  | int (i : Int) (t : Tok) : IsPartT (.int i t) (some i)
theorem IsPartT.part {v : Value} {o : Option Int} (h : IsPartT v o) : IsPart v o := by
  cases h
  · exact .none
  · exact .int _ _
theorem IsPartT.val {v : Value} {o : Option Int} (h : IsPartT v o) : ∃ p : Option (Int × Tok), v = partValue p ∧ p.map (·.1) = o := by
  cases h with
  | none => exact ⟨Option.none, rfl, rfl⟩
  | int i t => exact ⟨Option.some (i, t), rfl, rfl⟩
theorem WP_run {e : Option Expr} {K : Option Int → St → Prop} {s : Shared} {Q : Value → Shared → Prop} {E : Value → Shared → Prop} (h : WP prog w C e S K) (rl : Rel C S s.heap) (ht : s.toks ≠ 0)
    (q : ∀ v s' o S', s'.toks ≠ 0 → Post C S s s' S' → IsPartT v o → K o S' → Q v s') : wpAny (model prog w) C.A (evalPart e C.env) Q E s := by
  cases e with
  | none => exact wpAny_pure (q _ _ none S ht (Post.rfl rl) .none h)
  | some e => exact WT.run h rl ht fun v s₁ d S₁ ht₁ p₁ i₁ ⟨i, e, k₁⟩ => by subst e; cases i₁; exact q _ _ _ S₁ ht₁ p₁ (.int _ _) k₁
noncomputable def SliceK (C : Cx) (S : St) (K : PV → St → Prop) (lo hi : Option Int) : PV → Prop
  | .ref a => ∃ l, Has C S a (.list l) ∧ l.length ≤ 2 ^ 20 ∧ NewK (.list (sl lo hi l)) S K
  | .str x => x.length ≤ 2 ^ 20 ∧ K (.str ⟨(sl lo hi x.cps.toList).toArray⟩) S
  | .bytes b => b.size ≤ 2 ^ 20 ∧ K (.bytes (sl lo hi b.toList).toArray) S
  | _ => False
theorem slicePick_sl (items : Array Value) {lo hi : Option Int} (h : slOk lo hi) : slicePick items lo hi none = (sl lo hi items.toList).toArray := by
  cases lo with
  | none => cases hi with
    | none => exact h.elim
    | some j =>
      obtain ⟨n, rfl⟩ := Int.eq_ofNat_of_zero_le h
      exact slicePick_upto' items n
  | some i => cases hi with
    | some _ => exact h.elim
    | none =>
      obtain ⟨n, rfl⟩ := Int.eq_ofNat_of_zero_le h
      exact slicePick_from' items n
theorem picked_sl (b : Array UInt8) {lo hi : Option Int} (h : slOk lo hi) : PySem.W.KBy.picked b lo hi = (sl lo hi b.toList).toArray := by
  rw [PySem.W.KBc.picked_eq]
  cases lo with
  | none => cases hi with
    | none => exact h.elim
    | some j =>
      obtain ⟨n, rfl⟩ := Int.eq_ofNat_of_zero_le h
      simp only [Option.elim, clipAt_nat, List.drop_zero, Nat.sub_zero, sl, Int.toNat_natCast]
      congr 1
      rcases Nat.le_total n b.size with h | h
      · rw [Nat.min_eq_left h]
      · rw [Nat.min_eq_right h, List.take_of_length_le (by simp), List.take_of_length_le (by simpa using h)]
  | some i => cases hi with
    | some _ => exact h.elim
    | none =>
      obtain ⟨n, rfl⟩ := Int.eq_ofNat_of_zero_le h
      simp only [Option.elim, clipAt_nat, sl, Int.toNat_natCast]
      congr 1
      rcases Nat.le_total n b.size with h | h
      · rw [Nat.min_eq_left h, List.take_of_length_le (by simp)]
      · rw [Nat.min_eq_right h, List.drop_of_length_le (by simp), List.drop_of_length_le (by simpa using h)]; simp
theorem strPick_sl (x : Str) {lo hi : Option Int} (h : slOk lo hi) : ((Builtin.Str.strSliceIndices lo hi 1 x.length).filterMap (x.cps[·]?)) = sl lo hi x.cps.toList := by
  have e : Builtin.Str.strSliceIndices lo hi 1 x.length = sliceRange (sliceBounds lo hi none x.length).1 (sliceBounds lo hi none x.length).2.1 1 := by
    cases lo <;> cases hi <;> rfl
  rw [e, sliceBounds_plain]
  simp only [sliceRange_one, pick_run]
  have hz : x.length = x.cps.size := rfl
  rw [hz]
  cases lo with
  | none => cases hi with
    | none => exact h.elim
    | some j =>
      obtain ⟨n, rfl⟩ := Int.eq_ofNat_of_zero_le h
      simp only [Option.elim, clipAt_nat, List.drop_zero, Nat.sub_zero, sl, Int.toNat_natCast]
      rcases Nat.le_total n x.cps.size with h | h
      · rw [Nat.min_eq_left h]
      · rw [Nat.min_eq_right h, List.take_of_length_le (by simp), List.take_of_length_le (by simpa using h)]
  | some i => cases hi with
    | some _ => exact h.elim
    | none =>
      obtain ⟨n, rfl⟩ := Int.eq_ofNat_of_zero_le h
      simp only [Option.elim, clipAt_nat, sl, Int.toNat_natCast]
      rcases Nat.le_total n x.cps.size with h | h
      · rw [Nat.min_eq_left h, List.take_of_length_le (by simp)]
      · rw [Nat.min_eq_right h, List.drop_of_length_le (by simp), List.drop_of_length_le (by simpa using h)]; simp
theorem strWhole {α : Type} {lo hi : Option Int} {n : Nat} (l : List α) (h : slOk lo hi) (e : (Builtin.Str.strSliceIndices lo hi 1 n).length = n) (hn : l.length = n) : sl lo hi l = l := by
  have e' : Builtin.Str.strSliceIndices lo hi 1 n = sliceRange (sliceBounds lo hi none n).1 (sliceBounds lo hi none n).2.1 1 := by
    cases lo <;> cases hi <;> rfl
  rw [e', sliceBounds_plain] at e
  unfold sliceRange at e
  simp only [List.length_map, List.length_range] at e
  cases lo with
  | none => cases hi with
    | none => exact h.elim
    | some j =>
      obtain ⟨m, rfl⟩ := Int.eq_ofNat_of_zero_le h
      simp only [Option.elim, clipAt_nat] at e
      simp only [sl, Int.toNat_natCast]
      refine List.take_of_length_le ?_
      split at e <;> split at e <;> (first | decide | lia | omega)
  | some i => cases hi with
    | some _ => exact h.elim
    | none =>
      obtain ⟨m, rfl⟩ := Int.eq_ofNat_of_zero_le h
      simp only [Option.elim, clipAt_nat] at e
      simp only [sl, Int.toNat_natCast]
      by_cases hz : n = 0
      · have : l = [] := List.length_eq_zero_iff.mp (hn.trans hz)
        rw [this]; simp
      · have : m = 0 := by split at e <;> split at e <;> (first | decide | lia | omega)
        rw [this]; rfl
theorem IsAll.sl {h : Heap} {ds : List PV} {vs : List Value} (a : IsAll h ds vs) (lo hi : Option Int) : IsAll h (Mine.sl lo hi ds) (Mine.sl lo hi vs) := by
  cases lo <;> cases hi
  · exact a
  · exact a.take _
  · exact a.drop _
  · exact a
theorem sl_len {α : Type} (lo hi : Option Int) (l : List α) : (sl lo hi l).length ≤ l.length := by
  cases lo <;> cases hi <;> simp [sl]
  exact Nat.min_le_right ..
theorem WE_slice {value : Expr} {lower upper : Option Expr} {p pos : Pos} {K : PV → St → Prop} (k : CxOk B C)
    (h : WE prog w C value S fun d S₁ => WP prog w C lower S₁ fun lo S₂ => WP prog w C upper S₂ fun hi S₃ => slOk lo hi ∧ SliceK C S₃ K lo hi d) :
    WE prog w C (.Subscript value (.Slice lower upper none p) pos) S K :=
  fun s rl ht => Subscript_ (h.run rl ht fun v s₁ d S₁ ht₁ p₁ i₁ k₁ => wpAny_Slice (WP_run k₁ p₁.rel ht₁ fun vl s₂ lo S₂ ht₂ p₂ il k₂ => WP_run k₂ p₂.rel ht₂ fun vu s₃ hi S₃ ht₃ p₃ iu ⟨ok, k₃⟩ => by
    refine wpAny_pure ?_
    let s₄ : Shared := { s₃ with heap := s₃.heap.push { cls := .type "slice", data := .fields #[vl, vu, .none] } }
    have p₄ : Post C S₃ s₃ s₄ S₃ := Post.push (tk := s₃.toks) p₃.rel _
    have P := ((p₁.trans p₂).trans p₃).trans p₄
    have i₄ : Is s₄.heap d v := ((i₁.mono (p₂.mono p₁.rel)).mono (p₃.mono p₂.rel)).mono (p₄.mono p₃.rel)
    have hsl : s₄.heap.IsSliceOf s₃.heap.objs.size vl vu .none := Heap.IsSliceOf.new _ _ _ _
    show wpAny _ _ (subscriptTail value (.Slice lower upper none p) v (.ref s₃.heap.objs.size)) _ _ s₄
    cases i₄ with
    | str x t =>
      obtain ⟨hl, kk⟩ := k₃
      refine tail_any (typeIs_str s₄ x t) PySem.F.slot_str_getitem.lookup ?_ (by with_unfolding_all rfl)
      obtain ⟨pl, rfl, el⟩ := il.val
      obtain ⟨pu, rfl, eu⟩ := iu.val
      refine wpAny_getItem_str_slice (l := pl) (u := pu) (st := none) ⟨_, Heap.get?_push_size _ rfl, rfl, rfl⟩ rfl ?_
      unfold sliceMade slicePicked
      rw [el, eu]
      show Made.post (if (true && (Builtin.Str.strSliceIndices lo hi 1 x.length).length == x.length) = true then Made.val (.str x t) else .str ⟨((Builtin.Str.strSliceIndices lo hi 1 x.length).filterMap (x.cps[·]?)).toArray⟩) _ s₄
      have e := strPick_sl x ok
      split
      · rename_i hw
        refine ⟨.str x, S₃, P, .str _ _, ?_⟩
        rw [strWhole x.cps.toList ok (by simpa using hw) (by simp [Str.length])] at kk
        exact kk
      · rw [e]
        refine ⟨?_, .str _, S₃, P.trans (Post.same P.rel), .str _ _, kk⟩
        show (sl lo hi x.cps.toList).toArray.size ≤ sizeLine
        have := sl_len lo hi x.cps.toList
        have h0 : x.length = x.cps.size := rfl
        simp at this ⊢
        rw [sizeLine_eq]; (first | decide | lia | omega)
    | bytes b t =>
      obtain ⟨hl, kk⟩ := k₃
      refine tail_any (PySem.W.typeIs_bytes s₄ b t) PySem.W.FB.slot_bytes_getitem.lookup ?_ (by with_unfolding_all rfl)
      refine getItem_meets (PySem.W.typeIs_bytes _ _ _) (by decide) PySem.W.FB.slot_bytes_getitem PySem.W.FB.entry_bytes_getitem (PySem.W.FB.args_bytes_getitem_2 _ _) (PySem.W.KBc.meets_slice2 b t _ il.part iu.part) ⟨hsl, ?_, fun t' tk => ?_⟩
      · have := PySem.W.KBc.size_picked_le b lo hi
        rw [sizeLine_eq]; (first | decide | lia | omega)
      · rw [picked_sl b ok]
        exact ⟨.bytes _, S₃, P.trans (Post.same P.rel), .bytes _ _, kk⟩
    | ref a =>
      obtain ⟨l, hl, hz, kk⟩ := k₃
      obtain ⟨us, n, g, ia⟩ := P.rel.has k hl
      have hlen := ia.length
      simp only [Array.length_toList] at hlen
      have L : s₄.heap.IsList a us := ⟨_, g, rfl, n, rfl⟩
      refine tail_any L.typeIs slot_list_getitem.lookup ?_ (by with_unfolding_all rfl)
      refine wpAny_getItem_list_slice L hsl il.part iu.part .none (fun e => nomatch e) ?_ (by rw [sizeLine_eq]; (first | decide | lia | omega))
      rw [slicePick_sl us ok]
      exact ⟨_, _, P.trans (Post.new (tk := s₄.toks) P.rel (ObjIs.newList (ia.sl lo hi))), .ref _, kk _⟩
    | _ => exact k₃.elim))
end
end
section
open PySem PyProof.Rows PySem.Calls
section
variable {prog : Program} {w : World} {B : Heap} {mg mb : Str → Option Value} {C : Cx} {S : St} {sc : Scope}
theorem WE_rev {value st : Expr} {p pos : Pos} {K : PV → St → Prop} (k : CxOk B C)
    (h : WE prog w C value S fun d S₁ => WE prog w C st S₁ fun e S₂ => e = .int (-1) ∧ ∃ a l, d = .ref a ∧ Has C S₂ a (.list l) ∧ l.length ≤ 2 ^ 20 ∧ NewK (.list l.reverse) S₂ K) :
    WE prog w C (.Subscript value (.Slice none none (some st) p) pos) S K :=
  fun s rl ht => Subscript_ (h.run rl ht fun v s₁ d S₁ ht₁ p₁ i₁ k₁ => wpAny_Slice (wpAny_pure (wpAny_pure (WT.run k₁ p₁.rel ht₁ fun vk s₂ e S₂ ht₂ p₂ i₂ ⟨ee, a, l, ed, hl, hz, kk⟩ => by
    subst ee; subst ed
    cases i₂; cases i₁
    rename_i tk _
    let s₄ : Shared := { s₂ with heap := s₂.heap.push { cls := .type "slice", data := .fields #[.none, .none, .int (-1) tk] } }
    have p₄ : Post C S₂ s₂ s₄ S₂ := Post.push (tk := s₂.toks) p₂.rel _
    have P := (p₁.trans p₂).trans p₄
    obtain ⟨us, n, g, ia⟩ := P.rel.has k hl
    have hlen := ia.length
    simp only [Array.length_toList] at hlen
    have L : s₄.heap.IsList a us := ⟨_, g, rfl, n, rfl⟩
    show wpAny _ _ (subscriptTail value (.Slice none none (some st) p) (.ref a) (.ref s₂.heap.objs.size)) _ _ s₄
    refine tail_any L.typeIs slot_list_getitem.lookup ?_ (by with_unfolding_all rfl)
    refine wpAny_getItem_list_slice L (Heap.IsSliceOf.new _ _ _ _) .none .none (.int (-1) tk) (fun e => by cases e) ?_ (by rw [sizeLine_eq]; (first | decide | lia | omega))
    rw [PySem.W.krv_pick]
    refine ⟨_, _, P.trans (Post.new (tk := s₄.toks) P.rel (ObjIs.newList (ds := l.reverse) ?_)), .ref _, kk _⟩
    have : ∀ {ds : List PV} {vs : List Value} {h : Heap}, IsAll h ds vs → IsAll h ds.reverse vs.reverse := by
      intro ds vs h a
      induction ds generalizing vs with
      | nil => cases a; exact .nil
      | cons d ds ih => cases a with | cons x r => rw [List.reverse_cons, List.reverse_cons]; exact (ih r).append (.cons x .nil)
    exact this ia))))
theorem WE_listAdd {l r : Expr} {pos : Pos} {K : PV → St → Prop} (k : CxOk B C) (h : WE prog w C l S fun a S₁ => WE prog w C r S₁ fun b S₂ => ∃ x y lx ly, a = .ref x ∧ b = .ref y ∧ Has C S₂ x (.list lx) ∧ Has C S₂ y (.list ly) ∧ lx.length + ly.length ≤ 2 ^ 20 ∧ NewK (.list (lx ++ ly)) S₂ K) :
    WE prog w C (.BinOp l .Add r pos) S K :=
  fun s rl ht => wpAny_BinOp (h.run rl ht fun v₁ s₁ d₁ S₁ ht₁ p₁ i₁ k₁ => WT.run k₁ p₁.rel ht₁ fun v₂ s₂ d₂ S₂ ht₂ p₂ i₂ ⟨x, y, lx, ly, e₁, e₂, hx, hy, hz, kk⟩ => by
    subst e₁; subst e₂
    cases i₁; cases i₂
    obtain ⟨us, n, g, ia⟩ := p₂.rel.has k hx
    obtain ⟨us', n', g', ia'⟩ := p₂.rel.has k hy
    have h1 := ia.length; have h2 := ia'.length
    simp only [Array.length_toList] at h1 h2
    refine P.add_list (n := n) (n2 := n') g g' ⟨_, _, (p₁.trans p₂).trans (Post.new (tk := s₂.toks) p₂.rel (x := .list (lx ++ ly)) ⟨us ++ us', 0, Heap.get?_push_size _ rfl, ?_⟩), .ref _, kk _⟩ (by rw [sizeLine_eq]; (first | decide | lia | omega))
    simpa using (ia.append ia').mono (Mono.push _))
/-- a new object of one's own, somewhere among new ones -/
theorem Post.newAt {s : Shared} {h' : Heap} {tk : Nat} {a : Addr} {x : AObj} (rl : Rel C S s.heap) (e : ∀ b o, s.heap.get? b = some o → h'.get? b = some o) (hn : s.heap.get? a = none) (o : ObjIs h' a x) : Post C S s { s with heap := h', toks := tk } { S with own := (a, x) :: S.own } := by
  have p := Post.grown (tk := tk) rl e
  refine ⟨p.gens, p.os, p.rel.grow o (fun q m z => ?_) (rl.h0_none hn), p.frame, fun q m => ?_, p.live⟩
  · obtain ⟨ob, g⟩ := (rl.own q m).live
    rw [z, hn] at g; cases g
  · rcases List.mem_cons.mp m with z | m
    · subst z; exact .inr hn
    · exact p.fresh q m
theorem callT_list {a : Addr} {l : List PV} {K : PV → St → Prop} (k : CxOk B C) (m : Has C S a (.list l)) (hl : l.length ≤ 2 ^ 20) (h : NewK (.list l) S K) : CallT prog w C "list" [.ref a] S K := by
  intro vs s rl ht ia
  cases ia with
  | cons i r =>
    cases r; cases i
    obtain ⟨us, n, g, ia⟩ := rl.has k m
    have hlen := ia.length
    simp only [Array.length_toList] at hlen
    exact call_list_seq a (.inl rfl) g rfl rfl (fun h' c' e g' => ⟨_, _, Post.newAt (tk := s.toks) (x := .list l) rl e (size_none _) ⟨us, c', g', ia.mono (Mono.keep e)⟩, .ref _, h _⟩) (by rw [sizeLine_eq]; (first | decide | lia | omega))
theorem ints_pairs {h : Heap} : ∀ {ns : List Int} {vs : List Value}, IsAll h (ns.map .int) vs → ∃ xs : List (Int × Tok), vs = xs.map (fun p => .int p.1 p.2) ∧ xs.map (·.1) = ns
  | [], _, .nil => ⟨[], rfl, rfl⟩
  | n :: ns, _, .cons i r => by
    obtain ⟨xs, e, f⟩ := ints_pairs r
    cases i
    rename_i t _
    exact ⟨(n, t) :: xs, by simp [e], by simp [f]⟩
theorem sum_le {ns : List Int} {b : Int} (hb : ∀ n ∈ ns, 0 ≤ n ∧ n ≤ b) : 0 ≤ ns.sum ∧ ns.sum ≤ ns.length * b := by
  induction ns with
  | nil => simp
  | cons n ns ih =>
    have h1 := hb n (.head _)
    have h2 := ih fun m hm => hb m (.tail _ hm)
    simp only [List.sum_cons, List.length_cons, Int.natCast_add, Int.natCast_one, Int.add_mul, Int.one_mul]
    (first | decide | lia | omega)
theorem callB_sum {a : Addr} {ns : List Int} {K : PV → St → Prop} (k : CxOk B C) (hh : C.A.handled = none) (m : Has C S a (.list (ns.map .int))) (hl : ns.length ≤ 2 ^ 20) (hb : ∀ n ∈ ns, 0 ≤ n ∧ n ≤ 2 ^ 30) (h : K (.int0 ns.sum) S) : CallB prog w C "sum" [.ref a] S K := by
  intro vs s rl ht ia
  cases ia with
  | cons i r =>
    cases r; cases i
    obtain ⟨us, n, g, ia⟩ := rl.has k m
    obtain ⟨xs, e, f⟩ := ints_pairs ia
    have eu : us = intItems xs.toArray := by
      apply Array.toList_inj.mp
      simp [intItems, e]
    subst eu
    have key : ∀ j, preSum (numAt xs.toArray) j = (ns.take j).sum := fun j => by rw [preSum_eq]; simp [f]
    have small : ∀ j, 0 ≤ (ns.take j).sum ∧ (ns.take j).sum ≤ 2 ^ 20 * 2 ^ 30 := fun j => by
      have := sum_le (ns := ns.take j) (b := 2 ^ 30) fun n hn => hb n (List.mem_of_mem_take hn)
      have hlen : (ns.take j).length ≤ 2 ^ 20 := by simp; (first | decide | lia | omega)
      refine ⟨this.1, Int.le_trans this.2 ?_⟩
      (first | decide | lia | omega)
    refine sum_intList hh ⟨_, g, rfl, n, rfl⟩ (fun j hj => ⟨?_, ?_⟩) fun h' tk t' e => ?_
    · have hj' : j < xs.length := by simpa using hj
      have : numAt xs.toArray j ∈ ns := by
        rw [← f]
        simp [numAt, hj']
        exact ⟨_, List.getElem_mem hj'⟩
      have := hb _ this
      exact ⟨by (first | decide | lia | omega), by (first | decide | lia | omega)⟩
    · rw [key]
      have := small (j + 1)
      exact ⟨by (first | decide | lia | omega), by (first | decide | lia | omega)⟩
    · have hl' : xs.length = ns.length := by rw [← f]; simp
      rw [key, show xs.toArray.size = ns.length by simpa using hl', List.take_length]
      exact ⟨_, S, Post.grown rl e, .int0 _ _, h⟩
/-! unpacking a list -/
theorem draw_list {A : Around} {E : Value → Shared → Prop} {it a : Addr} {items : Array Value} (hne : a ≠ it) : ∀ (n i : Nat) (s : Shared) (Q : List Value → Shared → Prop), s.heap.IsListIter it a i → s.heap.IsList a items → i + n ≤ items.size →
    (∀ h', h'.IsListIter it a (i + n) → Heap.SameBut it s.heap h' → Q ((items.toList.drop i).take n) { s with heap := h' }) → wpAny (model prog w) A (draw (.ref it) n) Q E s
  | 0, i, s, Q, hit, _, _, hQ => by
    show wpAny _ _ (pure []) Q E s
    exact wpAny_pure (by simpa using hQ s.heap hit (Heap.SameBut.refl ..))
  | n + 1, i, s, Q, hit, hl, hle, hQ => by
    have hlt : i < items.size := by (first | decide | lia | omega)
    show wpAny _ _ (pyNext (.ref it) >>= _) Q E s
    refine wpAny_bind (wpAny_pyNext_list_item hit hl (x := items[i]) (by simp [hlt]) fun h₁ hit₁ hs₁ => ?_)
    refine wpAny_bind (wpAny_holding (draw_list hne n (i + 1) _ _ hit₁ (hl.extBut hs₁.extBut hne) (by (first | decide | lia | omega)) fun h₂ hit₂ hs₂ => wpAny_pure ?_))
    have hd : items.toList.drop i = items[i] :: items.toList.drop (i + 1) := by simp [List.drop_eq_getElem_cons, hlt]
    have := hQ h₂ (by rw [show i + (n + 1) = i + 1 + n by (first | decide | lia | omega)]; exact hit₂) (hs₁.trans hs₂)
    rw [hd, List.take_succ_cons] at this
    exact this
theorem unpackItems_list {A : Around} {E : Value → Shared → Prop} {s : Shared} {a : Addr} {items : Array Value} {Q : List Value → Shared → Prop} (hh : A.handled = none) (hl : s.heap.IsList a items)
    (hQ : ∀ h', Heap.ExtBut s.heap.objs.size s.heap h' → Q items.toList { s with heap := h' }) : wpAny (model prog w) A (unpackItems (.ref a) items.size none) Q E s := by
  have hlt : a ≠ s.heap.objs.size := by obtain ⟨o, ho, _⟩ := hl; exact Nat.ne_of_lt (Heap.lt_size ho)
  unfold unpackItems
  refine wpAny_bind ?_
  unfold notIterableAtAll
  refine wpAny_bind (wpAny_specialOf hl.typeIs slot_list_iter.lookup ?_)
  refine wpAny_pure ?_
  simp only [Bool.false_eq_true, if_false]
  refine wpAny_bind (wpAny_holding (wpAny_pyIter_list hl ?_))
  refine wpAny_bind (wpAny_holding (draw_list hlt items.size 0 _ _ ⟨_, Heap.get?_push_size _ rfl, rfl, rfl⟩ (hl.push _) (by (first | decide | lia | omega)) fun h₁ hit₁ hs₁ => ?_))
  have hall : List.take items.size (List.drop 0 items.toList) = items.toList := by
    rw [List.drop_zero]; exact List.take_of_length_le (by simp)
  rw [hall, if_neg (by simp)]
  refine wpAny_bind (wpAny_holding (wpAny_pyNext_list_end hh hit₁ ((hl.push _).extBut hs₁.extBut hlt) (by simp) fun h₂ he₂ => ?_))
  simp only [Option.isSome_none, Bool.false_eq_true, if_false]
  exact wpAny_pure (hQ h₂ fun b o hb e => he₂ b o hb (hs₁.extBut b o hb (Heap.get?_push_of_some _ e)))
theorem each_plain {ts : List Expr} (he : ∀ t ∈ ts, ∀ r, assignEach (t :: r) C.env = (false, assign t C.env) :: assignEach r C.env) : (assignEach ts C.env).length = ts.length ∧ (assignEach ts C.env).findIdx? (·.1) = none := by
  induction ts with
  | nil => exact ⟨rfl, rfl⟩
  | cons t ts ih =>
    have := ih fun t m => he t (.tail _ m)
    rw [he t (.head _), List.findIdx?_cons]
    simp [this]
theorem WA_list {ts : List Expr} {kk : Nat} {pos : Pos} {a : Addr} {ds : List PV} {K : St → Prop} (k : CxOk B C) (hh : C.A.handled = none) (m : Has C S a (.list ds)) (h : WAs prog w C ts ds S K) (hl : ts.length = ds.length)
    (he : ∀ t ∈ ts, ∀ r, assignEach (t :: r) C.env = (false, assign t C.env) :: assignEach r C.env) : WA prog w C (.Tuple ts kk pos) (.ref a) S K :=
  fun v s rl ht i => by
    cases i
    obtain ⟨us, n, g, ia⟩ := rl.has k m
    have hlen := ia.length
    simp only [Array.length_toList] at hlen
    have ep := each_plain he
    rw [PyProof.Rows.assign_Tuple]
    refine wpAny_bind (wpAny_standAt ?_)
    unfold unpack
    rw [ep.1, ep.2, hl, ← hlen]
    refine wpAny_bind (wpAny_holding (unpackItems_list hh ⟨_, g, rfl, n, rfl⟩ fun h' e => ?_))
    have p := Post.grown (tk := s.toks) rl (extBut_size e)
    exact wpAny_mono (WAs_run (s := { s with heap := h' }) he h p.rel ht (ia.mono (p.mono rl))) (fun _ s₁ ⟨S₁, p₁, k₁⟩ => ⟨S₁, p.trans p₁, k₁⟩) (fun _ _ x => x)
/-- a, b = value -/
theorem WX_assignT {ts : List Expr} {kk : Nat} {tpos pos : Pos} {value : Expr} {K : PFlow → St → Prop} (h : WE prog w C value S fun d S₁ => WA prog w C (.Tuple ts kk tpos) d S₁ (K .next))
    (hs : swapsWithSole [.Tuple ts kk tpos] value pos.line C.env = pure false) (hw : swappedStores [.Tuple ts kk tpos] value C.env = pure none) :
    WX prog w C (.Assign [.Tuple ts kk tpos] value pos) S K :=
  fun s rl ht => Assign_Tuple (h.run rl ht fun v s₁ d S₁ ht₁ p₁ i₁ k₁ => wpAny_mono (k₁ v s₁ p₁.rel ht₁ i₁) (fun _ s₂ ⟨S₂, p₂, k₂⟩ => ⟨.next, S₂, p₁.trans p₂, trivial, k₂⟩) (fun _ _ x => x)) hs hw
theorem swapped_scope (ts : List Expr) (v : Expr) (env : Env) : swappedStores ts v env = swappedStores ts v { (default : Env) with scope := env.scope } := rfl
theorem unpackTwo {A : Around} {E : Value → Shared → Prop} {s : Shared} {t : Addr} {va vb : Value} {Q : List Value → Shared → Prop} (hh : A.handled = none) (ht : IsTup s.heap t [va, vb].toArray)
    (hQ : ∀ h', Heap.ExtBut s.heap.objs.size s.heap h' → Q [va, vb] { s with heap := h' }) : wpAny (model prog w) A (unpackItems (.ref t) 2 none) Q E s := by
  have e : 2 = [va, vb].toArray.size := rfl
  rw [e]
  exact @unpackItems_tuple prog w A E s t [va, vb].toArray Q hh ht hQ
/-- a, b = x, y with the stores turned -/
theorem WX_assignS {ts : List Expr} {kk : Nat} {tpos pos : Pos} {value : Expr} {x y : Str} {K : PFlow → St → Prop} (k : CxOk B C) (hh : C.A.handled = none) (h : WE prog w C value S fun d S₁ => ∃ a b, d = .tup [a, b] ∧ StoreK y b S₁ fun S₂ => StoreK x a S₂ (K .next))
    (hw : swappedStores [.Tuple ts kk tpos] value C.env = pure (some [x, y])) (hs : swapsWithSole [.Tuple ts kk tpos] value pos.line C.env = pure false) :
    WX prog w C (.Assign [.Tuple ts kk tpos] value pos) S K :=
  fun s rl ht => Assign_Tuple_swapped (h.run rl ht fun v s₁ d S₁ ht₁ p₁ i₁ ⟨a, b, e, d₀, loc', u, d₁, loc'', u', kk⟩ => by
    subst e
    cases i₁ with
    | tup it ia =>
      cases ia with
      | cons ia r => cases r with
        | cons ib r =>
          cases r
          show wpAny _ _ (unpackItems _ 2 none) _ _ _
          refine unpackTwo hh it fun h' e => ?_
          have p := Post.grown (tk := s₁.toks) p₁.rel (extBut_size e)
          have M := p.mono p₁.rel
          refine assignInOrder_cons (bindName_ (WU_store (s := { s₁ with heap := h' }) k p.rel (ib.mono M) u fun s₂ p₂ => ?_))
          refine assignInOrder_cons (bindName_ (WU_store k p₂.rel ((ia.mono M).mono (p₂.mono p.rel)) u' fun s₃ p₃ => ?_))
          exact assignInOrder_nil ⟨.next, _, ((p₁.trans p).trans p₂).trans p₃, trivial, kk⟩) hs hw
/-! enumerate -/
theorem itr_enum {e it a : Addr} {l : List PV} {ts : List Expr} {kk : Nat} {pt : Pos} (hh : C.A.handled = none) (hne : e ≠ it) (hae : a ≠ e) (hai : a ≠ it) :
    Itr prog w C e [e, it] l.length (fun i => .tup [.int i, l.getD i .any]) (fun h => ObjIs h a (.list l)) (fun i h => (∃ old, IsEnum h e it i old) ∧ h.IsListIter it a i) (.Tuple ts kk pt) where
  mem := fun i h ⟨⟨old, g⟩, ⟨o, g', c, d⟩⟩ b m => by
    rcases List.mem_cons.mp m with z | m
    · subst z; exact ⟨_, g, _, rfl⟩
    · rw [List.mem_singleton] at m; subst m; exact ⟨o, g', _, d⟩
  stable := fun i h h' ⟨⟨old, g⟩, ⟨o, g', c, d⟩⟩ k => ⟨⟨old, k e (.head _) _ g⟩, ⟨o, k it (.tail _ (.head _)) o g', c, d⟩⟩
  self := fun i s Q E j q => let ⟨⟨_, g⟩, _⟩ := j; wpAny_pyIter_enum g q
  next := fun i s hi ⟨⟨old, g⟩, j⟩ ⟨vs, n, gl, ia⟩ ht => by
    obtain ⟨v, ev, iv⟩ := ia.get (i := i) (d := l.getD i .any) (by simp [hi])
    refine wpAny_pyNext_enum_item g j ⟨_, gl, rfl, n, rfl⟩ (by simpa using ev) hne fun h' eo ji tp hz fr => ⟨_, rfl, ?_⟩
    refine wpAny_letOwnedTupleGo_enum eo fun h₂ e₂ sb => ⟨h₂, s.toks + 1, rfl, Nat.succ_ne_zero _, ⟨⟨v, ?_⟩, ?_⟩, ?_, fun b o m q => ?_⟩
    · have : ((i + 1 : Nat) : Int) = (i : Int) + 1 := by (first | decide | lia | omega)
      rw [this]; exact e₂
    · exact ji.extBut sb.extBut (Ne.symm hne)
    · have elt : e < s.heap.objs.size := Heap.lt_size g
      have M : Mono s.heap h₂ := fun b us t => by
        obtain ⟨o, g', c, n, d⟩ := t
        refine ⟨o, (sb.2 b fun z => ?_).trans (fr b o (fun z => ?_) (fun z => ?_) g'), c, n, d⟩
        · subst z; rw [g] at g'; cases g'; cases d
        · subst z; rw [g] at g'; cases g'; cases d
        · subst z; obtain ⟨o', g'', _, d'⟩ := j; rw [g'] at g''; cases g''; rw [d] at d'; cases d'
      exact .tup (vs := [_, _]) ⟨_, (sb.2 _ (Nat.ne_of_gt elt)).trans tp, rfl, 0, rfl⟩ (.cons (.int _ _ ht) (.cons (iv.mono M) .nil))
    · simp only [List.mem_cons, List.not_mem_nil, or_false, not_or] at m
      exact (sb.2 b m.1).trans (fr b o m.1 m.2 q)
  fin := fun s ⟨⟨old, g⟩, j⟩ ⟨vs, n, gl, ia⟩ ht => by
    have := ia.length
    simp only [Array.length_toList] at this
    refine wpAny_pyNext_enum_end hh g j ⟨_, gl, rfl, n, rfl⟩ (by simp [this]) fun h' eb => ⟨rfl, h', s.toks, rfl, fun b o m q => eb b o (fun z => m (by simp [z])) q⟩
theorem WI_enum {ts : List Expr} {kk : Nat} {pt p pos : Pos} {e : Expr} {K : Nat → (Nat → PV) → (St → Prop) → St → Prop} (k : CxOk B C) (G : Gnd B mg mb) (hs : C.env.scope = sc) (hf : sc.names.lookup ("enumerate" : Str) = some .globalImplicit) (hh : C.A.handled = none)
    (h : WE prog w C e S fun d S₁ => ∃ a l, d = .ref a ∧ Has C S₁ a (.list l) ∧ K l.length (fun i => .tup [.int i, l.getD i .any]) (fun S => Has C S a (.list l)) S₁)
    (he : starEach [e] C.env = (false, eval e C.env) :: starEach [] C.env) (hp : (backTo pos (starEach [] C.env)).any (·.1) = false) :
    WI prog w C (.Call (.Name "enumerate" p) [e] [] pos) (.Tuple ts kk pt) S K := by
  intro s rl ht
  refine Call_ (blt_name k G hs rl hf (by decide) (by decide) boot_enum' (by decide) ?_) (by rfl)
  refine callWith_type1 (args_cons (h.run rl ht fun v s₁ d S₁ ht₁ p₁ i₁ ⟨a, l, e, hl, kk⟩ => args_nil ?_) he) he hp
  subst e
  cases i₁
  obtain ⟨vs, n, g, ia⟩ := p₁.rel.has k hl
  have alt := Heap.lt_size g
  refine call_enumerate_list ⟨_, g, rfl, n, rfl⟩ fun h' en li hz fr => ?_
  have p₂ : Post C S₁ s₁ { s₁ with heap := h' } S₁ := Post.grown (tk := s₁.toks) p₁.rel fr
  have P := p₁.trans p₂
  have hb : s.heap.get? (s₁.heap.objs.size + 1) = none := by
    cases q : s.heap.get? (s₁.heap.objs.size + 1) with
    | none => rfl
    | some o =>
      obtain ⟨o', e⟩ := p₁.live _ o q
      exact absurd (Heap.lt_size e) (Nat.not_lt.mpr (Nat.le_succ _))
  have llt := p₁.rel.loc_lt
  refine wpAny_pyIter_enum en ⟨s₁.heap.objs.size + 1, [s₁.heap.objs.size + 1, s₁.heap.objs.size], _, _, _, _, _, S₁, rfl, P, itr_enum (a := a) (l := l) hh (Nat.ne_of_gt (Nat.lt_succ_self _)) (Nat.ne_of_lt (Nat.lt_succ_of_lt alt)) (Nat.ne_of_lt alt), ⟨⟨_, en⟩, li⟩, ?_, ?_, fun S h hs r => r.has k hs, kk⟩
  · intro c m
    rcases List.mem_cons.mp m with z | m
    · subst z; exact hb
    · rw [List.mem_singleton] at m; subst m; exact p₁.noneAt
  · simp only [List.mem_cons, List.not_mem_nil, or_false, not_or]
    exact ⟨Nat.ne_of_lt (Nat.lt_succ_of_lt llt), Nat.ne_of_lt llt⟩
/-! try, with nothing raised -/
theorem WX_try {body : List Stmt} {h₀ : ExceptHandler} {hs : List ExceptHandler} {pos : Pos} {K : PFlow → St → Prop} (h : WXs prog w C body S K) : WX prog w C (.Try body (h₀ :: hs) [] [] pos) S K :=
  fun s rl ht => wpAny_Try_except (h.run rl ht fun f s₁ d S₁ ht₁ p₁ i₁ k₁ => by
    cases d <;> cases f <;> first | exact i₁.elim | skip
    · exact wpAny_execs_nil ⟨.next, S₁, p₁, trivial, k₁⟩
    · exact ⟨.brk, S₁, p₁, trivial, k₁⟩
    · exact ⟨.cont, S₁, p₁, trivial, k₁⟩
    · exact ⟨.ret _, S₁, p₁, i₁, k₁⟩)
/-- a list as a test -/
theorem WB_list {e : Expr} {K : Bool → St → Prop} (k : CxOk B C) (h : WE prog w C e S fun d S₁ => ∃ a l, d = .ref a ∧ Has C S₁ a (.list l) ∧ l.length ≤ 2 ^ 30 ∧ K (decide (l ≠ [])) S₁)
    (he : isTrue e C.env (eval e C.env) = (do let v ← eval e C.env; standAt e.pos; holding [v] (truthy v))) : WB prog w C e S K :=
  fun s rl ht => wpAny_isTrue_value (h.run rl ht fun v₁ s₁ d₁ S₁ ht₁ p₁ i₁ ⟨a, l, e, m, hz, kk⟩ => by
    subst e
    cases i₁
    obtain ⟨us, n, g, ia⟩ := p₁.rel.has k m
    have hlen := ia.length
    simp only [Array.length_toList] at hlen
    refine wpAny_truthy_list ⟨_, g, rfl, n, rfl⟩ (by (first | decide | lia | omega)) ⟨_, S₁, p₁.trans (Post.same p₁.rel), ?_, kk⟩
    cases l with
    | nil => have : us = #[] := by simpa using hlen
             subst this; rfl
    | cons d l => have : us.isEmpty = false := by simp [Array.isEmpty]; intro h; subst h; simp at hlen
                  simp [this]) he
end
end
section
open PySem PyProof.Rows PySem.Calls
section
variable {prog : Program} {w : World} {B : Heap} {mg mb : Str → Option Value} {C : Cx} {S : St} {sc : Scope}
/-! cells -/
theorem WE_cell {x : Str} {pos : Pos} {c : Addr} {d : PV} {K : PV → St → Prop} (k : CxOk B C) (hk : C.env.kindOf x = some .cell) (hc : C.env.cells.lookup x = some c) (hd : (x == ("__debug__" : Str)) = false) (m : Has C S c (.cell (some d))) (h : K d S) : WE prog w C (.Name x pos) S K :=
  fun s rl ht => by
    obtain ⟨v, g, i⟩ := rl.has k m
    exact wpAny_Name (wpAny_loadName_cell k.kind hk hc g ⟨d, S, Post.rfl rl, i, h⟩) hd
theorem cell_store {x : Str} {c : Addr} {d₀ : Option PV} {d : PV} {v : Value} {own' : List (Addr × AObj)} {s : Shared} {Q : Unit → Shared → Prop} {E : Value → Shared → Prop} (k : CxOk B C) (hk : C.env.kindOf x = some .cell) (hc : C.env.cells.lookup x = some c) (rl : Rel C S s.heap) (i : Is s.heap d v)
    (u : Upd c (.cell d₀) (.cell (some d)) S.own own') (h : ∀ s', Post C S s s' ⟨S.loc, own'⟩ → Q () s') : wpAny (model prog w) C.A (storeName C.env x v) Q E s := by
  have ho : ∃ v₀, s.heap.IsCell c v₀ := by
    have := rl.own _ u.old
    cases d₀ with
    | none => exact ⟨_, this⟩
    | some d => obtain ⟨v, g, _⟩ := this; exact ⟨_, g⟩
  obtain ⟨v₀, g⟩ := ho
  exact wpAny_storeName_cell k.kind hk hc g fun h' g' sb => h _ (Post.upd (tk := s.toks) rl u sb fun M => ⟨v, g', i.mono M⟩)
inductive CellK (c : Addr) (d : PV) (S : St) (k : St → Prop) : Prop
  | intro (d₀ : Option PV) (own' : List (Addr × AObj)) (u : Upd c (.cell d₀) (.cell (some d)) S.own own') (h : k ⟨S.loc, own'⟩) : CellK c d S k
theorem cellK {c : Addr} {d₀ : Option PV} {d : PV} {l : List (Str × PV)} {o o' : List (Addr × AObj)} {k : St → Prop} (u : Upd c (.cell d₀) (.cell (some d)) o o') (h : k ⟨l, o'⟩) : CellK c d ⟨l, o⟩ k := ⟨d₀, o', u, h⟩
theorem WX_assignC {x : Str} {c : Addr} {pos' pos : Pos} {value : Expr} {K : PFlow → St → Prop} (k : CxOk B C) (hk : C.env.kindOf x = some .cell) (hc : C.env.cells.lookup x = some c)
    (h : WE prog w C value S fun d S₁ => CellK c d S₁ (K .next))
    (hs : swapsWith value (some (.Name x pos')) pos.line C.env = pure false) : WX prog w C (.Assign [.Name x pos'] value pos) S K :=
  fun s rl ht => wpAny_Assign_Name (h.run rl ht fun v₁ s₁ d₁ S₁ ht₁ p₁ i₁ ⟨d₀, own', u, k₁⟩ =>
    cell_store k hk hc p₁.rel i₁ u fun s₂ p₂ => ⟨.next, _, p₁.trans p₂, trivial, k₁⟩) hs
theorem WA_cell {x : Str} {c : Addr} {pos : Pos} {d : PV} {K : St → Prop} (k : CxOk B C) (hk : C.env.kindOf x = some .cell) (hc : C.env.cells.lookup x = some c) (h : CellK c d S K) : WA prog w C (.Name x pos) d S K :=
  fun v s rl ht i => by
    obtain ⟨d₀, own', u, kk⟩ := h
    exact PySem.wpAny_assign_Name (cell_store k hk hc rl i u fun s' p => ⟨_, p, kk⟩)
/-! comprehensions -/
/-- from within to without -/
theorem Post.outer {C' : Cx} {loc : List (Str × PV)} {l' : List (Str × PV)} {own : List (Addr × AObj)} {S' : St} {s s₁ s₂ : Shared} (p : Post C S s s₁ ⟨loc, own⟩) (rl' : Rel C' ⟨l', own⟩ s₁.heap) (q : Post C' ⟨l', own⟩ s₁ s₂ S') (hn : s.heap.get? C'.env.locals = none) (hL : C.env.locals ≠ C'.env.locals)
    (h0 : C'.h0 = C.h0) (hW : C'.W = C.W) : Post C S s s₂ ⟨loc, S'.own⟩ := by
  have fr : ∀ b o, s₁.heap.get? b = some o → b ∉ own.map Prod.fst → b ≠ C'.env.locals → s₂.heap.get? b = some o := q.frame
  have M : Mono s₁.heap s₂.heap := q.mono rl'
  refine ⟨q.gens.trans p.gens, q.os.trans p.os, ?_, fun b o e n l => fr b o (p.frame b o e n l) (fun m => ?_) (fun z => ?_), fun x m => ?_, fun b o e => ?_⟩
  · exact {
      keep := fun b o e n => q.rel.keep b o (h0 ▸ e) (hW ▸ n)
      loc := by
        obtain ⟨m, n, f⟩ := p.rel.loc
        refine ⟨m, ?_, fun q z => (f q z).imp id fun ⟨v, a, b⟩ => ⟨v, a, b.mono M⟩⟩
        have nn := n
        obtain ⟨ob, es, ep, g, d, rest⟩ := n
        refine ⟨ob, es, ep, fr _ _ g (fun mm => ?_) hL, d, rest⟩
        obtain ⟨y, my, e⟩ := List.mem_map.mp mm
        exact (p.rel.own y my).notNs (m := m) (e ▸ nn)
      kinds := p.rel.kinds
      lnd := p.rel.lnd
      own := q.rel.own
      nd := q.rel.nd
      apart := fun x m => by have := q.rel.apart x m; rwa [h0, hW] at this
      wtup := p.rel.wtup
      wlive := fun a m => ⟨(p.rel.wlive a m).1, let ⟨o, e⟩ := (p.rel.wlive a m).2; q.live a o e⟩ }
  · obtain ⟨y, my, e'⟩ := List.mem_map.mp m
    rcases p.fresh y my with h | h
    · exact n (e' ▸ h)
    · rw [e', e] at h; cases h
  · rw [z, hn] at e; cases e
  · rcases q.fresh x m with h | h
    · obtain ⟨y, my, e⟩ := List.mem_map.mp h
      rw [← e]; exact p.fresh y my
    · refine .inr ?_
      cases e : s.heap.get? x.1 with
      | none => rfl
      | some o => obtain ⟨o', e'⟩ := p.live _ o e; rw [h] at e'; cases e'
  · obtain ⟨o', e'⟩ := p.live b o e
    exact q.live b o' e'
inductive AppK (a : Addr) (d : PV) (S : St) (k : St → Prop) : Prop
  | intro (l : List PV) (own' : List (Addr × AObj)) (u : Upd a (.list l) (.list (l ++ [d])) S.own own') (hl : l.length ≤ 2 ^ 20) (h : k ⟨S.loc, own'⟩) : AppK a d S k
noncomputable def TurnK (prog : Program) (w : World) (C' : Cx) (elt : Expr) (a : Addr) (again : St → Prop) : List Expr → St → Prop
  | [], S => WE prog w C' elt S fun d S₂ => AppK a d S₂ again
  | [t], S => WB prog w C' t S fun b S₁ => (b = true → WE prog w C' elt S₁ fun d S₂ => AppK a d S₂ again) ∧ (b = false → again S₁)
  | _, _ => False
theorem turn_run {C' : Cx} {elt : Expr} {a : Addr} {again : St → Prop} {ifs : List Expr} {S : St} {s : Shared} {Q : Shared → Prop} {E : Value → Shared → Prop} (h : TurnK prog w C' elt a again ifs S) (rl : Rel C' S s.heap) (ht : s.toks ≠ 0)
    (q : ∀ s' S', s'.toks ≠ 0 → Post C' S s s' S' → again S' → Q s') :
    wpAny (model prog w) C'.A (forIn ifs true fun c r => if r = true then do let ok ← isTrue c C'.env (eval c C'.env); pure (ForInStep.yield ok) else pure (ForInStep.yield r)) (fun ok s₃ =>
      if ok = true then wpAny (model prog w) C'.A (eval elt C'.env) (fun x s₄ => wpAny (model prog w) C'.A (call (.builtin "list.append") [.ref a, x]) (fun _ s₅ => Q s₅) E s₄) E s₃ else Q s₃) E s := by
  have app : ∀ {S₁ : St} {s₁ : Shared}, Rel C' S₁ s₁.heap → s₁.toks ≠ 0 → Post C' S s s₁ S₁ → (WE prog w C' elt S₁ fun d S₂ => AppK a d S₂ again) → wpAny (model prog w) C'.A (eval elt C'.env) (fun x s₄ => wpAny (model prog w) C'.A (call (.builtin "list.append") [.ref a, x]) (fun _ s₅ => Q s₅) E s₄) E s₁ := by
    intro S₁ s₁ rl₁ ht₁ p₁ h₁
    refine h₁.run rl₁ ht₁ fun x s₂ d S₂ ht₂ p₂ i₂ ⟨l, own', u, hl, k₂⟩ => ?_
    refine wpAny_mono (wpAny_toks (callB_append (prog := prog) (w := w) (K := fun _ S' => again S') u hl k₂ [.ref a, x] s₂ p₂.rel ht₂ (.cons (.ref a) (.cons i₂ .nil)))) (fun _ s₃ ⟨n, _, S₃, p₃, _, k₃⟩ => q s₃ S₃ (by (first | decide | lia | omega)) ((p₁.trans p₂).trans p₃) k₃) (fun _ _ x => x.2.elim)
  match ifs, h with
  | [], h =>
    rw [List.forIn_nil]
    refine wpAny_pure ?_
    rw [if_pos rfl]
    exact app rl ht (Post.rfl rl) h
  | [t], h =>
    rw [List.forIn_cons]
    simp only [if_true]
    have h' : WB prog w C' t S fun b S₁ => (b = true → WE prog w C' elt S₁ fun d S₂ => AppK a d S₂ again) ∧ (b = false → again S₁) := h
    refine wpAny_bind (wpAny_bind (WT.run h' rl ht fun v s₁ b S₁ ht₁ p₁ i₁ k₁ => wpAny_pure ?_))
    subst i₁
    show wpAny _ _ (forIn [] v _) _ _ s₁
    rw [List.forIn_nil]
    refine wpAny_pure ?_
    cases v with
    | true => rw [if_pos rfl]; exact app p₁.rel ht₁ p₁ (k₁.1 rfl)
    | false => rw [if_neg Bool.false_ne_true]; exact q s₁ S₁ ht₁ p₁ (k₁.2 rfl)
/-- the loop of a comprehension -/
theorem comp_loop {X : Type} {elt iter : Expr} {x : Str} {px : Pos} {ifs : List Expr} {scope : Scope} {pos : Pos} {C' : Cx} {it a : Addr} {pv : List Addr} {n : Nat} {item : Nat → PV} {SideH : Heap → Prop} {J : Nat → Heap → Prop} {s s₁ : Shared} {loc : List (Str × PV)}
    {R : Result → Shared → Prop} (I : Nat → X → List (Addr × AObj)) (P : Nat → X → Prop) {x₀ : X}
    (r : Rel C S s.heap) (A' : C'.A = C.A) (k' : CxOk B C') (hn : s.heap.get? C'.env.locals = none) (hL : C.env.locals ≠ C'.env.locals) (h0 : C'.h0 = C.h0) (hW : C'.W = C.W)
    (p₁ : Post C S s s₁ ⟨loc, I 0 x₀⟩) (r₁ : Rel C' ⟨[(x, .any)], I 0 x₀⟩ s₁.heap) (h₀ : P 0 x₀) (Y : Itr prog w C it pv n item SideH J (.Name x px)) (hpv : ∀ a ∈ pv, s.heap.get? a = none) (hLp : C.env.locals ∉ pv) (hLp' : C'.env.locals ∉ pv)
    (j₀ : J 0 s₁.heap) (ht₁ : s₁.toks ≠ 0) (side : ∀ i y h, i ≤ n → P i y → Rel C ⟨loc, I i y⟩ h → SideH h)
    (turn : ∀ i y, i < n → P i y → TurnK prog w C' elt a (fun S₂ => ∃ z, P (i + 1) z ∧ (I (i + 1) z).Sublist S₂.own ∧ ∃ d, S₂.loc = [(x, d)]) ifs ⟨[(x, item i)], I i y⟩)
    (fin : ∀ y s', s'.toks ≠ 0 → P n y → Post C S s s' ⟨loc, I n y⟩ → (∃ m, s'.heap.Ns C'.env.locals m) → R (.ok .next) s') :
    codeAny (model prog w) C.A (.compLoop (.ListComp elt [⟨.Name x px, iter, ifs, 0⟩] scope pos) 0 (.ref it) (.ref a) C'.env) R s₁ := by
  refine codeAny_compLoop_tests (fun m s' => s'.toks ≠ 0 ∧ ∃ i y, i ≤ n ∧ m = n - i ∧ P i y ∧ Post C S s s' ⟨loc, I i y⟩ ∧ Rel C' ⟨[(x, .any)], I i y⟩ s'.heap ∧ J i s'.heap) ?_ n ⟨ht₁, 0, x₀, Nat.zero_le _, rfl, h₀, p₁, r₁, j₀⟩
  rintro m s₂ ⟨ht₂, i, y, hi, rfl, hP, p₂, r₂, j₂⟩
  have sd := side i y _ hi hP p₂.rel
  have h0n : ∀ a ∈ pv, C'.h0.get? a = none := fun a m => by rw [h0]; exact r.h0_none (hpv a m)
  by_cases hlt : i < n
  · refine wpAny_mono (wpAny_toks (Y.next i s₂ hlt j₂ sd ht₂)) (fun rr s₃ ⟨tk₃, v, e, h₃⟩ => ?_) (fun _ _ x => x.2.elim)
    subst e
    show wpAny _ _ (letOwnedTupleGo (.Name x px) (.ref it) v >>= fun _ => assign (.Name x px) C'.env v) _ _ s₃
    refine wpAny_bind (wpAny_mono h₃ (fun _ s₄ ⟨h', tk, e, tk0, j₄, i₄, fr⟩ => ?_) (fun _ _ x => x.elim))
    subst e
    have p₄ := (p₂.priv (tk := tk) r hpv (Y.mem i _ j₂) fr).1
    have r₄ := (r₂.priv h0n (Y.mem i _ j₂) fr).1
    have st : WA prog w C' (.Name x px) (item i) ⟨[(x, .any)], I i y⟩ fun S' => S' = ⟨[(x, item i)], I i y⟩ := WA_name k' (storeK .here rfl)
    rw [← A']
    refine wpAny_mono (wpAny_toks (st v _ r₄ tk0 i₄)) (fun _ s₅ ⟨tk₅, S₅, p₅, e₅⟩ => ?_) (fun _ _ x => x.2.elim)
    subst e₅
    have ht₅ : s₅.toks ≠ 0 := by simp only at tk₅; (first | decide | lia | omega)
    have own₄ : ∀ a ∈ pv, a ∉ (I i y).map Prod.fst := fun a m mm => by
      obtain ⟨q, mq, e⟩ := List.mem_map.mp mm
      obtain ⟨o', g', vs', d'⟩ := Y.mem _ _ j₄ a m
      exact (p₄.rel.own q mq).notFields (by rw [e]; exact g') d'
    have j₅ : J (i + 1) s₅.heap := Y.stable _ _ _ j₄ fun a m o g => p₅.frame a o g (own₄ a m) fun l => hLp' (l ▸ m)
    have o₅ := p₄.outer r₄ p₅ hn hL h0 hW
    refine turn_run (turn i y hlt hP) p₅.rel ht₅ fun s₆ S₆ ht₆ p₆ ⟨z, hz, sub, d, el⟩ => ?_
    have j₆ : J (i + 1) s₆.heap := Y.stable _ _ _ j₅ fun a m o g => p₆.frame a o g (own₄ a m) fun l => hLp' (l ▸ m)
    have o₆ := o₅.outer p₅.rel p₆ hn hL h0 hW
    refine ⟨n - (i + 1), by (first | decide | lia | omega), ht₆, i + 1, z, hlt, rfl, hz, o₆.weaken ⟨LocLe.rfl, sub⟩, p₆.rel.weaken ⟨?_, sub⟩, j₆⟩
    rw [el]
    exact .any .nil
  · have e : i = n := by (first | decide | lia | omega)
    subst e
    refine wpAny_mono (wpAny_toks (Y.fin s₂ j₂ sd ht₂)) (fun rr s₃ ⟨tk₃, e, h', tk, e', fr⟩ => ?_) (fun _ _ x => x.2.elim)
    subst e; subst e'
    have p₃ := (p₂.priv (tk := tk) r hpv (Y.mem i _ j₂) fr).1
    have r₃ := (r₂.priv h0n (Y.mem i _ j₂) fr).1
    obtain ⟨m, nn, _⟩ := r₃.loc
    exact fin y _ (by simp only at tk₃ ⊢; (first | decide | lia | omega)) hP p₃ ⟨m, nn⟩
end
end
section
open PySem PyProof.Rows PySem.Calls
section
variable {prog : Program} {w : World} {B : Heap} {mg mb : Str → Option Value} {C : Cx} {S : St} {sc : Scope}
noncomputable def relabelS (scope outer : Scope) : Scope :=
  { scope with names := scope.names.map fun (n, k) => if (k == .free && outer.kind == .function && outer.names.lookup n == some .cell) then (n, .cell) else (n, k) }
theorem Rel.but {h h' : Heap} {L : Addr} {m : Str → Option Value} (r : Rel C S h) (hn : C.h0.get? L = none) (hL : C.env.locals ≠ L) (ns : h.Ns L m) (sb : Heap.SameBut L h h') : Rel C S h' ∧ Mono h h' := by
  have nt : ∀ vs, ¬ IsTup h L vs := by
    rintro vs ⟨o, e, c, n, dd⟩
    obtain ⟨o', es, ep, e', d', _⟩ := ns
    rw [e] at e'; cases e'; rw [dd] at d'; cases d'
  have M : Mono h h' := Mono.sameBut nt sb
  have ne : ∀ p ∈ S.own, p.1 ≠ L := fun p q e => (r.own p q).notNs (m := m) (e ▸ ns)
  refine ⟨?_, M⟩
  exact {
    keep := fun b o' e n => (sb.2 b fun q => by subst q; rw [hn] at e; cases e).trans (r.keep b o' e n)
    loc := by
      obtain ⟨m', n, f⟩ := r.loc
      exact ⟨m', n.sameBut sb hL, fun p q => (f p q).imp id fun ⟨v, a, b⟩ => ⟨v, a, b.mono M⟩⟩
    kinds := r.kinds
    lnd := r.lnd
    own := fun p q => (r.own p q).at M fun o e => (sb.2 _ (ne p q)).trans e
    nd := r.nd
    apart := r.apart
    wtup := r.wtup
    wlive := fun b mm => by
      refine ⟨(r.wlive b mm).1, ?_⟩
      obtain ⟨o', e'⟩ := (r.wlive b mm).2
      refine ⟨o', (sb.2 b fun q => ?_).trans e'⟩
      obtain ⟨o₀, e₀⟩ := (r.wlive b mm).1
      rw [q, hn] at e₀; cases e₀ }
theorem Post.but {s s₁ : Shared} {S₁ : St} {h' : Heap} {L : Addr} {m : Str → Option Value} (p : Post C S s s₁ S₁) (r : Rel C S s.heap) (hn : s.heap.get? L = none) (hL : C.env.locals ≠ L) (ns : s₁.heap.Ns L m) (sb : Heap.SameBut L s₁.heap h') :
    Post C S s { s₁ with heap := h' } S₁ := by
  have q := p.rel.but (r.h0_none hn) hL ns sb
  refine ⟨p.gens, p.os, q.1, fun b o g n l => (sb.2 b fun z => ?_).trans (p.frame b o g n l), p.fresh, fun b o g => ?_⟩
  · rw [z, hn] at g; cases g
  · obtain ⟨o', g'⟩ := p.live b o g
    exact ⟨o', (sb.2 b fun z => by rw [z, hn] at g; cases g).trans g'⟩
noncomputable def CompOk (B : Heap) (C : Cx) (sc scope : Scope) (cl : List (Str × Addr)) (C' : Cx) : Prop := CxOk B C' ∧ C'.A = C.A ∧ C'.env.scope = relabelS scope sc ∧ C'.env.cells = cl ∧ C'.W = C.W ∧ C'.ro = C.ro
theorem comp_core {X : Type} {elt iter : Expr} {x : Str} {px : Pos} {ifs : List Expr} {scope : Scope} {pos : Pos} {cl : List (Str × Addr)} {it : Addr} {pv : List Addr} {n : Nat} {item : Nat → PV} {SideH : Heap → Prop} {J : Nat → Heap → Prop} {s s₂ : Shared} {S₁ : St}
    {RR : Value → Addr → Result → Shared → Prop} {E : Value → Shared → Prop} (k : CxOk B C) (hs : C.env.scope = sc) (I : Nat → X → Addr → List (Addr × AObj)) (P : Nat → X → Prop) {x₀ : X}
    (hcell : ∀ y ∈ scope.names, y.2 ≠ .cell) (hkind : scope.kind = .function) (hx : scope.names.lookup x = some .local) (hd : (x == ("__debug__" : Str)) = false)
    (r : Rel C S s.heap) (p₂ : Post C S s s₂ S₁) (Y : Itr prog w C it pv n item SideH J (.Name x px)) (hpv : ∀ a ∈ pv, s.heap.get? a = none) (hLp : C.env.locals ∉ pv) (j₀ : J 0 s₂.heap) (ht₂ : s₂.toks ≠ 0)
    (h₀ : P 0 x₀) (l₀ : ∀ a, (I 0 x₀ a).Sublist ((a, .list []) :: S₁.own)) (side : ∀ a i y h, i ≤ n → P i y → Rel C ⟨S₁.loc, I i y a⟩ h → SideH h)
    (turn : ∀ C' a i y, CompOk B C sc scope cl C' → i < n → P i y → TurnK prog w C' elt a (fun S₂ => ∃ z, P (i + 1) z ∧ (I (i + 1) z a).Sublist S₂.own ∧ ∃ d, S₂.loc = [(x, d)]) ifs ⟨[(x, item i)], I i y a⟩)
    (fin : ∀ a L y s' m, s'.toks ≠ 0 → P n y → Post C S s s' ⟨S₁.loc, I n y a⟩ → s.heap.get? L = none → C.env.locals ≠ L → s'.heap.Ns L m → RR (.ref a) L (.ok .next) s') :
    wpAny (model prog w) C.A (newList []) (fun acc s₃ => wpAny (model prog w) C.A (newFunctionEnv scope C.env.globals cl [] C.env.qual none .none (some C.env)) (fun cenv s₄ =>
      codeAny (model prog w) C.A (.compStart (.ListComp elt [⟨.Name x px, iter, ifs, 0⟩] scope pos) 0 (.ref it) acc { cenv with scope := relabel scope C.env }) (RR acc cenv.locals) s₄) E s₃) E s₂ := by
  refine wpAny_newObj_type (wpAny_newFunctionEnv hcell (by intro y hy; simp at hy) (fun h₁ hns₁ hsb₁ => ?_) hkind)
  dsimp only at hns₁ hsb₁ ⊢
  have p₃ : Post C S s { s₂ with heap := s₂.heap.push { cls := .type "list", dict := none, data := .seq ([] : List Value).toArray } } ⟨S₁.loc, (s₂.heap.objs.size, .list []) :: S₁.own⟩ :=
    p₂.trans (Post.new (tk := s₂.toks) p₂.rel (x := .list []) (ObjIs.newList (h := s₂.heap) (ds := []) (vs := []) .nil))
  generalize hH2 : s₂.heap.push { cls := .type "list", dict := none, data := .seq ([] : List Value).toArray } = H2 at hns₁ hsb₁ p₃ ⊢
  have hLn : s.heap.get? H2.objs.size = none := p₃.noneAt
  have hLne : C.env.locals ≠ H2.objs.size := p₃.rel.loc_ne
  have p₄ : Post C S s { s₂ with heap := h₁, toks := s₂.toks + 0 } ⟨S₁.loc, (s₂.heap.objs.size, .list []) :: S₁.own⟩ := by
    have q := p₃.trans (Post.push (tk := s₂.toks) p₃.rel { cls := .type "dict", data := .dict #[] })
    have ns : Heap.Ns (H2.push { cls := .type "dict", data := .dict #[] }) H2.objs.size (fun _ => none) := Heap.Ns.new H2 (.type "dict")
    exact q.but (h' := h₁) r hLn hLne ns hsb₁
  have j₁ : J 0 h₁ := Y.stable _ _ _ j₀ fun a m o e => by
    have lt := Heap.lt_size e
    have z : H2.get? a = some o := hH2 ▸ Heap.get?_push_of_some _ e
    exact (hsb₁.2 a (Nat.ne_of_lt (Heap.lt_size z))).trans (Heap.get?_push_of_some _ z)
  let C' : Cx := { C with env := compEnvC scope cl H2.objs.size C.env }
  have kd : ∀ y, scope.names.lookup y = some .local → C'.env.kindOf y = some .local := fun y hy => lookup_relabel_local hy
  have k' : CxOk B C' := ⟨k.base, k.wb, r.h0_none hLn, hkind, k.glob, k.blt, k.ro⟩
  have co : CompOk B C sc scope cl C' := ⟨k', rfl, by rw [← hs]; rfl, rfl, rfl, rfl⟩
  have r' : Rel C' ⟨[(x, .any)], (s₂.heap.objs.size, .list []) :: S₁.own⟩ h₁ := { p₄.rel with
    loc := ⟨_, hns₁, fun p m => by rw [List.mem_singleton] at m; subst m; exact .inl rfl⟩
    kinds := fun p m => by rw [List.mem_singleton] at m; subst m; exact ⟨kd x hx, hd⟩
    lnd := by simp }
  have hLp' : H2.objs.size ∉ pv := fun m => by
    obtain ⟨o, e, _⟩ := Y.mem 0 _ j₀ _ m
    have z : H2.get? H2.objs.size = some o := by
      have := Heap.get?_push_of_some { cls := .type "list", dict := none, data := .seq ([] : List Value).toArray } e
      rw [hH2] at this; exact this
    exact absurd (Heap.lt_size z) (Nat.lt_irrefl _)
  have loop : codeAny (model prog w) C.A (.compLoop (.ListComp elt [⟨.Name x px, iter, ifs, 0⟩] scope pos) 0 (.ref it) (.ref s₂.heap.objs.size) C'.env) (RR (.ref s₂.heap.objs.size) H2.objs.size) { s₂ with heap := h₁, toks := s₂.toks + 0 } :=
    comp_loop (C := C) (S := S) (C' := C') (loc := S₁.loc) (fun i y => I i y s₂.heap.objs.size) P r rfl k' hLn hLne rfl rfl (p₄.weaken ⟨LocLe.rfl, l₀ _⟩) (r'.weaken ⟨LocLe.rfl, l₀ _⟩) h₀ Y hpv hLp hLp' j₁ (by simpa using ht₂)
      (fun i y h hi hP rl => side _ i y h hi hP rl) (fun i y hi hP => turn C' _ i y co hi hP) (fun y s' ht' hP p ⟨m, ns⟩ => fin _ _ y s' m ht' hP p hLn hLne ns)
  exact codeAny_compStart_list loop (Y.self 0 _ _ _ j₁ loop)
theorem WE_comp {X : Type} {elt iter : Expr} {x : Str} {px : Pos} {ifs : List Expr} {scope : Scope} {pos : Pos} {cl : List (Str × Addr)} {K : PV → St → Prop} (k : CxOk B C) (hs : C.env.scope = sc)
    (hclos : closureFor scope C.env = pure cl) (hcell : ∀ y ∈ scope.names, y.2 ≠ .cell) (hkind : scope.kind = .function) (hnames : ∀ y ∈ scope.names, y.2 = .local → scope.names.lookup y.1 = some .local) (hx : scope.names.lookup x = some .local) (hd : (x == ("__debug__" : Str)) = false)
    (h : WI prog w C iter (.Name x px) S fun n item Side S₁ => ∃ (I : Nat → X → Addr → List (Addr × AObj)) (P : Nat → X → Prop) (x₀ : X), P 0 x₀ ∧ (∀ a, (I 0 x₀ a).Sublist ((a, .list []) :: S₁.own)) ∧ (∀ a i y, i ≤ n → P i y → Side ⟨S₁.loc, I i y a⟩) ∧
      (∀ C' a i y, CompOk B C sc scope cl C' → i < n → P i y → TurnK prog w C' elt a (fun S₂ => ∃ z, P (i + 1) z ∧ (I (i + 1) z a).Sublist S₂.own ∧ ∃ d, S₂.loc = [(x, d)]) ifs ⟨[(x, item i)], I i y a⟩) ∧ (∀ a y, P n y → K (.ref a) ⟨S₁.loc, I n y a⟩))
    (hf : ∀ x, foldedSetIterable iter C.env x = pure x) : WE prog w C (.ListComp elt [⟨.Name x px, iter, ifs, 0⟩] scope pos) S K := by
  intro s rl ht
  show wpAny _ _ (eval _ _) _ _ s
  rw [eval_ListComp]
  refine wpAny_comprehension_free (use := none) rfl hf hclos hkind hnames (wpAny_mono (wpAny_toks (h s rl ht)) (fun xv s₁ ⟨tk₁, h₁⟩ => wpAny_mono (wpAny_toks h₁) (fun iv s₂ ⟨tk₂, h₂⟩ => ?_) (fun _ _ x => x.2)) (fun _ _ x => x.2))
  obtain ⟨it, pv, n, item, SideH, SideS, J, S', rfl, p, Y, j, hn, hL, hside, I, P, x₀, h₀, l₀, sd, turn, fin⟩ := h₂
  refine comp_core k hs I P hcell hkind hx hd rl p Y hn hL j (by (first | decide | lia | omega)) h₀ l₀ (fun a i y h hi hP r => hside _ _ (sd a i y hi hP) r) turn ?_
  intro a L y s' m ht' hP p' hLn hLne ns
  exact ⟨m, ns, fun h' sb => ⟨.ref a, _, p'.but rl hLn hLne ns sb, .ref a, fin a y hP⟩⟩
theorem WX_comp {X : Type} {elt iter : Expr} {x yv : Str} {px py : Pos} {ifs : List Expr} {scope : Scope} {pos spos : Pos} {cl : List (Str × Addr)} {K : PFlow → St → Prop} (k : CxOk B C) (hs : C.env.scope = sc)
    (hclos : closureFor scope C.env = pure cl) (hcell : ∀ y ∈ scope.names, y.2 ≠ .cell) (hkind : scope.kind = .function) (hnames : ∀ y ∈ scope.names, y.2 = .local → scope.names.lookup y.1 = some .local) (hx : scope.names.lookup x = some .local) (hd : (x == ("__debug__" : Str)) = false)
    (hsw : swapsWith (.ListComp elt [⟨.Name x px, iter, ifs, 0⟩] scope pos) (some (.Name yv py)) spos.line C.env = pure true)
    (h : WI prog w C iter (.Name x px) S fun n item Side S₁ => ∃ (I : Nat → X → Addr → List (Addr × AObj)) (P : Nat → X → Prop) (x₀ : X), P 0 x₀ ∧ (∀ a, (I 0 x₀ a).Sublist ((a, .list []) :: S₁.own)) ∧ (∀ a i y, i ≤ n → P i y → Side ⟨S₁.loc, I i y a⟩) ∧
      (∀ C' a i y, CompOk B C sc scope cl C' → i < n → P i y → TurnK prog w C' elt a (fun S₂ => ∃ z, P (i + 1) z ∧ (I (i + 1) z a).Sublist S₂.own ∧ ∃ d, S₂.loc = [(x, d)]) ifs ⟨[(x, item i)], I i y a⟩) ∧ (∀ a y, P n y → StoreK yv (.ref a) ⟨S₁.loc, I n y a⟩ (K .next)))
    (hf : ∀ x, foldedSetIterable iter C.env x = pure x) : WX prog w C (.Assign [.Name yv py] (.ListComp elt [⟨.Name x px, iter, ifs, 0⟩] scope pos) spos) S K := by
  intro s rl ht
  show wpAny _ _ (exec _ _) _ _ s
  rw [exec_Assign_Name_used _ _ _ _ hsw]
  refine wpAny_bind (wpAny_standAt (wpAny_bind ?_))
  show wpAny _ C.A (do let _ ← comprehension (.ListComp elt [⟨.Name x px, iter, ifs, 0⟩] scope pos) scope C.env _ (newList []) false (eval iter C.env) (some (assign (.Name yv py) C.env))) _ _ s
  refine wpAny_bind (wpAny_mono (wpAny_comprehension_free (use := some (assign (.Name yv py) C.env)) (Q := fun _ s' => Ans C S s FlowIs K .next s') rfl hf hclos hkind hnames
    (wpAny_mono (wpAny_toks (h s rl ht)) (fun xv s₁ ⟨tk₁, h₁⟩ => wpAny_mono (wpAny_toks h₁) (fun iv s₂ ⟨tk₂, h₂⟩ => ?_) (fun _ _ x => x.2)) (fun _ _ x => x.2))) (fun _ s' hq => wpAny_pure (wpAny_pure hq)) fun _ _ e => e)
  obtain ⟨it, pv, n, item, SideH, SideS, J, S', rfl, p, Y, j, hn, hL, hside, I, P, x₀, h₀, l₀, sd, turn, fin⟩ := h₂
  refine comp_core k hs I P hcell hkind hx hd rl p Y hn hL j (by (first | decide | lia | omega)) h₀ l₀ (fun a i y h hi hP r => hside _ _ (sd a i y hi hP) r) turn ?_
  intro a L y s' m ht' hP p' hLn hLne ns
  obtain ⟨d₀, loc', u, kk⟩ := fin a y hP
  show wpAny _ C.A (assign (.Name yv py) C.env (.ref a)) _ _ s'
  refine wpAny_assign_Name (WU_store k p'.rel (.ref a) u fun s'' p'' => ?_)
  have ns' : s''.heap.Ns L m := by
    have nn := ns
    obtain ⟨ob, es, ep, g, rest⟩ := ns
    refine ⟨ob, es, ep, p''.frame _ _ g (fun mm => ?_) (Ne.symm hLne), rest⟩
    obtain ⟨z, mz, e⟩ := List.mem_map.mp mm
    exact (p'.rel.own z mz).notNs (m := m) (e ▸ nn)
  exact ⟨m, ns', fun h' sb => ⟨.next, _, (p'.trans p'').but rl hLn hLne ns' sb, trivial, kk⟩⟩
end
end
section
open PySem PyProof.Rows PySem.Calls
theorem call_cells_toks {prog : Program} {w : World} {A : Around} {R : Result → Shared → Prop} {s : Shared} {name : Str} {params : Arguments} {body : List Stmt} {scope : Scope}
    {pm cd doc : Value} {a : Addr} {o : Obj} {args : List Value} {binds : List (Str × Value)}
    (hroom : A.depth < recursionLimit) (ho : s.heap.get? a = some o) (hdata : o.data = .func (Calls.docDef name params body scope pm cd doc)) (hlim : s.heap.NoLimit) (hcd : s.heap.CodeRec cd name)
    (hbind : bindArgs (Calls.docDef name params body scope pm cd doc) ⟨args, []⟩ = pure binds)
    (hkind : ∀ x ∈ binds, scope.names.lookup x.1 = some .local ∨ (scope.names.lookup x.1 = some .cell ∧ ((cellsFrom (s.heap.objs.size + 1) scope.names []).lookup x.1).isSome = true))
    (h : ∀ h₁ tk, s.toks ≤ tk → Fr s.heap s.heap.objs.size h₁ (bindL (envOfC name scope s.heap.objs.size a cd).kindOf binds fun _ => none) →
      Cl s.heap.objs.size (cellsFrom (s.heap.objs.size + 1) scope.names []) h₁ (bindC (envOfC name scope s.heap.objs.size a cd).kindOf binds fun _ => none) →
      wpAny (model prog w) (A.deeper (envOfC name scope s.heap.objs.size a cd)) (execs body (envOfC name scope s.heap.objs.size a cd))
        (fun f s' => R (.ok (.ret (match f with | .ret v => v | _ => .none))) s') (fun _ _ => False) { s with heap := h₁, toks := tk })
    (hco : scope.isCoroutine = false) (hgen : scope.isGenerator = false) (hk : scope.kind = .function) :
    codeAny (model prog w) A (.call (.ref a) ⟨args, []⟩) R s := by
  refine codeAny_call_function (fd := Calls.docDef name params body scope pm cd doc) (body := body) hroom ho hdata hco hgen rfl hcd ?_
  rw [hbind]
  refine wpAny_pure (wpAny_with_toks (Nat.le_refl _) (wpAny_newFunctionEnv_cells hk hkind fun env he s' x hle => ?_))
  subst he
  refine ⟨hlim.keeps x.toInCall.keep, codeAny_func ?_⟩
  obtain ⟨h₁, tk, rfl, _⟩ := x.done
  exact wpAny_mono (h h₁ tk hle ⟨x.toInCall.ns, x.toInCall.keep, x.toInCall.fresh⟩ ⟨x.cell, x.apart, x.above⟩) (fun _ _ x => x) (fun _ _ x => x.elim)
/-- a def whose one argument is a cell, with one cell more -/
theorem Fun_of_bodyC {prog : Program} {w : World} {B : Heap} {mg mb : Str → Option Value} {n : Nat} {d : DefRec} {x y : Str} {arg : PV} {ro : List (Addr × AObj)} {Q : PV → List (Addr × AObj) → Prop}
    (G : Gnd B mg mb) (R : FnRec B mg d) (others : List Str) (loc : List (Str × PV)) (hloc : loc = others.map (·, .any))
    (hbind : ∀ pm code doc v, bindArgs (docDef d.name d.params d.body d.scope pm code doc) ⟨[v], []⟩ = pure [(x, v)])
    (hok : locOk d.scope others = true) (hx : d.scope.names.lookup x = some .cell) (hcs : ∀ L, cellsFrom L d.scope.names [] = [(y, L + 1), (x, L)]) (hxy : x ≠ y)
    (hsc : d.scope.isCoroutine = false ∧ d.scope.isGenerator = false ∧ d.scope.kind = .function)
    (h : ∀ (C : Cx) (c₁ c₂ : Addr), CxOk B C → C.env.scope = d.scope → Room n C.A → C.W = [] → C.ro = ro → C.env.cells = [(y, c₂), (x, c₁)] →
      WXs prog w C d.body ⟨loc, [(c₁, .cell (some arg)), (c₂, .cell none)]⟩ (retK [] Q)) :
    Fun prog w B mg (n + 1) d.name [arg] ro [] Q := by
  obtain ⟨a, o, pm, code, doc, hm, ho, hd, hc⟩ := R
  subst hloc
  refine ⟨a, o, _, hm, ho, hd, fun A s vs room ht kb pre wb ia => ?_⟩
  have lk := locOk_kind hok
  cases ia with
  | cons iv r =>
  cases r
  rename_i v
  have ex : (x == y) = false := by simpa using hxy
  have lkx : ∀ L, (cellsFrom L d.scope.names []).lookup x = some L := fun L => by rw [hcs]; simp [List.lookup, ex]
  have lky : ∀ L, (cellsFrom L d.scope.names []).lookup y = some (L + 1) := fun L => by rw [hcs]; simp [List.lookup]
  refine wpAny_call (call_cells_toks (by have := room.1; unfold recursionLimit; (first | decide | lia | omega)) (kb _ _ ho) hd (G.lim.keeps kb) (hc.keeps kb) (hbind pm code doc v) ?_ ?_ hsc.1 hsc.2.1 hsc.2.2)
  · intro z hz
    rw [List.mem_singleton] at hz; subst hz
    exact .inr ⟨hx, by rw [lkx]; rfl⟩
  · intro h₁ tk hle F X
    have ht₁ : tk ≠ 0 := by (first | decide | lia | omega)
    let env : Env := envOfC d.name d.scope s.heap.objs.size a code
    let C : Cx := ⟨A.deeper env, env, s.heap, [], ro⟩
    have hL : s.heap.get? s.heap.objs.size = none := size_none _
    have ok : CxOk B C := ⟨kb, by simp [C], hL, hsc.2.2, rfl, rfl, fun p m => ⟨pre p m, by simp [C]⟩⟩
    have M : Mono s.heap h₁ := Mono.keep F.keep
    have hkx : env.kindOf x = some .cell := hx
    have keys : ((others.map (·, PV.any)).map Prod.fst) = others := by rw [List.map_map]; exact List.map_id _
    have c1 := X.cell x _ (lkx _)
    have c2 := X.cell y _ (lky _)
    have e1 : bindC (envOfC d.name d.scope s.heap.objs.size a code).kindOf [(x, v)] (fun _ => none) x = some v := by
      show bindC env.kindOf [(x, v)] (fun _ => none) x = some v
      unfold bindC bindC
      simp [hkx]
    have e2 : bindC (envOfC d.name d.scope s.heap.objs.size a code).kindOf [(x, v)] (fun _ => none) y = none := by
      show bindC env.kindOf [(x, v)] (fun _ => none) y = none
      unfold bindC bindC
      simp [hkx, Ne.symm hxy]
    rw [e1] at c1; rw [e2] at c2
    have n1 : s.heap.get? (s.heap.objs.size + 1) = none := Heap.get?_none_of_le (Nat.le_succ _)
    have n2 : s.heap.get? (s.heap.objs.size + 1 + 1) = none := Heap.get?_none_of_le (Nat.le_trans (Nat.le_succ _) (Nat.le_succ _))
    have rel : Rel C ⟨others.map (·, .any), [(s.heap.objs.size + 1, .cell (some arg)), (s.heap.objs.size + 1 + 1, .cell none)]⟩ h₁ := {
      keep := fun b o e _ => F.keep b o e
      loc := ⟨_, F.ns, fun p m => by
        obtain ⟨x, _, e⟩ := List.mem_map.mp m
        exact .inl (by rw [← e])⟩
      kinds := fun p m => by
        refine lk.1 p.1 ?_
        rw [← keys]; exact List.mem_map_of_mem m
      lnd := by show (List.map Prod.fst _).Nodup; rw [keys]; exact lk.2
      own := fun p m => by
        rcases List.mem_cons.mp m with rfl | m
        · exact ⟨v, c1, iv.mono M⟩
        · rw [List.mem_singleton] at m; subst m; exact c2
      nd := by
        have : ¬ ((s.heap.objs.size + 1 : Nat) = s.heap.objs.size + 1 + 1) := by (first | decide | lia | omega)
        simpa using this
      apart := fun p m => by
        rcases List.mem_cons.mp m with rfl | m
        · exact .inr n1
        · rw [List.mem_singleton] at m; subst m; exact .inr n2
      wtup := by simp [C]
      wlive := by simp [C] }
    have run := h C _ _ ok rfl ⟨by show A.depth + 1 + n ≤ 900; have := room.1; (first | decide | lia | omega), by show A.units + 3 + 40 * n ≤ 9000; have := room.2.1; (first | decide | lia | omega), room.2.2⟩ rfl rfl (hcs _)
    have fin : ∀ (v : Value) (s' : Shared) (dd : PV) (S' : St), Post C ⟨others.map (·, .any), [(s.heap.objs.size + 1, .cell (some arg)), (s.heap.objs.size + 1 + 1, .cell none)]⟩ { s with heap := h₁, toks := tk } s' S' → Is s'.heap dd v → (∃ post, post.Sublist S'.own ∧ Q dd post) →
        FOut s [] Q v s' := by
      rintro v s' dd S' p i ⟨post, sub, q⟩
      exact ⟨dd, post, ⟨p.gens, p.os, fun b o e m => p.rel.keep b o e m, fun x m => p.rel.own x (sub.subset m), (sub.map Prod.fst).nodup p.rel.nd, fun x m => p.rel.apart x (sub.subset m)⟩, i, q⟩
    refine WT.run (s := { s with heap := h₁, toks := tk }) run rel ht₁ fun f s' dd S' ht' p i q => ?_
    cases dd <;> cases f <;> first | exact i.elim | exact q.elim | skip
    · exact fin .none s' .none S' p .none q
    · exact fin _ s' _ S' p i q
end
section
open PySem PyProof.Rows PySem.Calls
open Sem (wp)
/-! contexts in which no decoder stands -/
noncomputable def okCode : Code → Bool
  | .builtin id _ => !Builtin.Bytes.decodersThatHold.contains id
  | _ => true
noncomputable def OkC (Γ : Ctx) : Prop := okCode Γ.code = true ∧ ∀ x ∈ Γ.below, okCode x.1 = true
noncomputable def wpK {α : Type} (M : Model) (A : Around) (t : Sem α) (Q : α → Shared → Prop) (s : Shared) : Prop :=
  ∀ Γ p, Γ.In A → OkC Γ → wp M Γ t (fun a _ s' => Q a s') (fun _ _ _ => False) p s
noncomputable def codeK (M : Model) (A : Around) (c : Code) (R : Flow → Shared → Prop) (s : Shared) : Prop :=
  ∀ Γ p, Γ.code = c → Γ.Below A → OkC Γ → wpCode M Γ (fun r s' => ∃ f, r = .ok f ∧ R f s') p s
section
variable {α β : Type} {M : Model} {A : Around} {s : Shared}
theorem wpK.of {t : Sem α} {Q : α → Shared → Prop} (h : wpAny M A t Q (fun _ _ => False) s) : wpK M A t Q s := fun Γ p hΓ _ => h Γ p hΓ
theorem wpK_mono {t : Sem α} {Q Q' : α → Shared → Prop} (h : wpK M A t Q s) (hQ : ∀ a s, Q a s → Q' a s) : wpK M A t Q' s :=
  fun Γ p hΓ ok => Sem.wp_mono M Γ t (fun a _ s => hQ a s) (fun _ _ _ x => x) p s (h Γ p hΓ ok)
theorem wpK_pure {a : α} {Q : α → Shared → Prop} (h : Q a s) : wpK M A (pure a) Q s := fun _ _ _ _ => h
theorem wpK_bind {m : Sem α} {f : α → Sem β} {Q : β → Shared → Prop} (h : wpK M A m (fun a s' => wpK M A (f a) Q s') s) : wpK M A (m >>= f) Q s := fun Γ p hΓ ok => by
  rw [Sem.wp_bind']
  exact Sem.wp_mono M Γ m (fun a p' s' h' => h' Γ p' hΓ ok) (fun _ _ _ h' => h') p s (h Γ p hΓ ok)
theorem wpK_first {m : Sem α} {f : α → Sem β} {Q : β → Shared → Prop} (h : wpAny M A m (fun a s' => wpK M A (f a) Q s') (fun _ _ => False) s) : wpK M A (m >>= f) Q s := wpK_bind (.of h)
theorem wpK_onRaise {m : Sem α} {k : Value → Sem Unit} {Q : α → Shared → Prop} (h : wpK M A m Q s) : wpK M A (m.onRaise k) Q s := fun Γ p hΓ ok => by
  rw [Sem.wp_onRaise]
  exact Sem.wp_mono M Γ m (fun _ _ _ h' => h') (fun e p' s' h' => h'.elim) p s (h Γ p hΓ ok)
theorem wpK_holding {vs : List Value} {m : Sem α} {Q : α → Shared → Prop} (h : wpK M A m Q s) : wpK M A (holding vs m) Q s :=
  fun Γ p hΓ ok => by rw [Sem.wp_holding]; exact h Γ p hΓ ok
theorem wpK_keep {vs : List Value} {m : Sem α} {Q : α → Shared → Prop} (h : wpK M A m Q s) : wpK M A (m.keep vs) Q s :=
  fun Γ p hΓ ok => by rw [Sem.wp_keep]; exact h Γ p hΓ ok
theorem wpK_toks {t : Sem α} {Q : α → Shared → Prop} (h : wpK M A t Q s) : wpK M A t (fun a s' => s.toks ≤ s'.toks ∧ Q a s') s :=
  fun Γ p hΓ ok => Sem.wp_mono M Γ t (fun _ _ _ x => x) (fun _ _ _ x => x.2) p s (Sem.wp_toks M Γ s.toks t _ _ p s (Nat.le_refl _) (h Γ p hΓ ok))
theorem codeK.of {c : Code} {R : Flow → Shared → Prop} (h : codeAny M A c (fun r s' => ∃ f, r = .ok f ∧ R f s') s) : codeK M A c R s := fun Γ p hc hΓ _ => h Γ p hc hΓ
theorem codeK_of_tree {c : Code} {R : Flow → Shared → Prop}
    (h : wpK M (A.under c) (M.den c) (fun fin s' => match fin with | .done f => R f s' | .again c' => c'.quiet = true ∧ okCode c' = true ∧ codeK M A c' R s') s) : codeK M A c R s := fun Γ p hc hΓ ok => by
  rw [wpCode_iff_wp, hc]
  refine Sem.wp_mono M Γ _ (fun fin p' s' h' => ?_) (fun _ _ _ h' => h'.elim) p s (h Γ p (hc ▸ hΓ.in) ok)
  cases fin with
  | done f => exact ⟨f, rfl, h'⟩
  | again c' => exact ⟨h'.1, h'.2.2 (Γ.goto c') p' rfl (hΓ.goto c') ⟨h'.2.1, ok.2⟩⟩
theorem codeK_loop {c : Code} {R : Flow → Shared → Prop} (hq : c.quiet = true) (hk : okCode c = true) (I : Nat → Shared → Prop)
    (turn : ∀ n s, I n s → wpK M (A.under c) (M.den c)
      (fun fin s' => match fin with
        | .done f => R f s'
        | .again c' => (c' = c ∧ ∃ m, m < n ∧ I m s') ∨ (c'.quiet = true ∧ okCode c' = true ∧ codeK M A c' R s')) s)
    (n : Nat) (h : I n s) : codeK M A c R s := by
  induction n using Nat.strongRecOn generalizing s with
  | ind n ih =>
    refine codeK_of_tree (wpK_mono (turn n s h) fun fin s' hf => ?_)
    cases fin with
    | done f => exact hf
    | again c' =>
      rcases hf with ⟨rfl, m, hm, hI⟩ | hf
      · exact ⟨hq, hk, ih m hm hI⟩
      · exact hf
theorem OkC.enter {Γ : Ctx} (ok : OkC Γ) {c : Code} (hc : okCode c = true) (h : Option Value) (p : Pos) : OkC (Γ.enter c h p) :=
  ⟨hc, fun x m => by rcases List.mem_cons.mp m with rfl | m; exact ok.1; exact ok.2 x m⟩
theorem wpK_run {c : Code} {Q : Flow → Shared → Prop} (hk : okCode c = true) (hc : codeK M A c Q s) : wpK M A (run c none) Q s :=
  fun Γ p hΓ ok => by
    rw [Sem.wp_run]
    refine wpCode_mono (fun r s' ⟨f, e, q⟩ => ?_) (hc _ p rfl (hΓ.enter c none p (by intro x; cases x)) (ok.enter hk _ _))
    subst e; exact q
theorem wpK_call {f : Value} {pos : List Value} {kw : List (Str × Value)} {Q : Value → Shared → Prop} (hc : codeK M A (.call f ⟨pos, kw⟩) (fun fl s' => ∃ v, fl = .ret v ∧ Q v s') s) : wpK M A (call f pos kw) Q s :=
  fun Γ p hΓ ok => by
    rw [Sem.wp_cmd_call]
    refine wpCode_mono (fun r s' ⟨f, e, v, e', q⟩ => ?_) (hc _ p rfl (hΓ.enter _ none p (by intro x; cases x)) (ok.enter rfl _ _))
    subst e; subst e'; exact q
theorem wpK_execs_nil {env : Env} {Q : Flow → Shared → Prop} (h : Q .next s) : wpK M A (execs [] env) Q s := fun _ _ _ _ => h
theorem wpK_execs_cons {env : Env} {st : Stmt} {rest : List Stmt} {Q : Flow → Shared → Prop}
    (h : wpK M A (exec st env) (fun f s' => match f with | .next => wpK M A (execs rest env) Q s' | f => Q f s') s) :
    wpK M A (execs (st :: rest) env) Q s := fun Γ p hΓ ok => by
  rw [execs_cons, Sem.wp_bind']
  refine Sem.wp_mono M Γ _ (fun f p' s' h' => ?_) (fun _ _ _ h' => h') _ _ (h Γ p hΓ ok)
  cases f <;> first | exact h' Γ p' hΓ ok | exact h'
theorem wpK_Expr {env : Env} {e : Expr} {pos : Pos} {Q : Flow → Shared → Prop} (h : wpK M A (eval e env) (fun v s' => v = .none ∧ Q .next s') s)
    (hi : interactive env = false) (hs : swapsWith e none pos.line env = pure false) : wpK M A (exec (.Expr e pos) env) Q s := by
  rw [exec_Expr env e pos hi hs]
  refine wpK_first (wpAny_standAt (wpK_bind (wpK_mono h fun v s' ⟨e, h'⟩ => ?_)))
  subst e
  rw [dropValue_plain (by intro a; intro x; cases x)]
  exact wpK_pure h'
theorem wpK_Assign_Name {env : Env} {x : Str} {pos' pos : Pos} {value : Expr} {Q : Flow → Shared → Prop}
    (h : wpK M A (eval value env) (fun v s₁ => wpAny M A (storeName env x v) (fun _ => Q .next) (fun _ _ => False) s₁) s)
    (hs : swapsWith value (some (.Name x pos')) pos.line env = pure false) : wpK M A (exec (.Assign [.Name x pos'] value pos) env) Q s := fun Γ p hΓ ok => by
  simp only [exec_Assign_Name env x pos' value pos hs, Sem.wp_bind', Sem.wp_cmd_standAt, Sem.wp_bindName, Sem.wp_pure']
  exact Sem.wp_mono M Γ _ (fun v _ s₁ h₁ => h₁ Γ _ hΓ) (fun _ _ _ h' => h') _ _ (h Γ _ hΓ ok)
theorem wpK_If {env : Env} {test : Expr} {body orelse : List Stmt} {pos : Pos} {Q : Flow → Shared → Prop}
    (h : wpAny M A (isTrue test env (eval test env)) (fun b s₂ => if b then wpK M A (execs body env) Q s₂ else wpK M A (execs orelse env) Q s₂) (fun _ _ => False) s) :
    wpK M A (exec (.If test body orelse pos) env) Q s := fun Γ p hΓ ok => by
  simp only [exec_If, Sem.wp_bind', Sem.wp_cmd_standAt]
  refine Sem.wp_mono M Γ _ (fun b p₂ s₂ h₂ => ?_) (fun _ _ _ h' => h') _ _ (h Γ _ hΓ)
  cases b <;> exact h₂ Γ p₂ hΓ ok
theorem wpK_runOwn {env : Env} {c : Code} {Q : Flow → Shared → Prop} (hk : okCode c = true) (hc : codeK M A c Q s) : wpK M A (runOwn c env none) Q s := by
  unfold runOwn
  exact wpK_onRaise (wpK_run hk hc)
theorem wpK_While {env : Env} {test : Expr} {body orelse : List Stmt} {pos : Pos} {Q : Flow → Shared → Prop} (h : codeK M A (.whileLoop test body orelse env) Q s) :
    wpK M A (exec (.While test body orelse pos) env) Q s := by
  rw [exec_While]; exact wpK_first (wpAny_standAt (wpK_runOwn rfl h))
theorem wpK_For {env : Env} {target iter : Expr} {body orelse : List Stmt} {pos : Pos} {Q : Flow → Shared → Prop}
    (h : wpAny M A (eval iter env) (fun x s₁ => wpAny M A (pyIter x) (fun it s₂ => codeK M A (.forLoop target it body orelse env) Q s₂) (fun _ _ => False) s₁) (fun _ _ => False) s)
    (hs : ∀ x, foldedSetIterable iter env x = pure x) : wpK M A (exec (.For target iter body orelse pos) env) Q s := by
  rw [exec_For]
  exact wpK_first (wpAny_standAt (wpK_first (wpAny_mono h (fun x s₁ h₁ => wpK_first (wpAny_of_eq (hs x) (wpK_first (wpAny_standAt (wpK_first (wpAny_holding
    (wpAny_mono h₁ (fun it s₂ h₂ => wpK_runOwn rfl h₂) fun _ _ h' => h'))))))) fun _ _ h' => h')))
theorem callWithK_function {pos : Pos} {a : Addr} {o : Obj} {fd : FuncData} {args : List (Bool × Sem Value)} {Q : Value → Shared → Prop}
    (h : wpAny M A (evalArgs (.ref a) true args []) (fun x s₁ => (s₁.heap.get? a = some o ∧ o.data = .func fd) ∧ wpK M A (call (.ref a) ([] ++ x.pos) x.kw) Q s₁) (fun _ _ => False) s) :
    wpK M A (callWith pos (.ref a) [] args []) Q s := by
  unfold callWith
  refine wpK_first (wpAny_holding (wpAny_mono h (fun x s₁ h₁ => wpK_first (wpAny_standAt ?_)) fun _ _ x => x))
  have tail : ∀ {t : Sem Value}, wpK M A t Q s₁ → wpK M A (t >>= fun r => holding [r] point >>= fun _ => pure r) Q s₁ :=
    fun ht => wpK_bind (wpK_mono ht fun r s₂ hr => wpK_first (wpAny_holding (wpAny_point (wpK_pure hr))))
  cases hs : args.any (·.1) <;> simp only [List.any_nil, Bool.or_false] <;>
    refine wpK_first (m := keeperOf (.ref a)) ?_ <;> unfold keeperOf <;>
    refine wpAny_bind (wpAny_load h₁.1.1 ?_) <;> rw [h₁.1.2] <;> refine wpAny_pure ?_
  · show wpK M A (if args.length + 2 * ([] : List (Option Str × Sem Value)).length > 30 then _ else _) Q s₁
    split
    · exact tail h₁.2
    · exact tail (by unfold callMarked; exact wpK_keep h₁.2)
  · exact tail (by unfold callMarked; exact wpK_keep h₁.2)
theorem callWithK_builtin {pos : Pos} {id : String} {first : List Value} {args : List (Bool × Sem Value)} {Q : Value → Shared → Prop} (hplain : args.any (·.1) = false)
    (h : wpAny M A (evalArgs (.builtin id) true args []) (fun a s₁ => wpK M A (call (.builtin id) (first ++ a.pos) a.kw) Q s₁) (fun _ _ => False) s) :
    wpK M A (callWith pos (.builtin id) first args []) Q s := by
  unfold callWith
  refine wpK_first (wpAny_holding (wpAny_mono h (fun a s₁ h₁ => wpK_first (wpAny_standAt ?_)) fun _ _ x => x))
  simp only [hplain, List.any_nil, Bool.or_false]
  refine wpK_first (wpAny_pure ?_)
  exact wpK_bind (wpK_mono h₁ fun r s₂ hr => wpK_first (wpAny_holding (wpAny_point (wpK_pure hr))))
end
section
variable {prog : Program} {w : World} {A : Around} {s : Shared} {R : Flow → Shared → Prop}
theorem codeK_whileLoop {test : Expr} {body orelse : List Stmt} {env : Env} (I : Nat → Shared → Prop)
    (turn : ∀ n s, I n s →
      wpAny (model prog w) A (isTrue test env (eval test env)) (fun b s₂ =>
        if b then wpK (model prog w) A (execs body env) (fun f s₃ => match f with
            | .next | .cont => ∃ m, m < n ∧ I m s₃
            | .brk => R .next s₃
            | .ret v => R (.ret v) s₃) s₂
        else wpK (model prog w) A (execs orelse env) (fun f s₃ => R f s₃) s₂) (fun _ _ => False) s)
    (n : Nat) (h : I n s) : codeK (model prog w) A (.whileLoop test body orelse env) R s := by
  refine codeK_loop rfl rfl I (fun n s hI => ?_) n h
  show wpK _ A ((whileTurn test body orelse env).onRaise (fun x => do noteFrame x env; theTreesLotGoes x)) _ s
  refine wpK_onRaise ?_
  simp only [whileTurn]
  refine wpK_first (wpAny_mono (turn n s hI) (fun b s₂ h₂ => ?_) fun _ _ h' => h')
  cases b with
  | false =>
    simp only [Bool.false_eq_true, if_false] at h₂ ⊢
    exact wpK_bind (wpK_mono h₂ fun f s₃ h₃ => wpK_pure h₃)
  | true =>
    simp only [if_true] at h₂ ⊢
    refine wpK_bind (wpK_mono h₂ fun f s₃ h₃ => ?_)
    cases f with
    | next => exact wpK_pure (.inl ⟨rfl, h₃⟩)
    | cont => exact wpK_pure (.inl ⟨rfl, h₃⟩)
    | brk => exact wpK_pure h₃
    | ret v => exact wpK_pure h₃
theorem codeK_forLoop {target : Expr} {it : Value} {body : List Stmt} {env : Env} (I : Nat → Shared → Prop)
    (turn : ∀ n s, I n s → wpAny (model prog w) A (pyNext it) (fun r s₁ => match r with
      | none => R .next s₁
      | some v => wpAny (model prog w) A (letOwnedTupleGo target it v) (fun _ s₁' => wpAny (model prog w) A (assign target env v) (fun _ s₂ => wpK (model prog w) A (execs body env) (fun f s₃ => match f with
          | .next | .cont => ∃ m, m < n ∧ I m s₃
          | .brk => R .next s₃
          | .ret v => R (.ret v) s₃) s₂) (fun _ _ => False) s₁') (fun _ _ => False) s₁) (fun _ _ => False) s)
    (n : Nat) (h : I n s) : codeK (model prog w) A (.forLoop target it body [] env) R s := by
  refine codeK_loop rfl rfl I (fun n s hI => ?_) n h
  show wpK _ _ ((forTurn target it body [] env).onRaise (fun x => do noteFrame x env; theTreesLotGoes x)) _ s
  refine wpK_onRaise ?_
  simp only [forTurn]
  refine wpK_first (wpAny_standAt (wpK_bind (wpK_onRaise (.of (wpAny_mono (turn n s hI) (fun r s₁ h₁ => ?_) fun _ _ h' => h')))))
  cases r with
  | none =>
    refine wpK_pure (.inr ⟨rfl, rfl, codeK.of (codeAny_block ?_)⟩)
    exact wpAny_execs_nil ⟨.next, rfl, h₁⟩
  | some v =>
    refine wpK_first (wpAny_mono h₁ (fun _ s₂ h₂ => wpK_first (wpAny_mono h₂ (fun _ s₃ h₃ => wpK_bind (wpK_mono h₃ fun f s₄ h₄ => ?_)) fun _ _ h' => h')) fun _ _ h' => h')
    cases f with
    | next => exact wpK_pure (.inl ⟨rfl, h₄⟩)
    | cont => exact wpK_pure (.inl ⟨rfl, h₄⟩)
    | brk => exact wpK_pure h₄
    | ret v => exact wpK_pure h₄
theorem codeK_func {body : List Stmt} {env : Env} (h : wpK (model prog w) (A.deeper env) (execs body env) (fun f s' => R (.ret (match f with | .ret v => v | _ => .none)) s') s) :
    codeK (model prog w) A (.func body env) R s := by
  refine codeK_of_tree ?_
  show wpK _ (A.deeper env) (do point; match ← (execs body env).onRaise (leaving env) with | .ret v => ret v | _ => ret .none) _ s
  refine wpK_first (wpAny_point (wpK_bind (wpK_onRaise (wpK_mono h fun f s' h' => ?_))))
  cases f <;> exact wpK_pure h'
theorem codeK_call_function {a : Addr} {args : Args} {o : Obj} {fd : FuncData} {body : List Stmt} (hroom : A.depth < recursionLimit)
    (ho : s.heap.get? a = some o) (hd' : o.data = .func fd) (hco : fd.scope.isCoroutine = false) (hgen : fd.scope.isGenerator = false) (hbody : fd.body = .stmts body) (hcd : s.heap.CodeRec fd.code fd.qualname)
    (h : wpAny (model prog w) A.in1 (bindArgs fd args) (fun binds s₁ =>
      wpAny (model prog w) A.in1 (newFunctionEnv fd.scope fd.globals fd.closure binds (fd.qualname ++ ".<locals>.") (some a) fd.code none fd.builtins)
        (fun env s₂ => s₂.heap.NoLimit ∧ codeK (model prog w) A (.func body env) R s₂) (fun _ _ => False) s₁) (fun _ _ => False) s) :
    codeK (model prog w) A (.call (.ref a) args) R s := by
  refine codeK_of_tree ?_
  show wpK _ A.in1 (callAny (.ref a) args) _ s
  simp only [callAny]
  refine wpK_first (wpAny_load ho ?_)
  obtain ⟨c, oc, vs, tq, hc, hoc, hdc, hq⟩ := hcd
  simp only [hd', callFunction, hco, hgen, hbody, hc]
  rw [hc] at h
  refine wpK_first (m := field (.ref c) 1) (wpAny_field hoc hdc hq (wpK_first (wpAny_pure ?_)))
  exact wpK_first (wpAny_mono h (fun binds s₁ h₁ => wpK_first (wpAny_mono h₁ (fun env s₂ h₂ => wpK_first (wpAny_enterFrame h₂.1 hroom
    (wpK_pure ⟨rfl, rfl, h₂.2⟩))) fun _ _ h' => h')) fun _ _ h' => h')
end
end
section
open PySem PyProof.Rows PySem.Calls
open Sem (wp)
section
variable (prog : Program) (w : World)
noncomputable def KT {α β : Type} (C : Cx) (t : Sem α) (V : Heap → β → α → Prop) (S : St) (K : β → St → Prop) : Prop :=
  ∀ s : Shared, Rel C S s.heap → s.toks ≠ 0 → wpK (model prog w) C.A t (Ans C S s V K) s
abbrev KE (C : Cx) (e : Expr) (S : St) (K : PV → St → Prop) : Prop := KT prog w C (eval e C.env) Is S K
abbrev KX (C : Cx) (e : Stmt) (S : St) (K : PFlow → St → Prop) : Prop := KT prog w C (exec e C.env) FlowIs S K
abbrev KXs (C : Cx) (e : List Stmt) (S : St) (K : PFlow → St → Prop) : Prop := KT prog w C (execs e C.env) FlowIs S K
end
section
variable {prog : Program} {w : World} {B : Heap} {mg mb : Str → Option Value} {C : Cx} {S : St} {sc : Scope}
theorem KT.of {α β : Type} {t : Sem α} {V : Heap → β → α → Prop} {K : β → St → Prop} (h : WT prog w C t V S K) : KT prog w C t V S K := fun s rl ht => .of (h s rl ht)
theorem KT.run {α β : Type} {t : Sem α} {V : Heap → β → α → Prop} {K : β → St → Prop} {s : Shared} {Q : α → Shared → Prop}
    (h : KT prog w C t V S K) (r : Rel C S s.heap) (ht : s.toks ≠ 0) (k : ∀ v s' d S', s'.toks ≠ 0 → Post C S s s' S' → V s'.heap d v → K d S' → Q v s') : wpK (model prog w) C.A t Q s :=
  wpK_mono (wpK_toks (h s r ht)) fun v s' ⟨n, d, S', p, x, q⟩ => k v s' d S' (by (first | decide | lia | omega)) p x q
theorem KXs_nil {K : PFlow → St → Prop} (h : K .next S) : KXs prog w C [] S K := KT.of (WXs_nil h)
theorem KXs_cons {st : Stmt} {rest : List Stmt} {K : PFlow → St → Prop} (h : KX prog w C st S (seqK (fun S' => KXs prog w C rest S' K) K)) : KXs prog w C (st :: rest) S K :=
  fun s r ht => wpK_execs_cons (h.run r ht fun f s' d S' ht' p x q => by
    cases d <;> cases f <;> first | exact x.elim | skip
    · exact KT.run q p.rel ht' fun _ _ d S'' _ p' x q => ⟨d, S'', p.trans p', x, q⟩
    · exact ⟨.brk, S', p, x, q⟩
    · exact ⟨.cont, S', p, x, q⟩
    · exact ⟨.ret _, S', p, x, q⟩)
theorem KX_expr {e : Expr} {pos : Pos} {K : PFlow → St → Prop} (k : CxOk B C) (h : KE prog w C e S fun d S₁ => d = .none ∧ K .next S₁)
    (hs : swapsWith e none pos.line C.env = pure false) : KX prog w C (.Expr e pos) S K :=
  fun s rl ht => wpK_Expr (h.run rl ht fun v₁ s₁ d₁ S₁ ht₁ p₁ i₁ ⟨e, k₁⟩ => by
    subst e; cases i₁; exact ⟨rfl, .next, S₁, p₁, trivial, k₁⟩) (by unfold interactive; rw [k.kind]; rfl) hs
theorem KX_assign {x : Str} {pos' pos : Pos} {value : Expr} {K : PFlow → St → Prop} (k : CxOk B C)
    (h : KE prog w C value S fun d S₁ => StoreK x d S₁ (K .next))
    (hs : swapsWith value (some (.Name x pos')) pos.line C.env = pure false) : KX prog w C (.Assign [.Name x pos'] value pos) S K :=
  fun s rl ht => wpK_Assign_Name (h.run rl ht fun v₁ s₁ d₁ S₁ ht₁ p₁ i₁ ⟨d₀, loc', u, k₁⟩ =>
    WU_store k p₁.rel i₁ u fun s₂ p₂ => ⟨.next, _, p₁.trans p₂, trivial, k₁⟩) hs
theorem KX_if {t : Expr} {a b : List Stmt} {pos : Pos} {K : PFlow → St → Prop} (h : WB prog w C t S fun c S₁ => (c = true → KXs prog w C a S₁ K) ∧ (c = false → KXs prog w C b S₁ K)) : KX prog w C (.If t a b pos) S K :=
  fun s rl ht => wpK_If (h.run rl ht fun v₁ s₁ d₁ S₁ ht₁ p₁ i₁ k₁ => by
    subst i₁
    cases v₁ with
    | true => exact KT.run (k₁.1 rfl) p₁.rel ht₁ fun v₂ s₂ d₂ S₂ ht₂ p₂ i₂ k₂ => ⟨d₂, S₂, p₁.trans p₂, i₂, k₂⟩
    | false => exact KT.run (k₁.2 rfl) p₁.rel ht₁ fun v₂ s₂ d₂ S₂ ht₂ p₂ i₂ k₂ => ⟨d₂, S₂, p₁.trans p₂, i₂, k₂⟩)
theorem KX_while {X : Type} {test : Expr} {body : List Stmt} {pos : Pos} {K : PFlow → St → Prop} (I : X → St) (P : X → Prop) (μ : X → Nat) (x₀ : X) (h₀ : P x₀) (l₀ : LeS S (I x₀))
    (turn : ∀ x, P x → WB prog w C test (I x) fun b S₁ => (b = true → KXs prog w C body S₁ (loopK (fun S₂ => ∃ y, μ y < μ x ∧ P y ∧ LeS S₂ (I y)) K)) ∧ (b = false → K .next S₁)) :
    KX prog w C (.While test body [] pos) S K := by
  intro s rl ht
  refine wpK_While (codeK_whileLoop (fun n s' => s'.toks ≠ 0 ∧ ∃ x, n = μ x ∧ P x ∧ Post C S s s' (I x)) ?_ (μ x₀) ⟨ht, x₀, rfl, h₀, (Post.rfl rl).weaken l₀⟩)
  rintro n s₁ ⟨ht₁, x, rfl, hP, p₁⟩
  refine (turn x hP).run p₁.rel ht₁ fun v₂ s₂ d₂ S₂ ht₂ p₂ i₂ k₂ => ?_
  subst i₂
  cases v₂ with
  | false =>
    simp only [Bool.false_eq_true, if_false]
    exact wpK_execs_nil ⟨.next, S₂, p₁.trans p₂, trivial, k₂.2 rfl⟩
  | true =>
    simp only [if_true]
    refine KT.run (k₂.1 rfl) p₂.rel ht₂ fun f s₃ d₃ S₃ ht₃ p₃ i₃ k₃ => ?_
    cases d₃ <;> cases f <;> first | exact i₃.elim | skip
    · obtain ⟨y, m, hy, l⟩ := k₃
      exact ⟨μ y, m, ht₃, y, rfl, hy, ((p₁.trans p₂).trans p₃).weaken l⟩
    · exact ⟨.next, S₃, (p₁.trans p₂).trans p₃, trivial, k₃⟩
    · obtain ⟨y, m, hy, l⟩ := k₃
      exact ⟨μ y, m, ht₃, y, rfl, hy, ((p₁.trans p₂).trans p₃).weaken l⟩
    · exact ⟨.ret _, S₃, (p₁.trans p₂).trans p₃, i₃, k₃⟩
theorem KX_for {X : Type} {target iter : Expr} {body : List Stmt} {pos : Pos} {K : PFlow → St → Prop}
    (h : WI prog w C iter target S fun n item Side S₁ => ∃ (I : Nat → X → St) (P : Nat → X → Prop) (x₀ : X), P 0 x₀ ∧ LeS S₁ (I 0 x₀) ∧ (∀ i y, i ≤ n → P i y → Side (I i y)) ∧
      (∀ i y, i < n → P i y → WA prog w C target (item i) (I i y) fun S₁ => KXs prog w C body S₁ (loopK (fun S₂ => ∃ z, P (i + 1) z ∧ LeS S₂ (I (i + 1) z)) K)) ∧ (∀ y, P n y → K .next (I n y)))
    (hs : ∀ x, foldedSetIterable iter C.env x = pure x) : KX prog w C (.For target iter body [] pos) S K := by
  intro s r ht
  refine wpK_For (wpAny_mono (wpAny_toks (h s r ht)) (fun x s₁ ⟨tk₁, h₁⟩ => wpAny_mono (wpAny_toks h₁) (fun iv s₂ ⟨tk₂, h₂⟩ => ?_) (fun _ _ x => x.2)) (fun _ _ x => x.2)) hs
  obtain ⟨it, pv, n, item, SideH, SideS, J, S', rfl, p, Y, j, hn, hL, hside, I, P, x₀, h₀, l₀, sd, turn, fin⟩ := h₂
  refine codeK_forLoop (fun m s' => s'.toks ≠ 0 ∧ ∃ i x, i ≤ n ∧ m = n - i ∧ P i x ∧ Post C S s s' (I i x) ∧ J i s'.heap) ?_ n ⟨by (first | decide | lia | omega), 0, x₀, Nat.zero_le _, rfl, h₀, p.weaken l₀, j⟩
  rintro m s₂ ⟨ht₂, i, x, hi, rfl, hP, p₂, j₂⟩
  have sh := hside _ _ (sd i x hi hP) p₂.rel
  by_cases hlt : i < n
  · refine wpAny_mono (wpAny_toks (Y.next i s₂ hlt j₂ sh ht₂)) (fun rr s₃ ⟨tk₃, v, e, h₃⟩ => ?_) (fun _ _ x => x.2.elim)
    subst e
    refine wpAny_mono h₃ (fun _ s₄ ⟨h', tk, e, tk0, j₄, i₄, fr⟩ => ?_) (fun _ _ x => x.elim)
    subst e
    have p₄ := (p₂.priv (tk := tk) r hn (Y.mem i _ j₂) fr).1
    refine wpAny_mono (wpAny_toks (turn i x hlt hP v _ p₄.rel tk0 i₄)) (fun _ s₅ ⟨tk₅, S₅, p₅, k₅⟩ => ?_) (fun _ _ x => x.2.elim)
    have ht₅ : s₅.toks ≠ 0 := by simp only at tk₅; (first | decide | lia | omega)
    have j₅ : J (i + 1) s₅.heap := Y.stable _ _ _ j₄ fun a m o g => p₅.frame a o g (fun mm => by
      obtain ⟨q, mq, e⟩ := List.mem_map.mp mm
      obtain ⟨o', g', vs', d'⟩ := Y.mem _ _ j₄ a m
      exact (p₄.rel.own q mq).notFields (by rw [e]; exact g') d') fun l => hL (l ▸ m)
    refine KT.run k₅ p₅.rel ht₅ fun f s₆ d₆ S₆ ht₆ p₆ f₆ k₆ => ?_
    have j₆ : J (i + 1) s₆.heap := Y.stable _ _ _ j₅ fun a m o g => p₆.frame a o g (fun mm => by
      obtain ⟨q, mq, e⟩ := List.mem_map.mp mm
      obtain ⟨o', g', vs', d'⟩ := Y.mem _ _ j₅ a m
      exact (p₅.rel.own q mq).notFields (by rw [e]; exact g') d') fun l => hL (l ▸ m)
    have q := (p₄.trans p₅).trans p₆
    cases d₆ <;> cases f <;> first | exact f₆.elim | skip
    · obtain ⟨y, hy, l⟩ := k₆
      exact ⟨n - (i + 1), by (first | decide | lia | omega), ht₆, i + 1, y, hlt, rfl, hy, q.weaken l, j₆⟩
    · exact ⟨.next, S₆, q, trivial, k₆⟩
    · obtain ⟨y, hy, l⟩ := k₆
      exact ⟨n - (i + 1), by (first | decide | lia | omega), ht₆, i + 1, y, hlt, rfl, hy, q.weaken l, j₆⟩
    · exact ⟨.ret _, S₆, q, f₆, k₆⟩
  · have e : i = n := by (first | decide | lia | omega)
    subst e
    refine wpAny_mono (Y.fin s₂ j₂ sh ht₂) (fun rr s₃ ⟨e, h', tk, e', fr⟩ => ?_) (fun _ _ x => x.elim)
    subst e; subst e'
    have p₃ := (p₂.priv (tk := tk) r hn (Y.mem i _ j₂) fr).1
    exact ⟨.next, _, p₃, trivial, fin x hP⟩
/-- contracts in such contexts -/
noncomputable def FunK (prog : Program) (w : World) (B : Heap) (mg : Str → Option Value) (n : Nat) (x : Str) (args : List PV) (pre : List (Addr × AObj)) (Q : PV → List (Addr × AObj) → Prop) : Prop :=
  ∃ a o fd, mg x = some (.ref a) ∧ B.get? a = some o ∧ o.data = .func fd ∧
    ∀ (A : Around) (s : Shared) (vs : List Value), Room n A → s.toks ≠ 0 → (∀ b o, B.get? b = some o → s.heap.get? b = some o) → (∀ p ∈ pre, ObjIs s.heap p.1 p.2) → IsAll s.heap args vs →
      wpK (model prog w) A (call (.ref a) vs) (FOut s [] Q) s
theorem KE_call0 {f : Str} {p pos : Pos} {e : Expr} {rest : List Expr} {K : PV → St → Prop} (k : CxOk B C) (G : Gnd B mg mb) (hs : C.env.scope = sc) (hf : sc.names.lookup f = some .globalImplicit) (hd : (f == ("__debug__" : Str)) = false)
    (h : WL prog w C pos (e :: rest) S fun ds S₁ => ∃ n pre Q, FunK prog w B mg n f ds pre Q ∧ Room n C.A ∧ (∀ p ∈ pre, Has C S₁ p.1 p.2) ∧ ∀ d post, Q d post → K d { S₁ with own := post ++ S₁.own })
    (hF : ∃ n args pre Q, FunK prog w B mg n f args pre Q)
    (he : starEach (e :: rest) C.env = (false, eval e C.env) :: starEach rest C.env) :
    KE prog w C (.Call (.Name f p) (e :: rest) [] pos) S K := by
  intro s rl ht
  obtain ⟨_, _, _, _, a, o, fd, hm, ho, hdat, _⟩ := hF
  show wpK _ _ (eval (.Call (.Name f p) (e :: rest) [] pos) C.env) _ s
  rw [show eval (.Call (.Name f p) (e :: rest) [] pos) C.env = (do callWith pos (← eval (.Name f p) C.env) [] (backTo pos (starEach (e :: rest) C.env)) (backToKw pos (keywordEach [] C.env))) from rfl]
  refine wpK_first (fn_name k G hs rl hf hd hm ?_)
  show wpK _ _ (callWith pos (.ref a) [] (backTo pos (starEach (e :: rest) C.env)) []) _ s
  have ha : WL prog w C pos (e :: rest) S _ := h
  unfold WL at ha
  rw [he] at ha ⊢
  refine callWithK_function (o := o) (fd := fd) (evalArgs_plain (WT.run ha rl ht fun vs s₁ ds S₁ ht₁ p₁ i₁ ⟨n, pre, Q, hF, room, hp, hK⟩ => ⟨⟨p₁.rel.keepB k _ _ ho, hdat⟩, ?_⟩))
  obtain ⟨a', o', fd', hm', _, _, run⟩ := hF
  rw [hm] at hm'; cases hm'
  refine wpK_mono (run C.A s₁ vs room ht₁ (p₁.rel.keepB k) (fun p m => p₁.rel.has k (hp p m)) i₁) fun v s₂ ⟨d, post, ou, i, q⟩ => ?_
  exact ⟨d, _, p₁.trans (Post.call0 p₁.rel ou), i, hK d post q⟩
noncomputable def CallBK (prog : Program) (w : World) (C : Cx) (id : String) (ds : List PV) (S : St) (K : PV → St → Prop) : Prop :=
  ∀ (vs : List Value) (s : Shared), Rel C S s.heap → s.toks ≠ 0 → IsAll s.heap ds vs → wpK (model prog w) C.A (call (.builtin id) vs) (Ans C S s Is K) s
theorem KE_meth {o : Expr} {name : Str} {apos pos : Pos} {e : Expr} {rest : List Expr} {K : PV → St → Prop} (id : String)
    (h : WE prog w C o S fun d S₁ => MethAt C S₁ d name id ∧ WL prog w C pos (e :: rest) S₁ fun ds S₂ => CallBK prog w C id (d :: ds) S₂ K)
    (hbase : attributeBase o name C.env (eval o C.env) = eval o C.env) (hline : (apos.endLine == pos.line) = true)
    (hfew : ((backTo pos (starEach (e :: rest) C.env)).all (fun x => !x.1) && (backToKw pos (keywordEach [] C.env)).all (fun x => x.1.isSome)
      && decide ((e :: rest).length + ([] : List Keyword).length + (if ([] : List Keyword).isEmpty then 0 else 1) < 30)) = true)
    (he : starEach (e :: rest) C.env = (false, eval e C.env) :: starEach rest C.env) (hp : (backTo pos (starEach rest C.env)).any (·.1) = false) :
    KE prog w C (.Call (.Attribute o name apos) (e :: rest) [] pos) S K := by
  intro s rl ht
  show wpK _ _ (eval (.Call (.Attribute o name apos) (e :: rest) [] pos) C.env) _ s
  rw [arm_eval_Call, hbase]
  refine wpK_first (h.run rl ht fun v s₁ d S₁ ht₁ p₁ i₁ ⟨m, k₁⟩ => wpK_first (wpAny_standAt ?_))
  obtain ⟨T, pa, sl, ty, hT, hd⟩ := m v s₁ p₁.rel i₁
  have hform : methodCallForm ((e :: rest).length + ([] : List Keyword).length) (backTo pos (starEach (e :: rest) C.env)) (backToKw pos (keywordEach [] C.env)) = true := hfew
  have hpos : methodCallPos true o C.env apos pos = pure pos := by unfold methodCallPos; simp [hline]
  unfold methodCall
  rw [hform]
  refine wpK_first (wpAny_holding (getMethod_builtin hT pa sl ty hd (wpK_first (wpAny_of_eq hpos ?_))))
  show wpK _ _ (callWith pos (.builtin id) [v] (backTo pos (starEach (e :: rest) C.env)) []) _ s₁
  have ha : WL prog w C pos (e :: rest) S₁ _ := k₁
  unfold WL at ha
  rw [he] at ha ⊢
  refine callWithK_builtin (by show (false || (backTo pos (starEach rest C.env)).any (·.1)) = false; rw [hp]; rfl) (evalArgs_plain (WT.run ha p₁.rel ht₁ fun vs s₂ ds S₂ ht₂ p₂ i₂ k₂ => ?_))
  exact wpK_mono (k₂ (v :: vs) s₂ p₂.rel ht₂ (.cons (i₁.mono (p₂.mono p₁.rel)) i₂)) fun r s₃ ⟨d, S₃, p₃, i₃, k₃⟩ => ⟨d, S₃, (p₁.trans p₂).trans p₃, i₃, k₃⟩
end
end
section
open PySem PyProof.Rows PySem.Calls
open Sem (wp)
namespace FA
theorem plain_append : plainId "bytearray.append" = true := by decide +kernel
theorem plainAttrs_ba : PlainAttrs "bytearray" :=
  ⟨⟨"bytearray.__getattribute__", by rw [typeLookup_type, builtinLookup_eq_fast]; kernel_rfl, by decide +kernel⟩, by rw [typeLookup_type, builtinLookup_eq_fast]; kernel_rfl⟩
theorem slot_append : Slot "bytearray" "append" "bytearray.append" :=
  .of (owner := "bytearray") (n := "append") (by rw [typeLookup_type, builtinLookup_eq_fast]; kernel_rfl) (by decide +kernel) (by decide +kernel) (by decide +kernel)
    (by first | exact .inl (by decide +kernel) | exact .inr (by decide +kernel)) (by rw [isSubtype_type]; kernel_rfl)
theorem type_append : typeOf (.builtin "bytearray.append") = pure (.type "method_descriptor") := by show builtinType _ = _; rw [builtinType_eq_fast]; kernel_rfl
theorem entry_append : entryFor table "bytearray.append" = some Builtin.«bytearray.append» := entryFor_of_tree (by kernel_rfl)
theorem args_append (a b : Value) : argsOk "bytearray.append" ⟨[a, b], []⟩ := by unfold argsOk; kernel_rfl
theorem slot_extend : Slot "bytearray" "extend" "bytearray.extend" :=
  .of (owner := "bytearray") (n := "extend") (by rw [typeLookup_type, builtinLookup_eq_fast]; kernel_rfl) (by decide +kernel) (by decide +kernel) (by decide +kernel)
    (by first | exact .inl (by decide +kernel) | exact .inr (by decide +kernel)) (by rw [isSubtype_type]; kernel_rfl)
theorem type_extend : typeOf (.builtin "bytearray.extend") = pure (.type "method_descriptor") := by show builtinType _ = _; rw [builtinType_eq_fast]; kernel_rfl
theorem entry_extend : entryFor table "bytearray.extend" = some Builtin.«bytearray.extend» := entryFor_of_tree (by kernel_rfl)
theorem args_extend (a b : Value) : argsOk "bytearray.extend" ⟨[a, b], []⟩ := by unfold argsOk; kernel_rfl
theorem slot_init : Slot "bytearray" "__init__" "bytearray.__init__" :=
  .of (owner := "bytearray") (n := "__init__") (by rw [typeLookup_type, builtinLookup_eq_fast]; kernel_rfl) (by decide +kernel) (by decide +kernel) (by decide +kernel)
    (by first | exact .inl (by decide +kernel) | exact .inr (by decide +kernel)) (by rw [isSubtype_type]; kernel_rfl)
theorem entry_init : entryFor table "bytearray.__init__" = some Builtin.«bytearray.__init__» := entryFor_of_tree (by kernel_rfl)
theorem args_init (a : Value) : argsOk "bytearray.__init__" ⟨[a], []⟩ := by unfold argsOk; kernel_rfl
theorem mro : mroOf (.type "bytearray") = pure [.type "bytearray", .type "object"] := by rw [mroOf_type]; kernel_rfl
theorem lookup_new : typeLookup (.type "bytearray") "__new__" = pure (some (.builtin "bytearray.__new__")) := by rw [typeLookup_type, builtinLookup_eq_fast]; kernel_rfl
theorem called : TypeCalled "bytearray" "bytearray.__new__" "bytearray.__init__" :=
  ⟨by decide +kernel, by decide +kernel, ⟨_, _, mro⟩, madeBy_type mro lookup_new (by decide +kernel), by decide +kernel, by rw [isSubtype_type]; kernel_rfl, slot_init⟩
theorem typeCall : checkTypeCall "bytearray" ⟨[], []⟩ = pure () := by kernel_rfl
theorem newCall : checkBuiltinCall "bytearray.__new__" ⟨[.type "bytearray"], []⟩ = pure () := by kernel_rfl
theorem entry_new : entryFor table "bytearray.__new__" = some Builtin.«list.__new__» :=
  entryFor_alias (id' := "list.__new__") (by kernel_rfl) (by first | rfl | decide +kernel) (by decide +kernel) (by kernel_rfl)
theorem plain_new : plainId "bytearray.__new__" = true := by decide +kernel
theorem sub_self : isSubtype (.type "bytearray") (.type "bytearray") = pure true := by rw [isSubtype_type]; kernel_rfl
theorem rel_slot : typeLookup (.type "bytearray") "__release_buffer__" = pure (some (.builtin "bytearray.__release_buffer__")) := by rw [typeLookup_type, builtinLookup_eq_fast]; kernel_rfl
theorem buf_slot : typeLookup (.type "bytearray") "__buffer__" = pure (some (.builtin "bytearray.__buffer__")) := by rw [typeLookup_type, builtinLookup_eq_fast]; kernel_rfl
theorem bytes_buf : typeLookup (.type "bytes") "__buffer__" = pure (some (.builtin "bytes.__buffer__")) := by rw [typeLookup_type, builtinLookup_eq_fast]; kernel_rfl
theorem bytes_rel : typeLookup (.type "bytes") "__release_buffer__" = pure none := by rw [typeLookup_type, builtinLookup_eq_fast]; kernel_rfl
theorem sub_bytes : isSubtype (.type "bytes") (.type "bytes") = pure true := by rw [isSubtype_type]; kernel_rfl
end FA
section
variable {prog : Program} {w : World} {A : Around} {s : Shared} {B : Heap} {mg mb : Str → Option Value} {C : Cx} {S : St} {sc : Scope}
theorem wpK_exported {M : Model} {v : Value} {Q : Bool → Shared → Prop} (hg : A.guards = some []) (h : Q false s) : wpK M A (Builtin.Bytes.exported v) Q s := fun Γ p hΓ ok => by
  have hgd : guardsOf ((Γ.code, p) :: Γ.below) = [] := by rw [guardsOf_cons]; exact hΓ.2.2.2.1 [] hg
  have hgs : ∀ x ∈ (Γ.code, p) :: Γ.below, x.1.isGuard = false := by
    intro x m
    cases e : x.1.isGuard with
    | false => rfl
    | true =>
      have : x.1 ∈ guardsOf ((Γ.code, p) :: Γ.below) := by unfold guardsOf; exact List.mem_filter.mpr ⟨List.mem_map_of_mem m, e⟩
      rw [hgd] at this; cases this
  have hks : ∀ x ∈ (Γ.code, p) :: Γ.below, okCode x.1 = true := by
    intro x m
    rcases List.mem_cons.mp m with rfl | m
    · exact ok.1
    · exact ok.2 x m
  unfold Builtin.Bytes.exported
  show Q (((Γ.code, p) :: Γ.below).any _) s
  refine Eq.mp (congrArg (Q · s) (Eq.symm ?_)) h
  rw [List.any_eq_false]
  intro x m
  have g := hgs x m
  have k := hks x m
  rw [Bool.not_eq_true]
  clear m
  obtain ⟨c, p'⟩ := x
  cases c with
  | builtin id args =>
    have ng : guardIds.contains id = false := g
    have kk : Builtin.Bytes.decodersThatHold.contains id = false := by have k' : (!Builtin.Bytes.decodersThatHold.contains id) = true := k; simpa using k'
    have ne : ∀ y, guardIds.contains y = true → id ≠ y := fun y hy e => by rw [e, hy] at ng; cases ng
    have h1 := ne "bytearray.__contains__" (by decide +kernel)
    have h2 := ne "bytearray.__mod__" (by decide +kernel)
    have h3 := ne "bytearray.__rmod__" (by decide +kernel)
    have h4 := ne "_struct.pack_into.held" (by decide +kernel)
    have h5 := ne "bytearray.find.held" (by decide +kernel)
    obtain ⟨pos, kw⟩ := args
    cases pos with
    | nil =>
      delta Builtin.Bytes.exported.match_1
      simp only [dif_neg h1, dif_neg h2, dif_neg h3, dif_neg h4, dif_neg h5]
    | cons v r =>
      delta Builtin.Bytes.exported.match_1
      simp only [dif_neg h1, dif_neg h2, dif_neg h3, dif_neg h4, dif_neg h5]
      rw [kk]
      exact Bool.and_false _
  | _ => rfl
end
end
section
open PySem PyProof.Rows PySem.Calls
open Sem (wp)
section
variable {prog : Program} {w : World} {A : Around} {s : Shared} {B : Heap} {mg mb : Str → Option Value} {C : Cx} {S : St} {sc : Scope}
theorem callK_entry {T : String} {name : Str} {id : String} {b : Builtin} {self : Value} {rest : List Value} {Q : Value → Shared → Prop} (h : Slot T name id) (hk : okCode (.builtin id ⟨self :: rest, []⟩) = true) (hT : s.TypeIs self T)
    (hb : entryFor table id = some b) (hc : wpK (model prog w) A.in1 (b ⟨self :: rest, []⟩) (fun fin s' => ∃ v, fin = .done (.ret v) ∧ Q v s') s) (ha : argsOk id ⟨self :: rest, []⟩) :
    wpK (model prog w) A (call (.builtin id) (self :: rest)) Q s := by
  refine wpK_call (codeK_of_tree ?_)
  show wpK _ A.in1 (do checkBuiltinCall id ⟨self :: rest, []⟩; again (.builtin id ⟨self :: rest, []⟩)) _ s
  refine wpK_first (h.check _ _ _ _ _ _ _ _ hT ha (wpK_pure ⟨plainId_quiet h.plain _, hk, codeK_of_tree ?_⟩))
  show wpK _ _ (match entryFor table id with | some b => b _ | none => unsupported ((withoutEnding? id "#data").getD id)) _ s
  rw [hb, Around.under_plainId h.plain _]
  refine wpK_mono hc fun fin s' ⟨v, e, q⟩ => ?_
  subst e; exact ⟨v, rfl, q⟩
theorem meth_ba {a : Addr} {b : Array UInt8} (k : CxOk B C) (h : Has C S a (.barr b)) {name : Str} {id : String} (sl : Slot "bytearray" name id) (ty : typeOf (.builtin id) = pure (.type "method_descriptor")) : MethAt C S (.ref a) name id :=
  fun v s rl i => by
    cases i
    have g : s.heap.get? a = some _ := rl.has k h
    exact ⟨"bytearray", FA.plainAttrs_ba, sl, ty, ⟨_, g, rfl⟩, fun a e => by cases e; exact ⟨_, g, rfl⟩⟩
theorem wpK_checkResize {M : Model} {a : Addr} {b : Array UInt8} {Q : Unit → Shared → Prop} (hg : A.guards = some []) (g : s.heap.get? a = some { cls := .type "bytearray", data := .bytearray b 0 }) (h : Q () s) : wpK M A (Builtin.Bytes.checkResize (.ref a)) Q s := by
  unfold Builtin.Bytes.checkResize
  refine wpK_bind ?_
  unfold orM
  refine wpK_bind (wpK_exported hg ?_)
  show wpK M A (do return decide ((← Builtin.Bytes.exportsOf (.ref a)) > 0)) _ s
  refine wpK_first ?_
  unfold Builtin.Bytes.exportsOf
  refine wpAny_bind (wpAny_load g (wpAny_pure (wpK_pure ?_)))
  exact wpK_pure h
theorem wpAny_writeBa {M : Model} {E : Value → Shared → Prop} {a : Addr} {b : Array UInt8} {f : Array UInt8 → Array UInt8} {Q : Unit → Shared → Prop} (g : s.heap.get? a = some { cls := .type "bytearray", data := .bytearray b 0 }) (hz : (f b).size ≤ 2 ^ 20)
    (h : ∀ h', h'.get? a = some { cls := .type "bytearray", data := .bytearray (f b) 0 } → Heap.SameBut a s.heap h' → Q () { s with heap := h' }) : wpAny M A (Builtin.Bytes.write (.ref a) f) Q E s := by
  show wpAny _ _ (updateBytearray a f) _ _ _
  unfold updateBytearray
  refine wpAny_bind (wpAny_load g ?_)
  show wpAny _ _ (update a (Obj.mapBytearray f) >>= fun _ => lookBehind a) _ _ _
  refine wpAny_bind (wpAny_update g ?_)
  have g₂ : (s.heap.update a (Obj.mapBytearray f)).get? a = some { cls := .type "bytearray", data := .bytearray (f b) 0 } := Heap.get?_update_self _ g rfl
  refine wpAny_lookBehind g₂ ?_ (h _ g₂ (Heap.SameBut.update ..))
  show (if (f b).size > sizeLine then some "bytearray:memory" else none) = none
  rw [if_neg]
  rw [sizeLine_eq]
  (first | decide | lia | omega)
theorem callK_baAppend {a : Addr} {b : Array UInt8} {i : Int} {own' : List (Addr × AObj)} {K : PV → St → Prop} (hg : C.A.guards = some []) (u : Upd a (.barr b) (.barr (b.push i.toNat.toUInt8)) S.own own') (hl : b.size < 2 ^ 20) (hi : 0 ≤ i ∧ i < 256) (h : K .none ⟨S.loc, own'⟩) :
    CallBK prog w C "bytearray.append" [.ref a, .int i] S K := by
  intro vs s rl ht ia
  cases ia with | cons ia ib => cases ib with | cons ib ic => cases ic; cases ia; cases ib with | int _ t _ =>
  have g : s.heap.get? a = some _ := rl.own _ u.old
  refine callK_entry FA.slot_append rfl ⟨_, g, rfl⟩ FA.entry_append ?_ (FA.args_append _ _)
  unfold Builtin.«bytearray.append»
  refine wpK_first (wpAny_of_eq (a := (Value.ref a, Value.int i t)) (by rfl) ?_)
  have bv : Builtin.Bytes.byteValue (.int i t) = pure i.toNat.toUInt8 := by
    unfold Builtin.Bytes.byteValue
    show (if (decide (i < 0) || decide (i ≥ 256)) = true then _ else _) = _
    rw [if_neg (by simp only [Bool.or_eq_true, decide_eq_true_eq]; (first | decide | lia | omega))]
  refine wpK_first (wpAny_of_eq bv ?_)
  refine wpK_bind (wpK_checkResize hg g ?_)
  refine wpK_first (wpAny_writeBa g (by rw [Array.size_push]; (first | decide | lia | omega)) fun h' g' sb => wpK_pure ?_)
  exact ⟨.none, rfl, .none, _, Post.upd (tk := s.toks) rl u sb (fun M => g'), .none, h⟩
theorem callK_baExtend {a : Addr} {b c : Array UInt8} {own' : List (Addr × AObj)} {K : PV → St → Prop} (hg : C.A.guards = some []) (u : Upd a (.barr b) (.barr (b ++ c)) S.own own') (hl : b.size + c.size ≤ 2 ^ 20) (h : K .none ⟨S.loc, own'⟩) :
    CallBK prog w C "bytearray.extend" [.ref a, .bytes c] S K := by
  intro vs s rl ht ia
  cases ia with | cons ia ib => cases ib with | cons ib ic => cases ic; cases ia; cases ib with | bytes _ t =>
  have g : s.heap.get? a = some _ := rl.own _ u.old
  refine callK_entry FA.slot_extend rfl ⟨_, g, rfl⟩ FA.entry_extend ?_ (FA.args_extend _ _)
  unfold Builtin.«bytearray.extend»
  refine wpK_first (wpAny_of_eq (a := (Value.ref a, Value.bytes c t)) (by rfl) ?_)
  refine wpK_first (wpAny_of_eq (PySem.W.KBy.special_eq PySem.W.KBy.look_buffer) ?_)
  show wpK _ _ (rule "bytearray.extend.bytes-like" >>= _) _ s
  refine wpK_first (wpAny_rule ?_)
  refine wpK_first ?_
  unfold Builtin.Bytes.payload Builtin.Bytes.payload?
  refine wpAny_bind (wpAny_bind (wpAny_load g (wpAny_pure (wpAny_pure ?_))))
  have tb : Builtin.Bytes.takeBufferQuiet? "bytearray.extend" (.bytes c t) 0 = pure (some (c, none)) := by
    unfold Builtin.Bytes.takeBufferQuiet? Builtin.Bytes.takeBuffer?
    rw [PySem.W.KBy.special_eq PySem.W.KBy.look_buffer, PySem.W.KBy.own_buffer]
    show Sem.attempt ((Builtin.Bytes.buffer? "bytearray.extend" (.bytes c t) (full := (0 : Int) == Builtin.Bytes.fullReadOnly)) >>= fun x => pure (x.map (·, none))) >>= _ = _
    unfold Builtin.Bytes.buffer?
    rw [PySem.W.KBy.special_eq PySem.W.KBy.look_buffer, PySem.W.KBy.own_buffer, PySem.W.KBy.own_release]
    rfl
  refine wpK_first (wpAny_of_eq tb ?_)
  show wpK _ _ (if (!c.isEmpty) = true then (Builtin.Bytes.checkResize (.ref a) >>= fun _ => Builtin.Bytes.write (.ref a) (· ++ c) >>= fun _ => ret .none) else (Builtin.Bytes.write (.ref a) (· ++ c) >>= fun _ => ret .none)) _ s
  have fin : wpK (model prog w) C.A.in1 (do Builtin.Bytes.write (.ref a) (· ++ c); ret .none) (fun fin s' => ∃ v, fin = .done (.ret v) ∧ Ans C S s Is K v s') s :=
    wpK_first (wpAny_writeBa g (by rw [Array.size_append]; (first | decide | lia | omega)) fun h' g' sb => wpK_pure ⟨.none, rfl, .none, _, Post.upd (tk := s.toks) rl u sb (fun M => g'), .none, h⟩)
  by_cases hc : c.isEmpty = true
  · rw [if_neg (by simp [hc])]
    exact fin
  · rw [if_pos (by simpa using hc)]
    exact wpK_bind (wpK_checkResize hg g fin)
end
end
section
open PySem PyProof.Rows PySem.Calls
open Sem (wp)
section
variable {prog : Program} {w : World} {A : Around} {s : Shared} {B : Heap} {mg mb : Str → Option Value} {C : Cx} {S : St} {sc : Scope}
theorem codeK_builtin {R : Flow → Shared → Prop} {id : String} {args : Args} {b : Builtin} (hb : entryFor table id = some b)
    (h : wpK (model prog w) (A.under (.builtin id args)) (b args) (fun fin s' => match fin with | .done f => R f s' | .again c' => c'.quiet = true ∧ okCode c' = true ∧ codeK (model prog w) A c' R s') s) :
    codeK (model prog w) A (.builtin id args) R s := by
  refine codeK_of_tree ?_
  show wpK _ _ (match entryFor table id with | some b => b args | none => unsupported ((withoutEnding? id "#data").getD id)) _ s
  rw [hb]; exact h
theorem owner_ba : ("bytearray.__new__".splitOn ".__new__").headD "" = "bytearray" := by simp +decide [String.splitOn, String.splitOnAux]
theorem code_ba_new {E : Value → Shared → Prop} {Q₁ : Value → Shared → Prop}
    (h : Q₁ (.ref s.heap.objs.size) { s with heap := s.heap.push { cls := .type "bytearray", data := .bytearray #[] } }) :
    codeAny (model prog w) A (.call (.builtin "bytearray.__new__") ⟨[.type "bytearray"], []⟩) (wants Q₁ E) s := by
  refine codeAny_of_tree ?_
  show wpAny _ A.in1 (do checkBuiltinCall "bytearray.__new__" ⟨[.type "bytearray"], []⟩; again (.builtin "bytearray.__new__" ⟨[.type "bytearray"], []⟩)) _ _ s
  refine wpAny_bind (wpAny_of_eq FA.newCall (wpAny_pure ⟨plainId_quiet FA.plain_new _, codeAny_builtin_stack FA.entry_new rfl fun p st => ?_⟩))
  rw [Around.under_plainId FA.plain_new _]
  have hsub := FA.sub_self
  have hown := owner_ba
  obtain ⟨hp, g, d, tk, os⟩ := s
  simp only [hown]
  wp_walk
  exact h
theorem wpK_callSpecial {M : Model} {self : Value} {T : String} {name : Str} {id : String} {args : List Value} {Q : Option Value → Shared → Prop} (hT : s.TypeIs self T) (h : Slot T name id)
    (hc : wpK M A (call (.builtin id) (self :: args) []) (fun v => Q (some v)) s) : wpK M A (callSpecial? self name args []) Q s := by
  simp only [callSpecial?]
  refine wpK_first (wpAny_specialOf hT h.lookup ?_)
  simp only [h.bind]
  exact wpK_holding (wpK_first (wpAny_pure (wpK_bind (wpK_mono hc fun v s' h' => wpK_pure h'))))
theorem ownRelease_ba {M : Model} {E : Value → Shared → Prop} {v : Value} {Q : Bool → Shared → Prop} (hT : s.TypeIs v "bytearray") (h : Q false s) : wpAny M A (Builtin.Bytes.ownRelease v) Q E s := by
  have key : ∀ x : String, x = "bytearray" → ∀ {Q : Bool → Shared → Prop}, Q true s → wpAny M A (isInstance v (.type x)) Q E s := fun x hx Q q => by subst hx; exact wpAny_isInstance hT FA.sub_self q
  unfold Builtin.Bytes.ownRelease Builtin.Bytes.slotIsOwn
  refine wpAny_bind (wpAny_bind (wpAny_specialOf hT FA.rel_slot ?_))
  dsimp only
  rw [if_neg (by decide +kernel)]
  exact key _ (by decide +kernel) (wpAny_pure h)
theorem baInit {a : Addr} {b : Array UInt8} {Q : Value → Shared → Prop} (hg : A.guards = some []) (g : s.heap.get? a = some { cls := .type "bytearray", data := .bytearray b 0 })
    (h : ∀ h', h'.get? a = some { cls := .type "bytearray", data := .bytearray #[] 0 } → Heap.SameBut a s.heap h' → Q .none { s with heap := h' }) : wpK (model prog w) A (call (.builtin "bytearray.__init__") [.ref a]) Q s := by
  have hT : s.TypeIs (.ref a) "bytearray" := ⟨_, g, rfl⟩
  refine callK_entry FA.slot_init rfl hT FA.entry_init ?_ (FA.args_init _)
  unfold Builtin.«bytearray.__init__»
  refine wpK_first (ownRelease_ba hT ?_)
  rw [if_neg (by decide)]
  refine wpK_first (wpAny_of_eq (a := [none, none, none]) (by kernel_rfl) ?_)
  refine wpK_first (wpAny_of_eq (a := ()) (by rfl) ?_)
  refine wpK_first (wpAny_of_eq (a := ()) (by rfl) ?_)
  refine wpK_bind ?_
  unfold orM
  refine wpK_bind (wpK_exported hg ?_)
  show wpK _ _ (do return decide ((← Builtin.Bytes.exportsOf (.ref a)) > 0)) _ s
  refine wpK_first ?_
  unfold Builtin.Bytes.exportsOf
  refine wpAny_bind (wpAny_load g (wpAny_pure (wpK_pure ?_)))
  rw [if_neg (by decide)]
  refine wpK_first (wpAny_writeBa g (by simp) fun h' g' sb => ?_)
  exact wpK_pure ⟨.none, rfl, h h' g' sb⟩
theorem callK_ba0 {Q : Value → Shared → Prop} (hg : A.guards = some []) (h : ∀ h', h'.get? s.heap.objs.size = some { cls := .type "bytearray", data := .bytearray #[] 0 } → Heap.SameBut s.heap.objs.size (s.heap.push { cls := .type "bytearray", data := .bytearray #[] }) h' → Q (.ref s.heap.objs.size) { s with heap := h' }) :
    wpK (model prog w) A (call (.type "bytearray") []) Q s := by
  refine wpK_call (codeK_of_tree ?_)
  show wpK _ _ (callAny (.type "bytearray") _) _ _
  refine wpK_pure ⟨Code.quiet_builtin _ (by decide +kernel), rfl, codeK_builtin F.entry_type_call ?_⟩
  rw [Around.under_plain (weight_type_call_type "bytearray" [] []) (units_type_call_type "bytearray" [] [])]
  unfold Builtin.«type.__call__»
  dsimp only
  rw [if_neg (by rw [FA.called.notType]; exact Bool.false_ne_true), if_neg (by rw [FA.called.canCreate]; exact Bool.false_ne_true)]
  refine wpK_first (wpAny_of_eq FA.typeCall ?_)
  refine wpK_first (wpAny_of_eq FA.mro ?_)
  rw [if_neg (by decide)]
  refine wpK_first (wpAny_of_eq FA.called.made ?_)
  dsimp only
  refine wpK_first (wpAny_pure ?_)
  refine wpK_first (wpAny_holding (wpAny_call (codeAny_mono (code_ba_new (E := fun _ _ => False) (Q₁ := fun v s' => v = .ref s.heap.objs.size ∧ s' = { s with heap := s.heap.push { cls := .type "bytearray", data := .bytearray #[] } }) ⟨rfl, rfl⟩) fun r s₁ hr => ?_)))
  cases r with
  | error e => exact hr
  | ok fl =>
  cases fl <;> first | exact False.elim hr | skip
  obtain ⟨e1, e2⟩ := hr
  subst e1; subst e2
  have g : (s.heap.push { cls := .type "bytearray", data := .bytearray #[] }).get? s.heap.objs.size = some { cls := .type "bytearray", data := .bytearray #[] } := Heap.get?_push_size _ rfl
  have hT : ({ s with heap := s.heap.push { cls := .type "bytearray", data := .bytearray #[] } } : Shared).TypeIs (.ref s.heap.objs.size) "bytearray" := ⟨_, g, rfl⟩
  refine wpK_first (wpAny_isInstance hT FA.sub_self ?_)
  rw [if_neg (by decide)]
  refine wpK_bind (wpK_holding ?_)
  refine wpK_callSpecial hT FA.slot_init (baInit (s := { s with heap := s.heap.push { cls := .type "bytearray", data := .bytearray #[] } }) hg g fun h' g' sb => ?_)
  dsimp only
  rw [if_neg (by decide)]
  exact wpK_pure ⟨_, rfl, h h' g' sb⟩
theorem callWithK_type0 {M : Model} {pos : Pos} {T : String} {Q : Value → Shared → Prop} (h : wpK M A (call (.type T) []) Q s) : wpK M A (callWith pos (.type T) [] [] []) Q s := by
  unfold callWith
  refine wpK_first (wpAny_holding (evalArgs_nil3 (wpK_first (wpAny_standAt ?_))))
  simp only [List.any_nil, Bool.or_false]
  refine wpK_first (wpAny_pure ?_)
  exact wpK_bind (wpK_mono h fun r s₂ hr => wpK_first (wpAny_holding (wpAny_point (wpK_pure hr))))
theorem KE_bytearray {p pos : Pos} {K : PV → St → Prop} (k : CxOk B C) (G : Gnd B mg mb) (hs : C.env.scope = sc) (hf : sc.names.lookup ("bytearray" : Str) = some .globalImplicit) (hg : C.A.guards = some [])
    (h : NewK (.barr #[]) S K) : KE prog w C (.Call (.Name "bytearray" p) [] [] pos) S K := by
  intro s rl ht
  show wpK _ _ (eval (.Call (.Name "bytearray" p) [] [] pos) C.env) _ s
  rw [show eval (.Call (.Name "bytearray" p) [] [] pos) C.env = (do callWith pos (← eval (.Name "bytearray" p) C.env) [] (backTo pos (starEach [] C.env)) (backToKw pos (keywordEach [] C.env))) from rfl]
  refine wpK_first (blt_name k G hs rl hf (by decide) (by decide) boot_bytearray' (by decide) ?_)
  refine callWithK_type0 (callK_ba0 hg fun h' g' sb => ?_)
  refine ⟨.ref s.heap.objs.size, ⟨S.loc, (s.heap.objs.size, .barr #[]) :: S.own⟩, ?_, .ref _, h _⟩
  refine Post.newAt (tk := s.toks) rl (fun b o e => ?_) (size_none _) g'
  exact (sb.2 b (Nat.ne_of_lt (Heap.lt_size e))).trans (Heap.get?_push_of_some _ e)
end
end
section
open PySem PyProof.Rows PySem.Calls
open Sem (wp)
namespace FA
theorem ba_no_bytes : typeLookup (.type "bytearray") "__bytes__" = pure none := by rw [typeLookup_type, builtinLookup_eq_fast]; kernel_rfl
theorem ba_no_index : typeLookup (.type "bytearray") "__index__" = pure none := by rw [typeLookup_type, builtinLookup_eq_fast]; kernel_rfl
end FA
section
variable {prog : Program} {w : World} {A : Around} {s : Shared} {B : Heap} {mg mb : Str → Option Value} {C : Cx} {S : St} {sc : Scope}
theorem buffer_ba {M : Model} {E : Value → Shared → Prop} {id : String} {full : Bool} {a : Addr} {b : Array UInt8} {Q : Option (Array UInt8) → Shared → Prop} (g : s.heap.get? a = some { cls := .type "bytearray", data := .bytearray b 0 }) (h : Q (some b) s) :
    wpAny M A (Builtin.Bytes.buffer? id (.ref a) full) Q E s := by
  have hT : s.TypeIs (.ref a) "bytearray" := ⟨_, g, rfl⟩
  have key : ∀ x : String, x = "bytearray" → ∀ {Q : Bool → Shared → Prop}, Q true s → wpAny M A (isInstance (.ref a) (.type x)) Q E s := fun x hx Q q => by subst hx; exact wpAny_isInstance hT FA.sub_self q
  unfold Builtin.Bytes.buffer?
  refine wpAny_bind (wpAny_specialOf hT FA.buf_slot ?_)
  dsimp only
  refine wpAny_bind ?_
  unfold Builtin.Bytes.slotIsOwn
  refine wpAny_bind (wpAny_specialOf hT FA.buf_slot ?_)
  dsimp only
  rw [if_neg (by decide +kernel)]
  refine key _ (by decide +kernel) ?_
  rw [if_neg (by decide)]
  refine wpAny_bind (wpAny_specialOf hT FA.buf_slot ?_)
  refine wpAny_bind (ownRelease_ba hT ?_)
  rw [if_neg (by decide)]
  refine wpAny_bind ?_
  unfold Builtin.Bytes.payload Builtin.Bytes.payload?
  exact wpAny_bind (wpAny_bind (wpAny_load g (wpAny_pure (wpAny_pure (wpAny_pure h)))))
theorem bm_new_ba {E : Value → Shared → Prop} {l : Addr} {b : Array UInt8} {Q : Value → Shared → Prop} (g : s.heap.get? l = some { cls := .type "bytearray", data := .bytearray b 0 }) (hz : b.size ≤ 2 ^ 20)
    (hQ : Q (.bytes b s.toks) { s with toks := s.toks + 1 }) : codeAny (model prog w) A (.call (.builtin "bytes.__new__") ⟨[.type "bytes", .ref l], []⟩) (wants Q E) s := by
  refine codeAny_of_tree ?_
  show wpAny _ A.in1 (do checkBuiltinCall "bytes.__new__" ⟨[.type "bytes", .ref l], []⟩; again (.builtin "bytes.__new__" ⟨[.type "bytes", .ref l], []⟩)) _ _ s
  refine wpAny_bind (wpAny_of_eq (F.bm_newCall _) (wpAny_pure ⟨plainId_quiet F.bm_plain _, codeAny_builtin F.bm_entry ?_⟩))
  rw [Around.under_plainId F.bm_plain _]
  have hT : s.TypeIs (.ref l) "bytearray" := ⟨_, g, rfl⟩
  unfold Builtin.«bytes.__new__»
  refine wpAny_bind (wpAny_of_eq (a := true) rfl ?_)
  refine bm_if_false rfl ?_
  refine wpAny_bind (wpAny_of_eq F.bm_sub ?_)
  refine bm_if_false rfl ?_
  refine wpAny_bind (wpAny_of_eq (F.bm_bind _) ?_)
  refine wpAny_bind (wpAny_of_eq (a := ()) rfl ?_)
  refine wpAny_bind (wpAny_of_eq (a := ()) rfl ?_)
  refine bm_if_false rfl ?_
  refine wpAny_bind (wpAny_specialOf hT FA.ba_no_bytes ?_)
  refine wpAny_bind (wpAny_bind ?_)
  show wpAny _ _ (load l >>= _) _ _ _
  refine wpAny_bind (wpAny_load g ?_)
  refine wpAny_pure (wpAny_pure ?_)
  refine bm_if_false rfl ?_
  refine wpAny_bind (wpAny_specialOf hT FA.ba_no_index ?_)
  refine bm_if_true rfl ?_
  show wpAny _ _ (Builtin.Bytes.buffer? "bytes.__new__" (.ref l) true >>= _) _ _ _
  refine wpAny_bind (buffer_ba g ?_)
  refine wpAny_bind (wpAny_rule ?_)
  refine wpAny_bind (wpAny_mkBytes ?_ (by rw [sizeLine_eq]; (first | decide | lia | omega)))
  show wpAny _ _ (if (Value.type "bytes" == Value.type "bytes") = true then _ else _) _ _ _
  refine bm_if_true (by decide) ?_
  exact wpAny_pure hQ
theorem callT_bytesBa {a : Addr} {b : Array UInt8} {K : PV → St → Prop} (k : CxOk B C) (m : Has C S a (.barr b)) (hl : b.size ≤ 2 ^ 20) (h : K (.bytes b) S) : CallT prog w C "bytes" [.ref a] S K := by
  intro vs s rl ht ia
  cases ia with | cons ia ib => ?_
  cases ib; cases ia
  have g : s.heap.get? a = some _ := rl.has k m
  refine callType_codes (Q₁ := fun obj s₁ => s₁.TypeIs obj "bytes" ∧ Ans C S s Is K obj s₁) F.bm_called (F.bm_typeCall _) F.entry_object_init
    (bm_new_ba g hl ⟨PySem.W.typeIs_bytes _ _ _, .bytes b, S, Post.same rl, .bytes _ _, h⟩) fun obj s₁ h₁ => ?_
  exact ⟨h₁.1, F.args_object_init_2 obj _, object_init_meets F.bm_called.init.lookup F.bm_called.made (by decide) prog w C.A.in1 _ s₁ ⟨h₁.1, rfl, h₁.2⟩⟩
theorem callT_bytesInts {a : Addr} {ns : List Int} {K : PV → St → Prop} (k : CxOk B C) (hh : C.A.handled = none) (m : Has C S a (.list (ns.map .int))) (hl : ns.length ≤ 2 ^ 20) (hb : ∀ n ∈ ns, 0 ≤ n ∧ n < 256) (h : K (.bytes (byteArr ns)) S) : CallT prog w C "bytes" [.ref a] S K := by
  intro vs s rl ht ia
  cases ia with | cons ia ib => ?_
  cases ib; cases ia
  obtain ⟨vs, n, g, ia⟩ := rl.has k m
  have hi : IntsAre vs.toList ns := by
    obtain ⟨xs, e1, e2⟩ := ints_pairs ia
    rw [e1, ← e2]
    clear e1 e2 ia g m hb hl
    induction xs with
    | nil => exact .nil
    | cons x r ih => exact .cons _ _ ih
  have len : vs.toList.length = ns.length := by rw [ia.length]; simp
  refine call_bytes_ints (vs := vs.toList) ⟨_, g, rfl, n, rfl⟩ hi hb (by rw [len, sizeLine_eq]; (first | decide | lia | omega)) hh fun h' t kk hk => ?_
  exact ⟨.bytes _, S, Post.grown rl hk, .bytes _ _, h⟩
theorem FunK_of_body {n : Nat} {d : DefRec} {args : List PV} {ro : List (Addr × AObj)} {Q : PV → List (Addr × AObj) → Prop}
    (G : Gnd B mg mb) (R : FnRec B mg d) (names others : List Str) (loc : List (Str × PV)) (hloc : loc = names.zip args ++ others.map (·, .any))
    (hbind : ∀ pm code doc vs, vs.length = names.length → bindArgs (docDef d.name d.params d.body d.scope pm code doc) ⟨vs, []⟩ = pure (names.zip vs))
    (hok : locOk d.scope (names ++ others) = true) (hlen : names.length = args.length)
    (hsc : d.scope.isCoroutine = false ∧ d.scope.isGenerator = false ∧ d.scope.kind = .function ∧ ∀ x ∈ d.scope.names, x.2 ≠ .cell)
    (h : ∀ C : Cx, CxOk B C → C.env.scope = d.scope → Room n C.A → C.W = [] → C.ro = ro → KXs prog w C d.body ⟨loc, []⟩ (retK [] Q)) :
    FunK prog w B mg (n + 1) d.name args ro Q := by
  obtain ⟨a, o, pm, code, doc, hm, ho, hd, hc⟩ := R
  subst hloc
  refine ⟨a, o, _, hm, ho, hd, fun A s vs room ht kb pre ia => ?_⟩
  have hvl : vs.length = names.length := by rw [ia.length, hlen]
  have lk := locOk_kind hok
  refine wpK_call (codeK_call_function (fd := docDef d.name d.params d.body d.scope pm code doc) (body := d.body) (by have := room.1; unfold recursionLimit; (first | decide | lia | omega)) (kb _ _ ho) hd hsc.1 hsc.2.1 rfl (hc.keeps kb) ?_)
  rw [hbind pm code doc vs hvl]
  refine wpAny_pure (wpAny_newFunctionEnv hsc.2.2.2 ?_ (fun h₁ ns sb => ?_) hsc.2.2.1)
  · intro x hx
    exact (lk.1 x.1 (List.mem_append_left _ (List.of_mem_zip (a := x.1) (b := x.2) hx).1)).1
  · have hL : s.heap.get? s.heap.objs.size = none := size_none _
    have keep : ∀ b o, s.heap.get? b = some o → h₁.get? b = some o := fun b o e => (sb.2 b (Nat.ne_of_lt (Heap.lt_size e))).trans (Heap.get?_push_of_some _ e)
    refine ⟨(G.lim.keeps kb).keeps keep, codeK_func ?_⟩
    let env : Env := envOf d.name d.scope s.heap.objs.size a code
    let C : Cx := ⟨A.deeper env, env, s.heap, [], ro⟩
    have ok : CxOk B C := ⟨kb, by simp [C], hL, hsc.2.2.1, rfl, rfl, fun p m => ⟨pre p m, by simp [C]⟩⟩
    have M : Mono s.heap h₁ := Mono.keep keep
    have keys : ((names.zip args ++ others.map (·, PV.any)).map Prod.fst) = names ++ others := by
      rw [List.map_append, map_zip_fst hlen, List.map_map]
      congr 1
      exact List.map_id _
    have rel : Rel C ⟨names.zip args ++ others.map (·, .any), []⟩ h₁ := {
      keep := fun b o e _ => keep b o e
      loc := ⟨_, ns, fun p m => by
        rcases List.mem_append.mp m with m | m
        · exact .inr (zip_lookup (List.nodup_append.mp lk.2).1 (ia.mono M) (d := p.2) m)
        · obtain ⟨x, _, e⟩ := List.mem_map.mp m
          exact .inl (by rw [← e])⟩
      kinds := fun p m => by
        refine lk.1 p.1 ?_
        rw [← keys]; exact List.mem_map_of_mem m
      lnd := by show (List.map Prod.fst _).Nodup; rw [keys]; exact lk.2
      own := by simp
      nd := by simp
      apart := by simp
      wtup := by simp [C]
      wlive := by simp [C] }
    have run := h C ok rfl ⟨by show A.depth + 1 + n ≤ 900; have := room.1; (first | decide | lia | omega), by show A.units + 3 + 40 * n ≤ 9000; have := room.2.1; (first | decide | lia | omega), room.2.2⟩ rfl rfl
    have fin : ∀ (v : Value) (s' : Shared) (dd : PV) (S' : St), Post C ⟨names.zip args ++ others.map (·, .any), []⟩ { s with heap := h₁, toks := s.toks + (names.zip vs).length } s' S' → Is s'.heap dd v → (∃ post, post.Sublist S'.own ∧ Q dd post) →
        FOut s [] Q v s' := by
      rintro v s' dd S' p i ⟨post, sub, q⟩
      exact ⟨dd, post, ⟨p.gens, p.os, fun b o e m => p.rel.keep b o e m, fun x m => p.rel.own x (sub.subset m), (sub.map Prod.fst).nodup p.rel.nd, fun x m => p.rel.apart x (sub.subset m)⟩, i, q⟩
    refine KT.run (s := { s with heap := h₁, toks := s.toks + (names.zip vs).length }) run rel (by show s.toks + _ ≠ 0; (first | decide | lia | omega)) fun f s' dd S' ht' p i q => ?_
    cases dd <;> cases f <;> first | exact i.elim | exact q.elim | skip
    · exact ⟨_, rfl, fin .none s' .none S' p .none q⟩
    · exact ⟨_, rfl, fin _ s' _ S' p i q⟩
end
end
section
open PySem PyProof.Rows PySem.Calls
noncomputable def tri (a : Int × Int × Int) : PV := .tup [.int a.1, .int a.2.1, .int a.2.2]
noncomputable def tlt (a b : Int × Int × Int) : Bool := decide (a.1 < b.1 ∨ (a.1 = b.1 ∧ (a.2.1 < b.2.1 ∨ (a.2.1 = b.2.1 ∧ a.2.2 < b.2.2))))
open Builtin Builtin.Tuple in
theorem tuple_lt_eq (x y : Value) : «tuple.__lt__» ⟨[x, y], []⟩ = (do
    if !(← isInstance y (.type "tuple")) then return ← ret .notImplemented
    let xs ← tupleItemsOf x
    let ys ← tupleItemsOf y
    for (x, y) in xs.toList.zip ys.toList do
      if !(← eqBool x y) then
        rule "tuple.compare.by-the-first-pair-that-differs"; return ← ret (← richCompare .Lt x y)
    ret (tupleCompareSizes .Lt xs.size ys.size)) := rfl
section
variable {prog : Program} {w : World} {A : Around} {s : Shared} {B : Heap} {mg mb : Str → Option Value} {C : Cx} {S : St} {sc : Scope}
theorem Is.tup_inv {h : Heap} {l : List PV} {v : Value} (x : Is h (.tup l) v) : ∃ a vs, v = .ref a ∧ IsTup h a vs.toArray ∧ IsAll h l vs := by
  cases x with | tup t ia => exact ⟨_, _, rfl, t, ia⟩
theorem is_tri {h : Heap} {a : Int × Int × Int} {v : Value} (i : Is h (tri a) v) : ∃ ad t₁ t₂ t₃, v = .ref ad ∧ IsTup h ad #[.int a.1 t₁, .int a.2.1 t₂, .int a.2.2 t₃] ∧ t₁ ≠ 0 ∧ t₂ ≠ 0 ∧ t₃ ≠ 0 := by
  obtain ⟨ad, vs, rfl, t, ia⟩ := Is.tup_inv (l := [.int a.1, .int a.2.1, .int a.2.2]) i
  obtain ⟨v1, r1, rfl, i1, ia1⟩ := ia.cons_inv
  obtain ⟨v2, r2, rfl, i2, ia2⟩ := ia1.cons_inv
  obtain ⟨v3, r3, rfl, i3, ia3⟩ := ia2.cons_inv
  obtain rfl := ia3.nil_inv
  obtain ⟨t1, n1, rfl⟩ := i1.int_inv
  obtain ⟨t2, n2, rfl⟩ := i2.int_inv
  obtain ⟨t3, n3, rfl⟩ := i3.int_inv
  exact ⟨ad, t1, t2, t3, rfl, t, n1, n2, n3⟩
theorem tri_lt {E : Value → Shared → Prop} {x y : Int × Int × Int} {a b : Addr} {t₁ t₂ t₃ u₁ u₂ u₃ : Tok} {Q : Value → Shared → Prop} (hu : A.units + 64 < cLine) (ta : IsTup s.heap a #[.int x.1 t₁, .int x.2.1 t₂, .int x.2.2 t₃]) (tb : IsTup s.heap b #[.int y.1 u₁, .int y.2.1 u₂, .int y.2.2 u₃])
    (h : Q (.bool (tlt x y)) s) : wpAny (model prog w) A (compareOp .Lt (.ref a) (.ref b)) Q E s := by
  obtain ⟨oa, ga, ca, na, da⟩ := ta
  obtain ⟨ob, gb, cb, nb, db⟩ := tb
  have Ta : s.TypeIs (.ref a) "tuple" := ⟨_, ga, ca⟩
  have Tb : s.TypeIs (.ref b) "tuple" := ⟨_, gb, cb⟩
  show wpAny _ _ (richCompare .Lt (.ref a) (.ref b)) _ _ s
  refine wpAny_richCompare_same_room Ta Tb F.slot_tuple_lt (wpAny_call_entry F.slot_tuple_lt Ta F.entry_tuple_lt ?_ (F.args_tuple_lt_2 _ _)) (by (first | decide | lia | omega))
  rw [tuple_lt_eq]
  refine wpAny_bind (wpAny_isInstance Tb F.sub_tuple_tuple ?_)
  rw [if_neg (by decide)]
  refine wpAny_bind (wpAny_tupleItemsOf ga da (wpAny_bind (wpAny_tupleItemsOf gb db ?_)))
  refine wpAny_bind ?_
  show wpAny _ _ (forIn [((Value.int x.1 t₁, Value.int y.1 u₁) : Value × Value), (Value.int x.2.1 t₂, Value.int y.2.1 u₂), (Value.int x.2.2 t₃, Value.int y.2.2 u₃)] _ _) _ _ s
  have rl : ∀ (p q : Int) (t u : Tok) {Q : Value → Shared → Prop}, Q (.bool (decide (p < q))) s → wpAny (model prog w) A.in1 (richCompare .Lt (.int p t) (.int q u)) Q E s := fun p q t u Q h =>
    (show wpAny (model prog w) A.in1 (compareOp .Lt (.int p t) (.int q u)) Q E s from PyProof.Rows.lt_int h)
  have fin : ∀ c : Bool, c = tlt x y → ∃ v, (Fin.done (Flow.ret (Value.bool c))) = Fin.done (Flow.ret v) ∧ v ≠ Value.notImplemented ∧ Q v s := fun c e => ⟨_, rfl, (by intro z; cases z), e ▸ h⟩
  rw [List.forIn_cons]
  refine wpAny_bind (wpAny_bind (wpAny_eqBool_int ?_))
  by_cases e1 : x.1 = y.1
  · rw [if_neg (by simp [e1])]
    refine wpAny_pure ?_
    show wpAny _ _ (forIn [((Value.int x.2.1 t₂, Value.int y.2.1 u₂) : Value × Value), (Value.int x.2.2 t₃, Value.int y.2.2 u₃)] _ _) _ _ s
    rw [List.forIn_cons]
    refine wpAny_bind (wpAny_bind (wpAny_eqBool_int ?_))
    by_cases e2 : x.2.1 = y.2.1
    · rw [if_neg (by simp [e2])]
      refine wpAny_pure ?_
      show wpAny _ _ (forIn [((Value.int x.2.2 t₃, Value.int y.2.2 u₃) : Value × Value)] _ _) _ _ s
      rw [List.forIn_cons]
      refine wpAny_bind (wpAny_bind (wpAny_eqBool_int ?_))
      by_cases e3 : x.2.2 = y.2.2
      · rw [if_neg (by simp [e3])]
        refine wpAny_pure ?_
        show wpAny _ _ (forIn ([] : List (Value × Value)) _ _) _ _ s
        rw [List.forIn_nil]
        exact wpAny_pure (wpAny_pure (fin false (by simp [tlt, e1, e2, e3])))
      · rw [if_pos (by simp [e3])]
        refine wpAny_bind (wpAny_rule ?_)
        refine wpAny_bind (rl _ _ _ _ ?_)
        refine wpAny_bind (wpAny_pure ?_)
        refine wpAny_pure ?_
        refine wpAny_pure ?_
        exact wpAny_pure (fin _ (by simp [tlt, e1, e2]))
    · rw [if_pos (by simp [e2])]
      refine wpAny_bind (wpAny_rule ?_)
      refine wpAny_bind (rl _ _ _ _ ?_)
      refine wpAny_bind (wpAny_pure ?_)
      refine wpAny_pure ?_
      refine wpAny_pure ?_
      exact wpAny_pure (fin _ (by simp [tlt, e1, e2]))
  · rw [if_pos (by simp [e1])]
    refine wpAny_bind (wpAny_rule ?_)
    refine wpAny_bind (rl _ _ _ _ ?_)
    refine wpAny_bind (wpAny_pure ?_)
    refine wpAny_pure ?_
    refine wpAny_pure ?_
    exact wpAny_pure (fin _ (by simp [tlt, e1]))
theorem WB_tlt {l r : Expr} {pos : Pos} {K : Bool → St → Prop} (hu : C.A.units + 64 < cLine) (h : WE prog w C l S fun a S₁ => WE prog w C r S₁ fun b S₂ => ∃ x y, a = tri x ∧ b = tri y ∧ K (tlt x y) S₂)
    (hm : behindInMarks .Lt r = false) : WB prog w C (.Compare l [.Lt] [r] pos) S K :=
  fun s rl ht => wpAny_isTrue_Compare1 (h.run rl ht fun v₁ s₁ d₁ S₁ ht₁ p₁ i₁ k₁ => WT.run k₁ p₁.rel ht₁ fun v₂ s₂ d₂ S₂ ht₂ p₂ i₂ k₂ => by
    obtain ⟨x, y, e1, e2, kk⟩ := k₂
    subst e1; subst e2
    obtain ⟨a, _, _, _, rfl, ta, _⟩ := is_tri (i₁.mono (p₂.mono p₁.rel))
    obtain ⟨b, _, _, _, rfl, tb, _⟩ := is_tri i₂
    exact tri_lt hu ta tb (wpAny_truthy_bool ⟨_, S₂, p₁.trans p₂, rfl, kk⟩)) hm
/-! lists and tuples compared for unlikeness -/
noncomputable def dat (a : Int × Int × Int) : PyData := .tuple [.int a.1, .int a.2.1, .int a.2.2]
theorem reads_tri {h : Heap} {a : Int × Int × Int} {v : Value} (i : Is h (tri a) v) : ∃ as, Reads h v (dat a) as := by
  obtain ⟨ad, _, _, _, rfl, ⟨o, g, c, n, d⟩, _⟩ := is_tri i
  exact ⟨_, reads_tuple_at g c d (readsAll_cons_val (.int _ _) (readsAll_cons_val (.int _ _) (readsAll_cons_val (.int _ _) .nil)))⟩
theorem reads_tris {h : Heap} : ∀ {l : List (Int × Int × Int)} {vs : List Value}, IsAll h (l.map tri) vs → ∃ as, ReadsAll h vs (l.map dat) as
  | [], _, .nil => ⟨_, .nil⟩
  | a :: l, _, .cons i r => by
    obtain ⟨as, r1⟩ := reads_tri i
    obtain ⟨bs, r2⟩ := reads_tris r
    exact ⟨_, .cons r1 r2⟩
theorem canLay_tris : ∀ l : List (Int × Int × Int), PyData.canLayAll0 (l.map dat) = true
  | [] => rfl
  | a :: l => by
    simp only [List.map_cons, PyData.canLayAll0, Bool.and_eq_true]
    exact ⟨rfl, canLay_tris l⟩
theorem depth_tris : ∀ l : List (Int × Int × Int), PyData.depthAll (l.map dat) ≤ 4
  | [] => by simp [PyData.depthAll]
  | a :: l => by
    have := depth_tris l
    simp only [List.map_cons, PyData.depthAll, dat, PyData.depth]
    (first | decide | lia | omega)
theorem shaped_tris (l : List (Int × Int × Int)) : SeqAt.shaped (.list (l.map dat)) = true := by
  have h1 := depth_tris l
  show (PyData.canLay0 (.list (l.map dat)) && decide (PyData.depth (.list (l.map dat)) ≤ 64)) = true
  rw [Bool.and_eq_true]
  refine ⟨by simp only [PyData.canLay0]; exact canLay_tris l, decide_eq_true ?_⟩
  simp only [PyData.depth]; (first | decide | lia | omega)
/-- a list of triples against the empty list -/
theorem WB_lne {l r : Expr} {pos : Pos} {K : Bool → St → Prop} (k : CxOk B C) (hu : C.A.units + 64 < cLine) (h : WE prog w C l S fun a S₁ => WE prog w C r S₁ fun b S₂ => ∃ (x y : Addr) (ts : List (Int × Int × Int)), a = .ref x ∧ b = .ref y ∧ Has C S₂ x (.list (ts.map tri)) ∧ Has C S₂ y (.list []) ∧ K (decide (ts ≠ [])) S₂)
    (hm : behindInMarks .NotEq r = false) : WB prog w C (.Compare l [.NotEq] [r] pos) S K :=
  fun s rl ht => wpAny_isTrue_Compare1 (h.run rl ht fun v₁ s₁ d₁ S₁ ht₁ p₁ i₁ k₁ => WT.run k₁ p₁.rel ht₁ fun v₂ s₂ d₂ S₂ ht₂ p₂ i₂ k₂ => by
    obtain ⟨x, y, ts, e1, e2, hx, hy, kk⟩ := k₂
    subst e1; subst e2
    cases i₁; cases i₂
    obtain ⟨vs, n, g, ia⟩ := p₂.rel.has k hx
    obtain ⟨us, n', g', ia'⟩ := p₂.rel.has k hy
    obtain ⟨as, ra⟩ := reads_tris ia
    obtain ⟨bs, rb⟩ := reads_tris (l := []) ia'
    refine ne_dataH (reads_list_at g rfl rfl ra) (reads_list_at g' rfl rfl rb) (shaped_tris ts) (shaped_tris []) hu ?_
    have e : (!PyData.eqv (.list (ts.map dat)) (.list (([] : List (Int × Int × Int)).map dat))) = decide (ts ≠ []) := by
      cases ts <;> simp [PyData.eqv, PyData.eqvAll]
    rw [e]
    exact wpAny_truthy_bool ⟨_, S₂, p₁.trans p₂, rfl, kk⟩) hm
theorem eqv_dat (a b : Int × Int × Int) : (!PyData.eqv (dat a) (dat b)) = decide (a ≠ b) := by
  obtain ⟨a1, a2, a3⟩ := a
  obtain ⟨b1, b2, b3⟩ := b
  rw [Bool.eq_iff_iff]
  simp [dat, PyData.eqv, PyData.eqvAll]
theorem WB_tne {l r : Expr} {pos : Pos} {K : Bool → St → Prop} (hu : C.A.units + 64 < cLine) (h : WE prog w C l S fun a S₁ => WE prog w C r S₁ fun b S₂ => ∃ x y, a = tri x ∧ b = tri y ∧ K (decide (x ≠ y)) S₂)
    (hm : behindInMarks .NotEq r = false) : WB prog w C (.Compare l [.NotEq] [r] pos) S K :=
  fun s rl ht => wpAny_isTrue_Compare1 (h.run rl ht fun v₁ s₁ d₁ S₁ ht₁ p₁ i₁ k₁ => WT.run k₁ p₁.rel ht₁ fun v₂ s₂ d₂ S₂ ht₂ p₂ i₂ k₂ => by
    obtain ⟨x, y, e1, e2, kk⟩ := k₂
    subst e1; subst e2
    obtain ⟨as, ra⟩ := reads_tri (i₁.mono (p₂.mono p₁.rel))
    obtain ⟨bs, rb⟩ := reads_tri i₂
    refine ne_dataH ra rb (by rfl) (by rfl) hu ?_
    rw [eqv_dat]
    exact wpAny_truthy_bool ⟨_, S₂, p₁.trans p₂, rfl, kk⟩) hm
theorem intsAre {h : Heap} {ns : List Int} {vs : List Value} (ia : IsAll h (ns.map .int) vs) : IntsAre vs ns := by
  obtain ⟨xs, e1, e2⟩ := ints_pairs ia
  rw [e1, ← e2]
  clear e1 e2 ia
  induction xs with
  | nil => exact .nil
  | cons x r ih => exact .cons _ _ ih
theorem WB_ilne {l r : Expr} {pos : Pos} {K : Bool → St → Prop} (k : CxOk B C) (hu : C.A.units + 64 < cLine) (h : WE prog w C l S fun a S₁ => WE prog w C r S₁ fun b S₂ => ∃ (x y : Addr) (ns ms : List Int), a = .ref x ∧ b = .ref y ∧ Has C S₂ x (.list (ns.map .int)) ∧ Has C S₂ y (.list (ms.map .int)) ∧ K (!decide (ns = ms)) S₂)
    (hm : behindInMarks .NotEq r = false) : WB prog w C (.Compare l [.NotEq] [r] pos) S K :=
  fun s rl ht => wpAny_isTrue_Compare1 (h.run rl ht fun v₁ s₁ d₁ S₁ ht₁ p₁ i₁ k₁ => WT.run k₁ p₁.rel ht₁ fun v₂ s₂ d₂ S₂ ht₂ p₂ i₂ k₂ => by
    obtain ⟨x, y, ns, ms, e1, e2, hx, hy, kk⟩ := k₂
    subst e1; subst e2
    cases i₁; cases i₂
    obtain ⟨vs, n, g, ia⟩ := p₂.rel.has k hx
    obtain ⟨us, n', g', ia'⟩ := p₂.rel.has k hy
    exact PySem.W.ne_intsK (vs := vs.toList) (us := us.toList) ⟨_, g, rfl, n, rfl⟩ (intsAre ia) ⟨_, g', rfl, n', rfl⟩ (intsAre ia') hu (wpAny_truthy_bool ⟨_, S₂, p₁.trans p₂, rfl, kk⟩)) hm
end
end
section
open PySem PyProof.Rows PySem.Calls PySem.W
/-! the sort's tree of questions under a strict order -/
noncomputable def TreeOk {α : Type} (n : Nat) (lt : Nat → Nat → Bool) : KasT α → (α → Prop) → Prop
  | .ret a, P => P a
  | .ask i j k, P => i < n ∧ j < n ∧ TreeOk n lt (k (lt i j)) P
theorem TreeOk.bind {α β : Type} {n : Nat} {lt : Nat → Nat → Bool} {f : α → KasT β} {P : β → Prop} : ∀ (t : KasT α), TreeOk n lt t (fun a => TreeOk n lt (f a) P) → TreeOk n lt (t.bind f) P
  | .ret a, h => h
  | .ask i j k, h => ⟨h.1, h.2.1, TreeOk.bind (k (lt i j)) h.2.2⟩
theorem TreeOk.mono {α : Type} {n : Nat} {lt : Nat → Nat → Bool} {P P' : α → Prop} (hp : ∀ a, P a → P' a) : ∀ (t : KasT α), TreeOk n lt t P → TreeOk n lt t P'
  | .ret a, h => hp a h
  | .ask i j k, h => ⟨h.1, h.2.1, TreeOk.mono hp (k (lt i j)) h.2.2⟩
theorem TreeOk.wp {α : Type} {n : Nat} {lt : Nat → Nat → Bool} {P : α → Prop} {cmp : Nat → Nat → (Bool → Shared → Prop) → Shared → Prop} {Q : α → Shared → Prop} {s : Shared}
    (hc : ∀ i j (C : Bool → Shared → Prop), i < n → j < n → C (lt i j) s → cmp i j C s) (hq : ∀ a, P a → Q a s) : ∀ (t : KasT α), TreeOk n lt t P → t.kasWp cmp Q s
  | .ret a, h => hq a h
  | .ask i j k, h => hc i j _ h.1 h.2.1 (TreeOk.wp hc hq (k (lt i j)) h.2.2)
noncomputable def gd (p : Array Nat) (i : Nat) : Nat := p.getD i 0
theorem gd_of {p q : Array Nat} {i j : Nat} (h : p[i]? = q[j]?) : gd p i = gd q j := by
  unfold gd; rw [Array.getD_eq_getD_getElem?, Array.getD_eq_getD_getElem?, h]
structure StrictOrd (n : Nat) (lt : Nat → Nat → Bool) : Prop where
  irr : ∀ i, i < n → lt i i = false
  tot : ∀ i j, i < n → j < n → i ≠ j → lt i j = !lt j i
  tr : ∀ i j k, i < n → j < n → k < n → lt i j = true → lt j k = true → lt i k = true
structure PermN (n : Nat) (p : Array Nat) : Prop where
  size : p.size = n
  perm : p.toList.Perm (List.range n)
theorem PermN.lt {n : Nat} {p : Array Nat} (h : PermN n p) {i : Nat} (hi : i < n) : gd p i < n := by
  have hi' : i < p.size := by rw [h.size]; exact hi
  have : p[i] ∈ p.toList := by simp
  have := (h.perm.mem_iff).mp this
  unfold gd
  simp only [Array.getD, hi', dif_pos]
  exact List.mem_range.mp this
theorem PermN.inj {n : Nat} {p : Array Nat} (h : PermN n p) {i j : Nat} (hi : i < n) (hj : j < n) (ne : i ≠ j) : gd p i ≠ gd p j := by
  have hi' : i < p.toList.length := by simp [h.size, hi]
  have hj' : j < p.toList.length := by simp [h.size, hj]
  have nd : p.toList.Nodup := h.perm.nodup_iff.mpr List.nodup_range
  have e1 : gd p i = p.toList[i] := by unfold gd; simp [Array.getD, h.size, hi]
  have e2 : gd p j = p.toList[j] := by unfold gd; simp [Array.getD, h.size, hj]
  rw [e1, e2]
  intro e
  exact ne ((List.getElem_inj nd).mp e)
theorem PermN.of {n : Nat} {p q : Array Nat} (h : PermN n p) (e : q.Perm p) : PermN n q := ⟨e.size_eq.trans h.size, (Array.perm_iff_toList_perm.mp e).trans h.perm⟩
section
variable {n : Nat} {lt : Nat → Nat → Bool} (O : StrictOrd n lt)
noncomputable def Asc (lt : Nat → Nat → Bool) (p : Array Nat) (m : Nat) : Prop := ∀ i j, i < j → j < m → lt (gd p i) (gd p j) = true
noncomputable def Dsc (lt : Nat → Nat → Bool) (p : Array Nat) (m : Nat) : Prop := ∀ i j, i < j → j < m → lt (gd p j) (gd p i) = true
include O
theorem Asc.snoc {p : Array Nat} {m : Nat} (hp : PermN n p) (h : Asc lt p m) (h1 : 1 ≤ m) (hm : m < n) (hl : lt (gd p (m - 1)) (gd p m) = true) : Asc lt p (m + 1) := by
  intro i j hij hj
  by_cases e : j = m
  · subst e
    by_cases e' : i = j - 1
    · subst e'; exact hl
    · exact O.tr _ _ _ (hp.lt (by (first | decide | lia | omega))) (hp.lt (by (first | decide | lia | omega))) (hp.lt hm) (h i (j - 1) (by (first | decide | lia | omega)) (by (first | decide | lia | omega))) hl
  · exact h i j hij (by (first | decide | lia | omega))
theorem Dsc.snoc {p : Array Nat} {m : Nat} (hp : PermN n p) (h : Dsc lt p m) (h1 : 1 ≤ m) (hm : m < n) (hl : lt (gd p m) (gd p (m - 1)) = true) : Dsc lt p (m + 1) := by
  intro i j hij hj
  by_cases e : j = m
  · subst e
    by_cases e' : i = j - 1
    · subst e'; exact hl
    · exact O.tr _ _ _ (hp.lt hm) (hp.lt (by (first | decide | lia | omega))) (hp.lt (by (first | decide | lia | omega))) hl (h i (j - 1) (by (first | decide | lia | omega)) (by (first | decide | lia | omega)))
  · exact h i j hij (by (first | decide | lia | omega))
theorem asc_ok {p : Array Nat} (hp : PermN n p) : ∀ (f m : Nat), 1 ≤ m → m + f ≤ n → Asc lt p m → TreeOk n lt (kas_asc p f m) fun r => m ≤ r ∧ r ≤ m + f ∧ Asc lt p r ∧ (r < m + f → lt (gd p r) (gd p (r - 1)) = true)
  | 0, m, h1, hf, ha => by
    unfold kas_asc
    exact ⟨Nat.le_refl _, Nat.le_refl _, ha, fun h => by (first | decide | lia | omega)⟩
  | f + 1, m, h1, hf, ha => by
    unfold kas_asc
    refine ⟨hp.lt (by (first | decide | lia | omega)), hp.lt (by (first | decide | lia | omega)), ?_⟩
    show TreeOk n lt (if lt (gd p m) (gd p (m - 1)) = true then _ else _) _
    by_cases c : lt (gd p m) (gd p (m - 1)) = true
    · rw [if_pos c]
      exact ⟨Nat.le_refl _, by (first | decide | lia | omega), ha, fun _ => c⟩
    · rw [if_neg c]
      have hl : lt (gd p (m - 1)) (gd p m) = true := by
        rw [O.tot _ _ (hp.lt (by (first | decide | lia | omega))) (hp.lt (by (first | decide | lia | omega))) (hp.inj (by (first | decide | lia | omega)) (by (first | decide | lia | omega)) (by (first | decide | lia | omega)))]
        simpa using c
      exact TreeOk.mono (fun r ⟨a, b, c, d⟩ => ⟨by (first | decide | lia | omega), by (first | decide | lia | omega), c, fun h => d (by (first | decide | lia | omega))⟩) _ (asc_ok hp f (m + 1) (by (first | decide | lia | omega)) (by (first | decide | lia | omega)) (ha.snoc O hp h1 (by (first | decide | lia | omega)) hl))
theorem desc_ok {p : Array Nat} (hp : PermN n p) : ∀ (f m : Nat), 1 ≤ m → m + f ≤ n → Dsc lt p m → TreeOk n lt (kas_desc f p m 0) fun r => r.1 = p ∧ r.2.2 = 0 ∧ m ≤ r.2.1 ∧ r.2.1 ≤ m + f ∧ Dsc lt p r.2.1
  | 0, m, h1, hf, ha => by
    unfold kas_desc
    exact ⟨rfl, rfl, Nat.le_refl _, Nat.le_refl _, ha⟩
  | f + 1, m, h1, hf, ha => by
    unfold kas_desc
    refine ⟨hp.lt (by (first | decide | lia | omega)), hp.lt (by (first | decide | lia | omega)), ?_⟩
    show TreeOk n lt (if lt (gd p m) (gd p (m - 1)) = true then _ else _) _
    by_cases c : lt (gd p m) (gd p (m - 1)) = true
    · rw [if_pos c, if_neg (by (first | decide | lia | omega))]
      exact TreeOk.mono (fun r ⟨a, b, c, d, e⟩ => ⟨a, b, by (first | decide | lia | omega), by (first | decide | lia | omega), e⟩) _ (desc_ok hp f (m + 1) (by (first | decide | lia | omega)) (by (first | decide | lia | omega)) (ha.snoc O hp h1 (by (first | decide | lia | omega)) c))
    · rw [if_neg c]
      have hl : lt (gd p (m - 1)) (gd p m) = true := by
        rw [O.tot _ _ (hp.lt (by (first | decide | lia | omega))) (hp.lt (by (first | decide | lia | omega))) (hp.inj (by (first | decide | lia | omega)) (by (first | decide | lia | omega)) (by (first | decide | lia | omega)))]
        simpa using c
      refine ⟨hp.lt (by (first | decide | lia | omega)), hp.lt (by (first | decide | lia | omega)), ?_⟩
      show TreeOk n lt (if lt (gd p (m - 1)) (gd p m) = true then _ else _) _
      rw [if_pos hl]
      exact ⟨rfl, rfl, Nat.le_refl _, Nat.le_add_right _ _, ha⟩
theorem rev_perm {p : Array Nat} (hp : PermN n p) (i j : Nat) : PermN n (kas_rev p i j) := hp.of (mirror_perm _ _ _ _)
theorem rev_gd {p : Array Nat} (hp : PermN n p) {m k : Nat} (hm : m ≤ n) (hk : k < m) : gd (kas_rev p 0 m) k = gd p (m - 1 - k) := by
  refine gd_of ?_
  unfold kas_rev
  rw [getElem?_mirror_all (by rw [hp.size]; exact hm) k, if_pos (by (first | decide | lia | omega))]
  congr 1; (first | decide | lia | omega)
theorem tail_ok {p : Array Nat} (hp : PermN n p) {m : Nat} (h1 : 1 ≤ m) (hm : m ≤ n) (hd : Dsc lt p m) : TreeOk n lt (kas_tail3 m n p) fun r => 1 ≤ r.1 ∧ r.1 ≤ n ∧ PermN n r.2 ∧ Asc lt r.2 r.1 := by
  unfold kas_tail3
  have hr := rev_perm O hp 0 m
  have ha : Asc lt (kas_rev p 0 m) m := by
    intro i j hij hj
    rw [rev_gd O hp hm (by (first | decide | lia | omega)), rev_gd O hp hm (by (first | decide | lia | omega))]
    exact hd _ _ (by (first | decide | lia | omega)) (by (first | decide | lia | omega))
  refine TreeOk.bind _ (TreeOk.mono (fun r ⟨a, b, c, d⟩ => ⟨by (first | decide | lia | omega), by (first | decide | lia | omega), hr, c⟩) _ (asc_ok O hr (n - m) m h1 (by (first | decide | lia | omega)) ha))
theorem count_ok {p : Array Nat} (hp : PermN n p) (h2 : 2 ≤ n) : TreeOk n lt (kas_count n p) fun r => 1 ≤ r.1 ∧ r.1 ≤ n ∧ PermN n r.2 ∧ Asc lt r.2 r.1 := by
  unfold kas_count
  refine TreeOk.bind _ (TreeOk.mono ?_ _ (asc_ok O hp (n - 1) 1 (Nat.le_refl _) (by (first | decide | lia | omega)) (fun i j a b => by (first | decide | lia | omega))))
  rintro m ⟨a, b, c, d⟩
  by_cases e : m = n
  · rw [if_pos (by simpa using e)]
    exact ⟨by (first | decide | lia | omega), by (first | decide | lia | omega), hp, c⟩
  · rw [if_neg (by simpa using e)]
    by_cases e2 : m > 1
    · rw [if_pos e2]
      refine ⟨hp.lt (by (first | decide | lia | omega)), hp.lt (by (first | decide | lia | omega)), ?_⟩
      show TreeOk n lt (if lt (gd p 0) (gd p (m - 1)) = true then _ else _) _
      rw [if_pos (c 0 (m - 1) (by (first | decide | lia | omega)) (by (first | decide | lia | omega)))]
      exact ⟨by (first | decide | lia | omega), by (first | decide | lia | omega), hp, c⟩
    · rw [if_neg e2]
      have e3 : m = 1 := by (first | decide | lia | omega)
      subst e3
      unfold kas_descPart
      have d0 := d (by (first | decide | lia | omega))
      refine TreeOk.bind _ (TreeOk.mono ?_ _ (desc_ok O hp (n - 2) 2 (by (first | decide | lia | omega)) (by (first | decide | lia | omega)) (fun i j x y => by
        have : i = 0 := by (first | decide | lia | omega)
        have : j = 1 := by (first | decide | lia | omega)
        subst i; subst j; exact d0)))
      rintro ⟨q, m', z⟩ ⟨rfl, rfl, a', b', c'⟩
      rw [if_neg (by simp)]
      dsimp only at a' b' c' ⊢
      exact tail_ok O hp (by (first | decide | lia | omega)) (by (first | decide | lia | omega)) c'
theorem place_ok {p : Array Nat} (hp : PermN n p) {k : Nat} (hk : k < n) (ha : Asc lt p k) : ∀ (f l r : Nat), l ≤ r → r ≤ k → r - l ≤ f → (∀ i, i < l → lt (gd p i) (gd p k) = true) → (∀ i, r ≤ i → i < k → lt (gd p k) (gd p i) = true) →
    TreeOk n lt (kas_place p k f l r) fun x => x ≤ k ∧ (∀ i, i < x → lt (gd p i) (gd p k) = true) ∧ (∀ i, x ≤ i → i < k → lt (gd p k) (gd p i) = true)
  | 0, l, r, hlr, hr, hf, h1, h2 => by
    unfold kas_place
    have : l = r := by (first | decide | lia | omega)
    subst this
    exact ⟨hr, h1, h2⟩
  | f + 1, l, r, hlr, hr, hf, h1, h2 => by
    unfold kas_place
    by_cases e : l ≥ r
    · rw [if_pos e]
      have : l = r := by (first | decide | lia | omega)
      subst this
      exact ⟨hr, h1, h2⟩
    · rw [if_neg e]
      refine ⟨hp.lt hk, hp.lt (by (first | decide | lia | omega)), ?_⟩
      show TreeOk n lt (if lt (gd p k) (gd p ((l + r) / 2)) = true then _ else _) _
      by_cases c : lt (gd p k) (gd p ((l + r) / 2)) = true
      · rw [if_pos c]
        refine place_ok hp hk ha f l ((l + r) / 2) (by (first | decide | lia | omega)) (by (first | decide | lia | omega)) (by (first | decide | lia | omega)) h1 fun i x y => ?_
        by_cases z : i = (l + r) / 2
        · subst z; exact c
        · exact O.tr _ _ _ (hp.lt hk) (hp.lt (by (first | decide | lia | omega))) (hp.lt (by (first | decide | lia | omega))) c (ha _ _ (by (first | decide | lia | omega)) y)
      · rw [if_neg c]
        have hl : lt (gd p ((l + r) / 2)) (gd p k) = true := by
          rw [O.tot _ _ (hp.lt (by (first | decide | lia | omega))) (hp.lt hk) (hp.inj (by (first | decide | lia | omega)) hk (by (first | decide | lia | omega)))]
          simpa using c
        refine place_ok hp hk ha f ((l + r) / 2 + 1) r (by (first | decide | lia | omega)) hr (by (first | decide | lia | omega)) (fun i x => ?_) h2
        by_cases z : i = (l + r) / 2
        · subst z; exact hl
        · exact O.tr _ _ _ (hp.lt (by (first | decide | lia | omega))) (hp.lt (by (first | decide | lia | omega))) (hp.lt hk) (ha _ _ (by (first | decide | lia | omega)) (by (first | decide | lia | omega))) hl
theorem bubble_gd {p : Array Nat} (hp : PermN n p) {k d i : Nat} (hk : k < n) (hd : d ≤ k) : gd (bubble p k d) i = if i = k - d then gd p k else if k - d < i ∧ i ≤ k then gd p (i - 1) else gd p i := by
  have e := getElem?_bubble (xs := p) (src := k) (by rw [hp.size]; exact hk) d hd i
  split at e
  · rename_i h; rw [if_pos h]; exact gd_of e
  · rename_i h
    rw [if_neg h]
    split at e
    · rename_i h'; rw [if_pos h']; exact gd_of e
    · rename_i h'; rw [if_neg h']; exact gd_of e
theorem bin_ok : ∀ (f : Nat) (p : Array Nat) (k : Nat), PermN n p → k + f = n → Asc lt p k → TreeOk n lt (kas_bin f p k) fun q => PermN n q ∧ Asc lt q n
  | 0, p, k, hp, hk, ha => by
    unfold kas_bin
    have : k = n := by (first | decide | lia | omega)
    subst this
    exact ⟨hp, ha⟩
  | f + 1, p, k, hp, hk, ha => by
    unfold kas_bin
    refine TreeOk.bind _ (TreeOk.mono ?_ _ (place_ok O hp (by (first | decide | lia | omega)) ha k 0 k (by (first | decide | lia | omega)) (Nat.le_refl _) (by (first | decide | lia | omega)) (fun i x => by (first | decide | lia | omega)) (fun i x y => by (first | decide | lia | omega))))
    rintro x ⟨hx, h1, h2⟩
    refine bin_ok f _ (k + 1) (hp.of (bubble_perm _ _ _)) (by (first | decide | lia | omega)) ?_
    intro i j hij hj
    have g : ∀ i, gd (bubble p k (k - x)) i = if i = x then gd p k else if x < i ∧ i ≤ k then gd p (i - 1) else gd p i := fun i => by
      rw [bubble_gd O hp (by (first | decide | lia | omega)) (by (first | decide | lia | omega)), show k - (k - x) = x by (first | decide | lia | omega)]
    rw [g, g]
    by_cases c1 : i = x
    · rw [if_pos c1, if_neg (by (first | decide | lia | omega)), if_pos (by (first | decide | lia | omega))]
      exact h2 _ (by (first | decide | lia | omega)) (by (first | decide | lia | omega))
    · rw [if_neg c1]
      by_cases c2 : x < i ∧ i ≤ k
      · rw [if_pos c2, if_neg (by (first | decide | lia | omega)), if_pos (by (first | decide | lia | omega))]
        exact ha _ _ (by (first | decide | lia | omega)) (by (first | decide | lia | omega))
      · rw [if_neg c2]
        by_cases c3 : j = x
        · rw [if_pos c3]
          exact h1 _ (by (first | decide | lia | omega))
        · rw [if_neg c3]
          by_cases c4 : x < j ∧ j ≤ k
          · rw [if_pos c4]
            exact ha _ _ (by (first | decide | lia | omega)) (by (first | decide | lia | omega))
          · rw [if_neg c4]
            exact ha _ _ hij (by (first | decide | lia | omega))
theorem sort_ok (h2 : 2 ≤ n) : TreeOk n lt (kas_sort n) fun q => PermN n q ∧ Asc lt q n := by
  unfold kas_sort
  have hp : PermN n (List.toArray (List.range n)) := ⟨by simp, by simp⟩
  refine TreeOk.bind _ (TreeOk.mono ?_ _ (count_ok O hp h2))
  rintro ⟨m, q⟩ ⟨a, b, c, d⟩
  dsimp only at a b c d ⊢
  by_cases e : m < n
  · rw [if_pos e]
    exact bin_ok O _ _ _ c (by (first | decide | lia | omega)) (by rw [show max m 1 = m by (first | decide | lia | omega)]; exact d)
  · rw [if_neg e]
    have : m = n := by (first | decide | lia | omega)
    subst this
    exact ⟨c, d⟩
end
end
section
open PySem PyProof.Rows PySem.Calls PySem.W
noncomputable def pr (a : Int × Int) : PV := .tup [.int a.1, .int a.2]
noncomputable def plt (a b : Int × Int) : Bool := decide (a.1 < b.1 ∨ (a.1 = b.1 ∧ a.2 < b.2))
section
variable {prog : Program} {w : World} {A : Around} {s : Shared} {B : Heap} {mg mb : Str → Option Value} {C : Cx} {S : St} {sc : Scope} {E : Value → Shared → Prop}
theorem is_pr {h : Heap} {a : Int × Int} {v : Value} (i : Is h (pr a) v) : ∃ ad t₁ t₂, v = .ref ad ∧ IsTup h ad #[.int a.1 t₁, .int a.2 t₂] := by
  obtain ⟨ad, vs, rfl, t, ia⟩ := Is.tup_inv (l := [.int a.1, .int a.2]) i
  obtain ⟨v1, r1, rfl, i1, ia1⟩ := ia.cons_inv
  obtain ⟨v2, r2, rfl, i2, ia2⟩ := ia1.cons_inv
  obtain rfl := ia2.nil_inv
  obtain ⟨t1, n1, rfl⟩ := i1.int_inv
  obtain ⟨t2, n2, rfl⟩ := i2.int_inv
  exact ⟨ad, t1, t2, rfl, t⟩
/-- sorted(l): the heap's old objects stay -/
theorem sorted_run {l : Addr} {vs : List Value} {n₀ : Nat} {Q : Value → Shared → Prop} (hl : s.heap.get? l = some (seqObj "list" vs.toArray n₀)) (h64 : vs.length < 64)
    (ask : 2 ≤ vs.length → ∀ h' : Heap, (∀ b o, s.heap.get? b = some o → h'.get? b = some o) → wpAny (model prog w) A.in1.in1 (keyKind' vs.toArray) (fun κ s' => s' = { s with heap := h' } ∧ (kas_sort vs.length).kasWp (kas_ask prog w A.in1.in1 κ vs) (fun p s'' => s'' = { s with heap := h' } ∧
      ∀ D h'' e, s.heap.get? D = none → (∀ b o, s.heap.get? b = some o → h''.get? b = some o) → h''.get? D = some (seqObj "list" (List.toArray (p.toList.map fun i => vs.getD i Value.none)) e) → Q (.ref D) { s with heap := h'' }) { s with heap := h' }) (fun _ _ => False) { s with heap := h' })
    (few : vs.length < 2 → ∀ D h'' e, s.heap.get? D = none → (∀ b o, s.heap.get? b = some o → h''.get? b = some o) → h''.get? D = some (seqObj "list" vs.toArray e) → Q (.ref D) { s with heap := h'' }) :
    wpAny (model prog w) A (call (.builtin "sorted") [.ref l]) Q E s := by
  refine Calls.call_function_entry kind_sorted plain_sorted entry_sorted (args_sorted1 _) ?_
  unfold Builtin.«sorted»
  refine wpAny_bind (m := checkCount "sorted" 1 1 _) (wpAny_pure ?_)
  refine wpAny_bind (collect_list ⟨_, hl, rfl, n₀, rfl⟩ ?_ (by rw [sizeLine_eq]; (first | decide | lia | omega)))
  refine wpAny_bind (wpAny_newList ?_ (by rw [sizeLine_eq]; (first | decide | lia | omega)))
  have hsz : ((s.heap.push (seqObj "list" #[] 0)).update s.heap.objs.size (Obj.mapSeq (· ++ vs.toArray))).objs.size = s.heap.objs.size + 1 := by
    rw [Heap.size_update, size_push']
  have hoL : (((s.heap.push (seqObj "list" #[] 0)).update s.heap.objs.size (Obj.mapSeq (· ++ vs.toArray))).push (seqObj "list" vs.toArray 0)).get? (s.heap.objs.size + 1) = some (seqObj "list" vs.toArray 0) := by
    rw [← hsz]; exact Heap.get?_push_size _ rfl
  have keep : ∀ b o, s.heap.get? b = some o → (((s.heap.push (seqObj "list" #[] 0)).update s.heap.objs.size (Obj.mapSeq (· ++ vs.toArray))).push (seqObj "list" vs.toArray 0)).get? b = some o := fun b o q => by
    have hlt : b < s.heap.objs.size := Heap.lt_size q
    rw [Heap.get?_push_ne _ _ _ (by rw [hsz]; exact Nat.ne_of_lt (Nat.lt_succ_of_lt hlt)), Heap.get?_update_ne _ _ _ _ (Nat.ne_of_lt hlt), Heap.get?_push_ne _ _ _ (Nat.ne_of_lt hlt)]
    exact q
  have hDn : s.heap.get? (s.heap.objs.size + 1) = none := Heap.get?_none_of_le (Nat.le_succ _)
  show wpAny _ _ _ _ _ { s with heap := ((s.heap.push (seqObj "list" #[] 0)).update s.heap.objs.size (Obj.mapSeq (· ++ vs.toArray))).push (seqObj "list" vs.toArray 0) }
  rw [hsz]
  generalize hH : ((s.heap.push (seqObj "list" #[] 0)).update s.heap.objs.size (Obj.mapSeq (· ++ vs.toArray))).push (seqObj "list" vs.toArray 0) = H at hoL keep ⊢
  refine wpAny_bind (wpAny_holding (wpAny_call_entry slot_list_sort ⟨_, hoL, rfl⟩ entry_list_sort ?body (args_list_sort _)))
  case body =>
    have hne : ∀ b o, s.heap.get? b = some o → b ≠ s.heap.objs.size + 1 := fun b o q => Nat.ne_of_lt (Nat.lt_succ_of_lt (Heap.lt_size q))
    have s1 := Heap.SameBut.update H (s.heap.objs.size + 1) (Obj.mapSeq fun _ => (#[] : Array Value))
    obtain ⟨e1, ho1⟩ : ∃ e1, (H.update (s.heap.objs.size + 1) (Obj.mapSeq fun _ => (#[] : Array Value))).get? (s.heap.objs.size + 1) = some (seqObj "list" #[] e1) := ⟨_, get?_update_seq hoL fun _ => #[]⟩
    rw [list_sort_plain]
    refine wpAny_bind (listItems_at hoL rfl ?_)
    refine wpAny_bind (listUpdate_at hoL rfl ?_ (by rw [List.size_toArray, sizeLine_eq]; (first | decide | lia | omega)) (Nat.zero_le _))
    refine wpAny_bind (seqEpoch_at ho1 rfl ?_)
    refine wpAny_bind (wpAny_newTuple ?_ (by show vs.length ≤ _; rw [sizeLine_eq]; (first | decide | lia | omega)))
    refine wpAny_bind (wpAny_newList ?_ (Nat.zero_le _))
    refine wpAny_holding ?_
    generalize hH3 : ((H.update (s.heap.objs.size + 1) (Obj.mapSeq fun _ => (#[] : Array Value))).push (seqObj "tuple" vs.toArray 0)).push (seqObj "list" #[] 0) = H3
    have keep3 : ∀ b o, s.heap.get? b = some o → H3.get? b = some o := fun b o q => by
      rw [← hH3]
      exact Heap.get?_push_of_some _ (Heap.get?_push_of_some _ ((s1.2 b (hne b o q)).trans (keep b o q)))
    have ho3 : H3.get? (s.heap.objs.size + 1) = some (seqObj "list" #[] e1) := by
      rw [← hH3]
      exact Heap.get?_push_of_some _ (Heap.get?_push_of_some _ ho1)
    show wpAny (model prog w) _ _ _ _ { s with heap := H3 }
    dsimp only
    have fin : ∀ (out : List Value), out.length < 64 → (∀ h'' e, (∀ b o, s.heap.get? b = some o → h''.get? b = some o) → h''.get? (s.heap.objs.size + 1) = some (seqObj "list" (List.toArray out) e) → Q (.ref (s.heap.objs.size + 1)) { s with heap := h'' }) →
        ∀ c2, (H3.update (s.heap.objs.size + 1) (Obj.mapSeq fun _ => List.toArray out)).get? (s.heap.objs.size + 1) = some (seqObj "list" (List.toArray out) c2) → Q (.ref (s.heap.objs.size + 1)) { s with heap := H3.update (s.heap.objs.size + 1) (Obj.mapSeq fun _ => List.toArray out) } := by
      intro out _ k c2 hc2
      exact k _ c2 (fun b o q => ((Heap.SameBut.update H3 _ _).2 b (hne b o q)).trans (keep3 b o q)) hc2
    by_cases h2 : 2 ≤ vs.length
    · have hn2 : ¬ vs.toArray.size < 2 := by rw [List.size_toArray]; (first | decide | lia | omega)
      rw [if_neg hn2, if_neg hn2]
      refine wpAny_bind (wpAny_mono (ask h2 H3 keep3) (fun κ s0 ⟨es, hk⟩ => ?_) fun _ _ x => x.elim)
      subst es
      refine wpAny_bind (wpAny_mono (kat_run (Q := fun st' s' => ∃ p : Array Nat, p.size = vs.length ∧ arrOf st' = p.map (kas_item (vs.toArray.zip vs.toArray)) ∧ failedOf st' = none ∧ s' = { s with heap := H3 } ∧
          ∀ D h'' e, s.heap.get? D = none → (∀ b o, s.heap.get? b = some o → h''.get? b = some o) → h''.get? D = some (seqObj "list" (List.toArray (p.toList.map fun i => vs.getD i Value.none)) e) → Q (.ref D) { s with heap := h'' })
        rfl h2 h64 (fun p' st' s' a1 a2 a3 a4 => ⟨p', a1, a2, a3, a4⟩) hk) ?_ fun _ _ e => e)
      rintro ⟨⟨⟩, st'⟩ s' ⟨p, hp, har, hf, rfl, kq⟩
      dsimp only
      have hout := kat_snds rfl har
      have hsz2 : (List.toArray (p.toList.map fun i => vs.getD i Value.none)).size = vs.length := by rw [List.size_toArray, List.length_map, Array.length_toList, hp]
      rw [hout]
      obtain ⟨c2, hc2⟩ : ∃ c2, (H3.update (s.heap.objs.size + 1) (Obj.mapSeq fun _ => List.toArray (p.toList.map fun i => vs.getD i Value.none))).get? (s.heap.objs.size + 1) = some (seqObj "list" (List.toArray (p.toList.map fun i => vs.getD i Value.none)) c2) := ⟨_, get?_update_seq ho3 fun _ => List.toArray (p.toList.map fun i => vs.getD i Value.none)⟩
      refine wpAny_bind (seqEpoch_at ho3 rfl ?_)
      refine wpAny_bind (listUpdate_at ho3 rfl ?_ (Nat.zero_le _) (Nat.le_trans (Nat.le_of_eq hsz2) (by rw [sizeLine_eq]; (first | decide | lia | omega))))
      rw [hf]
      simp only [bne_self_eq_false, Bool.false_eq_true, if_false]
      refine wpAny_pure ⟨_, rfl, wpAny_pure ⟨_, rfl, ?_⟩⟩
      exact fin _ (by rw [List.length_map, Array.length_toList, hp]; exact h64) (fun h'' e a b => kq _ h'' e hDn a b) c2 hc2
    · have hn2 : vs.toArray.size < 2 := by rw [List.size_toArray]; (first | decide | lia | omega)
      rw [if_pos hn2, if_pos hn2]
      refine wpAny_bind (wpAny_pure ?_)
      rw [StateT.run_pure]
      refine wpAny_bind (wpAny_pure ?_)
      dsimp only
      have ez : (arrOf (SortSt.mk' general' (vs.toArray.zip vs.toArray) #[] 7 none)).map (·.2) = vs.toArray := by
        show (vs.toArray.zip vs.toArray).map (·.2) = vs.toArray
        rw [Array.map_snd_zip (by simp)]
      rw [ez]
      obtain ⟨c2, hc2⟩ : ∃ c2, (H3.update (s.heap.objs.size + 1) (Obj.mapSeq fun _ => vs.toArray)).get? (s.heap.objs.size + 1) = some (seqObj "list" vs.toArray c2) := ⟨_, get?_update_seq ho3 fun _ => vs.toArray⟩
      refine wpAny_bind (seqEpoch_at ho3 rfl ?_)
      refine wpAny_bind (listUpdate_at ho3 rfl ?_ (Nat.zero_le _) (by rw [List.size_toArray, sizeLine_eq]; (first | decide | lia | omega)))
      simp only [bne_self_eq_false, Bool.false_eq_true, if_false]
      refine wpAny_pure ⟨_, rfl, wpAny_pure ⟨_, rfl, ?_⟩⟩
      exact fin vs (by (first | decide | lia | omega)) (fun h'' e a b => few (by (first | decide | lia | omega)) _ h'' e hDn a b) c2 hc2
theorem pr_lt {x y : Int × Int} {a b : Addr} {t₁ t₂ u₁ u₂ : Tok} {Q : Bool → Shared → Prop} (ta : IsTup s.heap a #[.int x.1 t₁, .int x.2 t₂]) (tb : IsTup s.heap b #[.int y.1 u₁, .int y.2 u₂])
    (h : Q (plt x y) s) : wpAny (model prog w) A (keyLt' (tuples' true) (.ref a) (.ref b)) Q E s := by
  obtain ⟨oa, ga, ca, na, da⟩ := ta
  obtain ⟨ob, gb, cb, nb, db⟩ := tb
  refine kat_lt ga da gb db ?_
  refine kat_cons (wpAny_eqBool_int ?_)
  by_cases e1 : x.1 = y.1
  · rw [show (x.1 == y.1) = true by simpa using e1]
    refine kat_yes (kat_cons (wpAny_eqBool_int ?_))
    by_cases e2 : x.2 = y.2
    · rw [show (x.2 == y.2) = true by simpa using e2]
      refine kat_yes (kat_nil ?_)
      have : plt x y = decide ((#[Value.int x.1 t₁, Value.int x.2 t₂] : Array Value).size < (#[Value.int y.1 u₁, Value.int y.2 u₂] : Array Value).size) := by simp [plt, e1, e2]
      exact this ▸ h
    · rw [show (x.2 == y.2) = false by simpa using e2]
      refine kat_no ?_
      show wpAny _ _ (oneLt' false _ _) _ _ _
      refine kat_one _ _ (PyProof.Rows.lt_int ?_)
      show Q (decide (x.2 < y.2)) s
      have : plt x y = decide (x.2 < y.2) := by simp [plt, e1]
      exact this ▸ h
  · rw [show (x.1 == y.1) = false by simpa using e1]
    refine kat_no ?_
    show wpAny _ _ (oneLt' true _ _) _ _ _
    refine oneLt_int ?_
    have : plt x y = decide (x.1 < y.1) := by simp [plt, e1]
    exact this ▸ h
theorem plt_strict {ps : List (Int × Int)} (hd : ps.Nodup) : StrictOrd ps.length fun i j => plt (ps.getD i (0, 0)) (ps.getD j (0, 0)) where
  irr := fun i _ => by simp [plt]
  tot := fun i j hi hj ne => by
    have : ps.getD i (0, 0) ≠ ps.getD j (0, 0) := by
      simp only [List.getD_eq_getElem?_getD, List.getElem?_eq_getElem hi, List.getElem?_eq_getElem hj, Option.getD_some]
      exact fun e => ne ((List.getElem_inj hd).mp e)
    generalize ps.getD i (0, 0) = x at this ⊢
    generalize ps.getD j (0, 0) = y at this ⊢
    obtain ⟨x1, x2⟩ := x
    obtain ⟨y1, y2⟩ := y
    rw [Bool.eq_iff_iff]
    simp only [plt, Bool.not_eq_true', decide_eq_true_eq, decide_eq_false_iff_not]
    have h : ¬ (x1 = y1 ∧ x2 = y2) := fun ⟨a, b⟩ => this (by rw [a, b])
    (first | decide | lia | omega)
  tr := fun i j k _ _ _ h1 h2 => by
    simp only [plt, decide_eq_true_eq] at h1 h2 ⊢
    (first | decide | lia | omega)
theorem callB_sorted {a : Addr} {ps : List (Int × Int)} {K : PV → St → Prop} (k : CxOk B C) (hd : ps.Nodup) (hl : ps.length < 64) (m : Has C S a (.list (ps.map pr)))
    (h : ∀ qs : List (Int × Int), qs.Perm ps → qs.Pairwise (fun x y => plt x y = true) → NewK (.list (qs.map pr)) S K) : CallB prog w C "sorted" [.ref a] S K := by
  intro vs₀ s rl ht ia
  cases ia with | cons ia ib => ?_
  cases ib; cases ia
  obtain ⟨vs, n, g, ia⟩ := rl.has k m
  have len : vs.toList.length = ps.length := by rw [ia.length]; simp
  have fin : ∀ (out : List Value) (qs : List (Int × Int)), IsAll s.heap (qs.map pr) out → NewK (.list (qs.map pr)) S K → ∀ D h'' e, s.heap.get? D = none → (∀ b o, s.heap.get? b = some o → h''.get? b = some o) → h''.get? D = some (seqObj "list" (List.toArray out) e) →
      Ans C S s Is K (.ref D) { s with heap := h'' } := fun out qs io nk D h'' e hn keep g' =>
    ⟨.ref D, ⟨S.loc, (D, .list (qs.map pr)) :: S.own⟩, Post.newAt (tk := s.toks) rl keep hn ⟨_, e, g', io.mono (Mono.keep keep)⟩, .ref D, nk D⟩
  refine sorted_run (vs := vs.toList) (n₀ := n) (by rw [Array.toArray_toList]; exact g) (by (first | decide | lia | omega)) ?_ ?_
  · intro h2 h' keep
    have M : Mono s.heap h' := Mono.keep keep
    have at' : ∀ i, i < ps.length → ∃ ad t₁ t₂, vs.toList.getD i Value.none = .ref ad ∧ IsTup h' ad #[.int (ps.getD i (0, 0)).1 t₁, .int (ps.getD i (0, 0)).2 t₂] := fun i hi => by
      obtain ⟨v, ev, iv⟩ := ia.get (i := i) (d := pr (ps.getD i (0, 0))) (by simp [hi])
      obtain ⟨ad, t₁, t₂, e, t⟩ := is_pr iv
      exact ⟨ad, t₁, t₂, by rw [List.getD_eq_getElem?_getD, ev, e]; rfl, M _ _ t⟩
    have tups : ∀ (ps : List (Int × Int)) (vs : List Value), IsAll s.heap (ps.map pr) vs → ∃ fs, KatTups h' vs fs ∧ fs.length = ps.length ∧ ∀ f ∈ fs, ∃ i t, f = Value.int i t := by
      intro ps
      induction ps with
      | nil => intro vs ia; cases ia; exact ⟨[], KatTups.nil, rfl, by simp⟩
      | cons p ps ih =>
        intro vs ia
        cases ia with | cons i r => ?_
        obtain ⟨fs, kt, lf, hf⟩ := ih _ r
        obtain ⟨ad, t₁, t₂, rfl, t⟩ := is_pr i
        obtain ⟨o, g, c, n, d⟩ := M _ _ t
        exact ⟨_, KatTups.cons g c d rfl kt, by simp [lf], fun f mf => by
          rcases List.mem_cons.mp mf with rfl | mf
          · exact ⟨_, _, rfl⟩
          · exact hf f mf⟩
    obtain ⟨fs, kt, lf, hf⟩ := tups ps vs.toList ia
    refine kat_kind (T := .type "int") kt (by (first | decide | lia | omega)) (fun v mv => ?_) (by decide) ⟨rfl, ?_⟩
    · obtain ⟨i, t, rfl⟩ := hf v mv
      exact fun A Q E s k q => wpAny_pure q
    rw [len]
    refine TreeOk.wp (n := ps.length) (lt := fun i j => plt (ps.getD i (0, 0)) (ps.getD j (0, 0))) (fun i j C' hi hj hc => ?_) (fun p hp => ⟨rfl, ?_⟩) _ (sort_ok (plt_strict hd) (by (first | decide | lia | omega)))
    · obtain ⟨ad, t₁, t₂, e, t⟩ := at' i hi
      obtain ⟨bd, u₁, u₂, e', u⟩ := at' j hj
      show wpAny _ _ (keyLt' (tuples' true) (vs.toList.getD i Value.none) (vs.toList.getD j Value.none)) _ _ _
      rw [e, e']
      exact pr_lt (s := { s with heap := h' }) t u hc
    · obtain ⟨hp, ha⟩ := hp
      have hperm : (p.toList.map fun i => ps.getD i (0, 0)).Perm ps := by
        have e : (List.range ps.length).map (fun i => ps.getD i (0, 0)) = ps := by
          refine List.ext_getElem (by simp) fun i h1 h2 => ?_
          simp at h1
          simp [h1]
        have := hp.perm.map fun i => ps.getD i (0, 0)
        rwa [e] at this
      refine fin _ (p.toList.map fun i => ps.getD i (0, 0)) ?_ (h _ hperm ?_)
      · have mem : ∀ i ∈ p.toList, i < ps.length := fun i mi => List.mem_range.mp ((hp.perm.mem_iff).mp mi)
        have go : ∀ l : List Nat, (∀ i ∈ l, i < ps.length) → IsAll s.heap ((l.map fun i => ps.getD i (0, 0)).map pr) (l.map fun i => vs.toList.getD i Value.none) := by
          intro l
          induction l with
          | nil => intro _; exact .nil
          | cons i r ih =>
            intro mem
            have hi := mem i (.head _)
            refine .cons ?_ (ih fun j mj => mem j (.tail _ mj))
            obtain ⟨v, ev, iv⟩ := ia.get (i := i) (d := pr (ps.getD i (0, 0))) (by simp [hi])
            dsimp only
            rw [show vs.toList.getD i Value.none = v by rw [List.getD_eq_getElem?_getD, ev]; rfl]; exact iv
        exact go _ mem
      · rw [List.pairwise_map, List.pairwise_iff_getElem]
        intro i j hi hj hij
        have hi' : i < p.size := by simpa using hi
        have hj' : j < p.size := by simpa using hj
        have := ha i j hij (by rw [← hp.size]; exact hj')
        simpa [gd, Array.getD, hi', hj'] using this
  · intro h2 D h'' e hn keep g'
    refine fin vs.toList ps ia (h ps (List.Perm.refl _) ?_) D h'' e hn keep g'
    rw [List.pairwise_iff_getElem]
    intro i j hi hj hij
    (first | decide | lia | omega)
end
end
section
open PySem PyProof.Rows PySem.Calls PySem.W
namespace FA
theorem slot_rfind : Slot "bytes" "rfind" "bytes.rfind" :=
  .of (owner := "bytes") (n := "rfind") (by rw [typeLookup_type, builtinLookup_eq_fast]; kernel_rfl) (by decide +kernel) (by decide +kernel) (by decide +kernel)
    (by first | exact .inl (by decide +kernel) | exact .inr (by decide +kernel)) (by rw [isSubtype_type]; kernel_rfl)
theorem type_rfind : typeOf (.builtin "bytes.rfind") = pure (.type "method_descriptor") := by show builtinType _ = _; rw [builtinType_eq_fast]; kernel_rfl
theorem entry_rfind : entryFor table "bytes.rfind" = some Builtin.«bytes.rfind» := entryFor_of_tree (by kernel_rfl)
theorem args_rfind (a b : Value) : argsOk "bytes.rfind" ⟨[a, b], []⟩ := by unfold argsOk; kernel_rfl
theorem slot_upper : Slot "bytes" "upper" "bytes.upper" :=
  .of (owner := "bytes") (n := "upper") (by rw [typeLookup_type, builtinLookup_eq_fast]; kernel_rfl) (by decide +kernel) (by decide +kernel) (by decide +kernel)
    (by first | exact .inl (by decide +kernel) | exact .inr (by decide +kernel)) (by rw [isSubtype_type]; kernel_rfl)
theorem type_upper : typeOf (.builtin "bytes.upper") = pure (.type "method_descriptor") := by show builtinType _ = _; rw [builtinType_eq_fast]; kernel_rfl
theorem entry_upper : entryFor table "bytes.upper" = some Builtin.«bytes.upper» := entryFor_of_tree (by kernel_rfl)
theorem args_upper (a : Value) : argsOk "bytes.upper" ⟨[a], []⟩ := by unfold argsOk; kernel_rfl
theorem meta_str : typeOf (.type "str") = pure (.type "type") := by first | rfl | decide +kernel
theorem meta_mv : typeOf (.type "memoryview") = pure (.type "type") := by first | rfl | decide +kernel
theorem bytes_str : isSubtype (.type "bytes") (.type "str") = pure false := by rw [isSubtype_type]; kernel_rfl
theorem bytes_mv : isSubtype (.type "bytes") (.type "memoryview") = pure false := by rw [isSubtype_type]; kernel_rfl
end FA
/-- the last place of a sign -/
noncomputable def rfindB (b : Array UInt8) (c : UInt8) : Int := match Builtin.Bytes.rfind? b #[c] 0 b.size with
  | some i => i
  | none => -1
noncomputable def upperB (b : Array UInt8) : Array UInt8 := (b.toList.map Builtin.Bytes.toUpper).toArray
section
variable {prog : Program} {w : World} {A : Around} {s : Shared} {B : Heap} {mg mb : Str → Option Value} {C : Cx} {S : St} {sc : Scope} {E : Value → Shared → Prop}
theorem meth_bytes {b : Array UInt8} {name : Str} {id : String} (sl : Slot "bytes" name id) (ty : typeOf (.builtin id) = pure (.type "method_descriptor")) : MethAt C S (.bytes b) name id :=
  fun v s rl i => by
    cases i
    exact ⟨"bytes", FB.plainAttrs_bytes, sl, ty, typeIs_bytes _ _ _, fun a e => by cases e⟩
theorem callB_upper {b : Array UInt8} {K : PV → St → Prop} (hl : b.size ≤ 2 ^ 20) (h : K (.bytes (upperB b)) S) : CallB prog w C "bytes.upper" [.bytes b] S K := by
  intro vs s rl ht ia
  cases ia with | cons ia ib => ?_
  cases ib; cases ia with | bytes _ t => ?_
  refine wpAny_call_entry FA.slot_upper (typeIs_bytes _ _ _) FA.entry_upper ?_ (FA.args_upper _)
  show wpAny _ _ (do ret (← mkBytes (upperB b))) _ _ s
  refine wpAny_bind (wpAny_mkBytes ?_ (by simp only [upperB, List.size_toArray, List.length_map, Array.length_toList, sizeLine_eq]; (first | decide | lia | omega)))
  exact wpAny_pure ⟨_, rfl, _, S, Post.same rl, .bytes _ _, h⟩
theorem callB_rfind {b : Array UInt8} {c : UInt8} {K : PV → St → Prop} (h : K (.int (rfindB b c)) S) : CallB prog w C "bytes.rfind" [.bytes b, .bytes #[c]] S K := by
  intro vs s rl ht ia
  cases ia with | cons ia ib => ?_
  cases ib with | cons ib ic => ?_
  cases ic; cases ia with | bytes _ t => ?_
  cases ib with | bytes _ u => ?_
  refine wpAny_call_entry FA.slot_rfind (typeIs_bytes _ _ _) FA.entry_rfind ?_ (FA.args_rfind _ _)
  unfold Builtin.«bytes.rfind» Builtin.Bytes.searchM
  refine wpAny_bind ?_
  unfold Builtin.Bytes.searchArgs
  refine wpAny_bind (wpAny_of_eq (a := (Value.bytes b t, [Value.bytes #[c] u])) (by rfl) ?_)
  refine wpAny_bind (wpAny_of_eq (a := none) (by rfl) ?_)
  refine wpAny_bind (wpAny_of_eq (a := none) (by rfl) ?_)
  refine wpAny_bind (wpAny_of_eq (KBy.buffer_eq) ?_)
  refine wpAny_bind (wpAny_pure ?_)
  refine wpAny_bind (wpAny_of_eq (a := b) (by rfl) ?_)
  refine wpAny_pure ?_
  have fin : ∀ i : Int, i = rfindB b c → wpAny (model prog w) C.A.in1 (retInt i) (fun fin s' => ∃ v, fin = Fin.done (Flow.ret v) ∧ Ans C S s Is K v s') (fun _ _ => False) s := fun i e => by
    subst e
    exact wpAny_bind (wpAny_mkInt (wpAny_pure ⟨_, rfl, _, S, Post.same rl, .int _ _ ht, h⟩))
  have e0 : (fun i : Int => if i < 0 then max 0 (i + (b.size : Int)) else i) ((none : Option Int).getD 0) = 0 := by simp
  have e1 : min (b.size : Int) ((fun i : Int => if i < 0 then max 0 (i + (b.size : Int)) else i) ((none : Option Int).getD b.size)) = b.size := by
    have : ¬ ((b.size : Int) < 0) := by (first | decide | lia | omega)
    simp only [Option.getD_none, if_neg this]
    (first | decide | lia | omega)
  rw [e0, e1]
  dsimp only
  by_cases hb : b.size = 0
  · rw [if_pos (by simp [hb])]
    have : rfindB b c = -1 := by
      unfold rfindB Builtin.Bytes.rfind?
      simp [hb]
    exact wpAny_bind (wpAny_rule (fin _ this.symm))
  · rw [if_neg (by simp; (first | decide | lia | omega))]
    simp only [Option.bind_some, if_true, Int.toNat_zero, Int.toNat_natCast]
    cases e : Builtin.Bytes.rfind? b #[c] 0 b.size with
    | some i =>
      exact fin _ (by unfold rfindB; rw [e])
    | none =>
      exact wpAny_bind (wpAny_rule (fin _ (by unfold rfindB; rw [e])))
theorem isi_bytes {b : Array UInt8} {u : Tok} {T : String} (hne : (Value.type "bytes" == Value.type T) = false) (hty : typeOf (.type T) = pure (.type "type")) (hsub : isSubtype (.type "bytes") (.type T) = pure false) :
    Meets (Builtin.«isinstance» ⟨[.bytes b u, .type T], []⟩) (fun _ R s => R (.ok (.ret (.bool false))) { s with toks := s.toks + 1 }) :=
  fun _ _ _ _ s hs => by
    obtain ⟨h, g, d, t, os⟩ := s
    exact isinstance_outer (isinstance_nested_false_bytes hne hty hsub hs)
/-- isinstance(x, T) of bytes, where T is another built-in type -/
theorem WE_isi {e : Expr} {T : Str} {TT : String} {p q pos : Pos} {b : Array UInt8} {K : PV → St → Prop} (k : CxOk B C) (G : Gnd B mg mb) (hs : C.env.scope = sc) (hf : sc.names.lookup ("isinstance" : Str) = some .globalImplicit) (hT : sc.names.lookup T = some .globalImplicit) (hd : (T == ("__debug__" : Str)) = false)
    (hv : (["len", "min", "max", "range", "sorted", "bytes", "bytearray", "enumerate", "chr", "ord", "divmod", "sum", "list", "isinstance", "str", "memoryview"] : List Str).contains T = true) (hb : bootBuiltins T = some (.type TT)) (hn : T ≠ "__name__")
    (hne : (Value.type "bytes" == Value.type TT) = false) (hty : typeOf (.type TT) = pure (.type "type")) (hsub : isSubtype (.type "bytes") (.type TT) = pure false)
    (h : WE prog w C e S fun d S₁ => d = .bytes b ∧ K (.bool false) S₁)
    (he : starEach [e, .Name T q] C.env = (false, eval e C.env) :: starEach [.Name T q] C.env) :
    WE prog w C (.Call (.Name "isinstance" p) [e, .Name T q] [] pos) S K := by
  intro s rl ht
  refine Call_ (blt_name k G hs rl hf (by decide) (by decide) boot_isinstance' (by decide) ?_) (by rfl)
  refine callWith_builtin1 (args_cons (h.run rl ht fun v s₁ d S₁ ht₁ p₁ i₁ ⟨ed, kk⟩ => ?_) he) he (by rfl)
  subst ed
  cases i₁ with | bytes _ t => ?_
  refine args_cons (blt_name k G hs p₁.rel hT hd hv hb hn (args_nil ?_)) rfl
  refine call_isinstance (isi_bytes hne hty hsub) ?_
  exact ⟨.bool false, S₁, p₁.trans (Post.same p₁.rel), .bool false, kk⟩
theorem strsAre {h : Heap} : ∀ {ys : List Str} {vs : List Value}, IsAll h (ys.map .str) vs → StrsAre vs ys
  | [], _, .nil => .nil
  | y :: ys, _, .cons i r => by cases i with | str _ t => exact .cons _ _ (strsAre r)
theorem callB_join {x : Str} {a : Addr} {ys : List Str} {K : PV → St → Prop} (k : CxOk B C) (m : Has C S a (.list (ys.map .str))) (hok : (ys.map (·.length)).sum + ys.length * x.length ≤ 2 ^ 20) (h : K (.str (Txt.join x ys)) S) : CallB prog w C "str.join" [.str x, .ref a] S K := by
  intro vs s rl ht ia
  cases ia with | cons ia ib => ?_
  cases ib with | cons ib ic => ?_
  cases ic; cases ia with | str _ t => ?_
  cases ib
  obtain ⟨vs, n, g, ia⟩ := rl.has k m
  exact join_list ⟨_, g, rfl, n, rfl⟩ (strsAre ia) (by (first | decide | lia | omega)) fun t' kk => ⟨_, S, Post.same rl, .str _ _, h⟩
theorem meth_str {x : Str} {name : Str} {id : String} (sl : Slot "str" name id) (ty : typeOf (.builtin id) = pure (.type "method_descriptor")) : MethAt C S (.str x) name id :=
  fun v s rl i => by
    cases i
    exact ⟨"str", F.plainAttrs_str, sl, ty, typeIs_str _ _ _, fun a e => by cases e⟩
/-- a written constant of the module -/
theorem WE_glob {x : Str} {pos : Pos} {b : Array UInt8} {t : Tok} {K : PV → St → Prop} (k : CxOk B C) (G : Gnd B mg mb) (hs : C.env.scope = sc) (hf : sc.names.lookup x = some .globalImplicit) (hd : (x == ("__debug__" : Str)) = false) (hm : mg x = some (.bytes b t)) (h : K (.bytes b) S) : WE prog w C (.Name x pos) S K :=
  fun s rl ht => fn_name k G hs rl hf hd hm ⟨_, S, Post.rfl rl, .bytes _ _, h⟩
end
end
section
open PySem PyProof.Rows PySem.Calls PySem.W
namespace FA
open Builtin
theorem typeCall_str3 (a b c : Value) : checkTypeCall "str" ⟨[a, b, c], []⟩ = pure () := by kernel_rfl
theorem newCall_str3 (a b c : Value) : checkBuiltinCall "str.__new__" ⟨[.type "str", a, b, c], []⟩ = pure () := by kernel_rfl
theorem entry_strnew : entryFor table "str.__new__" = some Builtin.«str.__new__» := entryFor_of_tree (by kernel_rfl)
theorem plain_strnew : plainId "str.__new__" = true := by decide +kernel
theorem args_decode3 (a b c : Value) : argsOk "bytes.decode" ⟨[a], [(PySem.Str.ofString "encoding", b), (PySem.Str.ofString "errors", c)]⟩ := by unfold argsOk; kernel_rfl
theorem args_init4 (a b c d : Value) : argsOk "object.__init__" ⟨[a, b, c, d], []⟩ := by unfold argsOk; kernel_rfl
theorem dec_eq {c : UInt8} {cs : List UInt8} {t t1 t2 : Tok} : «bytes.decode» ⟨[.bytes (c :: cs).toArray t], [(PySem.Str.ofString "encoding", .str (PySem.Str.ofString "ascii") t1), (PySem.Str.ofString "errors", .str (PySem.Str.ofString "strict") t2)]⟩ =
    (mkStr (PySem.Str.ofString "utf-8") >>= fun _ => mkStr (PySem.Str.ofString "ascii") >>= fun e => mkStr (PySem.Str.ofString "strict") >>= fun er => mkStr (PySem.Str.ofString "bytes.decode") >>= fun d =>
    call (.builtin "_codecs.decode.text") [.bytes (c :: cs).toArray t, e, er, d] >>= fun v => ret v) := by kernel_rfl
theorem road_ascii {b : Array UInt8} {id : String} : _codecs.decodeRoad id b (PySem.Str.ofString "ascii") (some (PySem.Str.ofString "strict")) [] = (_codecs.runDecoder id _codecs.asciiDecoder (some (PySem.Str.ofString "strict")) true b 0 [] >>= fun r => mkStr ⟨r.1⟩) := by kernel_rfl
theorem new_eq {b : Array UInt8} {t t1 t2 : Tok} : «str.__new__» ⟨[.type "str", .bytes b t, .str (PySem.Str.ofString "ascii") t1, .str (PySem.Str.ofString "strict") t2], []⟩ =
    (mkStr (PySem.Str.ofString "ascii") >>= fun e => mkStr (PySem.Str.ofString "strict") >>= fun er => rule "str.__new__.decode-bytes" >>= fun _ => call (.builtin "bytes.decode") [.bytes b t] [(PySem.Str.ofString "encoding", e), (PySem.Str.ofString "errors", er)] >>= fun v => ret v) := by kernel_rfl
end FA
section
variable {prog : Program} {w : World} {A : Around} {s : Shared} {B : Heap} {mg mb : Str → Option Value} {C : Cx} {S : St} {sc : Scope} {E : Value → Shared → Prop}
noncomputable def cpsOf (b : Array UInt8) : Array Nat := b.map UInt8.toNat
theorem ascii_run {M : Model} {id : String} {er : Option Str} {b : Array UInt8} {Q : Array Nat × Nat → Shared → Prop} (hb : ∀ c ∈ b, c.toNat < 128) (hz : b.size ≤ 2 ^ 20) (h : Q (cpsOf b, b.size) s) :
    wpAny M A (Builtin._codecs.runDecoder id Builtin._codecs.asciiDecoder er true b 0 []) Q E s := by
  unfold Builtin._codecs.runDecoder
  dsimp only
  rw [Std.Legacy.Range.forIn_eq_forIn_range']
  refine wpAny_bind ?_
  have len : (List.range' [:b.size].start [:b.size].size [:b.size].step).length = b.size := by
    rw [List.length_range']; simp
  refine wpAny_forIn_list _ (fun l x s' => s' = s ∧ x.1 + l.length = b.size ∧ x.2.1 = ((b.toList.take x.1).map UInt8.toNat).toArray) _ ?_ ?_ _ _ ⟨rfl, by rw [len]; simp, by simp⟩
  · rintro x rest ⟨p, out, st⟩ s' ⟨rfl, hp, ho⟩
    simp only [List.length_cons] at hp ho ⊢
    have hlt : p < b.size := by (first | decide | lia | omega)
    have hos : out.size ≤ b.size := by rw [ho]; simp; (first | decide | lia | omega)
    rw [if_neg (by rw [sizeLine_eq]; (first | decide | lia | omega)), if_neg (by (first | decide | lia | omega))]
    have hc : (b.getD p 0).toNat < 128 := by
      have : b.getD p 0 = b[p] := by simp [Array.getD, hlt]
      rw [this]; exact hb _ (by simp)
    have ef : Builtin._codecs.asciiDecoder.find true b p = .text [(b.getD p 0).toNat] (p + 1) := by
      show (if (b.getD p 0).toNat < 128 then _ else _) = _
      rw [if_pos hc]; rfl
    rw [ef]
    refine wpAny_pure ⟨rfl, by simp only; (first | decide | lia | omega), ?_⟩
    dsimp only
    rw [ho, List.take_add_one]
    have : b.toList[p]? = some (b.getD p 0) := by simp [Array.getD, hlt]
    rw [this]
    simp
  · rintro ⟨p, out, st⟩ s' ⟨rfl, hp, ho⟩
    simp only [List.length_nil] at hp ho ⊢
    have : p = b.size := by (first | decide | lia | omega)
    subst this
    refine wpAny_pure ?_
    rw [ho]
    have e : ((b.toList.take b.size).map UInt8.toNat).toArray = cpsOf b := by
      unfold cpsOf
      rw [List.take_of_length_le (by simp)]
      apply Array.toList_inj.mp
      simp
    rw [e]; exact h
theorem meets_ascii {b : Array UInt8} {t t1 t2 t3 : Tok} {d : PySem.Str} (hb : ∀ c ∈ b, c.toNat < 128) (hz : b.size ≤ 2 ^ 20) :
    Meets (Builtin.«_codecs.decode.text» ⟨[.bytes b t, .str (PySem.Str.ofString "ascii") t1, .str (PySem.Str.ofString "strict") t2, .str d t3], []⟩) (fun _ R s => R (.ok (.ret (.str ⟨cpsOf b⟩ s.toks))) { s with toks := s.toks + 1 }) := by
  refine .of_wp fun prog w A R s h => ?_
  show wpAny _ _ (Builtin.Bytes.bytesLike _ (.bytes b t) >>= fun r => _) _ _ s
  refine wpAny_bind (wpAny_of_eq KBd.like_eq ?_)
  refine wpAny_bind (wpAny_of_eq KBd.held_eq ?_)
  show wpAny _ _ (Builtin._codecs.decodeRoad _ b (PySem.Str.ofString "ascii") (some (PySem.Str.ofString "strict")) [] >>= fun v => _) _ _ s
  rw [FA.road_ascii]
  refine wpAny_bind (wpAny_bind (ascii_run hb hz ?_))
  exact wpAny_mkStr (wpAny_pure ⟨_, rfl, h⟩) (by show (cpsOf b).size ≤ _; rw [sizeLine_eq]; simp only [cpsOf, Array.size_map]; (first | decide | lia | omega))
theorem callT_ascii {b : Array UInt8} {K : PV → St → Prop} (hne : b ≠ #[]) (hb : ∀ c ∈ b, c.toNat < 128) (hz : b.size ≤ 2 ^ 20) (h : K (.str ⟨cpsOf b⟩) S) : CallT prog w C "str" [.bytes b, .str "ascii", .str "strict"] S K := by
  intro vs s rl ht ia
  cases ia with | cons ia ib => ?_
  cases ib with | cons ib ic => ?_
  cases ic with | cons ic id' => ?_
  cases id'; cases ia with | bytes _ t => ?_
  cases ib with | str _ t1 => ?_
  cases ic with | str _ t2 => ?_
  refine callType_codes (Q₁ := fun obj s₁ => s₁.TypeIs obj "str" ∧ Ans C S s Is K obj s₁) PySem.F.called_str (FA.typeCall_str3 _ _ _) PySem.F.entry_object_init ?_ ?_
  · refine codeAny_of_tree ?_
    show wpAny _ C.A.in1.in1 (do checkBuiltinCall "str.__new__" ⟨[.type "str", .bytes b t, .str (PySem.Str.ofString "ascii") t1, .str (PySem.Str.ofString "strict") t2], []⟩; again (.builtin "str.__new__" ⟨[.type "str", .bytes b t, .str (PySem.Str.ofString "ascii") t1, .str (PySem.Str.ofString "strict") t2], []⟩)) _ _ s
    refine wpAny_bind (wpAny_of_eq (FA.newCall_str3 _ _ _) (wpAny_pure ⟨plainId_quiet FA.plain_strnew _, codeAny_builtin FA.entry_strnew ?_⟩))
    rw [Around.under_plainId FA.plain_strnew _, FA.new_eq]
    refine wpAny_bind (wpAny_mkStr ?_ (by decide))
    refine wpAny_bind (wpAny_mkStr ?_ (by decide))
    refine wpAny_bind (wpAny_rule (wpAny_bind ?_))
    obtain ⟨c, cs, e⟩ : ∃ c cs, b = (c :: cs).toArray := by
      cases e : b.toList with
      | nil => exact absurd (by simpa using e) hne
      | cons c cs => exact ⟨c, cs, by rw [← e]⟩
    subst e
    refine wpAny_call (codeAny_call_builtin FB.slot_bytes_decode.plain FB.entry_bytes_decode (FB.slot_bytes_decode.check _ _ _ _ _ _ _ _ (typeIs_bytes _ _ _) (FA.args_decode3 _ _ _) ?_))
    rw [FA.dec_eq]
    refine wpAny_bind (wpAny_mkStr ?_ (by decide))
    refine wpAny_bind (wpAny_mkStr ?_ (by decide))
    refine wpAny_bind (wpAny_mkStr ?_ (by decide))
    refine wpAny_bind (wpAny_mkStr ?_ (by decide))
    refine wpAny_bind (call_function_meets KBd.kind_text KBd.plain_text KBd.entry_text (KBd.args_text _ _ _ _) (meets_ascii hb hz) ?_)
    refine wpAny_pure ?_
    refine wpAny_pure ⟨typeIs_str _ _ _, _, S, Post.same rl, .str _ _, h⟩
  · rintro obj s₁ ⟨hT, hq⟩
    exact ⟨hT, FA.args_init4 _ _ _ _, object_init_meets PySem.F.called_str.init.lookup PySem.F.called_str.made (by decide) prog w C.A.in1 _ s₁ ⟨hT, rfl, hq⟩⟩
end
end
section
open PySem PyProof.Rows PySem.Calls
local macro_rules | `(tactic| walk_at "mem") => `(tactic| with_reducible (repeat (first | exact InL.here | apply InL.skip)))
local macro_rules | `(tactic| walk_at "upd") => `(tactic| with_reducible (repeat (first | exact Upd.here | apply Upd.skip)))
local macro_rules | `(tactic| walk_at "flow") => `(tactic| with_reducible first
  | refine seqK_next ?_ | refine seqK_ret ?_ | refine seqK_brk ?_ | refine seqK_cont ?_ | refine loopK_next ?_ | refine loopK_cont ?_ | refine loopK_brk ?_ | refine loopK_ret ?_)
local macro_rules | `(tactic| walk_at "ste") => `(tactic| first
  | (with_reducible first | refine BinK_add ?_ | refine BinK_add0 ?_ | refine BinK_sub ?_ | refine CmpK_lt ?_ | refine CmpK_le ?_ | refine CmpK_gt ?_ | refine CmpK_eq ?_ | refine CmpK_eqs ?_ | refine CmpK_nes ?_ | refine ex_int ?_ | refine ex_int1 ?_ | refine ex_int0 ?_ | refine TruthK_int ?_ | refine TruthK_bool ?_ | refine IntOp_add ?_ | refine WL_nil ?_ | refine WXs_cons ?_ | refine WXs_nil ?_ | refine WX_if ?_ | refine WX_ret ?_ | refine WX_brk ?_ | refine WX_cont ?_ | refine WB_not ?_ | refine WB_and ?_ | refine WE_int ?_ | refine WE_bin ?_ | refine WE_neg ?_ | refine WE_none ?_ | refine WE_true ?_ | refine WE_str ?_ | refine WE_bytes ?_ | refine WE_ifexp ?_)
  | (with_reducible first | refine' BinK_mul ?g ?_ | refine' BinK_div ?g ?_ | refine' BinK_mod ?g ?_ | refine' BinK_div0 ?g ?_ | refine' BinK_mod0 ?g ?_ | refine' BinK_shr ?g ?_ | refine' BinK_pow ?g ?_ | refine' IntOp_div ?g ?_ | refine' IntOp_mod ?g ?_); · (first | (first | decide | lia | omega) | (left; (first | decide | lia | omega)) | (right; (first | decide | lia | omega)))
  | (with_reducible refine' storeK ?u ?_); (case u => walk_at "upd")
  | (with_reducible refine' WE_name ?k ?u ?n ?_); (case k => assumption); (case u => walk_at "mem"); (case n => rfl)
  | (with_reducible refine' WX_aug ?k ?u ?n ?_); (case k => assumption); (case u => walk_at "mem"); (case n => decide)
  | (with_reducible first | refine' WE_cmp ?_ ?n | refine' WB_cmp ?_ ?n | refine' WB_cmp2 ?_ ?n | refine' WL_cons ?_ ?n | refine' WB_val ?_ ?n); (case n => with_unfolding_all rfl)
  | (with_reducible refine' WX_assign ?k ?_ ?n); (case k => assumption); (case n => with_unfolding_all rfl)
  | (with_reducible refine' WE_item ?k ?_ ?n); (case k => assumption); (case n => (intro _ _; with_unfolding_all rfl)))
local macro_rules | `(tactic| walk_at "stes") => `(tactic| repeat walk_at "ste")
local macro_rules | `(tactic| walk_at "sts") => `(tactic| repeat (first | walk_at "flow" | walk_at "ste"))
section
open PySem PyProof.Rows PySem.Calls
section
variable {prog : Program} {w : World} {B : Heap} {mg mb : Str → Option Value}
/-! T -/
noncomputable def Tv (j b : Int) : Int := if 36 * (j + 1) - b < 1 then 1 else if 36 * (j + 1) - b > 26 then 26 else 36 * (j + 1) - b
theorem Tv_pos (j b : Int) : 1 ≤ Tv j b ∧ Tv j b ≤ 26 := by
  unfold Tv
  split
  · (first | decide | lia | omega)
  · split <;> (first | decide | lia | omega)
set_option maxHeartbeats 1000000 in
theorem T_fun (G : Gnd B mg mb) (R : FnRec B mg (fnd 1)) (j b : Int) : Fun prog w B mg 1 "T" [.int j, .int b] [] [] (fun d post => d = .int (Tv j b) ∧ post = []) := by
  refine Fun_of_body (d := fnd 1) (n := 0) (own := []) (ro := []) G R ["j", "bias"] ["res"] [("j", .int j), ("bias", .int b), ("res", .any)] rfl ?_ ?_ rfl ?_ ((by first | decide | exact Nat.le_of_ble_eq_true rfl | exact List.forall_mem_nil _ | simp)) ((by first | decide | exact Nat.le_of_ble_eq_true rfl | exact List.forall_mem_nil _ | simp)) fun C k hs room hW hro => ?_
  · intro pm code doc vs h
    rcases vs with _ | ⟨a, _ | ⟨b, _ | ⟨c, r⟩⟩⟩ <;> simp at h
    rfl
  · decide +kernel
  · refine ⟨rfl, rfl, rfl, ?_⟩
    decide +kernel
  · refine WXs_cons ?_
    walk_at "sts"
    refine dsplit (fun h => ?_) (fun h => ?_)
    · walk_at "sts"
      exact retK_ret [] (.slnil) ⟨by unfold Tv; rw [if_pos h], rfl⟩
    · walk_at "sts"
      refine dsplit (fun h' => ?_) (fun h' => ?_)
      · walk_at "sts"
        exact retK_ret [] (.slnil) ⟨by unfold Tv; rw [if_neg h, if_pos h'], rfl⟩
      · walk_at "sts"
        exact retK_ret [] (.slnil) ⟨by unfold Tv; rw [if_neg h, if_neg h'], rfl⟩
/-! adapt -/
noncomputable def adL (d v : Int) : Int × Int := if d > 455 then adL (d / 35) (v + 36) else (d, v)
termination_by d.toNat
decreasing_by (first | decide | lia | omega)
noncomputable def adS (delta : Int) (first : Bool) (n : Int) : Int := (if first then delta / 700 else delta / 2) + (if first then delta / 700 else delta / 2) / n
noncomputable def adV (delta : Int) (first : Bool) (n : Int) : Int := (adL (adS delta first n) 0).2 + 36 * (adL (adS delta first n) 0).1 / ((adL (adS delta first n) 0).1 + 38)
theorem adL_le (d v : Int) (h : 0 ≤ d) : 0 ≤ (adL d v).1 ∧ (adL d v).1 ≤ 455 := by
  unfold adL
  split
  · exact adL_le (d / 35) (v + 36) (by (first | decide | lia | omega))
  · constructor <;> simp only <;> (first | decide | lia | omega)
termination_by d.toNat
decreasing_by (first | decide | lia | omega)
set_option maxHeartbeats 2000000 in
theorem adapt_fun (G : Gnd B mg mb) (R : FnRec B mg (fnd 4)) (delta : Int) (first : Bool) (n : Int) (hd : 0 ≤ delta) (hn : 0 < n ∧ n < 2 ^ 40) : Fun prog w B mg 1 "adapt" [.int delta, .bool first, .int n] [] [] (fun d post => d = .int (adV delta first n) ∧ post = []) := by
  refine Fun_of_body (d := fnd 4) (n := 0) (own := []) (ro := []) G R ["delta", "first", "numchars"] ["divisions", "bias"] [("delta", .int delta), ("first", .bool first), ("numchars", .int n), ("divisions", .any), ("bias", .any)] rfl ?_ ?_ rfl ?_ ((by first | decide | exact Nat.le_of_ble_eq_true rfl | exact List.forall_mem_nil _ | simp)) ((by first | decide | exact Nat.le_of_ble_eq_true rfl | exact List.forall_mem_nil _ | simp)) fun C k hs room hW hro => ?_
  · intro pm code doc vs h
    rcases vs with _ | ⟨a, _ | ⟨b, _ | ⟨c, _ | ⟨d, r⟩⟩⟩⟩ <;> simp at h
    rfl
  · decide +kernel
  · refine ⟨rfl, rfl, rfl, ?_⟩
    decide +kernel
  · have tail : ∀ d1 : Int, 0 ≤ d1 → d1 = (if first then delta / 700 else delta / 2) → WXs prog w C ((fnd 4).body.drop 1) ⟨[("delta", .int d1), ("first", .bool first), ("numchars", .int n), ("divisions", .any), ("bias", .any)], []⟩ (retK [] fun d post => d = .int (adV delta first n) ∧ post = []) := by
      intro d1 h1 e1
      refine WXs_cons ?_
      walk_at "sts"
      have hs0 : 0 ≤ d1 + d1 / n := by have := Int.ediv_nonneg h1 (by (first | decide | lia | omega) : 0 ≤ n); (first | decide | lia | omega)
      have es : d1 + d1 / n = adS delta first n := by unfold adS; rw [← e1]
      refine WX_while (X := Int × Int) (fun x => ⟨[("delta", .int x.1), ("first", .bool first), ("numchars", .int n), ("divisions", .int x.2), ("bias", .any)], []⟩) (fun x => 0 ≤ x.1 ∧ adL x.1 x.2 = adL (adS delta first n) 0) (fun x => x.1.toNat) (d1 + d1 / n, 0) ⟨hs0, by rw [es]⟩ ⟨LocLe.rfl, .slnil⟩ ?_
      rintro ⟨d, v⟩ ⟨h0, he⟩
      walk_at "sts"
      refine dsplit (fun h => ?_) (fun h => ?_)
      · walk_at "sts"
        refine ⟨(d / 35, v + 36), by simp only; (first | decide | lia | omega), ⟨by simp only; (first | decide | lia | omega), ?_⟩, LocLe.rfl, .slnil⟩
        rw [← he]
        conv => rhs; unfold adL
        rw [if_pos h]
      · have hd' : adL d v = (d, v) := by unfold adL; rw [if_neg h]
        walk_at "sts"
        exact retK_ret [] (.slnil) ⟨by unfold adV; rw [← he, hd'], rfl⟩
    refine WXs_cons ?_
    walk_at "sts"
    cases first with
    | true =>
      refine tsplit ?_
      walk_at "stes"
      refine seqK_next (WXs_nil ?_)
      exact tail (delta / 700) (by (first | decide | lia | omega)) rfl
    | false =>
      refine fsplit ?_
      walk_at "stes"
      refine seqK_next (WXs_nil ?_)
      exact tail (delta / 2) (by (first | decide | lia | omega)) rfl
end
end
section
open PySem PyProof.Rows PySem.Calls
noncomputable def digs : Array UInt8 := #[97, 98, 99, 100, 101, 102, 103, 104, 105, 106, 107, 108, 109, 110, 111, 112, 113, 114, 115, 116, 117, 118, 119, 120, 121, 122, 48, 49, 50, 51, 52, 53, 54, 55, 56, 57]
/-- the figures of a numeral -/
noncomputable def numL (b : Int) (j : Int) (N : Int) : List Int :=
  if N < Tv j b then [N] else (Tv j b + (N - Tv j b) % (36 - Tv j b)) :: numL b (j + 1) ((N - Tv j b) / (36 - Tv j b))
termination_by N.toNat
decreasing_by
  have h := Tv_pos j b
  have e : (N - Tv j b) / (36 - Tv j b) ≤ N - Tv j b := Int.ediv_le_self _ (by (first | decide | lia | omega))
  have e0 : 0 ≤ (N - Tv j b) / (36 - Tv j b) := Int.ediv_nonneg (by (first | decide | lia | omega)) (by (first | decide | lia | omega))
  (first | decide | lia | omega)
noncomputable def lowOf (v : Int) : UInt8 := (digs.toList.getD v.toNat 0)
noncomputable def lowL (l : List Int) : List UInt8 := l.map lowOf
theorem numL_range (b j N : Int) (h : 0 ≤ N) : ∀ v ∈ numL b j N, 0 ≤ v ∧ v < 36 := by
  unfold numL
  have ht := Tv_pos j b
  split
  · intro v m; simp at m; (first | decide | lia | omega)
  · intro v m
    rcases List.mem_cons.mp m with rfl | m
    · have := Int.emod_nonneg (N - Tv j b) (by (first | decide | lia | omega) : 36 - Tv j b ≠ 0)
      have := Int.emod_lt_of_pos (N - Tv j b) (by (first | decide | lia | omega) : 0 < 36 - Tv j b)
      (first | decide | lia | omega)
    · exact numL_range b (j + 1) _ (Int.ediv_nonneg (by (first | decide | lia | omega)) (by (first | decide | lia | omega))) v m
termination_by N.toNat
decreasing_by
  have h := Tv_pos j b
  have e : (N - Tv j b) / (36 - Tv j b) ≤ N - Tv j b := Int.ediv_le_self _ (by (first | decide | lia | omega))
  have e0 : 0 ≤ (N - Tv j b) / (36 - Tv j b) := Int.ediv_nonneg (by (first | decide | lia | omega)) (by (first | decide | lia | omega))
  (first | decide | lia | omega)
section
variable {prog : Program} {w : World} {B : Heap} {mg mb : Str → Option Value}
theorem Room.mono {m n : Nat} {A : Around} (h : Room m A) (hn : n ≤ m) : Room n A := ⟨by have := h.1; (first | decide | lia | omega), by have := h.2.1; (first | decide | lia | omega), h.2.2⟩
theorem low_item (n : Int) : ((digs.toList.getD n.toNat 0).toNat : Int).toNat.toUInt8 = lowOf n := by
  unfold lowOf
  simp
set_option maxHeartbeats 2000000 in
theorem ggi_fun (G : Gnd B mg mb) (R1 : FnRec B mg (fnd 1)) (R : FnRec B mg (fnd 3)) (HD : ∃ t, mg "digits" = some (.bytes digs t)) (N b : Int) (hN : 0 ≤ N) (hlen : (numL b 0 N).length ≤ 1000) :
    FunK prog w B mg 2 "generate_generalized_integer" [.int N, .int b] [] (fun d post => d = .bytes (lowL (numL b 0 N)).toArray ∧ post = []) := by
  refine FunK_of_body (d := fnd 3) (n := 1) (ro := []) G R ["N", "bias"] ["result", "j", "t"] [("N", .int N), ("bias", .int b), ("result", .any), ("j", .any), ("t", .any)] rfl ?_ ?_ rfl ?_ fun C k hs room hW hro => ?_
  · intro pm code doc vs h
    rcases vs with _ | ⟨a, _ | ⟨b, _ | ⟨c, r⟩⟩⟩ <;> simp at h
    rfl
  · decide +kernel
  · refine ⟨rfl, rfl, rfl, ?_⟩
    decide +kernel
  · obtain ⟨td, hd⟩ := HD
    refine KXs_cons ?_
    refine KX_assign k ?_ (by with_unfolding_all rfl)
    refine KE_bytearray k G hs (by decide +kernel) room.2.2.2 (newK fun a => ?_)
    refine storeK (by walk_at "upd") (seqK_next (KXs_cons (KT.of ?_)))
    walk_at "stes"
    refine seqK_next (KXs_cons ?_)
    refine KX_while (X := Int × Int × List Int × Int) (fun x => ⟨[("N", .int x.1), ("bias", .int b), ("result", .ref a), ("j", .int x.2.1), ("t", .any)], [(a, .barr (lowL x.2.2.1).toArray)]⟩)
      (fun x => 0 ≤ x.1 ∧ x.2.2.1 ++ numL b x.2.1 x.1 = numL b 0 N) (fun x => x.1.toNat) (N, 0, [], 0) ⟨hN, (by first | decide | exact Nat.le_of_ble_eq_true rfl | exact List.forall_mem_nil _ | simp)⟩ ⟨LocLe.rfl, List.Sublist.refl _⟩ ?_
    rintro ⟨M, j, l, _⟩ ⟨h0, he⟩
    dsimp only at h0 he ⊢
    walk_at "stes"
    refine dsplit_t (by decide) ?_
    have hT := Tv_pos j b
    have hlenl : l.length ≤ 1000 := by rw [← he] at hlen; simp at hlen; (first | decide | lia | omega)
    refine KXs_cons (KT.of ?_)
    walk_at "stes"
    (((with_reducible refine' WE_call0 ?kx1 ?Gx1 ?hsx1 ?hfx1 ?hdx1 ?_ ?hFx1 ?hex1); (case kx1 => assumption); (case Gx1 => assumption); (case hsx1 => assumption); (case hfx1 => decide +kernel); (case hdx1 => decide +kernel); (case hex1 => with_unfolding_all rfl)))
    case hFx1 => exact ⟨_, _, _, _, _, T_fun G R1 0 0⟩
    walk_at "stes"
    refine ⟨1, [], _, T_fun G R1 j b, room, (by first | decide | exact Nat.le_of_ble_eq_true rfl | exact List.forall_mem_nil _ | simp), ?_⟩
    rintro d post ⟨rfl, rfl⟩
    dsimp only [List.nil_append]
    refine storeK (by walk_at "upd") (seqK_next (KXs_cons (KX_if ?_)))
    walk_at "stes"
    refine dsplit (fun h => ?_) (fun h => ?_)
    · have hn : numL b j M = [M] := by unfold numL; rw [if_pos h]
      refine KXs_cons (KX_expr k (KE_meth "bytearray.append" ?_ (by with_unfolding_all rfl) (by with_unfolding_all rfl) (by with_unfolding_all rfl) (by with_unfolding_all rfl) (by with_unfolding_all rfl)) (by with_unfolding_all rfl))
      walk_at "stes"
      refine ⟨meth_ba k (by (first | (refine Has.own ?_; walk_at "mem"; done) | (refine Has.roAt (by assumption) ?_; walk_at "mem"; done))) FA.slot_append FA.type_append, ?_⟩
      walk_at "stes"
      refine WE_glob k G hs (by decide +kernel) (by decide +kernel) hd ?_
      walk_at "stes"
      refine ⟨⟨h0, by show M < 36; (first | decide | lia | omega), by decide⟩, ?_⟩
      walk_at "stes"
      refine callK_baAppend room.2.2.2 (by walk_at "upd") (by simp [lowL]; (first | decide | lia | omega)) ?_ ⟨rfl, ?_⟩
      · generalize digs.toList.getD M.toNat 0 = c
        have := c.toNat_lt
        (first | decide | lia | omega)
      refine seqK_next (KXs_cons (KT.of ?_))
      walk_at "stes"
      (first | ((with_reducible refine' WE_blt ?kx3 ?Gx3 ?hsx3 ?hfx3 ?hdx3 ?hvx3 ?hbx3 ?hnx3 ?_ ?hex3 ?hpx3); (case kx3 => assumption); (case Gx3 => assumption); (case hsx3 => assumption); (case hfx3 => decide +kernel); (case hdx3 => decide +kernel); (case hvx3 => decide +kernel); (case hbx3 => (with_reducible first | exact boot_len' | exact boot_min' | exact boot_max' | exact boot_sum' | exact boot_divmod' | exact boot_chr' | exact boot_sorted' | exact boot_isinstance' | exact boot_bytes' | exact boot_bytearray' | exact boot_list' | exact boot_str' | exact boot_memoryview')); (case hnx3 => decide +kernel); (case hex3 => with_unfolding_all rfl); (case hpx3 => with_unfolding_all rfl)) | ((with_reducible refine' WE_typ ?kx3 ?Gx3 ?hsx3 ?hfx3 ?hdx3 ?hvx3 ?hbx3 ?hnx3 ?_ ?hex3 ?hpx3); (case kx3 => assumption); (case Gx3 => assumption); (case hsx3 => assumption); (case hfx3 => decide +kernel); (case hdx3 => decide +kernel); (case hvx3 => decide +kernel); (case hbx3 => (with_reducible first | exact boot_len' | exact boot_min' | exact boot_max' | exact boot_sum' | exact boot_divmod' | exact boot_chr' | exact boot_sorted' | exact boot_isinstance' | exact boot_bytes' | exact boot_bytearray' | exact boot_list' | exact boot_str' | exact boot_memoryview')); (case hnx3 => decide +kernel); (case hex3 => with_unfolding_all rfl); (case hpx3 => with_unfolding_all rfl)))
      walk_at "stes"
      refine callT_bytesBa k (by (first | (refine Has.own ?_; walk_at "mem"; done) | (refine Has.roAt (by assumption) ?_; walk_at "mem"; done))) (by simp [lowL]; (first | decide | lia | omega)) ?_
      repeat walk_at "flow"
      refine retK_ret [] (List.nil_sublist _) ⟨?_, rfl⟩
      rw [low_item, ← he, hn]
      simp [lowL]
    · refine KXs_nil ?_
      have hn : numL b j M = (Tv j b + (M - Tv j b) % (36 - Tv j b)) :: numL b (j + 1) ((M - Tv j b) / (36 - Tv j b)) := by conv => lhs; unfold numL; rw [if_neg h]
      have m0 := Int.emod_nonneg (M - Tv j b) (by (first | decide | lia | omega) : 36 - Tv j b ≠ 0)
      have m1 := Int.emod_lt_of_pos (M - Tv j b) (by (first | decide | lia | omega) : 0 < 36 - Tv j b)
      refine seqK_next (KXs_cons (KX_expr k (KE_meth "bytearray.append" ?_ (by with_unfolding_all rfl) (by with_unfolding_all rfl) (by with_unfolding_all rfl) (by with_unfolding_all rfl) (by with_unfolding_all rfl)) (by with_unfolding_all rfl)))
      walk_at "stes"
      refine ⟨meth_ba k (by (first | (refine Has.own ?_; walk_at "mem"; done) | (refine Has.roAt (by assumption) ?_; walk_at "mem"; done))) FA.slot_append FA.type_append, ?_⟩
      walk_at "stes"
      refine WE_glob k G hs (by decide +kernel) (by decide +kernel) hd ?_
      walk_at "stes"
      refine ⟨⟨by (first | decide | lia | omega), by show _ < (36 : Int); (first | decide | lia | omega), by decide⟩, ?_⟩
      walk_at "stes"
      refine callK_baAppend room.2.2.2 (by walk_at "upd") (by simp [lowL]; (first | decide | lia | omega)) ?_ ⟨rfl, ?_⟩
      · generalize digs.toList.getD _ 0 = c
        have := c.toNat_lt
        (first | decide | lia | omega)
      refine seqK_next (KXs_cons (KT.of ?_))
      walk_at "stes"
      refine seqK_next (KXs_cons (KT.of ?_))
      walk_at "stes"
      refine seqK_next (KXs_nil ?_)
      have e1 : (M - Tv j b) / (36 - Tv j b) ≤ M - Tv j b := Int.ediv_le_self _ (by (first | decide | lia | omega))
      have e0 : 0 ≤ (M - Tv j b) / (36 - Tv j b) := Int.ediv_nonneg (by (first | decide | lia | omega)) (by (first | decide | lia | omega))
      refine loopK_next ⟨((M - Tv j b) / (36 - Tv j b), j + 1, l ++ [Tv j b + (M - Tv j b) % (36 - Tv j b)], 0), by dsimp only; (first | decide | lia | omega), ⟨e0, ?_⟩, ?_, ?_⟩
      · rw [← he, hn]; simp
      · (repeat (first | exact LocLe.nil | apply LocLe.same | apply LocLe.any))
      · rw [low_item]
        simp [lowL]
end
end
section
open PySem PyProof.Rows PySem.Calls
noncomputable def upOf (v : Int) : UInt8 := (if v < 26 then 65 + v else 22 + v).toNat.toUInt8
noncomputable def upL (l : List Int) : List UInt8 := l.map upOf
theorem upOf_nat {v : Int} (h : 0 ≤ v ∧ v < 36) : ((upOf v).toNat : Int) = if v < 26 then 65 + v else 22 + v := by
  unfold upOf
  have : (if v < 26 then 65 + v else 22 + v).toNat < 256 := by split <;> (first | decide | lia | omega)
  rw [Nat.toUInt8, UInt8.toNat_ofNat', Nat.mod_eq_of_lt this]
  split <;> (first | decide | lia | omega)
section
variable {prog : Program} {w : World} {B : Heap} {mg mb : Str → Option Value}
set_option maxHeartbeats 4000000 in
theorem dec_fun (G : Gnd B mg mb) (R1 : FnRec B mg (fnd 1)) (R : FnRec B mg (fnd 6)) (ext : Array UInt8) (pos : Nat) (b N : Int) (rest : List UInt8) (hN : 0 ≤ N) (hz : ext.size ≤ 2 ^ 20) (hx : ext.toList.drop pos = upL (numL b 0 N) ++ rest) :
    Fun prog w B mg 2 "decode_generalized_number" [.bytes ext, .int pos, .int b, .str "strict"] [] [] (fun d post => d = .tup [.int (pos + (numL b 0 N).length), .int N] ∧ post = []) := by
  refine Fun_of_body (d := fnd 6) (n := 1) (own := []) (ro := []) G R ["extended", "extpos", "bias", "errors"] ["result", "w", "j", "char", "digit", "t"]
    [("extended", .bytes ext), ("extpos", .int pos), ("bias", .int b), ("errors", .str "strict"), ("result", .any), ("w", .any), ("j", .any), ("char", .any), ("digit", .any), ("t", .any)] rfl ?_ ?_ rfl ?_ ((by first | decide | exact Nat.le_of_ble_eq_true rfl | exact List.forall_mem_nil _ | simp)) ((by first | decide | exact Nat.le_of_ble_eq_true rfl | exact List.forall_mem_nil _ | simp)) fun C k hs room hW hro => ?_
  · intro pm code doc vs h
    rcases vs with _ | ⟨a, _ | ⟨b, _ | ⟨c, _ | ⟨d, _ | ⟨e, r⟩⟩⟩⟩⟩ <;> simp at h
    rfl
  · decide +kernel
  · refine ⟨rfl, rfl, rfl, ?_⟩
    decide +kernel
  · refine WXs_cons ?_
    walk_at "sts"
    refine WX_while (X := Int × Int × Int × Int × Nat) (fun x => ⟨[("extended", .bytes ext), ("extpos", .int (pos + x.2.2.2.2)), ("bias", .int b), ("errors", .str "strict"), ("result", .int x.1), ("w", .int x.2.1), ("j", .int x.2.2.1), ("char", .any), ("digit", .any), ("t", .any)], []⟩)
      (fun x => 0 ≤ x.2.2.2.1 ∧ x.1 + x.2.1 * x.2.2.2.1 = N ∧ ext.toList.drop (pos + x.2.2.2.2) = upL (numL b x.2.2.1 x.2.2.2.1) ++ rest ∧ x.2.2.2.2 + (numL b x.2.2.1 x.2.2.2.1).length = (numL b 0 N).length) (fun x => x.2.2.2.1.toNat)
      (0, 1, 0, N, 0) ⟨hN, (by first | decide | exact Nat.le_of_ble_eq_true rfl | exact List.forall_mem_nil _ | simp), by simpa using hx, (by first | decide | exact Nat.le_of_ble_eq_true rfl | exact List.forall_mem_nil _ | simp)⟩ ⟨by simp only [Int.natCast_zero, Int.add_zero]; exact LocLe.rfl, .slnil⟩ ?_
    rintro ⟨res, ww, j, M, kk⟩ ⟨h0, hsum, hdrop, hlen⟩
    dsimp only at h0 hsum hdrop hlen ⊢
    walk_at "stes"
    refine dsplit_t (by decide) ?_
    have hT := Tv_pos j b
    obtain ⟨v, vs, hv⟩ : ∃ v vs, numL b j M = v :: vs := by
      unfold numL
      split
      · exact ⟨_, _, rfl⟩
      · exact ⟨_, _, rfl⟩
    have hvr := numL_range b j M h0 v (by rw [hv]; exact .head _)
    rw [hv] at hdrop hlen
    have hlt : pos + kk < ext.size := by
      have := congrArg List.length hdrop
      simp [upL] at this
      (first | decide | lia | omega)
    have hget : ext.toList.getD (pos + kk) 0 = upOf v := by
      have : ext.toList[pos + kk]? = some (upOf v) := by
        have h1 : (ext.toList.drop (pos + kk))[0]? = some (upOf v) := by rw [hdrop]; rfl
        rw [List.getElem?_drop] at h1
        simpa using h1
      rw [List.getD_eq_getElem?_getD, this]; rfl
    refine WXs_cons (WX_try ?_)
    walk_at "stes"
    refine ⟨⟨by (first | decide | lia | omega), by (first | decide | lia | omega), by (first | decide | lia | omega)⟩, ?_⟩
    have hnat : ((pos : Int) + (kk : Int)).toNat = pos + kk := by (first | decide | lia | omega)
    rw [hnat, hget, upOf_nat hvr]
    by_cases c26 : v < 26
    · rw [if_pos c26]
      walk_at "sts"
      refine dsplit_t (by (first | decide | lia | omega)) ?_
      walk_at "sts"
      refine dsplit_t (by (first | decide | lia | omega)) ?_
      walk_at "sts"
      (((with_reducible refine' WE_call0 ?kx9 ?Gx9 ?hsx9 ?hfx9 ?hdx9 ?_ ?hFx9 ?hex9); (case kx9 => assumption); (case Gx9 => assumption); (case hsx9 => assumption); (case hfx9 => decide +kernel); (case hdx9 => decide +kernel); (case hex9 => with_unfolding_all rfl)))
      case hFx9 => exact ⟨_, _, _, _, _, T_fun G R1 0 0⟩
      walk_at "stes"
      refine ⟨1, [], _, T_fun G R1 j b, room, (by first | decide | exact Nat.le_of_ble_eq_true rfl | exact List.forall_mem_nil _ | simp), ?_⟩
      rintro d post ⟨rfl, rfl⟩
      dsimp only [List.nil_append]
      refine storeK (by walk_at "upd") (seqK_next ?_)
      walk_at "sts"
      have edig : (65 + v - 65) = v := by (first | decide | lia | omega)
      rw [edig]
      refine dsplit (fun h => ?_) (fun h => ?_)
      · have hn : numL b j M = [M] := by
          unfold numL at hv ⊢
          by_cases c : M < Tv j b
          · rw [if_pos c]
          · rw [if_neg c] at hv
            have := (List.cons.inj hv).1
            have m0 := Int.emod_nonneg (M - Tv j b) (by (first | decide | lia | omega) : 36 - Tv j b ≠ 0)
            (first | decide | lia | omega)
        rw [hn] at hv
        obtain ⟨rfl, rfl⟩ := List.cons.inj hv
        walk_at "sts"
        refine WE_tuple ?_
        walk_at "sts"
        refine ⟨(by first | decide | exact Nat.le_of_ble_eq_true rfl | exact List.forall_mem_nil _ | simp), ?_⟩
        repeat walk_at "flow"
        refine retK_ret [] (List.nil_sublist _) ⟨?_, rfl⟩
        simp only [List.length_cons, List.length_nil] at hlen
        have e1 : (pos : Int) + (kk : Int) + 1 = pos + ((numL b 0 N).length : Nat) := by (first | decide | lia | omega)
        have e2 : res + M * ww = N := by rw [← hsum, Int.mul_comm]
        rw [e1, e2]
      · have hn : ¬ M < Tv j b := by
          intro c
          unfold numL at hv
          rw [if_pos c] at hv
          have := (List.cons.inj hv).1
          (first | decide | lia | omega)
        have hv' := hv
        unfold numL at hv'
        rw [if_neg hn] at hv'
        obtain ⟨hv1, hv2⟩ := List.cons.inj hv'
        walk_at "sts"
        have e0 : 0 ≤ (M - Tv j b) / (36 - Tv j b) := Int.ediv_nonneg (by (first | decide | lia | omega)) (by (first | decide | lia | omega))
        have e1 : (M - Tv j b) / (36 - Tv j b) ≤ M - Tv j b := Int.ediv_le_self _ (by (first | decide | lia | omega))
        have e2 := Int.emod_add_mul_ediv (M - Tv j b) (36 - Tv j b)
        refine ⟨(res + v * ww, ww * (36 - Tv j b), j + 1, (M - Tv j b) / (36 - Tv j b), kk + 1), by dsimp only; (first | decide | lia | omega), ⟨e0, ?_, ?_, ?_⟩, ?_, .slnil⟩
        · dsimp only
          generalize (M - Tv j b) / (36 - Tv j b) = q at e2 hv2 ⊢
          generalize (M - Tv j b) % (36 - Tv j b) = r at e2 hv1 ⊢
          have : v + (36 - Tv j b) * q = M := by (first | decide | lia | omega)
          rw [← hsum, ← this, Int.mul_add, Int.mul_comm v ww, Int.add_assoc, Int.mul_assoc]
        · dsimp only
          rw [hv2]
          have : ext.toList.drop (pos + (kk + 1)) = (ext.toList.drop (pos + kk)).drop 1 := by rw [List.drop_drop]; congr 1
          rw [this, hdrop]; rfl
        · dsimp only
          rw [hv2]
          simp only [List.length_cons] at hlen
          (first | decide | lia | omega)
        · have : (pos : Int) + ((kk + 1 : Nat) : Int) = pos + kk + 1 := by (first | decide | lia | omega)
          dsimp only
          rw [this]
          (repeat (first | exact LocLe.nil | apply LocLe.same | apply LocLe.any))
    · rw [if_neg c26]
      walk_at "sts"
      refine dsplit_f (by (first | decide | lia | omega)) ?_
      refine fsplit ?_
      walk_at "sts"
      refine dsplit_t (by (first | decide | lia | omega)) ?_
      walk_at "sts"
      refine dsplit_t (by (first | decide | lia | omega)) ?_
      walk_at "sts"
      (((with_reducible refine' WE_call0 ?kx11 ?Gx11 ?hsx11 ?hfx11 ?hdx11 ?_ ?hFx11 ?hex11); (case kx11 => assumption); (case Gx11 => assumption); (case hsx11 => assumption); (case hfx11 => decide +kernel); (case hdx11 => decide +kernel); (case hex11 => with_unfolding_all rfl)))
      case hFx11 => exact ⟨_, _, _, _, _, T_fun G R1 0 0⟩
      walk_at "stes"
      refine ⟨1, [], _, T_fun G R1 j b, room, (by first | decide | exact Nat.le_of_ble_eq_true rfl | exact List.forall_mem_nil _ | simp), ?_⟩
      rintro d post ⟨rfl, rfl⟩
      dsimp only [List.nil_append]
      refine storeK (by walk_at "upd") (seqK_next ?_)
      walk_at "sts"
      have edig : (22 + v - 22) = v := by (first | decide | lia | omega)
      rw [edig]
      refine dsplit (fun h => ?_) (fun h => ?_)
      · have hn : numL b j M = [M] := by
          unfold numL at hv ⊢
          by_cases c : M < Tv j b
          · rw [if_pos c]
          · rw [if_neg c] at hv
            have := (List.cons.inj hv).1
            have m0 := Int.emod_nonneg (M - Tv j b) (by (first | decide | lia | omega) : 36 - Tv j b ≠ 0)
            (first | decide | lia | omega)
        rw [hn] at hv
        obtain ⟨rfl, rfl⟩ := List.cons.inj hv
        walk_at "sts"
        refine WE_tuple ?_
        walk_at "sts"
        refine ⟨(by first | decide | exact Nat.le_of_ble_eq_true rfl | exact List.forall_mem_nil _ | simp), ?_⟩
        repeat walk_at "flow"
        refine retK_ret [] (List.nil_sublist _) ⟨?_, rfl⟩
        simp only [List.length_cons, List.length_nil] at hlen
        have e1 : (pos : Int) + (kk : Int) + 1 = pos + ((numL b 0 N).length : Nat) := by (first | decide | lia | omega)
        have e2 : res + M * ww = N := by rw [← hsum, Int.mul_comm]
        rw [e1, e2]
      · have hn : ¬ M < Tv j b := by
          intro c
          unfold numL at hv
          rw [if_pos c] at hv
          have := (List.cons.inj hv).1
          (first | decide | lia | omega)
        have hv' := hv
        unfold numL at hv'
        rw [if_neg hn] at hv'
        obtain ⟨hv1, hv2⟩ := List.cons.inj hv'
        walk_at "sts"
        have e0 : 0 ≤ (M - Tv j b) / (36 - Tv j b) := Int.ediv_nonneg (by (first | decide | lia | omega)) (by (first | decide | lia | omega))
        have e1 : (M - Tv j b) / (36 - Tv j b) ≤ M - Tv j b := Int.ediv_le_self _ (by (first | decide | lia | omega))
        have e2 := Int.emod_add_mul_ediv (M - Tv j b) (36 - Tv j b)
        refine ⟨(res + v * ww, ww * (36 - Tv j b), j + 1, (M - Tv j b) / (36 - Tv j b), kk + 1), by dsimp only; (first | decide | lia | omega), ⟨e0, ?_, ?_, ?_⟩, ?_, .slnil⟩
        · dsimp only
          generalize (M - Tv j b) / (36 - Tv j b) = q at e2 hv2 ⊢
          generalize (M - Tv j b) % (36 - Tv j b) = r at e2 hv1 ⊢
          have : v + (36 - Tv j b) * q = M := by (first | decide | lia | omega)
          rw [← hsum, ← this, Int.mul_add, Int.mul_comm v ww, Int.add_assoc, Int.mul_assoc]
        · dsimp only
          rw [hv2]
          have : ext.toList.drop (pos + (kk + 1)) = (ext.toList.drop (pos + kk)).drop 1 := by rw [List.drop_drop]; congr 1
          rw [this, hdrop]; rfl
        · dsimp only
          rw [hv2]
          simp only [List.length_cons] at hlen
          (first | decide | lia | omega)
        · have : (pos : Int) + ((kk + 1 : Nat) : Int) = pos + kk + 1 := by (first | decide | lia | omega)
          dsimp only
          rw [this]
          (repeat (first | exact LocLe.nil | apply LocLe.same | apply LocLe.any))
end
end
section
open PySem PyProof.Rows PySem.Calls
abbrev T3 := Int × Int × Int
noncomputable def g3 (ts : List T3) (i : Nat) : T3 := ts.getD i (0, 0, 0)
noncomputable def sdn (ts : List T3) (x : T3) (pos : Nat) : List T3 :=
  if pos > 0 then (if tlt x (g3 ts ((pos - 1) / 2)) = true then sdn (ts.set pos (g3 ts ((pos - 1) / 2))) x ((pos - 1) / 2) else ts.set pos x) else ts.set pos x
termination_by pos
decreasing_by (first | decide | lia | omega)
section
variable {prog : Program} {w : World} {B : Heap} {mg mb : Str → Option Value} {C : Cx} {S : St}
theorem item_tri {a : Addr} {ts : List T3} {i : Int} {k : PV → Prop} (m : Has C S a (.list (ts.map tri))) (hl : ts.length ≤ 2 ^ 20) (h0 : 0 ≤ i) (h1 : i < ts.length) (h : k (tri (g3 ts i.toNat))) : ItemK C S k (.ref a) (.int i) := by
  have hi : i.toNat < ts.length := by (first | decide | lia | omega)
  refine ⟨ts.map tri, i.toNat, tri (g3 ts i.toNat), m, by simp; (first | decide | lia | omega), seqIndex_nn h0 (by simpa using h1), ?_, h⟩
  simp [g3, hi]
theorem set_tri {a : Addr} {ts : List T3} {x : T3} {i : Int} {own' : List (Addr × AObj)} {k : St → Prop} (u : Upd a (.list (ts.map tri)) (.list ((ts.set i.toNat x).map tri)) S.own own') (hl : ts.length ≤ 2 ^ 20) (h0 : 0 ≤ i) (h1 : i < ts.length) (h : k ⟨S.loc, own'⟩) : SetK S (tri x) k (.ref a) (.int i) := by
  refine ⟨ts.map tri, own', ?_, by simp; (first | decide | lia | omega), h0, by simpa using h1, h⟩
  rw [← List.map_set]; exact u
end
section
variable {prog : Program} {w : World} {B : Heap} {mg mb : Str → Option Value}
set_option maxHeartbeats 4000000 in
theorem sd_fun (G : Gnd B mg mb) (R : FnRec B mg (fnd 13)) (a : Addr) (ts : List T3) (pos : Nat) (hp : pos < ts.length) (hl : ts.length ≤ 1000) :
    Fun prog w B mg 1 "_siftdown" [.ref a, .int 0, .int pos] [(a, .list (ts.map tri))] [a] (fun d post => d = .none ∧ post = [(a, .list ((sdn ts (g3 ts pos) pos).map tri))]) := by
  refine Fun_of_body (d := fnd 13) (n := 0) (own := [(a, .list (ts.map tri))]) (ro := []) G R ["heap", "startpos", "pos"] ["newitem", "parentpos", "parent"]
    [("heap", .ref a), ("startpos", .int 0), ("pos", .int pos), ("newitem", .any), ("parentpos", .any), ("parent", .any)] rfl ?_ ?_ rfl ?_ ((by first | decide | exact Nat.le_of_ble_eq_true rfl | exact List.forall_mem_nil _ | simp)) ((by first | decide | exact Nat.le_of_ble_eq_true rfl | exact List.forall_mem_nil _ | simp)) fun C k hs room hW hro => ?_
  · intro pm code doc vs h
    rcases vs with _ | ⟨a, _ | ⟨b, _ | ⟨c, _ | ⟨d, r⟩⟩⟩⟩ <;> simp at h
    rfl
  · decide +kernel
  · refine ⟨rfl, rfl, rfl, ?_⟩
    decide +kernel
  · have hu : C.A.units + 64 < cLine := by have := room.2.1; unfold cLine; (first | decide | lia | omega)
    refine WXs_cons ?_
    walk_at "sts"
    refine item_tri (ts := ts) (by (first | (refine Has.own ?_; walk_at "mem"; done) | (refine Has.roAt (by assumption) ?_; walk_at "mem"; done))) (by (first | decide | lia | omega)) (by (first | decide | lia | omega)) (by (first | decide | lia | omega)) ?_
    simp only [Int.toNat_natCast]
    walk_at "sts"
    refine WX_while (X := List T3 × Nat) (fun x => ⟨[("heap", .ref a), ("startpos", .int 0), ("pos", .int x.2), ("newitem", tri (g3 ts pos)), ("parentpos", .any), ("parent", .any)], [(a, .list (x.1.map tri))]⟩)
      (fun x => x.2 < x.1.length ∧ x.1.length = ts.length ∧ sdn x.1 (g3 ts pos) x.2 = sdn ts (g3 ts pos) pos) (fun x => x.2) (ts, pos) ⟨hp, rfl, rfl⟩ ⟨LocLe.rfl, List.Sublist.refl _⟩ ?_
    rintro ⟨us, q⟩ ⟨hq, hlen, he⟩
    dsimp only at hq hlen he ⊢
    walk_at "stes"
    refine dsplit (fun h => ?_) (fun h => ?_)
    · have hpar : ((q : Int) - 1) / 2 = (((q - 1) / 2 : Nat) : Int) := by (first | decide | lia | omega)
      walk_at "sts"
      rw [hpar]
      refine item_tri (ts := us) (by (first | (refine Has.own ?_; walk_at "mem"; done) | (refine Has.roAt (by assumption) ?_; walk_at "mem"; done))) (by (first | decide | lia | omega)) (by (first | decide | lia | omega)) (by (first | decide | lia | omega)) ?_
      simp only [Int.toNat_natCast]
      repeat walk_at "flow"
      refine storeK (by walk_at "upd") (seqK_next (WXs_cons (WX_if (WB_tlt hu ?_ (by with_unfolding_all rfl)))))
      walk_at "stes"
      refine ⟨_, _, rfl, rfl, ?_⟩
      cases c : tlt (g3 ts pos) (g3 us ((q - 1) / 2)) with
      | true =>
        refine tsplit ?_
        refine WXs_cons ?_
        (((with_reducible refine' WX_setItem ?_ ?hsx15); (case hsx15 => with_unfolding_all rfl)))
        walk_at "stes"
        refine set_tri (ts := us) (by walk_at "upd") (by (first | decide | lia | omega)) (by (first | decide | lia | omega)) (by (first | decide | lia | omega)) ?_
        simp only [Int.toNat_natCast]
        walk_at "sts"
        refine ⟨(us.set q (g3 us ((q - 1) / 2)), (q - 1) / 2), by dsimp only; (first | decide | lia | omega), ⟨by simp; (first | decide | lia | omega), by simpa using hlen, ?_⟩, by (repeat (first | exact LocLe.nil | apply LocLe.same | apply LocLe.any)), List.Sublist.refl _⟩
        dsimp only
        rw [← he]
        conv => rhs; unfold sdn
        rw [if_pos (by (first | decide | lia | omega)), if_pos c]
      | false =>
        refine fsplit ?_
        have hs' : sdn us (g3 ts pos) q = us.set q (g3 ts pos) := by
          unfold sdn
          rw [if_pos (by (first | decide | lia | omega)), if_neg (by rw [c]; exact Bool.false_ne_true)]
        walk_at "sts"
        (((with_reducible refine' WX_setItem ?_ ?hsx17); (case hsx17 => with_unfolding_all rfl)))
        walk_at "stes"
        refine set_tri (ts := us) (by walk_at "upd") (by (first | decide | lia | omega)) (by (first | decide | lia | omega)) (by (first | decide | lia | omega)) ?_
        simp only [Int.toNat_natCast]
        walk_at "sts"
        exact retK_next _ (List.Sublist.refl _) ⟨rfl, by rw [← he, hs']⟩
    · have hs' : sdn us (g3 ts pos) q = us.set q (g3 ts pos) := by
        unfold sdn
        rw [if_neg (by (first | decide | lia | omega))]
      walk_at "sts"
      (((with_reducible refine' WX_setItem ?_ ?hsx18); (case hsx18 => with_unfolding_all rfl)))
      walk_at "stes"
      refine set_tri (ts := us) (by walk_at "upd") (by (first | decide | lia | omega)) (by (first | decide | lia | omega)) (by (first | decide | lia | omega)) ?_
      simp only [Int.toNat_natCast]
      walk_at "sts"
      exact retK_next _ (List.Sublist.refl _) ⟨rfl, by rw [← he, hs']⟩
end
end
section
open PySem PyProof.Rows PySem.Calls
noncomputable def loopBody (d : DefRec) (i k : Nat) : List Stmt := match d.body[i]? with
  | some (Stmt.While _ b _ _) => b.drop k
  | some (Stmt.For _ _ b _ _) => b.drop k
  | _ => []
noncomputable def chd (ts : List T3) (c : Nat) : Nat := if c + 1 < ts.length ∧ tlt (g3 ts c) (g3 ts (c + 1)) = false then c + 1 else c
theorem chd_ge (ts : List T3) (c : Nat) : c ≤ chd ts c ∧ chd ts c ≤ c + 1 ∧ (c < ts.length → chd ts c < ts.length) := by
  unfold chd; split <;> (first | decide | lia | omega)
noncomputable def supL (ts : List T3) (pos : Nat) : List T3 × Nat := if 2 * pos + 1 < ts.length then supL (ts.set pos (g3 ts (chd ts (2 * pos + 1)))) (chd ts (2 * pos + 1)) else (ts, pos)
termination_by ts.length - pos
decreasing_by
  have := chd_ge ts (2 * pos + 1)
  simp only [List.length_set]; (first | decide | lia | omega)
noncomputable def sup (ts : List T3) : List T3 := sdn ((supL ts 0).1.set (supL ts 0).2 (g3 ts 0)) (g3 ((supL ts 0).1.set (supL ts 0).2 (g3 ts 0)) (supL ts 0).2) (supL ts 0).2
section
variable {prog : Program} {w : World} {B : Heap} {mg mb : Str → Option Value}
set_option maxHeartbeats 4000000 in
theorem su_fun (G : Gnd B mg mb) (R13 : FnRec B mg (fnd 13)) (R : FnRec B mg (fnd 14)) (a : Addr) (ts : List T3) (hp : ts ≠ []) (hl : ts.length ≤ 1000) :
    Fun prog w B mg 2 "_siftup" [.ref a, .int 0] [(a, .list (ts.map tri))] [a] (fun d post => d = .none ∧ post = [(a, .list ((sup ts).map tri))]) := by
  refine Fun_of_body (d := fnd 14) (n := 1) (own := [(a, .list (ts.map tri))]) (ro := []) G R ["heap", "pos"] ["endpos", "startpos", "newitem", "childpos", "rightpos"]
    [("heap", .ref a), ("pos", .int 0), ("endpos", .any), ("startpos", .any), ("newitem", .any), ("childpos", .any), ("rightpos", .any)] rfl ?_ ?_ rfl ?_ ((by first | decide | exact Nat.le_of_ble_eq_true rfl | exact List.forall_mem_nil _ | simp)) ((by first | decide | exact Nat.le_of_ble_eq_true rfl | exact List.forall_mem_nil _ | simp)) fun C k hs room hW hro => ?_
  · intro pm code doc vs h
    rcases vs with _ | ⟨a, _ | ⟨b, _ | ⟨c, r⟩⟩⟩ <;> simp at h
    rfl
  · decide +kernel
  · refine ⟨rfl, rfl, rfl, ?_⟩
    decide +kernel
  · have hu : C.A.units + 64 < cLine := by have := room.2.1; unfold cLine; (first | decide | lia | omega)
    have hpos : 0 < ts.length := List.length_pos_iff.mpr hp
    refine WXs_cons ?_
    walk_at "sts"
    (first | ((with_reducible refine' WE_blt ?kx19 ?Gx19 ?hsx19 ?hfx19 ?hdx19 ?hvx19 ?hbx19 ?hnx19 ?_ ?hex19 ?hpx19); (case kx19 => assumption); (case Gx19 => assumption); (case hsx19 => assumption); (case hfx19 => decide +kernel); (case hdx19 => decide +kernel); (case hvx19 => decide +kernel); (case hbx19 => (with_reducible first | exact boot_len' | exact boot_min' | exact boot_max' | exact boot_sum' | exact boot_divmod' | exact boot_chr' | exact boot_sorted' | exact boot_isinstance' | exact boot_bytes' | exact boot_bytearray' | exact boot_list' | exact boot_str' | exact boot_memoryview')); (case hnx19 => decide +kernel); (case hex19 => with_unfolding_all rfl); (case hpx19 => with_unfolding_all rfl)) | ((with_reducible refine' WE_typ ?kx19 ?Gx19 ?hsx19 ?hfx19 ?hdx19 ?hvx19 ?hbx19 ?hnx19 ?_ ?hex19 ?hpx19); (case kx19 => assumption); (case Gx19 => assumption); (case hsx19 => assumption); (case hfx19 => decide +kernel); (case hdx19 => decide +kernel); (case hvx19 => decide +kernel); (case hbx19 => (with_reducible first | exact boot_len' | exact boot_min' | exact boot_max' | exact boot_sum' | exact boot_divmod' | exact boot_chr' | exact boot_sorted' | exact boot_isinstance' | exact boot_bytes' | exact boot_bytearray' | exact boot_list' | exact boot_str' | exact boot_memoryview')); (case hnx19 => decide +kernel); (case hex19 => with_unfolding_all rfl); (case hpx19 => with_unfolding_all rfl)))
    walk_at "sts"
    refine callB_lenList k (l := ts.map tri) (by (first | (refine Has.own ?_; walk_at "mem"; done) | (refine Has.roAt (by assumption) ?_; walk_at "mem"; done))) (by simp; (first | decide | lia | omega)) ?_
    simp only [List.length_map]
    walk_at "sts"
    refine item_tri (ts := ts) (by (first | (refine Has.own ?_; walk_at "mem"; done) | (refine Has.roAt (by assumption) ?_; walk_at "mem"; done))) (by (first | decide | lia | omega)) (by (first | decide | lia | omega)) (by (first | decide | lia | omega)) ?_
    simp only [Int.toNat_zero]
    walk_at "sts"
    refine WX_while (X := List T3 × Nat) (fun x => ⟨[("heap", .ref a), ("pos", .int x.2), ("endpos", .int ts.length), ("startpos", .int 0), ("newitem", tri (g3 ts 0)), ("childpos", .int (2 * x.2 + 1)), ("rightpos", .any)], [(a, .list (x.1.map tri))]⟩)
      (fun x => x.2 < x.1.length ∧ x.1.length = ts.length ∧ supL x.1 x.2 = supL ts 0) (fun x => ts.length - x.2) (ts, 0) ⟨hpos, rfl, rfl⟩ ⟨LocLe.rfl, List.Sublist.refl _⟩ ?_
    rintro ⟨us, q⟩ ⟨hq, hlen, he⟩
    dsimp only at hq hlen he ⊢
    walk_at "stes"
    have hc := chd_ge us (2 * q + 1)
    refine dsplit (fun h => ?_) (fun h => ?_)
    · have tail : ∀ cp : Nat, cp = chd us (2 * q + 1) → WXs prog w C (loopBody (fnd 14) 4 2) ⟨[("heap", .ref a), ("pos", .int q), ("endpos", .int ts.length), ("startpos", .int 0), ("newitem", tri (g3 ts 0)), ("childpos", .int cp), ("rightpos", .int (2 * q + 1 + 1))], [(a, .list (us.map tri))]⟩
          (loopK (fun S₂ => ∃ y : List T3 × Nat, ts.length - y.2 < ts.length - q ∧ (y.2 < y.1.length ∧ y.1.length = ts.length ∧ supL y.1 y.2 = supL ts 0) ∧ LeS S₂ ⟨[("heap", .ref a), ("pos", .int y.2), ("endpos", .int ts.length), ("startpos", .int 0), ("newitem", tri (g3 ts 0)), ("childpos", .int (2 * y.2 + 1)), ("rightpos", .any)], [(a, .list (y.1.map tri))]⟩)
            (seqK (fun S' => WXs prog w C ((fnd 14).body.drop 5) S' (retK [a] fun d post => d = .none ∧ post = [(a, .list ((sup ts).map tri))])) (retK [a] fun d post => d = .none ∧ post = [(a, .list ((sup ts).map tri))]))) := by
        intro cp ecp
        refine WXs_cons ?_
        (((with_reducible refine' WX_setItem ?_ ?hsx24); (case hsx24 => with_unfolding_all rfl)))
        walk_at "stes"
        refine item_tri (ts := us) (by (first | (refine Has.own ?_; walk_at "mem"; done) | (refine Has.roAt (by assumption) ?_; walk_at "mem"; done))) (by (first | decide | lia | omega)) (by (first | decide | lia | omega)) (by (first | decide | lia | omega)) ?_
        simp only [Int.toNat_natCast]
        walk_at "stes"
        refine set_tri (ts := us) (by walk_at "upd") (by (first | decide | lia | omega)) (by (first | decide | lia | omega)) (by (first | decide | lia | omega)) ?_
        simp only [Int.toNat_natCast]
        walk_at "sts"
        refine ⟨(us.set q (g3 us cp), cp), by dsimp only; (first | decide | lia | omega), ⟨by simp; (first | decide | lia | omega), by simpa using hlen, ?_⟩, by (repeat (first | exact LocLe.nil | apply LocLe.same | apply LocLe.any)), List.Sublist.refl _⟩
        dsimp only
        rw [← he, ecp]
        conv => rhs; unfold supL
        rw [if_pos (by (first | decide | lia | omega))]
      walk_at "sts"
      refine dsplit (fun h' => ?_) (fun h' => ?_)
      · refine WB_not (WB_tlt hu ?_ (by with_unfolding_all rfl))
        walk_at "stes"
        refine item_tri (ts := us) (by (first | (refine Has.own ?_; walk_at "mem"; done) | (refine Has.roAt (by assumption) ?_; walk_at "mem"; done))) (by (first | decide | lia | omega)) (by (first | decide | lia | omega)) (by (first | decide | lia | omega)) ?_
        walk_at "stes"
        refine item_tri (ts := us) (by (first | (refine Has.own ?_; walk_at "mem"; done) | (refine Has.roAt (by assumption) ?_; walk_at "mem"; done))) (by (first | decide | lia | omega)) (by (first | decide | lia | omega)) (by (first | decide | lia | omega)) ?_
        have e1 : (2 * (q : Int) + 1).toNat = 2 * q + 1 := by (first | decide | lia | omega)
        have e2 : (2 * (q : Int) + 1 + 1).toNat = 2 * q + 1 + 1 := by (first | decide | lia | omega)
        rw [e1, e2]
        refine ⟨_, _, rfl, rfl, ?_⟩
        cases c : tlt (g3 us (2 * q + 1)) (g3 us (2 * q + 1 + 1)) with
        | true =>
          refine fsplit (WXs_nil (seqK_next ?_))
          exact tail (2 * q + 1) (by unfold chd; rw [if_neg (by rw [c]; simp)])
        | false =>
          refine tsplit ?_
          walk_at "stes"
          refine seqK_next (WXs_nil (seqK_next ?_))
          exact tail (2 * q + 1 + 1) (by unfold chd; rw [if_pos ⟨by (first | decide | lia | omega), c⟩])
      · refine fsplit (WXs_nil (seqK_next ?_))
        exact tail (2 * q + 1) (by unfold chd; rw [if_neg (by (first | decide | lia | omega))])
    · have hs' : supL ts 0 = (us, q) := by
        rw [← he]; unfold supL; rw [if_neg (by (first | decide | lia | omega))]
      walk_at "sts"
      (((with_reducible refine' WX_setItem ?_ ?hsx29); (case hsx29 => with_unfolding_all rfl)))
      walk_at "stes"
      refine set_tri (ts := us) (by walk_at "upd") (by (first | decide | lia | omega)) (by (first | decide | lia | omega)) (by (first | decide | lia | omega)) ?_
      simp only [Int.toNat_natCast]
      refine seqK_next (WXs_cons (WX_expr k ?_ (by with_unfolding_all rfl)))
      (((with_reducible refine' WE_call1 ?kx30 ?Gx30 ?hsx30 ?hfx30 ?hdx30 ?_ ?hFx30 ?hex30); (case kx30 => assumption); (case Gx30 => assumption); (case hsx30 => assumption); (case hfx30 => decide +kernel); (case hdx30 => decide +kernel); (case hex30 => with_unfolding_all rfl)))
      case hFx30 => exact ⟨_, _, _, _, _, sd_fun G R13 0 [(0, 0, 0)] 0 ((by first | decide | exact Nat.le_of_ble_eq_true rfl | exact List.forall_mem_nil _ | simp)) ((by first | decide | exact Nat.le_of_ble_eq_true rfl | exact List.forall_mem_nil _ | simp))⟩
      walk_at "stes"
      refine ⟨1, _, a, _, _, sd_fun G R13 a (us.set q (g3 ts 0)) q (by simp; (first | decide | lia | omega)) (by simp; (first | decide | lia | omega)), room, ?_, .head _, ?_⟩
      · intro p m
        rw [List.mem_singleton] at m; subst m; (first | (refine Has.own ?_; walk_at "mem"; done) | (refine Has.roAt (by assumption) ?_; walk_at "mem"; done))
      rintro d post ⟨rfl, rfl⟩
      refine ⟨_, [], _, rfl, .here, rfl, ?_⟩
      dsimp only [List.nil_append]
      walk_at "sts"
      refine retK_next _ (List.Sublist.refl _) ⟨rfl, ?_⟩
      unfold sup
      rw [hs']
end
end
section
open PySem PyProof.Rows PySem.Calls
section
variable {prog : Program} {w : World} {B : Heap} {mg mb : Str → Option Value}
set_option maxHeartbeats 4000000 in
theorem push_fun (G : Gnd B mg mb) (R13 : FnRec B mg (fnd 13)) (R : FnRec B mg (fnd 10)) (a : Addr) (ts : List T3) (x : T3) (hl : ts.length < 1000) :
    Fun prog w B mg 2 "heappush" [.ref a, tri x] [(a, .list (ts.map tri))] [a] (fun d post => d = .none ∧ post = [(a, .list ((sdn (ts ++ [x]) x ts.length).map tri))]) := by
  refine Fun_of_body (d := fnd 10) (n := 1) (own := [(a, .list (ts.map tri))]) (ro := []) G R ["heap", "item"] []
    [("heap", .ref a), ("item", tri x)] rfl ?_ ?_ rfl ?_ ((by first | decide | exact Nat.le_of_ble_eq_true rfl | exact List.forall_mem_nil _ | simp)) ((by first | decide | exact Nat.le_of_ble_eq_true rfl | exact List.forall_mem_nil _ | simp)) fun C k hs room hW hro => ?_
  · intro pm code doc vs h
    rcases vs with _ | ⟨a, _ | ⟨b, _ | ⟨c, r⟩⟩⟩ <;> simp at h
    rfl
  · decide +kernel
  · refine ⟨rfl, rfl, rfl, ?_⟩
    decide +kernel
  · refine WXs_cons ?_
    (((with_reducible refine' WX_expr ?kx32 ?_ ?hsx32); (case kx32 => assumption); (case hsx32 => with_unfolding_all rfl)))
    (((with_reducible refine' WE_meth "list.append" ?_ ?hbx33 ?hlx33 ?hfx33 ?hex33 ?hpx33); (case hbx33 => with_unfolding_all rfl); (case hlx33 => with_unfolding_all rfl); (case hfx33 => with_unfolding_all rfl); (case hex33 => with_unfolding_all rfl); (case hpx33 => with_unfolding_all rfl)))
    walk_at "stes"
    refine ⟨meth_list k (by (first | (refine Has.own ?_; walk_at "mem"; done) | (refine Has.roAt (by assumption) ?_; walk_at "mem"; done))) F.slot_list_append F.type_list_append, ?_⟩
    walk_at "stes"
    refine callB_append (by walk_at "upd") (by simp; (first | decide | lia | omega)) ⟨rfl, ?_⟩
    have e : ts.map tri ++ [tri x] = (ts ++ [x]).map tri := by simp
    rw [e]
    refine seqK_next (WXs_cons ?_)
    (((with_reducible refine' WX_expr ?kx35 ?_ ?hsx35); (case kx35 => assumption); (case hsx35 => with_unfolding_all rfl)))
    (((with_reducible refine' WE_call1 ?kx36 ?Gx36 ?hsx36 ?hfx36 ?hdx36 ?_ ?hFx36 ?hex36); (case kx36 => assumption); (case Gx36 => assumption); (case hsx36 => assumption); (case hfx36 => decide +kernel); (case hdx36 => decide +kernel); (case hex36 => with_unfolding_all rfl)))
    case hFx36 => exact ⟨_, _, _, _, _, sd_fun G R13 0 [(0, 0, 0)] 0 ((by first | decide | exact Nat.le_of_ble_eq_true rfl | exact List.forall_mem_nil _ | simp)) ((by first | decide | exact Nat.le_of_ble_eq_true rfl | exact List.forall_mem_nil _ | simp))⟩
    walk_at "stes"
    (first | ((with_reducible refine' WE_blt ?kx37 ?Gx37 ?hsx37 ?hfx37 ?hdx37 ?hvx37 ?hbx37 ?hnx37 ?_ ?hex37 ?hpx37); (case kx37 => assumption); (case Gx37 => assumption); (case hsx37 => assumption); (case hfx37 => decide +kernel); (case hdx37 => decide +kernel); (case hvx37 => decide +kernel); (case hbx37 => (with_reducible first | exact boot_len' | exact boot_min' | exact boot_max' | exact boot_sum' | exact boot_divmod' | exact boot_chr' | exact boot_sorted' | exact boot_isinstance' | exact boot_bytes' | exact boot_bytearray' | exact boot_list' | exact boot_str' | exact boot_memoryview')); (case hnx37 => decide +kernel); (case hex37 => with_unfolding_all rfl); (case hpx37 => with_unfolding_all rfl)) | ((with_reducible refine' WE_typ ?kx37 ?Gx37 ?hsx37 ?hfx37 ?hdx37 ?hvx37 ?hbx37 ?hnx37 ?_ ?hex37 ?hpx37); (case kx37 => assumption); (case Gx37 => assumption); (case hsx37 => assumption); (case hfx37 => decide +kernel); (case hdx37 => decide +kernel); (case hvx37 => decide +kernel); (case hbx37 => (with_reducible first | exact boot_len' | exact boot_min' | exact boot_max' | exact boot_sum' | exact boot_divmod' | exact boot_chr' | exact boot_sorted' | exact boot_isinstance' | exact boot_bytes' | exact boot_bytearray' | exact boot_list' | exact boot_str' | exact boot_memoryview')); (case hnx37 => decide +kernel); (case hex37 => with_unfolding_all rfl); (case hpx37 => with_unfolding_all rfl)))
    walk_at "stes"
    refine callB_lenList k (l := (ts ++ [x]).map tri) (by (first | (refine Has.own ?_; walk_at "mem"; done) | (refine Has.roAt (by assumption) ?_; walk_at "mem"; done))) (by simp; (first | decide | lia | omega)) ?_
    walk_at "stes"
    have e2 : (((ts ++ [x]).map tri).length : Int) - 1 = (ts.length : Nat) := by simp
    rw [e2]
    refine ⟨1, _, a, _, _, sd_fun G R13 a (ts ++ [x]) ts.length ((by first | decide | exact Nat.le_of_ble_eq_true rfl | exact List.forall_mem_nil _ | simp)) (by simp; (first | decide | lia | omega)), room, ?_, .head _, ?_⟩
    · intro p m
      rw [List.mem_singleton] at m; subst m; (first | (refine Has.own ?_; walk_at "mem"; done) | (refine Has.roAt (by assumption) ?_; walk_at "mem"; done))
    rintro d post ⟨rfl, rfl⟩
    refine ⟨_, [], _, rfl, .here, rfl, ?_⟩
    dsimp only [List.nil_append]
    walk_at "sts"
    refine retK_next _ (List.Sublist.refl _) ⟨rfl, ?_⟩
    have e3 : g3 (ts ++ [x]) ts.length = x := by simp [g3]
    rw [e3]
set_option maxHeartbeats 4000000 in
theorem pop_fun (G : Gnd B mg mb) (R13 : FnRec B mg (fnd 13)) (R14 : FnRec B mg (fnd 14)) (R : FnRec B mg (fnd 11)) (a : Addr) (us : List T3) (x : T3) (hl : us.length < 1000) :
    Fun prog w B mg 3 "heappop" [.ref a] [(a, .list ((us ++ [x]).map tri))] [a] (fun d post => d = tri (g3 (us ++ [x]) 0) ∧ post = [(a, .list ((if us = [] then [] else sup (us.set 0 x)).map tri))]) := by
  refine Fun_of_body (d := fnd 11) (n := 2) (own := [(a, .list ((us ++ [x]).map tri))]) (ro := []) G R ["heap"] ["lastelt", "returnitem"]
    [("heap", .ref a), ("lastelt", .any), ("returnitem", .any)] rfl ?_ ?_ rfl ?_ ((by first | decide | exact Nat.le_of_ble_eq_true rfl | exact List.forall_mem_nil _ | simp)) ((by first | decide | exact Nat.le_of_ble_eq_true rfl | exact List.forall_mem_nil _ | simp)) fun C k hs room hW hro => ?_
  · intro pm code doc vs h
    rcases vs with _ | ⟨a, _ | ⟨b, r⟩⟩ <;> simp at h
    rfl
  · decide +kernel
  · refine ⟨rfl, rfl, rfl, ?_⟩
    decide +kernel
  · have e : (us ++ [x]).map tri = us.map tri ++ [tri x] := by simp
    rw [e]
    refine WXs_cons ?_
    walk_at "stes"
    (((with_reducible refine' WE_meth0 "list.pop" ?_ ?hbx42 ?hlx42); (case hbx42 => with_unfolding_all rfl); (case hlx42 => with_unfolding_all rfl)))
    walk_at "stes"
    refine ⟨meth_list k (by (first | (refine Has.own ?_; walk_at "mem"; done) | (refine Has.roAt (by assumption) ?_; walk_at "mem"; done))) F.slot_list_pop F.type_list_pop, ?_⟩
    refine callB_pop (by walk_at "upd") (by simp; (first | decide | lia | omega)) ?_
    refine storeK (by walk_at "upd") (seqK_next (WXs_cons (WX_if (WB_list k ?_ (by with_unfolding_all rfl)))))
    walk_at "stes"
    refine ⟨a, us.map tri, rfl, by (first | (refine Has.own ?_; walk_at "mem"; done) | (refine Has.roAt (by assumption) ?_; walk_at "mem"; done)), by simp; (first | decide | lia | omega), ?_⟩
    refine dsplit (fun h => ?_) (fun h => ?_)
    · have hne : us ≠ [] := by intro z; exact h (by simp [z])
      have hpos : 0 < us.length := List.length_pos_iff.mpr hne
      walk_at "stes"
      refine item_tri (ts := us) (by (first | (refine Has.own ?_; walk_at "mem"; done) | (refine Has.roAt (by assumption) ?_; walk_at "mem"; done))) (by (first | decide | lia | omega)) (by (first | decide | lia | omega)) (by (first | decide | lia | omega)) ?_
      refine storeK (by walk_at "upd") (seqK_next (WXs_cons ?_))
      (((with_reducible refine' WX_setItem ?_ ?hsx46); (case hsx46 => with_unfolding_all rfl)))
      walk_at "stes"
      refine set_tri (ts := us) (x := x) (by walk_at "upd") (by (first | decide | lia | omega)) (by (first | decide | lia | omega)) (by (first | decide | lia | omega)) ?_
      simp only [Int.toNat_zero]
      refine seqK_next (WXs_cons ?_)
      (((with_reducible refine' WX_expr ?kx47 ?_ ?hsx47); (case kx47 => assumption); (case hsx47 => with_unfolding_all rfl)))
      (((with_reducible refine' WE_call1 ?kx48 ?Gx48 ?hsx48 ?hfx48 ?hdx48 ?_ ?hFx48 ?hex48); (case kx48 => assumption); (case Gx48 => assumption); (case hsx48 => assumption); (case hfx48 => decide +kernel); (case hdx48 => decide +kernel); (case hex48 => with_unfolding_all rfl)))
      case hFx48 => exact ⟨_, _, _, _, _, su_fun G R13 R14 0 [(0, 0, 0)] ((by first | decide | exact Nat.le_of_ble_eq_true rfl | exact List.forall_mem_nil _ | simp)) ((by first | decide | exact Nat.le_of_ble_eq_true rfl | exact List.forall_mem_nil _ | simp))⟩
      walk_at "stes"
      refine ⟨2, _, a, _, _, su_fun G R13 R14 a (us.set 0 x) (by simpa using hne) (by simp; (first | decide | lia | omega)), room, ?_, .head _, ?_⟩
      · intro p m
        rw [List.mem_singleton] at m; subst m; (first | (refine Has.own ?_; walk_at "mem"; done) | (refine Has.roAt (by assumption) ?_; walk_at "mem"; done))
      rintro d post ⟨rfl, rfl⟩
      refine ⟨_, [], _, rfl, .here, rfl, ?_⟩
      dsimp only [List.nil_append]
      walk_at "sts"
      refine retK_ret _ (List.Sublist.refl _) ⟨?_, by rw [if_neg hne]⟩
      simp [g3, hpos]
    · have hne : us = [] := by simpa using h
      subst hne
      walk_at "sts"
      refine retK_ret _ (List.Sublist.refl _) ⟨?_, (by first | decide | exact Nat.le_of_ble_eq_true rfl | exact List.forall_mem_nil _ | simp)⟩
      simp [g3]
set_option maxHeartbeats 4000000 in
theorem repl_fun (G : Gnd B mg mb) (R13 : FnRec B mg (fnd 13)) (R14 : FnRec B mg (fnd 14)) (R : FnRec B mg (fnd 12)) (a : Addr) (us : List T3) (x : T3) (hne : us ≠ []) (hl : us.length < 1000) :
    Fun prog w B mg 3 "heapreplace" [.ref a, tri x] [(a, .list (us.map tri))] [a] (fun d post => d = tri (g3 us 0) ∧ post = [(a, .list ((sup (us.set 0 x)).map tri))]) := by
  refine Fun_of_body (d := fnd 12) (n := 2) (own := [(a, .list (us.map tri))]) (ro := []) G R ["heap", "item"] ["returnitem"]
    [("heap", .ref a), ("item", tri x), ("returnitem", .any)] rfl ?_ ?_ rfl ?_ ((by first | decide | exact Nat.le_of_ble_eq_true rfl | exact List.forall_mem_nil _ | simp)) ((by first | decide | exact Nat.le_of_ble_eq_true rfl | exact List.forall_mem_nil _ | simp)) fun C k hs room hW hro => ?_
  · intro pm code doc vs h
    rcases vs with _ | ⟨a, _ | ⟨b, _ | ⟨c, r⟩⟩⟩ <;> simp at h
    rfl
  · decide +kernel
  · refine ⟨rfl, rfl, rfl, ?_⟩
    decide +kernel
  · have hpos : 0 < us.length := List.length_pos_iff.mpr hne
    refine WXs_cons ?_
    walk_at "stes"
    refine item_tri (ts := us) (by (first | (refine Has.own ?_; walk_at "mem"; done) | (refine Has.roAt (by assumption) ?_; walk_at "mem"; done))) (by (first | decide | lia | omega)) (by (first | decide | lia | omega)) (by (first | decide | lia | omega)) ?_
    refine storeK (by walk_at "upd") (seqK_next (WXs_cons ?_))
    (((with_reducible refine' WX_setItem ?_ ?hsx51); (case hsx51 => with_unfolding_all rfl)))
    walk_at "stes"
    refine set_tri (ts := us) (x := x) (by walk_at "upd") (by (first | decide | lia | omega)) (by (first | decide | lia | omega)) (by (first | decide | lia | omega)) ?_
    simp only [Int.toNat_zero]
    refine seqK_next (WXs_cons ?_)
    (((with_reducible refine' WX_expr ?kx52 ?_ ?hsx52); (case kx52 => assumption); (case hsx52 => with_unfolding_all rfl)))
    (((with_reducible refine' WE_call1 ?kx53 ?Gx53 ?hsx53 ?hfx53 ?hdx53 ?_ ?hFx53 ?hex53); (case kx53 => assumption); (case Gx53 => assumption); (case hsx53 => assumption); (case hfx53 => decide +kernel); (case hdx53 => decide +kernel); (case hex53 => with_unfolding_all rfl)))
    case hFx53 => exact ⟨_, _, _, _, _, su_fun G R13 R14 0 [(0, 0, 0)] ((by first | decide | exact Nat.le_of_ble_eq_true rfl | exact List.forall_mem_nil _ | simp)) ((by first | decide | exact Nat.le_of_ble_eq_true rfl | exact List.forall_mem_nil _ | simp))⟩
    walk_at "stes"
    refine ⟨2, _, a, _, _, su_fun G R13 R14 a (us.set 0 x) (by simpa using hne) (by simp; (first | decide | lia | omega)), room, ?_, .head _, ?_⟩
    · intro p m
      rw [List.mem_singleton] at m; subst m; (first | (refine Has.own ?_; walk_at "mem"; done) | (refine Has.roAt (by assumption) ?_; walk_at "mem"; done))
    rintro d post ⟨rfl, rfl⟩
    refine ⟨_, [], _, rfl, .here, rfl, ?_⟩
    dsimp only [List.nil_append]
    walk_at "sts"
    exact retK_ret _ (List.Sublist.refl _) ⟨rfl, rfl⟩
end
end
section
open PySem PyProof.Rows PySem.Calls
/-- the figures of all the numbers, and the bias behind the first i -/
noncomputable def genL (n : Int) : Nat → Int → List Int → List Int
  | _, _, [] => []
  | i, b, d :: ds => numL b 0 d ++ genL n (i + 1) (adV d (i == 0) (n + i + 1)) ds
noncomputable def biasL (n : Int) : Nat → Int → List Int → Int
  | _, b, [] => b
  | i, b, d :: ds => biasL n (i + 1) (adV d (i == 0) (n + i + 1)) ds
theorem genL_snoc (n : Int) : ∀ (i : Nat) (b : Int) (ds : List Int) (d : Int), genL n i b (ds ++ [d]) = genL n i b ds ++ numL (biasL n i b ds) 0 d
  | i, b, [], d => by simp [genL, biasL]
  | i, b, e :: ds, d => by simp [genL, biasL, genL_snoc]
theorem biasL_snoc (n : Int) : ∀ (i : Nat) (b : Int) (ds : List Int) (d : Int), biasL n i b (ds ++ [d]) = adV d (i + ds.length == 0) (n + (i + ds.length : Nat) + 1)
  | i, b, [], d => by simp [biasL]
  | i, b, e :: ds, d => by
    simp only [List.cons_append, biasL, biasL_snoc, List.length_cons]
    congr 1
    · congr 1; (first | decide | lia | omega)
    · (first | decide | lia | omega)
section
variable {prog : Program} {w : World} {B : Heap} {mg mb : Str → Option Value}
set_option maxHeartbeats 4000000 in
theorem gen_fun (G : Gnd B mg mb) (R1 : FnRec B mg (fnd 1)) (R3 : FnRec B mg (fnd 3)) (R4 : FnRec B mg (fnd 4)) (R : FnRec B mg (fnd 5)) (HD : ∃ t, mg "digits" = some (.bytes digs t)) (n : Int) (a : Addr) (ds : List Int)
    (hn : 0 ≤ n ∧ n < 1000) (hds : ∀ d ∈ ds, 0 ≤ d) (hl : ds.length < 1000) (hlen : (genL n 0 72 ds).length ≤ 1000) :
    FunK prog w B mg 3 "generate_integers" [.int0 n, .ref a] [(a, .list (ds.map .int))] (fun d post => d = .bytes (lowL (genL n 0 72 ds)).toArray ∧ post = []) := by
  refine FunK_of_body (d := fnd 5) (n := 2) (ro := [(a, .list (ds.map .int))]) G R ["baselen", "deltas"] ["result", "bias", "points", "delta", "s"] [("baselen", .int0 n), ("deltas", .ref a), ("result", .any), ("bias", .any), ("points", .any), ("delta", .any), ("s", .any)] rfl ?_ ?_ rfl ?_ fun C k hs room hW hro => ?_
  · intro pm code doc vs h
    rcases vs with _ | ⟨a, _ | ⟨b, _ | ⟨c, r⟩⟩⟩ <;> simp at h
    rfl
  · decide +kernel
  · refine ⟨rfl, rfl, rfl, ?_⟩
    decide +kernel
  · refine KXs_cons ?_
    refine KX_assign k ?_ (by with_unfolding_all rfl)
    refine KE_bytearray k G hs (by decide +kernel) room.2.2.2 (newK fun r => ?_)
    refine storeK (by walk_at "upd") (seqK_next (KXs_cons (KT.of ?_)))
    walk_at "stes"
    refine seqK_next (KXs_cons ?_)
    refine KX_for (X := Unit) ?_ (by intro _; with_unfolding_all rfl)
    refine WI_enum k G hs (by decide +kernel) room.2.2.1 ?_ (by with_unfolding_all rfl) (by with_unfolding_all rfl)
    walk_at "stes"
    refine ⟨a, ds.map .int, rfl, by (first | (refine Has.own ?_; walk_at "mem"; done) | (refine Has.roAt (by assumption) ?_; walk_at "mem"; done)), fun i _ => ⟨[("baselen", .int0 n), ("deltas", .ref a), ("result", .ref r), ("bias", .int (biasL n 0 72 (ds.take i))), ("points", .any), ("delta", .any), ("s", .any)], [(r, .barr (lowL (genL n 0 72 (ds.take i))).toArray)]⟩, fun _ _ => True, (), trivial, ⟨LocLe.rfl, List.Sublist.refl _⟩, fun i _ _ _ => by (first | (refine Has.own ?_; walk_at "mem"; done) | (refine Has.roAt (by assumption) ?_; walk_at "mem"; done)), ?_, ?_⟩
    · intro i _ hi _
      rw [List.length_map] at hi
      dsimp only
      have hget : (ds.map PV.int).getD i .any = .int (ds.getD i 0) := by simp [hi]
      rw [hget]
      have hd0 : 0 ≤ ds.getD i 0 := by
        have : ds.getD i 0 = ds[i] := by simp [hi]
        rw [this]; exact hds _ (List.getElem_mem hi)
      have htake : ds.take (i + 1) = ds.take i ++ [ds.getD i 0] := by
        rw [List.take_add_one]; simp [hi]
      have hg := genL_snoc n 0 72 (ds.take i) (ds.getD i 0)
      rw [← htake] at hg
      have hb := biasL_snoc n 0 72 (ds.take i) (ds.getD i 0)
      rw [← htake] at hb
      have hlt : (ds.take i).length = i := by simp; (first | decide | lia | omega)
      rw [hlt] at hb
      have hgl : ∀ m, (genL n 0 72 (ds.take m)).length ≤ (genL n 0 72 ds).length := by
        intro m
        have : ∀ (l₁ l₂ : List Int) (k : Nat) (b : Int), (genL n k b l₁).length ≤ (genL n k b (l₁ ++ l₂)).length := by
          intro l₁
          induction l₁ with
          | nil => intro l₂ k b; simp [genL]
          | cons d l₁ ih => intro l₂ k b; simp only [List.cons_append, genL, List.length_append]; have := ih l₂ (k + 1) (adV d (k == 0) (n + k + 1)); (first | decide | lia | omega)
        have := this (ds.take m) (ds.drop m) 0 72
        rwa [List.take_append_drop] at this
      have hg1 := hgl (i + 1)
      rw [hg] at hg1
      simp only [List.length_append] at hg1
      refine WA_tuple room.2.2.1 ?_ rfl (by intro t mt r; rcases List.mem_cons.mp mt with rfl | mt; rfl; rw [List.mem_singleton] at mt; subst mt; rfl)
      refine WA_name k (storeK (by walk_at "upd") (WA_name k (storeK (by walk_at "upd") ?_)))
      show KXs prog w C _ _ _
      refine KXs_cons (KX_assign k ?_ (by with_unfolding_all rfl))
      refine KE_call0 k G hs (by decide +kernel) (by decide +kernel) ?_ ⟨_, _, _, _, ggi_fun G R1 R3 HD 0 72 (by decide) (by unfold numL; rw [if_pos (by decide)]; simp)⟩ (by with_unfolding_all rfl)
      walk_at "stes"
      refine ⟨2, [], _, ggi_fun G R1 R3 HD _ _ hd0 (by (first | decide | lia | omega)), room, (by first | decide | exact Nat.le_of_ble_eq_true rfl | exact List.forall_mem_nil _ | simp), ?_⟩
      rintro d post ⟨rfl, rfl⟩
      dsimp only [List.nil_append]
      refine storeK (by walk_at "upd") (seqK_next (KXs_cons (KX_expr k (KE_meth "bytearray.extend" ?_ (by with_unfolding_all rfl) (by with_unfolding_all rfl) (by with_unfolding_all rfl) (by with_unfolding_all rfl) (by with_unfolding_all rfl)) (by with_unfolding_all rfl))))
      walk_at "stes"
      refine ⟨meth_ba k (by (first | (refine Has.own ?_; walk_at "mem"; done) | (refine Has.roAt (by assumption) ?_; walk_at "mem"; done))) FA.slot_extend FA.type_extend, ?_⟩
      walk_at "stes"
      refine callK_baExtend room.2.2.2 (by walk_at "upd") (by simp only [lowL, List.size_toArray, List.length_map]; (first | decide | lia | omega)) ⟨rfl, ?_⟩
      refine seqK_next (KXs_cons (KT.of ?_))
      walk_at "stes"
      (((with_reducible refine' WE_call0 ?kx58 ?Gx58 ?hsx58 ?hfx58 ?hdx58 ?_ ?hFx58 ?hex58); (case kx58 => assumption); (case Gx58 => assumption); (case hsx58 => assumption); (case hfx58 => decide +kernel); (case hdx58 => decide +kernel); (case hex58 => with_unfolding_all rfl)))
      case hFx58 => exact ⟨_, _, _, _, _, adapt_fun G R4 0 true 1 (by decide) (by decide)⟩
      walk_at "stes"
      have ef : (decide ((i : Int) = 0)) = (0 + i == 0) := by rw [Bool.eq_iff_iff]; simp
      rw [ef]
      refine ⟨1, [], _, adapt_fun G R4 (ds.getD i 0) (0 + i == 0) (n + i + 1) hd0 (by (first | decide | lia | omega)), room.mono (by (first | decide | lia | omega)), (by first | decide | exact Nat.le_of_ble_eq_true rfl | exact List.forall_mem_nil _ | simp), ?_⟩
      rintro d post ⟨rfl, rfl⟩
      dsimp only [List.nil_append]
      refine storeK (by walk_at "upd") (seqK_next (KXs_nil (loopK_next ⟨(), trivial, ?_, ?_⟩)))
      · dsimp only
        rw [hb]
        have : n + ((0 + i : Nat) : Int) + 1 = n + i + 1 := by (first | decide | lia | omega)
        rw [this]
        (repeat (first | exact LocLe.nil | apply LocLe.same | apply LocLe.any))
      · dsimp only
        rw [hg]
        simp [lowL]
    · intro _ _
      rw [List.length_map]
      dsimp only
      rw [List.take_length]
      refine seqK_next (KXs_cons (KT.of ?_))
      walk_at "stes"
      (first | ((with_reducible refine' WE_blt ?kx60 ?Gx60 ?hsx60 ?hfx60 ?hdx60 ?hvx60 ?hbx60 ?hnx60 ?_ ?hex60 ?hpx60); (case kx60 => assumption); (case Gx60 => assumption); (case hsx60 => assumption); (case hfx60 => decide +kernel); (case hdx60 => decide +kernel); (case hvx60 => decide +kernel); (case hbx60 => (with_reducible first | exact boot_len' | exact boot_min' | exact boot_max' | exact boot_sum' | exact boot_divmod' | exact boot_chr' | exact boot_sorted' | exact boot_isinstance' | exact boot_bytes' | exact boot_bytearray' | exact boot_list' | exact boot_str' | exact boot_memoryview')); (case hnx60 => decide +kernel); (case hex60 => with_unfolding_all rfl); (case hpx60 => with_unfolding_all rfl)) | ((with_reducible refine' WE_typ ?kx60 ?Gx60 ?hsx60 ?hfx60 ?hdx60 ?hvx60 ?hbx60 ?hnx60 ?_ ?hex60 ?hpx60); (case kx60 => assumption); (case Gx60 => assumption); (case hsx60 => assumption); (case hfx60 => decide +kernel); (case hdx60 => decide +kernel); (case hvx60 => decide +kernel); (case hbx60 => (with_reducible first | exact boot_len' | exact boot_min' | exact boot_max' | exact boot_sum' | exact boot_divmod' | exact boot_chr' | exact boot_sorted' | exact boot_isinstance' | exact boot_bytes' | exact boot_bytearray' | exact boot_list' | exact boot_str' | exact boot_memoryview')); (case hnx60 => decide +kernel); (case hex60 => with_unfolding_all rfl); (case hpx60 => with_unfolding_all rfl)))
      walk_at "stes"
      refine callT_bytesBa k (by (first | (refine Has.own ?_; walk_at "mem"; done) | (refine Has.roAt (by assumption) ?_; walk_at "mem"; done))) (by simp [lowL]; (first | decide | lia | omega)) ?_
      repeat walk_at "flow"
      exact retK_ret [] (List.nil_sublist _) ⟨rfl, rfl⟩
end
end
section
open PySem PyProof.Rows PySem.Calls
/-- one insertion: code point, place, text -/
noncomputable def ins1 (st : Int × Int × List Nat) (d : Int) : Int × Int × List Nat :=
  let p := st.2.1 + (d + 1)
  let m : Int := st.2.2.length + 1
  (st.1 + p / m, p % m, st.2.2.take (p % m).toNat ++ [(st.1 + p / m).toNat] ++ st.2.2.drop (p % m).toNat)
noncomputable def insT (base : List Nat) (ds : List Int) : Int × Int × List Nat := ds.foldl ins1 (128, -1, base)
theorem insT_snoc (base : List Nat) (ds : List Int) (d : Int) : insT base (ds ++ [d]) = ins1 (insT base ds) d := by simp [insT]
theorem insT_facts (base : List Nat) (ds : List Int) (h : ∀ d ∈ ds, 0 ≤ d) : 128 ≤ (insT base ds).1 ∧ -1 ≤ (insT base ds).2.1 ∧ (insT base ds).2.2.length = base.length + ds.length := by
  suffices H : ∀ (ds : List Int) (st : Int × Int × List Nat), (∀ d ∈ ds, 0 ≤ d) → 128 ≤ st.1 → -1 ≤ st.2.1 → 128 ≤ (ds.foldl ins1 st).1 ∧ -1 ≤ (ds.foldl ins1 st).2.1 ∧ (ds.foldl ins1 st).2.2.length = st.2.2.length + ds.length from
    H ds (128, -1, base) h (Int.le_refl _) (Int.le_refl _)
  intro ds
  induction ds with
  | nil => intro st _ h1 h2; exact ⟨h1, h2, rfl⟩
  | cons d ds ih =>
    intro st h h1 h2
    have hd := h d (.head _)
    have hp : 0 ≤ st.2.1 + (d + 1) := by (first | decide | lia | omega)
    have q0 : 0 ≤ (st.2.1 + (d + 1)) / ((st.2.2.length : Int) + 1) := Int.ediv_nonneg hp (by (first | decide | lia | omega))
    have r0 := Int.emod_nonneg (st.2.1 + (d + 1)) (by (first | decide | lia | omega) : (st.2.2.length : Int) + 1 ≠ 0)
    have r1 := Int.emod_lt_of_pos (st.2.1 + (d + 1)) (by (first | decide | lia | omega) : 0 < (st.2.2.length : Int) + 1)
    obtain ⟨a, b, c⟩ := ih (ins1 st d) (fun e m => h e (.tail _ m)) (by simp only [ins1]; (first | decide | lia | omega)) (by simp only [ins1]; (first | decide | lia | omega))
    refine ⟨a, b, ?_⟩
    rw [List.foldl_cons, c]
    simp only [ins1, List.length_append, List.length_take, List.length_drop, List.length_cons, List.length_nil]
    (first | decide | lia | omega)
theorem numL_ne (b j N : Int) : numL b j N ≠ [] := by
  unfold numL
  split <;> simp
theorem genL_pre (n : Int) : ∀ (l₁ l₂ : List Int) (k : Nat) (b : Int), ∃ r, genL n k b (l₁ ++ l₂) = genL n k b l₁ ++ r ∧ (l₂ ≠ [] → r ≠ []) ∧ (l₂ = [] → r = [])
  | [], l₂, k, b => by
    refine ⟨genL n k b l₂, by simp [genL], fun h => ?_, fun h => by subst h; simp [genL]⟩
    cases l₂ with
    | nil => exact absurd rfl h
    | cons d l => simp [genL, numL_ne]
  | d :: l₁, l₂, k, b => by
    obtain ⟨r, e, h⟩ := genL_pre n l₁ l₂ (k + 1) (adV d (k == 0) (n + k + 1))
    exact ⟨r, by simp [genL, e], h⟩
theorem WP_none {prog : Program} {w : World} {C : Cx} {S : St} {K : Option Int → St → Prop} (h : K none S) : WP prog w C none S K := h
theorem WP_some {prog : Program} {w : World} {C : Cx} {S : St} {e : Expr} {K : Option Int → St → Prop} (h : WE prog w C e S fun d S₁ => ∃ i, d = .int i ∧ K (some i) S₁) : WP prog w C (some e) S K := h
theorem CmpK_isInt {i : Int} {k : Bool → Prop} (h : k false) : CmpK .Is (.int i) .none k := h
theorem wa_plain {C : Cx} {xs : List (Str × Pos)} : ∀ t ∈ xs.map (fun x => Expr.Name x.1 x.2), ∀ r, assignEach (t :: r) C.env = (false, assign t C.env) :: assignEach r C.env := by
  intro t mt r
  obtain ⟨x, _, e⟩ := List.mem_map.mp mt
  subst e; rfl
section
variable {prog : Program} {w : World} {B : Heap} {mg mb : Str → Option Value}
set_option maxHeartbeats 8000000 in
theorem ins_fun (G : Gnd B mg mb) (R1 : FnRec B mg (fnd 1)) (R4 : FnRec B mg (fnd 4)) (R6 : FnRec B mg (fnd 6)) (R : FnRec B mg (fnd 7)) (base : List Nat) (ds : List Int) (ext : Array UInt8) (hn : base.length < 500) (hds : ∀ d ∈ ds, 0 ≤ d) (hl : ds.length < 500)
    (hx : ext.toList = upL (genL base.length 0 72 ds)) (hz : ext.size ≤ 1000) (hc : ∀ i, i ≤ ds.length → (insT base (ds.take i)).1 ≤ 1114111) :
    Fun prog w B mg 3 "insertion_sort" [.str ⟨base.toArray⟩, .bytes ext, .str "strict"] [] [] (fun d post => d = .str ⟨(insT base ds).2.2.toArray⟩ ∧ post = []) := by
  refine Fun_of_body (d := fnd 7) (n := 2) (own := []) (ro := []) G R ["base", "extended", "errors"] ["char", "pos", "bias", "extpos", "newpos", "delta"]
    [("base", .str ⟨base.toArray⟩), ("extended", .bytes ext), ("errors", .str "strict"), ("char", .any), ("pos", .any), ("bias", .any), ("extpos", .any), ("newpos", .any), ("delta", .any)] rfl ?_ ?_ rfl ?_ ((by first | decide | exact Nat.le_of_ble_eq_true rfl | exact List.forall_mem_nil _ | simp)) ((by first | decide | exact Nat.le_of_ble_eq_true rfl | exact List.forall_mem_nil _ | simp)) fun C k hs room hW hro => ?_
  · intro pm code doc vs h
    rcases vs with _ | ⟨a, _ | ⟨b, _ | ⟨c, _ | ⟨d, r⟩⟩⟩⟩ <;> simp at h
    rfl
  · decide +kernel
  · refine ⟨rfl, rfl, rfl, ?_⟩
    decide +kernel
  · refine WXs_cons ?_
    walk_at "sts"
    refine WX_while (X := Nat) (fun i => ⟨[("base", .str ⟨(insT base (ds.take i)).2.2.toArray⟩), ("extended", .bytes ext), ("errors", .str "strict"), ("char", .int (insT base (ds.take i)).1), ("pos", .int (insT base (ds.take i)).2.1), ("bias", .int (biasL base.length 0 72 (ds.take i))), ("extpos", .int (genL base.length 0 72 (ds.take i)).length), ("newpos", .any), ("delta", .any)], []⟩)
      (fun i => i ≤ ds.length) (fun i => ds.length - i) 0 (Nat.zero_le _) ⟨LocLe.rfl, .slnil⟩ ?_
    intro i hi
    walk_at "stes"
    (first | ((with_reducible refine' WE_blt ?kx64 ?Gx64 ?hsx64 ?hfx64 ?hdx64 ?hvx64 ?hbx64 ?hnx64 ?_ ?hex64 ?hpx64); (case kx64 => assumption); (case Gx64 => assumption); (case hsx64 => assumption); (case hfx64 => decide +kernel); (case hdx64 => decide +kernel); (case hvx64 => decide +kernel); (case hbx64 => (with_reducible first | exact boot_len' | exact boot_min' | exact boot_max' | exact boot_sum' | exact boot_divmod' | exact boot_chr' | exact boot_sorted' | exact boot_isinstance' | exact boot_bytes' | exact boot_bytearray' | exact boot_list' | exact boot_str' | exact boot_memoryview')); (case hnx64 => decide +kernel); (case hex64 => with_unfolding_all rfl); (case hpx64 => with_unfolding_all rfl)) | ((with_reducible refine' WE_typ ?kx64 ?Gx64 ?hsx64 ?hfx64 ?hdx64 ?hvx64 ?hbx64 ?hnx64 ?_ ?hex64 ?hpx64); (case kx64 => assumption); (case Gx64 => assumption); (case hsx64 => assumption); (case hfx64 => decide +kernel); (case hdx64 => decide +kernel); (case hvx64 => decide +kernel); (case hbx64 => (with_reducible first | exact boot_len' | exact boot_min' | exact boot_max' | exact boot_sum' | exact boot_divmod' | exact boot_chr' | exact boot_sorted' | exact boot_isinstance' | exact boot_bytes' | exact boot_bytearray' | exact boot_list' | exact boot_str' | exact boot_memoryview')); (case hnx64 => decide +kernel); (case hex64 => with_unfolding_all rfl); (case hpx64 => with_unfolding_all rfl)))
    walk_at "stes"
    refine callB_lenBytes (by (first | decide | lia | omega)) ?_
    walk_at "stes"
    obtain ⟨r, hr, hr1, hr2⟩ := genL_pre base.length (ds.take i) (ds.drop i) 0 72
    rw [List.take_append_drop] at hr
    have hsz : ext.size = (genL base.length 0 72 (ds.take i)).length + r.length := by
      have := congrArg List.length hx
      simp only [Array.length_toList, upL, List.length_map, hr, List.length_append] at this
      exact this
    refine dsplit (fun h => ?_) (fun h => ?_)
    · have hlt : i < ds.length := by
        rcases Nat.lt_or_ge i ds.length with h' | h'
        · exact h'
        · have : ds.drop i = [] := List.drop_eq_nil_of_le h'
          have := hr2 this
          subst this
          simp at hsz
          (first | decide | lia | omega)
      have hd0 : 0 ≤ ds.getD i 0 := by
        have : ds.getD i 0 = ds[i] := by simp [hlt]
        rw [this]; exact hds _ (List.getElem_mem hlt)
      have htake : ds.take (i + 1) = ds.take i ++ [ds.getD i 0] := by
        rw [List.take_add_one]; simp [hlt]
      have hg := genL_snoc base.length 0 72 (ds.take i) (ds.getD i 0)
      rw [← htake] at hg
      have hb := biasL_snoc base.length 0 72 (ds.take i) (ds.getD i 0)
      rw [← htake] at hb
      have hlti : (ds.take i).length = i := by simp; (first | decide | lia | omega)
      rw [hlti] at hb
      obtain ⟨r', hr', _⟩ := genL_pre base.length (ds.take (i + 1)) (ds.drop (i + 1)) 0 72
      rw [List.take_append_drop, hg] at hr'
      have hdrop : ext.toList.drop (genL base.length 0 72 (ds.take i)).length = upL (numL (biasL base.length 0 72 (ds.take i)) 0 (ds.getD i 0)) ++ upL r' := by
        rw [hx, hr']
        simp only [upL, List.map_append, List.append_assoc]
        rw [List.drop_append_of_le_length ((by first | decide | exact Nat.le_of_ble_eq_true rfl | exact List.forall_mem_nil _ | simp)), List.drop_of_length_le ((by first | decide | exact Nat.le_of_ble_eq_true rfl | exact List.forall_mem_nil _ | simp))]
        simp
      have ht := insT_snoc base (ds.take i) (ds.getD i 0)
      rw [← htake] at ht
      obtain ⟨f1, f2, f3⟩ := insT_facts base (ds.take i) (fun d m => hds d (List.mem_of_mem_take m))
      have hcc := hc (i + 1) (by (first | decide | lia | omega))
      rw [ht] at hcc
      rw [hlti] at f3
      generalize hst : insT base (ds.take i) = st at ht f1 f2 f3 hcc ⊢
      obtain ⟨ch, ps, bs⟩ := st
      dsimp only at f1 f2 f3 ⊢
      have hlen1 : (⟨bs.toArray⟩ : Str).length = bs.length := by show bs.toArray.size = _; simp
      have hp0 : 0 ≤ ps + (ds.getD i 0 + 1) := by (first | decide | lia | omega)
      have r0 := Int.emod_nonneg (ps + (ds.getD i 0 + 1)) (by (first | decide | lia | omega) : (bs.length : Int) + 1 ≠ 0)
      have r1 := Int.emod_lt_of_pos (ps + (ds.getD i 0 + 1)) (by (first | decide | lia | omega) : 0 < (bs.length : Int) + 1)
      have q0 : 0 ≤ (ps + (ds.getD i 0 + 1)) / ((bs.length : Int) + 1) := Int.ediv_nonneg hp0 (by (first | decide | lia | omega))
      simp only [ins1] at hcc ht
      refine WXs_cons ?_
      (((with_reducible refine' WX_assignT ?_ ?hsx67 ?hwx67); (case hsx67 => with_unfolding_all rfl); (case hwx67 => with_unfolding_all rfl)))
      (((with_reducible refine' WE_call0 ?kx68 ?Gx68 ?hsx68 ?hfx68 ?hdx68 ?_ ?hFx68 ?hex68); (case kx68 => assumption); (case Gx68 => assumption); (case hsx68 => assumption); (case hfx68 => decide +kernel); (case hdx68 => decide +kernel); (case hex68 => with_unfolding_all rfl)))
      case hFx68 => exact ⟨_, _, _, _, _, dec_fun G R1 R6 (upL (numL 72 0 0)).toArray 0 72 0 [] (by decide) (by unfold numL; rw [if_pos (by decide)]; simp [upL]) ((by first | decide | exact Nat.le_of_ble_eq_true rfl | exact List.forall_mem_nil _ | simp))⟩
      walk_at "stes"
      refine ⟨2, [], _, dec_fun G R1 R6 ext _ _ (ds.getD i 0) (upL r') hd0 (by (first | decide | lia | omega)) hdrop, room, (by first | decide | exact Nat.le_of_ble_eq_true rfl | exact List.forall_mem_nil _ | simp), ?_⟩
      rintro d post ⟨rfl, rfl⟩
      dsimp only [List.nil_append]
      refine WA_tuple room.2.2.1 ?_ rfl (wa_plain (xs := [(_, _), (_, _)]))
      refine WA_name k (storeK (by walk_at "upd") (WA_name k (storeK (by walk_at "upd") ?_)))
      show seqK _ _ _ _
      refine seqK_next (WXs_cons ?_)
      walk_at "stes"
      refine CmpK_isInt (fsplit (WXs_nil (seqK_next (WXs_cons ?_))))
      walk_at "sts"
      (first | ((with_reducible refine' WE_blt ?kx69 ?Gx69 ?hsx69 ?hfx69 ?hdx69 ?hvx69 ?hbx69 ?hnx69 ?_ ?hex69 ?hpx69); (case kx69 => assumption); (case Gx69 => assumption); (case hsx69 => assumption); (case hfx69 => decide +kernel); (case hdx69 => decide +kernel); (case hvx69 => decide +kernel); (case hbx69 => (with_reducible first | exact boot_len' | exact boot_min' | exact boot_max' | exact boot_sum' | exact boot_divmod' | exact boot_chr' | exact boot_sorted' | exact boot_isinstance' | exact boot_bytes' | exact boot_bytearray' | exact boot_list' | exact boot_str' | exact boot_memoryview')); (case hnx69 => decide +kernel); (case hex69 => with_unfolding_all rfl); (case hpx69 => with_unfolding_all rfl)) | ((with_reducible refine' WE_typ ?kx69 ?Gx69 ?hsx69 ?hfx69 ?hdx69 ?hvx69 ?hbx69 ?hnx69 ?_ ?hex69 ?hpx69); (case kx69 => assumption); (case Gx69 => assumption); (case hsx69 => assumption); (case hfx69 => decide +kernel); (case hdx69 => decide +kernel); (case hvx69 => decide +kernel); (case hbx69 => (with_reducible first | exact boot_len' | exact boot_min' | exact boot_max' | exact boot_sum' | exact boot_divmod' | exact boot_chr' | exact boot_sorted' | exact boot_isinstance' | exact boot_bytes' | exact boot_bytearray' | exact boot_list' | exact boot_str' | exact boot_memoryview')); (case hnx69 => decide +kernel); (case hex69 => with_unfolding_all rfl); (case hpx69 => with_unfolding_all rfl)))
      walk_at "stes"
      refine callB_lenStr (by rw [hlen1]; (first | decide | lia | omega)) ?_
      rw [hlen1]
      walk_at "sts"
      refine dsplit_f (by (first | decide | lia | omega)) (WXs_nil (seqK_next (WXs_cons ?_)))
      walk_at "sts"
      (first | ((with_reducible refine' WE_blt ?kx72 ?Gx72 ?hsx72 ?hfx72 ?hdx72 ?hvx72 ?hbx72 ?hnx72 ?_ ?hex72 ?hpx72); (case kx72 => assumption); (case Gx72 => assumption); (case hsx72 => assumption); (case hfx72 => decide +kernel); (case hdx72 => decide +kernel); (case hvx72 => decide +kernel); (case hbx72 => (with_reducible first | exact boot_len' | exact boot_min' | exact boot_max' | exact boot_sum' | exact boot_divmod' | exact boot_chr' | exact boot_sorted' | exact boot_isinstance' | exact boot_bytes' | exact boot_bytearray' | exact boot_list' | exact boot_str' | exact boot_memoryview')); (case hnx72 => decide +kernel); (case hex72 => with_unfolding_all rfl); (case hpx72 => with_unfolding_all rfl)) | ((with_reducible refine' WE_typ ?kx72 ?Gx72 ?hsx72 ?hfx72 ?hdx72 ?hvx72 ?hbx72 ?hnx72 ?_ ?hex72 ?hpx72); (case kx72 => assumption); (case Gx72 => assumption); (case hsx72 => assumption); (case hfx72 => decide +kernel); (case hdx72 => decide +kernel); (case hvx72 => decide +kernel); (case hbx72 => (with_reducible first | exact boot_len' | exact boot_min' | exact boot_max' | exact boot_sum' | exact boot_divmod' | exact boot_chr' | exact boot_sorted' | exact boot_isinstance' | exact boot_bytes' | exact boot_bytearray' | exact boot_list' | exact boot_str' | exact boot_memoryview')); (case hnx72 => decide +kernel); (case hex72 => with_unfolding_all rfl); (case hpx72 => with_unfolding_all rfl)))
      walk_at "stes"
      refine callB_lenStr (by rw [hlen1]; (first | decide | lia | omega)) ?_
      rw [hlen1]
      walk_at "sts"
      (((with_reducible refine' WE_slice ?kx75 ?_); (case kx75 => assumption)))
      walk_at "stes"
      refine WP_none (WP_some ?_)
      walk_at "stes"
      refine ⟨r0, by rw [hlen1]; (first | decide | lia | omega), ?_⟩
      walk_at "stes"
      (first | ((with_reducible refine' WE_blt ?kx76 ?Gx76 ?hsx76 ?hfx76 ?hdx76 ?hvx76 ?hbx76 ?hnx76 ?_ ?hex76 ?hpx76); (case kx76 => assumption); (case Gx76 => assumption); (case hsx76 => assumption); (case hfx76 => decide +kernel); (case hdx76 => decide +kernel); (case hvx76 => decide +kernel); (case hbx76 => (with_reducible first | exact boot_len' | exact boot_min' | exact boot_max' | exact boot_sum' | exact boot_divmod' | exact boot_chr' | exact boot_sorted' | exact boot_isinstance' | exact boot_bytes' | exact boot_bytearray' | exact boot_list' | exact boot_str' | exact boot_memoryview')); (case hnx76 => decide +kernel); (case hex76 => with_unfolding_all rfl); (case hpx76 => with_unfolding_all rfl)) | ((with_reducible refine' WE_typ ?kx76 ?Gx76 ?hsx76 ?hfx76 ?hdx76 ?hvx76 ?hbx76 ?hnx76 ?_ ?hex76 ?hpx76); (case kx76 => assumption); (case Gx76 => assumption); (case hsx76 => assumption); (case hfx76 => decide +kernel); (case hdx76 => decide +kernel); (case hvx76 => decide +kernel); (case hbx76 => (with_reducible first | exact boot_len' | exact boot_min' | exact boot_max' | exact boot_sum' | exact boot_divmod' | exact boot_chr' | exact boot_sorted' | exact boot_isinstance' | exact boot_bytes' | exact boot_bytearray' | exact boot_list' | exact boot_str' | exact boot_memoryview')); (case hnx76 => decide +kernel); (case hex76 => with_unfolding_all rfl); (case hpx76 => with_unfolding_all rfl)))
      walk_at "stes"
      refine callB_chr (by (first | decide | lia | omega)) hcc ?_
      refine BinK_str ?_ ?_
      · show (List.toArray _).size + _ ≤ _
        simp only [sl, List.size_toArray, List.length_take]
        show _ + 1 ≤ _
        (first | decide | lia | omega)
      walk_at "stes"
      (((with_reducible refine' WE_slice ?kx79 ?_); (case kx79 => assumption)))
      walk_at "stes"
      refine WP_some ?_
      walk_at "stes"
      refine WP_none ⟨r0, by rw [hlen1]; (first | decide | lia | omega), ?_⟩
      refine BinK_str ?_ ?_
      · show (_ ++ _ : Array Nat).size + (List.toArray _).size ≤ _
        simp only [sl, Array.size_append, List.size_toArray, List.length_take, List.length_drop]
        show _ + 1 + _ ≤ _
        (first | decide | lia | omega)
      have est : ((⟨(sl none (some ((ps + (ds.getD i 0 + 1)) % ((bs.length : Int) + 1))) (bs.toArray).toList).toArray⟩ : Str) ++ (⟨#[(ch + (ps + (ds.getD i 0 + 1)) / ((bs.length : Int) + 1)).toNat]⟩ : Str) ++ (⟨(sl (some ((ps + (ds.getD i 0 + 1)) % ((bs.length : Int) + 1))) none (bs.toArray).toList).toArray⟩ : Str)) = ⟨(insT base (ds.take (i + 1))).2.2.toArray⟩ := by
        rw [ht]
        show (⟨_ ++ _ ++ _⟩ : Str) = _
        congr 1
        simp [sl]
      rw [est]
      refine storeK (by walk_at "upd") (seqK_next (WXs_cons ?_))
      have hlen2 : (⟨(insT base (ds.take (i + 1))).2.2.toArray⟩ : Str).length = base.length + i + 1 := by
        show (List.toArray _).size = _
        have := (insT_facts base (ds.take (i + 1)) (fun d m => hds d (List.mem_of_mem_take m))).2.2
        rw [List.size_toArray, this]
        simp; (first | decide | lia | omega)
      walk_at "stes"
      (((with_reducible refine' WE_call0 ?kx80 ?Gx80 ?hsx80 ?hfx80 ?hdx80 ?_ ?hFx80 ?hex80); (case kx80 => assumption); (case Gx80 => assumption); (case hsx80 => assumption); (case hfx80 => decide +kernel); (case hdx80 => decide +kernel); (case hex80 => with_unfolding_all rfl)))
      case hFx80 => exact ⟨_, _, _, _, _, adapt_fun G R4 0 true 1 (by decide) (by decide)⟩
      walk_at "stes"
      (first | ((with_reducible refine' WE_blt ?kx81 ?Gx81 ?hsx81 ?hfx81 ?hdx81 ?hvx81 ?hbx81 ?hnx81 ?_ ?hex81 ?hpx81); (case kx81 => assumption); (case Gx81 => assumption); (case hsx81 => assumption); (case hfx81 => decide +kernel); (case hdx81 => decide +kernel); (case hvx81 => decide +kernel); (case hbx81 => (with_reducible first | exact boot_len' | exact boot_min' | exact boot_max' | exact boot_sum' | exact boot_divmod' | exact boot_chr' | exact boot_sorted' | exact boot_isinstance' | exact boot_bytes' | exact boot_bytearray' | exact boot_list' | exact boot_str' | exact boot_memoryview')); (case hnx81 => decide +kernel); (case hex81 => with_unfolding_all rfl); (case hpx81 => with_unfolding_all rfl)) | ((with_reducible refine' WE_typ ?kx81 ?Gx81 ?hsx81 ?hfx81 ?hdx81 ?hvx81 ?hbx81 ?hnx81 ?_ ?hex81 ?hpx81); (case kx81 => assumption); (case Gx81 => assumption); (case hsx81 => assumption); (case hfx81 => decide +kernel); (case hdx81 => decide +kernel); (case hvx81 => decide +kernel); (case hbx81 => (with_reducible first | exact boot_len' | exact boot_min' | exact boot_max' | exact boot_sum' | exact boot_divmod' | exact boot_chr' | exact boot_sorted' | exact boot_isinstance' | exact boot_bytes' | exact boot_bytearray' | exact boot_list' | exact boot_str' | exact boot_memoryview')); (case hnx81 => decide +kernel); (case hex81 => with_unfolding_all rfl); (case hpx81 => with_unfolding_all rfl)))
      walk_at "stes"
      refine callB_lenStr (by rw [hlen2]; (first | decide | lia | omega)) ?_
      rw [hlen2]
      walk_at "stes"
      have ef : (decide (((genL base.length 0 72 (ds.take i)).length : Int) = 0)) = (0 + i == 0) := by
        rw [Bool.eq_iff_iff]
        simp only [decide_eq_true_eq, beq_iff_eq]
        constructor
        · intro e
          have e' : genL base.length 0 72 (ds.take i) = [] := List.length_eq_zero_iff.mp (by (first | decide | lia | omega))
          cases i with
          | zero => rfl
          | succ i =>
            exfalso
            have : ds.take (i + 1) ≠ [] := by
              intro z
              rw [z] at hlti; simp at hlti
            obtain ⟨z, zs, hz'⟩ := List.exists_cons_of_ne_nil this
            rw [hz'] at e'
            simp [genL, numL_ne] at e'
        · intro e
          have : i = 0 := by (first | decide | lia | omega)
          subst this
          simp [genL]
      rw [ef]
      refine ⟨1, [], _, adapt_fun G R4 (ds.getD i 0) (0 + i == 0) ((base.length + i + 1 : Nat) : Int) hd0 (by (first | decide | lia | omega)), room.mono (by (first | decide | lia | omega)), (by first | decide | exact Nat.le_of_ble_eq_true rfl | exact List.forall_mem_nil _ | simp), ?_⟩
      rintro d post ⟨rfl, rfl⟩
      dsimp only [List.nil_append]
      walk_at "sts"
      refine ⟨i + 1, by (first | decide | lia | omega), by (first | decide | lia | omega), ?_, .slnil⟩
      rw [hb, hg, ht]
      have e1 : (base.length : Int) + ((0 + i : Nat) : Int) + 1 = ((base.length + i + 1 : Nat) : Int) := by (first | decide | lia | omega)
      rw [e1]
      simp only [List.length_append, Int.natCast_add]
      (repeat (first | exact LocLe.nil | apply LocLe.same | apply LocLe.any))
    · have hge : ds.drop i = [] := by
        cases e : ds.drop i with
        | nil => rfl
        | cons d l =>
          have := hr1 (by rw [e]; simp)
          have : 0 < r.length := List.length_pos_iff.mpr this
          (first | decide | lia | omega)
      have hi' : ds.take i = ds := by
        have := List.take_append_drop i ds
        rw [hge, List.append_nil] at this
        exact this
      rw [hi']
      walk_at "sts"
      exact retK_ret [] .slnil ⟨rfl, rfl⟩
end
end
section
open PySem PyProof.Rows PySem.Calls
theorem rev_find (p : Nat → Bool) : ∀ (n i₀ : Nat), i₀ < n → p i₀ = true → (∀ i, i₀ < i → i < n → p i = false) → (List.range n).reverse.find? p = some i₀
  | 0, _, h, _, _ => by (first | decide | lia | omega)
  | n + 1, i₀, h, hp, hn => by
    rw [List.range_succ, List.reverse_append, List.reverse_singleton, List.singleton_append, List.find?_cons]
    by_cases e : i₀ = n
    · subst e; rw [hp]
    · rw [hn n (by (first | decide | lia | omega)) (by (first | decide | lia | omega))]
      exact rev_find p n i₀ (by (first | decide | lia | omega)) hp fun i a b => hn i a (by (first | decide | lia | omega))
theorem rev_find_none (p : Nat → Bool) (n : Nat) (h : ∀ i, i < n → p i = false) : (List.range n).reverse.find? p = none := by
  rw [List.find?_eq_none]
  intro i m
  rw [List.mem_reverse, List.mem_range] at m
  simp [h i m]
theorem ext1 (b : List UInt8) (c : UInt8) (i : Nat) (h : i < b.length) : (b.toArray.extract i (i + 1) == #[c]) = (b[i] == c) := by
  have : b.toArray.extract i (i + 1) = #[b[i]] := by
    apply Array.toList_inj.mp
    simp only [Array.toList_extract, List.extract_eq_take_drop]
    rw [show i + 1 - i = 1 by (first | decide | lia | omega)]
    show List.take 1 (List.drop i b) = [b[i]]
    rw [List.drop_eq_getElem_cons h]; rfl
  rw [this, Bool.eq_iff_iff]
  simp
theorem rfind_no {b : List UInt8} {c : UInt8} (h : c ∉ b) : rfindB b.toArray c = -1 := by
  unfold rfindB Builtin.Bytes.rfind?
  have : ((List.range (b.toArray.size + 1 - (0 + (#[c] : Array UInt8).size))).map (· + 0)).reverse.find? (fun i => b.toArray.extract i (i + (#[c] : Array UInt8).size) == #[c]) = none := by
    simp only [Nat.add_zero, List.map_id', List.size_toArray, List.length_cons, List.length_nil, Nat.zero_add, Nat.add_sub_cancel]
    refine rev_find_none _ _ fun i hi => ?_
    rw [ext1 b c i hi]
    simp only [beq_eq_false_iff_ne, ne_eq]
    exact fun e => h (e ▸ List.getElem_mem hi)
  rw [this]
theorem rfind_at {a b : List UInt8} {c : UInt8} (h : c ∉ b) : rfindB (a ++ c :: b).toArray c = a.length := by
  unfold rfindB Builtin.Bytes.rfind?
  have : ((List.range ((a ++ c :: b).toArray.size + 1 - (0 + (#[c] : Array UInt8).size))).map (· + 0)).reverse.find? (fun i => (a ++ c :: b).toArray.extract i (i + (#[c] : Array UInt8).size) == #[c]) = some a.length := by
    simp only [Nat.add_zero, List.map_id', List.size_toArray, List.length_cons, List.length_nil, Nat.zero_add, Nat.add_sub_cancel]
    refine rev_find _ _ _ ((by first | decide | exact Nat.le_of_ble_eq_true rfl | exact List.forall_mem_nil _ | simp)) ?_ fun i h1 h2 => ?_
    · rw [ext1 _ _ _ ((by first | decide | exact Nat.le_of_ble_eq_true rfl | exact List.forall_mem_nil _ | simp))]; simp
    · rw [ext1 _ _ _ h2]
      simp only [beq_eq_false_iff_ne, ne_eq]
      rw [List.getElem_append_right (by (first | decide | lia | omega))]
      intro e
      obtain ⟨k, hk⟩ : ∃ k, i - a.length = k + 1 := ⟨i - a.length - 1, by (first | decide | lia | omega)⟩
      simp only [hk, List.getElem_cons_succ] at e
      exact h (e ▸ List.getElem_mem _)
  rw [this]
theorem low_facts : ∀ v : Fin 36, lowOf ((v : Nat) : Int) ≠ 45 ∧ Builtin.Bytes.toUpper (lowOf ((v : Nat) : Int)) = upOf ((v : Nat) : Int) := by decide +kernel
theorem low_dash {l : List Int} (h : ∀ v ∈ l, 0 ≤ v ∧ v < 36) : (45 : UInt8) ∉ lowL l := by
  intro m
  obtain ⟨v, mv, e⟩ := List.mem_map.mp m
  have hv := h v mv
  have := (low_facts ⟨v.toNat, by (first | decide | lia | omega)⟩).1
  simp only at this
  rw [show ((v.toNat : Nat) : Int) = v by (first | decide | lia | omega)] at this
  exact this e
theorem low_upper {l : List Int} (h : ∀ v ∈ l, 0 ≤ v ∧ v < 36) : upperB (lowL l).toArray = (upL l).toArray := by
  unfold upperB lowL upL
  simp only [List.map_map]
  congr 1
  refine List.map_congr_left fun v mv => ?_
  have hv := h v mv
  have := (low_facts ⟨v.toNat, by (first | decide | lia | omega)⟩).2
  simp only at this
  rw [show ((v.toNat : Nat) : Int) = v by (first | decide | lia | omega)] at this
  exact this
theorem genL_range (n : Int) : ∀ (ds : List Int) (i : Nat) (b : Int), (∀ d ∈ ds, 0 ≤ d) → ∀ v ∈ genL n i b ds, 0 ≤ v ∧ v < 36
  | [], _, _, _, v, m => by simp [genL] at m
  | d :: ds, i, b, h, v, m => by
    rcases List.mem_append.mp m with m | m
    · exact numL_range b 0 d (h d (.head _)) v m
    · exact genL_range n ds _ _ (fun e me => h e (.tail _ me)) v m
section
variable {prog : Program} {w : World} {B : Heap} {mg mb : Str → Option Value}
noncomputable def labelOf (ah : List UInt8) (ds : List Int) : List UInt8 := if ah ≠ [] then ah ++ 45 :: lowL (genL ah.length 0 72 ds) else lowL (genL ah.length 0 72 ds)
set_option maxHeartbeats 8000000 in
theorem puny_fun (G : Gnd B mg mb) (R1 : FnRec B mg (fnd 1)) (R4 : FnRec B mg (fnd 4)) (R6 : FnRec B mg (fnd 6)) (R7 : FnRec B mg (fnd 7)) (R : FnRec B mg (fnd 8)) (ah : List UInt8) (ds : List Int) (hn : ah.length < 500) (hah : ∀ c ∈ ah, c.toNat < 128) (hds : ∀ d ∈ ds, 0 ≤ d) (hl : ds.length < 500)
    (hz : (genL ah.length 0 72 ds).length ≤ 1000) (hc : ∀ i, i ≤ ds.length → (insT (ah.map UInt8.toNat) (ds.take i)).1 ≤ 1114111) :
    Fun prog w B mg 4 "punycode_decode" [.bytes (labelOf ah ds).toArray, .str "strict"] [] [] (fun d post => d = .str ⟨(insT (ah.map UInt8.toNat) ds).2.2.toArray⟩ ∧ post = []) := by
  refine Fun_of_body (d := fnd 8) (n := 3) (own := []) (ro := []) G R ["text", "errors"] ["pos", "base", "extended"]
    [("text", .bytes (labelOf ah ds).toArray), ("errors", .str "strict"), ("pos", .any), ("base", .any), ("extended", .any)] rfl ?_ ?_ rfl ?_ ((by first | decide | exact Nat.le_of_ble_eq_true rfl | exact List.forall_mem_nil _ | simp)) ((by first | decide | exact Nat.le_of_ble_eq_true rfl | exact List.forall_mem_nil _ | simp)) fun C k hs room hW hro => ?_
  · intro pm code doc vs h
    rcases vs with _ | ⟨a, _ | ⟨b, _ | ⟨c, r⟩⟩⟩ <;> simp at h
    rfl
  · decide +kernel
  · refine ⟨rfl, rfl, rfl, ?_⟩
    decide +kernel
  · have hr := genL_range ah.length ds 0 72 hds
    have hins := ins_fun (prog := prog) (w := w) G R1 R4 R6 R7 (ah.map UInt8.toNat) ds (upL (genL ah.length 0 72 ds)).toArray (by simpa using hn) hds hl ((by first | decide | exact Nat.le_of_ble_eq_true rfl | exact List.forall_mem_nil _ | simp)) (by simp [upL]; (first | decide | lia | omega)) hc
    refine WXs_cons ?_
    walk_at "sts"
    refine WE_isi (b := (labelOf ah ds).toArray) k G hs (by decide +kernel) (by decide +kernel) (by decide +kernel) (by decide +kernel) boot_str' (by decide +kernel) (by decide +kernel) FA.meta_str FA.bytes_str ?_ (by with_unfolding_all rfl)
    walk_at "stes"
    refine ⟨rfl, ?_⟩
    walk_at "stes"
    refine fsplit (WXs_nil (seqK_next (WXs_cons ?_)))
    walk_at "sts"
    refine WE_isi (b := (labelOf ah ds).toArray) k G hs (by decide +kernel) (by decide +kernel) (by decide +kernel) (by decide +kernel) boot_memoryview' (by decide +kernel) (by decide +kernel) FA.meta_mv FA.bytes_mv ?_ (by with_unfolding_all rfl)
    walk_at "stes"
    refine ⟨rfl, ?_⟩
    walk_at "stes"
    refine fsplit (WXs_nil (seqK_next (WXs_cons ?_)))
    walk_at "stes"
    refine WE_meth "bytes.rfind" ?_ (by with_unfolding_all rfl) (by with_unfolding_all rfl) (by with_unfolding_all rfl) (by with_unfolding_all rfl) (by with_unfolding_all rfl)
    walk_at "stes"
    refine ⟨meth_bytes FA.slot_rfind FA.type_rfind, ?_⟩
    walk_at "stes"
    refine callB_rfind ?_
    walk_at "stes"
    by_cases hne : ah = []
    · have e1 : rfindB (labelOf ah ds).toArray 45 = -1 := by
        unfold labelOf
        rw [if_neg (by simpa using hne)]
        exact rfind_no (low_dash hr)
      have e2 : upperB (labelOf ah ds).toArray = (upL (genL ah.length 0 72 ds)).toArray := by
        unfold labelOf
        rw [if_neg (by simpa using hne)]
        exact low_upper hr
      have e3 : (labelOf ah ds).toArray.size ≤ 2000 := by
        unfold labelOf
        rw [if_neg (by simpa using hne)]
        simp [lowL]; (first | decide | lia | omega)
      rw [e1]
      refine seqK_next (WXs_cons ?_)
      walk_at "stes"
      refine dsplit_t (by decide) ?_
      subst hne
      walk_at "sts"
      refine WE_meth0 "bytes.upper" ?_ (by with_unfolding_all rfl) (by with_unfolding_all rfl)
      walk_at "stes"
      refine ⟨meth_bytes FA.slot_upper FA.type_upper, callB_upper (by (first | decide | lia | omega)) ?_⟩
      rw [e2]
      refine storeK (by walk_at "upd") (seqK_next (WXs_nil ?_))
      refine seqK_next (WXs_cons (WX_try ?_))
      walk_at "stes"
      (((with_reducible refine' WE_call0 ?kx85 ?Gx85 ?hsx85 ?hfx85 ?hdx85 ?_ ?hFx85 ?hex85); (case kx85 => assumption); (case Gx85 => assumption); (case hsx85 => assumption); (case hfx85 => decide +kernel); (case hdx85 => decide +kernel); (case hex85 => with_unfolding_all rfl)))
      case hFx85 => exact ⟨_, _, _, _, _, hins⟩
      walk_at "stes"
      refine ⟨3, [], _, hins, room, (by first | decide | exact Nat.le_of_ble_eq_true rfl | exact List.forall_mem_nil _ | simp), ?_⟩
      rintro d post ⟨rfl, rfl⟩
      dsimp only [List.nil_append]
      repeat walk_at "flow"
      exact retK_ret [] (List.nil_sublist _) ⟨rfl, rfl⟩
    · have el : labelOf ah ds = ah ++ 45 :: lowL (genL ah.length 0 72 ds) := by unfold labelOf; rw [if_pos hne]
      have e1 : rfindB (labelOf ah ds).toArray 45 = ah.length := by rw [el]; exact rfind_at (low_dash hr)
      have e3 : (labelOf ah ds).toArray.size ≤ 2000 := by rw [el]; simp [lowL]; (first | decide | lia | omega)
      have e4 : (sl none (some (ah.length : Int)) (labelOf ah ds).toArray.toList).toArray = ah.toArray := by
        rw [el]; simp [sl]
      have e5 : (sl (some ((ah.length : Int) + 1)) none (labelOf ah ds).toArray.toList).toArray = (lowL (genL ah.length 0 72 ds)).toArray := by
        rw [el]
        have : ((ah.length : Int) + 1).toNat = ah.length + 1 := by (first | decide | lia | omega)
        simp [sl, this]
      have e6 : (⟨cpsOf ah.toArray⟩ : Str) = ⟨(ah.map UInt8.toNat).toArray⟩ := by unfold cpsOf; simp
      rw [e1]
      refine seqK_next (WXs_cons ?_)
      walk_at "stes"
      refine dsplit_f (by (first | decide | lia | omega)) ?_
      refine WXs_cons (WX_try ?_)
      walk_at "stes"
      (first | ((with_reducible refine' WE_blt ?kx86 ?Gx86 ?hsx86 ?hfx86 ?hdx86 ?hvx86 ?hbx86 ?hnx86 ?_ ?hex86 ?hpx86); (case kx86 => assumption); (case Gx86 => assumption); (case hsx86 => assumption); (case hfx86 => decide +kernel); (case hdx86 => decide +kernel); (case hvx86 => decide +kernel); (case hbx86 => (with_reducible first | exact boot_len' | exact boot_min' | exact boot_max' | exact boot_sum' | exact boot_divmod' | exact boot_chr' | exact boot_sorted' | exact boot_isinstance' | exact boot_bytes' | exact boot_bytearray' | exact boot_list' | exact boot_str' | exact boot_memoryview')); (case hnx86 => decide +kernel); (case hex86 => with_unfolding_all rfl); (case hpx86 => with_unfolding_all rfl)) | ((with_reducible refine' WE_typ ?kx86 ?Gx86 ?hsx86 ?hfx86 ?hdx86 ?hvx86 ?hbx86 ?hnx86 ?_ ?hex86 ?hpx86); (case kx86 => assumption); (case Gx86 => assumption); (case hsx86 => assumption); (case hfx86 => decide +kernel); (case hdx86 => decide +kernel); (case hvx86 => decide +kernel); (case hbx86 => (with_reducible first | exact boot_len' | exact boot_min' | exact boot_max' | exact boot_sum' | exact boot_divmod' | exact boot_chr' | exact boot_sorted' | exact boot_isinstance' | exact boot_bytes' | exact boot_bytearray' | exact boot_list' | exact boot_str' | exact boot_memoryview')); (case hnx86 => decide +kernel); (case hex86 => with_unfolding_all rfl); (case hpx86 => with_unfolding_all rfl)))
      walk_at "stes"
      (((with_reducible refine' WE_slice ?kx89 ?_); (case kx89 => assumption)))
      walk_at "stes"
      refine WP_none (WP_some ?_)
      walk_at "stes"
      refine ⟨by show (0 : Int) ≤ _; (first | decide | lia | omega), by (first | decide | lia | omega), ?_⟩
      rw [e4]
      walk_at "stes"
      refine callT_ascii (by simpa using hne) (by simpa using hah) (by simp; (first | decide | lia | omega)) ?_
      rw [e6]
      refine storeK (by walk_at "upd") (seqK_next (WXs_nil (seqK_next (WXs_cons ?_))))
      walk_at "stes"
      refine WE_meth0 "bytes.upper" ?_ (by with_unfolding_all rfl) (by with_unfolding_all rfl)
      (((with_reducible refine' WE_slice ?kx90 ?_); (case kx90 => assumption)))
      walk_at "stes"
      refine WP_some ?_
      walk_at "stes"
      refine WP_none ⟨by show (0 : Int) ≤ _; (first | decide | lia | omega), by (first | decide | lia | omega), ?_⟩
      rw [e5]
      refine ⟨meth_bytes FA.slot_upper FA.type_upper, callB_upper (by simp [lowL]; (first | decide | lia | omega)) ?_⟩
      rw [low_upper hr]
      refine storeK (by walk_at "upd") (seqK_next (WXs_nil ?_))
      refine seqK_next (WXs_cons (WX_try ?_))
      walk_at "stes"
      (((with_reducible refine' WE_call0 ?kx91 ?Gx91 ?hsx91 ?hfx91 ?hdx91 ?_ ?hFx91 ?hex91); (case kx91 => assumption); (case Gx91 => assumption); (case hsx91 => assumption); (case hfx91 => decide +kernel); (case hdx91 => decide +kernel); (case hex91 => with_unfolding_all rfl)))
      case hFx91 => exact ⟨_, _, _, _, _, hins⟩
      walk_at "stes"
      refine ⟨3, [], _, hins, room, (by first | decide | exact Nat.le_of_ble_eq_true rfl | exact List.forall_mem_nil _ | simp), ?_⟩
      rintro d post ⟨rfl, rfl⟩
      dsimp only [List.nil_append]
      repeat walk_at "flow"
      exact retK_ret [] (List.nil_sublist _) ⟨rfl, rfl⟩
end
end
section
open PySem PyProof.Rows PySem.Calls
noncomputable def kindV (x : Int) : Int := if x / 3 % 4 = 0 then x / 12 % 128 else if x / 3 % 4 = 1 then 128 + x / 12 % 4 else if x / 3 % 4 = 2 then 128 + x / 12 % 1113984 else 1114109 + x / 12 % 3
noncomputable def addX (t : List Int × List Int × List Int) (x : Int) : List Int × List Int × List Int :=
  if x % 3 = 0 then (t.1 ++ [kindV x], t.2.1, t.2.2) else if x % 3 = 1 then (t.1, t.2.1 ++ [kindV x], t.2.2) else (t.1, t.2.1, t.2.2 ++ [kindV x])
noncomputable def xsOf (ns : List Int) : List Int := (ns.take 10 ++ [1494, 1177, 1495, 5]).take 10
noncomputable def textsOf (ns : List Int) : List Int × List Int × List Int := (xsOf ns).foldl addX ([], [], [])
theorem item_x (ns : List Int) : ∀ i, i < (xsOf ns).length → ((((ns.map PV.int0).take 10 ++ [PV.int 1494, PV.int 1177, PV.int 1495, PV.int 5]).take 10).getD i .any = .int0 ((xsOf ns).getD i 0) ∨ (((ns.map PV.int0).take 10 ++ [PV.int 1494, PV.int 1177, PV.int 1495, PV.int 5]).take 10).getD i .any = .int ((xsOf ns).getD i 0)) := by
  intro i hi
  have hi10 : i < 10 := by unfold xsOf at hi; simp at hi; (first | decide | lia | omega)
  unfold xsOf at hi ⊢
  simp only [List.getD_eq_getElem?_getD, List.getElem?_take, if_pos hi10]
  rw [← List.map_take]
  by_cases h : i < (ns.take 10).length
  · left
    rw [List.getElem?_append_left (by simpa using h), List.getElem?_append_left h]
    simp only [List.getElem?_map, List.getElem?_eq_getElem h, Option.map_some, Option.getD_some]
  · right
    have h4 : i - (ns.take 10).length < 4 := by
      simp only [List.length_take, List.length_append, List.length_cons, List.length_nil] at hi h ⊢
      (first | decide | lia | omega)
    rw [List.getElem?_append_right (by simpa using h), List.getElem?_append_right (by (first | decide | lia | omega))]
    simp only [List.length_map]
    generalize i - (ns.take 10).length = j at h4
    match j, h4 with
    | 0, _ => rfl
    | 1, _ => rfl
    | 2, _ => rfl
    | 3, _ => rfl
/-- a contract that asks no token and hands one back -/
noncomputable def Fun0 (prog : Program) (w : World) (B : Heap) (mg : Str → Option Value) (n : Nat) (x : Str) (args : List PV) (pre : List (Addr × AObj)) (Q : PV → List (Addr × AObj) → Prop) : Prop :=
  ∃ a o fd, mg x = some (.ref a) ∧ B.get? a = some o ∧ o.data = .func fd ∧
    ∀ (A : Around) (s : Shared) (vs : List Value), Room n A → (∀ b o, B.get? b = some o → s.heap.get? b = some o) → (∀ p ∈ pre, ObjIs s.heap p.1 p.2) → IsAll s.heap args vs →
      wpAny (model prog w) A (call (.ref a) vs) (fun v s' => s'.toks ≠ 0 ∧ FOut s [] Q v s') (fun _ _ => False) s
theorem Fun0_of_body {prog : Program} {w : World} {B : Heap} {mg mb : Str → Option Value} {n : Nat} {d : DefRec} {args : List PV} {ro : List (Addr × AObj)} {Q : PV → List (Addr × AObj) → Prop}
    (G : Gnd B mg mb) (R : FnRec B mg d) (names others : List Str) (loc : List (Str × PV)) (hloc : loc = names.zip args ++ others.map (·, .any))
    (hbind : ∀ pm code doc vs, vs.length = names.length → bindArgs (docDef d.name d.params d.body d.scope pm code doc) ⟨vs, []⟩ = pure (names.zip vs))
    (hok : locOk d.scope (names ++ others) = true) (hlen : names.length = args.length)
    (hsc : d.scope.isCoroutine = false ∧ d.scope.isGenerator = false ∧ d.scope.kind = .function ∧ ∀ x ∈ d.scope.names, x.2 ≠ .cell) (hne : 0 < names.length)
    (h : ∀ C : Cx, CxOk B C → C.env.scope = d.scope → Room n C.A → C.W = [] → C.ro = ro → WXs prog w C d.body ⟨loc, []⟩ (retK [] Q)) :
    Fun0 prog w B mg (n + 1) d.name args ro Q := by
  obtain ⟨a, o, pm, code, doc, hm, ho, hd, hc⟩ := R
  subst hloc
  refine ⟨a, o, _, hm, ho, hd, fun A s vs room kb pre ia => ?_⟩
  have hvl : vs.length = names.length := by rw [ia.length, hlen]
  have lk := locOk_kind hok
  refine wpAny_call (call_plain_ret (by have := room.1; unfold recursionLimit; (first | decide | lia | omega)) (kb _ _ ho) hd (G.lim.keeps kb) (hc.keeps kb) (hbind pm code doc vs hvl) ?_ ?_ hsc.1 hsc.2.1 hsc.2.2.1 hsc.2.2.2)
  · intro x hx
    exact (lk.1 x.1 (List.mem_append_left _ (List.of_mem_zip (a := x.1) (b := x.2) hx).1)).1
  · intro h₁ F
    let C : Cx := ⟨A.deeper (envOf d.name d.scope s.heap.objs.size a code), envOf d.name d.scope s.heap.objs.size a code, s.heap, [], ro⟩
    have hL : s.heap.get? s.heap.objs.size = none := size_none _
    have ok : CxOk B C := ⟨kb, by simp [C], hL, hsc.2.2.1, rfl, rfl, fun p m => ⟨pre p m, by simp [C]⟩⟩
    have M : Mono s.heap h₁ := Mono.keep F.keep
    have keys : ((names.zip args ++ others.map (·, PV.any)).map Prod.fst) = names ++ others := by
      rw [List.map_append, map_zip_fst hlen, List.map_map]
      congr 1
      exact List.map_id _
    have rel : Rel C ⟨names.zip args ++ others.map (·, .any), []⟩ h₁ := {
      keep := fun b o e _ => F.keep b o e
      loc := ⟨_, F.ns, fun p m => by
        rcases List.mem_append.mp m with m | m
        · exact .inr (zip_lookup (List.nodup_append.mp lk.2).1 (ia.mono M) (d := p.2) m)
        · obtain ⟨x, _, e⟩ := List.mem_map.mp m
          exact .inl (by rw [← e])⟩
      kinds := fun p m => by
        refine lk.1 p.1 ?_
        rw [← keys]; exact List.mem_map_of_mem m
      lnd := by show (List.map Prod.fst _).Nodup; rw [keys]; exact lk.2
      own := by simp
      nd := by simp
      apart := by simp
      wtup := by simp [C]
      wlive := by simp [C] }
    have run := h C ok rfl ⟨by show A.depth + 1 + n ≤ 900; have := room.1; (first | decide | lia | omega), by show A.units + 3 + 40 * n ≤ 9000; have := room.2.1; (first | decide | lia | omega), room.2.2⟩ rfl rfl
    have fin : ∀ (v : Value) (s' : Shared) (dd : PV) (S' : St), Post C ⟨names.zip args ++ others.map (·, .any), []⟩ { s with heap := h₁, toks := s.toks + (names.zip vs).length } s' S' → Is s'.heap dd v → (∃ post, post.Sublist S'.own ∧ Q dd post) →
        FOut s [] Q v s' := by
      rintro v s' dd S' p i ⟨post, sub, q⟩
      exact ⟨dd, post, ⟨p.gens, p.os, fun b o e m => p.rel.keep b o e m, fun x m => p.rel.own x (sub.subset m), (sub.map Prod.fst).nodup p.rel.nd, fun x m => p.rel.apart x (sub.subset m)⟩, i, q⟩
    have hz : (names.zip vs).length = names.length := by rw [List.length_zip]; (first | decide | lia | omega)
    refine WT.run (s := { s with heap := h₁, toks := s.toks + (names.zip vs).length }) run rel (by show s.toks + _ ≠ 0; (first | decide | lia | omega)) fun f s' dd S' ht' p i q => ?_
    cases dd <;> cases f <;> first | exact i.elim | exact q.elim | skip
    · exact ⟨ht', fin .none s' .none S' p .none q⟩
    · exact ⟨ht', fin _ s' _ S' p i q⟩
theorem WA_weak {prog : Program} {w : World} {C : Cx} {tg : Expr} {i : Int} {S : St} {K : St → Prop} (h : WA prog w C tg (.int0 i) S K) : WA prog w C tg (.int i) S K :=
  fun v s rl ht x => h v s rl ht (by cases x with | int _ t _ => exact .int0 i t)
section
variable {prog : Program} {w : World} {B : Heap} {mg mb : Str → Option Value}
set_option maxHeartbeats 8000000 in
theorem texts_fun (G : Gnd B mg mb) (R : FnRec B mg (fnd 16)) (a : Addr) (ns : List Int) (hl : ns.length ≤ 63) :
    Fun0 prog w B mg 1 "_law_texts" [.ref a] [(a, .list (ns.map .int0))] (fun d post => ∃ t a0 a1 a2, d = .ref t ∧ post = [(t, .list [.ref a0, .ref a1, .ref a2]), (a2, .list ((textsOf ns).2.2.map .int)), (a1, .list ((textsOf ns).2.1.map .int)), (a0, .list ((textsOf ns).1.map .int))]) := by
  refine Fun0_of_body (d := fnd 16) (n := 0) (ro := [(a, .list (ns.map .int0))]) G R ["script"] ["texts", "x", "value", "kinds"]
    [("script", .ref a), ("texts", .any), ("x", .any), ("value", .any), ("kinds", .any)] rfl ?_ ?_ rfl ?_ ((by first | decide | exact Nat.le_of_ble_eq_true rfl | exact List.forall_mem_nil _ | simp)) fun C k hs room hW hro => ?_
  · intro pm code doc vs h
    rcases vs with _ | ⟨a, _ | ⟨b, r⟩⟩ <;> simp at h
    rfl
  · decide +kernel
  · refine ⟨rfl, rfl, rfl, ?_⟩
    decide +kernel
  · refine WXs_cons ?_
    walk_at "stes"
    refine WE_list ?_
    walk_at "stes"
    refine WE_list (WL_nil ⟨(by first | decide | exact Nat.le_of_ble_eq_true rfl | exact List.forall_mem_nil _ | simp), newK fun a0 => ?_⟩)
    walk_at "stes"
    refine WE_list (WL_nil ⟨(by first | decide | exact Nat.le_of_ble_eq_true rfl | exact List.forall_mem_nil _ | simp), newK fun a1 => ?_⟩)
    walk_at "stes"
    refine WE_list (WL_nil ⟨(by first | decide | exact Nat.le_of_ble_eq_true rfl | exact List.forall_mem_nil _ | simp), newK fun a2 => ?_⟩)
    walk_at "stes"
    refine ⟨(by first | decide | exact Nat.le_of_ble_eq_true rfl | exact List.forall_mem_nil _ | simp), newK fun t => ?_⟩
    refine storeK (by walk_at "upd") (seqK_next (WXs_cons ?_))
    refine WX_for (X := Unit) ?_ (by intro _; with_unfolding_all rfl)
    refine WI_list k room.2.2.1 ?_
    (((with_reducible refine' WE_slice ?kx92 ?_); (case kx92 => assumption)))
    refine WE_listAdd k ?_
    (((with_reducible refine' WE_slice ?kx93 ?_); (case kx93 => assumption)))
    walk_at "stes"
    refine WP_none (WP_some ?_)
    walk_at "stes"
    refine ⟨by show (0 : Int) ≤ 10; decide, _, by (first | (refine Has.own ?_; walk_at "mem"; done) | (refine Has.roAt (by assumption) ?_; walk_at "mem"; done)), by simp; (first | decide | lia | omega), newK fun p => ?_⟩
    refine WE_list ?_
    walk_at "stes"
    refine ⟨(by first | decide | exact Nat.le_of_ble_eq_true rfl | exact List.forall_mem_nil _ | simp), newK fun q => ?_⟩
    refine ⟨p, q, _, _, rfl, rfl, by (first | (refine Has.own ?_; walk_at "mem"; done) | (refine Has.roAt (by assumption) ?_; walk_at "mem"; done)), by (first | (refine Has.own ?_; walk_at "mem"; done) | (refine Has.roAt (by assumption) ?_; walk_at "mem"; done)), by simp [sl]; (first | decide | lia | omega), newK fun r => WP_none (WP_some ?_)⟩
    walk_at "stes"
    refine ⟨by show (0 : Int) ≤ 10; decide, _, by (first | (refine Has.own ?_; walk_at "mem"; done) | (refine Has.roAt (by assumption) ?_; walk_at "mem"; done)), by simp [sl]; (first | decide | lia | omega), newK fun u => ?_⟩
    have eL : sl none (some 10) (sl none (some 10) (ns.map PV.int0) ++ [PV.int 1494, PV.int 1177, PV.int 1495, PV.int 5]) = ((ns.map PV.int0).take 10 ++ [PV.int 1494, PV.int 1177, PV.int 1495, PV.int 5]).take 10 := rfl
    rw [eL]
    have hlen : (((ns.map PV.int0).take 10 ++ [PV.int 1494, PV.int 1177, PV.int 1495, PV.int 5]).take 10).length = (xsOf ns).length := by unfold xsOf; simp
    have hx10 : (xsOf ns).length ≤ 10 := by unfold xsOf; simp; (first | decide | lia | omega)
    let T : Nat → List Int × List Int × List Int := fun i => ((xsOf ns).take i).foldl addX ([], [], [])
    have hTl : ∀ i, (T i).1.length ≤ 10 ∧ (T i).2.1.length ≤ 10 ∧ (T i).2.2.length ≤ 10 := by
      intro i
      have : ∀ (l : List Int) (t : List Int × List Int × List Int), (l.foldl addX t).1.length ≤ t.1.length + l.length ∧ (l.foldl addX t).2.1.length ≤ t.2.1.length + l.length ∧ (l.foldl addX t).2.2.length ≤ t.2.2.length + l.length := by
        intro l
        induction l with
        | nil => intro t; simp
        | cons x l ih =>
          intro t
          have := ih (addX t x)
          have hs : (addX t x).1.length ≤ t.1.length + 1 ∧ (addX t x).2.1.length ≤ t.2.1.length + 1 ∧ (addX t x).2.2.length ≤ t.2.2.length + 1 := by
            unfold addX; split
            · simp
            · split <;> simp
          simp only [List.foldl_cons, List.length_cons]
          (first | decide | lia | omega)
      have := this ((xsOf ns).take i) ([], [], [])
      have hl' : ((xsOf ns).take i).length ≤ 10 := by simp; (first | decide | lia | omega)
      simp only [List.length_nil, Nat.zero_add] at this
      show (((xsOf ns).take i).foldl addX ([], [], [])).1.length ≤ 10 ∧ _
      refine ⟨Nat.le_trans this.1 hl', Nat.le_trans this.2.1 hl', Nat.le_trans this.2.2 hl'⟩
    refine ⟨u, _, rfl, by (first | (refine Has.own ?_; walk_at "mem"; done) | (refine Has.roAt (by assumption) ?_; walk_at "mem"; done)), fun i _ => ⟨[("script", .ref a), ("texts", .ref t), ("x", .any), ("value", .any), ("kinds", .any)], [(u, .list (((ns.map PV.int0).take 10 ++ [PV.int 1494, PV.int 1177, PV.int 1495, PV.int 5]).take 10)), (t, .list [.ref a0, .ref a1, .ref a2]), (a2, .list ((T i).2.2.map .int)), (a1, .list ((T i).2.1.map .int)), (a0, .list ((T i).1.map .int))]⟩, fun _ _ => True, (), trivial, ⟨LocLe.rfl, ?_⟩, fun i _ _ _ => by (first | (refine Has.own ?_; walk_at "mem"; done) | (refine Has.roAt (by assumption) ?_; walk_at "mem"; done)), ?_, ?_⟩
    · exact .cons₂ _ (.cons _ (.cons _ (.cons _ (List.Sublist.refl _))))
    · intro i _ hi _
      rw [hlen] at hi
      dsimp only
      have hTi := hTl i
      have hT : T (i + 1) = addX (T i) ((xsOf ns).getD i 0) := by
        show ((xsOf ns).take (i + 1)).foldl addX ([], [], []) = addX (((xsOf ns).take i).foldl addX ([], [], [])) _
        rw [List.take_add_one, List.foldl_append]
        simp [hi]
      have hit := item_x ns i hi
      generalize (xsOf ns).getD i 0 = x at hT hit
      have hit' : ∀ {K : St → Prop} {S : St}, WA prog w C (.Name "x" ⟨152, 8, 152, 9⟩) (.int0 x) S K → WA prog w C (.Name "x" ⟨152, 8, 152, 9⟩) ((((ns.map PV.int0).take 10 ++ [PV.int 1494, PV.int 1177, PV.int 1495, PV.int 5]).take 10).getD i .any) S K := by
        intro K S h
        rcases hit with hit | hit
        · rw [hit]; exact h
        · rw [hit]; exact WA_weak h
      refine hit' ?_
      refine WA_name k (storeK (by walk_at "upd") (WXs_cons ?_))
      walk_at "stes"
      refine seqK_next (WXs_cons ?_)
      walk_at "stes"
      refine WE_list ?_
      walk_at "stes"
      refine ⟨(by first | decide | exact Nat.le_of_ble_eq_true rfl | exact List.forall_mem_nil _ | simp), newK fun kd => ?_⟩
      refine storeK (by walk_at "upd") (seqK_next (WXs_cons ?_))
      (((with_reducible refine' WX_expr ?kx100 ?_ ?hsx100); (case kx100 => assumption); (case hsx100 => with_unfolding_all rfl)))
      (((with_reducible refine' WE_meth "list.append" ?_ ?hbx101 ?hlx101 ?hfx101 ?hex101 ?hpx101); (case hbx101 => with_unfolding_all rfl); (case hlx101 => with_unfolding_all rfl); (case hfx101 => with_unfolding_all rfl); (case hex101 => with_unfolding_all rfl); (case hpx101 => with_unfolding_all rfl)))
      walk_at "stes"
      have hm := Int.emod_nonneg x (by decide : (3 : Int) ≠ 0)
      have hm' := Int.emod_lt_of_pos x (by decide : (0 : Int) < 3)
      have hk := Int.emod_nonneg (x / 3) (by decide : (4 : Int) ≠ 0)
      have hk' := Int.emod_lt_of_pos (x / 3) (by decide : (0 : Int) < 4)
      have kinds : ∀ {S : St} {kk : PV → Prop}, Has C S kd (.list [.int (x / 12 % 128), .int (128 + x / 12 % 4), .int (128 + x / 12 % 1113984), .int (1114109 + x / 12 % 3)]) → kk (.int (kindV x)) → ItemK C S kk (.ref kd) (.int (x / 3 % 4)) := by
        intro S kk hm h
        have hkv : kindV x = if x / 3 % 4 = 0 then x / 12 % 128 else if x / 3 % 4 = 1 then 128 + x / 12 % 4 else if x / 3 % 4 = 2 then 128 + x / 12 % 1113984 else 1114109 + x / 12 % 3 := rfl
        refine ⟨_, (x / 3 % 4).toNat, .int (kindV x), hm, (by first | decide | exact Nat.le_of_ble_eq_true rfl | exact List.forall_mem_nil _ | simp), seqIndex_nn hk (by simpa using hk'), ?_, h⟩
        rw [hkv]
        generalize x / 3 % 4 = j at hk hk'
        have : j = 0 ∨ j = 1 ∨ j = 2 ∨ j = 3 := by (first | decide | lia | omega)
        rcases this with rfl | rfl | rfl | rfl <;> rfl
      have hx3 : x % 3 = 0 ∨ x % 3 = 1 ∨ x % 3 = 2 := by (first | decide | lia | omega)
      rcases hx3 with h3 | h3 | h3
      · rw [h3]
        refine ⟨_, 0, .ref a0, by (first | (refine Has.own ?_; walk_at "mem"; done) | (refine Has.roAt (by assumption) ?_; walk_at "mem"; done)), (by first | decide | exact Nat.le_of_ble_eq_true rfl | exact List.forall_mem_nil _ | simp), rfl, rfl, ⟨meth_list k (l := (T i).1.map .int) (by (first | (refine Has.own ?_; walk_at "mem"; done) | (refine Has.roAt (by assumption) ?_; walk_at "mem"; done))) F.slot_list_append F.type_list_append, ?_⟩⟩
        walk_at "stes"
        refine kinds (by (first | (refine Has.own ?_; walk_at "mem"; done) | (refine Has.roAt (by assumption) ?_; walk_at "mem"; done))) ?_
        walk_at "stes"
        refine callB_append (by walk_at "upd") (by simp; (first | decide | lia | omega)) ⟨rfl, ?_⟩
        repeat walk_at "flow"
        refine WXs_nil (loopK_next ⟨(), trivial, by (repeat (first | exact LocLe.nil | apply LocLe.same | apply LocLe.any)), ?_⟩)
        rw [hT]
        have : addX (T i) x = ((T i).1 ++ [kindV x], (T i).2.1, (T i).2.2) := by unfold addX; rw [if_pos h3]
        rw [this]
        simp only [List.map_append, List.map_cons, List.map_nil]
        exact List.sublist_cons_self _ _
      · rw [h3]
        refine ⟨_, 1, .ref a1, by (first | (refine Has.own ?_; walk_at "mem"; done) | (refine Has.roAt (by assumption) ?_; walk_at "mem"; done)), (by first | decide | exact Nat.le_of_ble_eq_true rfl | exact List.forall_mem_nil _ | simp), rfl, rfl, ⟨meth_list k (l := (T i).2.1.map .int) (by (first | (refine Has.own ?_; walk_at "mem"; done) | (refine Has.roAt (by assumption) ?_; walk_at "mem"; done))) F.slot_list_append F.type_list_append, ?_⟩⟩
        walk_at "stes"
        refine kinds (by (first | (refine Has.own ?_; walk_at "mem"; done) | (refine Has.roAt (by assumption) ?_; walk_at "mem"; done))) ?_
        walk_at "stes"
        refine callB_append (by walk_at "upd") (by simp; (first | decide | lia | omega)) ⟨rfl, ?_⟩
        repeat walk_at "flow"
        refine WXs_nil (loopK_next ⟨(), trivial, by (repeat (first | exact LocLe.nil | apply LocLe.same | apply LocLe.any)), ?_⟩)
        rw [hT]
        have : addX (T i) x = ((T i).1, (T i).2.1 ++ [kindV x], (T i).2.2) := by unfold addX; rw [if_neg (by (first | decide | lia | omega)), if_pos h3]
        rw [this]
        simp only [List.map_append, List.map_cons, List.map_nil]
        exact List.sublist_cons_self _ _
      · rw [h3]
        refine ⟨_, 2, .ref a2, by (first | (refine Has.own ?_; walk_at "mem"; done) | (refine Has.roAt (by assumption) ?_; walk_at "mem"; done)), (by first | decide | exact Nat.le_of_ble_eq_true rfl | exact List.forall_mem_nil _ | simp), rfl, rfl, ⟨meth_list k (l := (T i).2.2.map .int) (by (first | (refine Has.own ?_; walk_at "mem"; done) | (refine Has.roAt (by assumption) ?_; walk_at "mem"; done))) F.slot_list_append F.type_list_append, ?_⟩⟩
        walk_at "stes"
        refine kinds (by (first | (refine Has.own ?_; walk_at "mem"; done) | (refine Has.roAt (by assumption) ?_; walk_at "mem"; done))) ?_
        walk_at "stes"
        refine callB_append (by walk_at "upd") (by simp; (first | decide | lia | omega)) ⟨rfl, ?_⟩
        repeat walk_at "flow"
        refine WXs_nil (loopK_next ⟨(), trivial, by (repeat (first | exact LocLe.nil | apply LocLe.same | apply LocLe.any)), ?_⟩)
        rw [hT]
        have : addX (T i) x = ((T i).1, (T i).2.1, (T i).2.2 ++ [kindV x]) := by unfold addX; rw [if_neg (by (first | decide | lia | omega)), if_neg (by (first | decide | lia | omega))]
        rw [this]
        simp only [List.map_append, List.map_cons, List.map_nil]
        exact List.sublist_cons_self _ _
    · intro _ _
      rw [hlen]
      have hTn : T (xsOf ns).length = textsOf ns := by show ((xsOf ns).take _).foldl addX _ = _; rw [List.take_length]; rfl
      dsimp only
      rw [hTn]
      walk_at "sts"
      exact retK_ret _ (List.sublist_cons_self _ _) ⟨t, a0, a1, a2, rfl, rfl⟩
end
end
section
open PySem PyProof.Rows PySem.Calls
noncomputable def wt (b : Int) : Nat → Int
  | 0 => 1
  | k + 1 => wt b k * (36 - Tv k b)
noncomputable def lst (b : Int) : Nat → Int
  | 0 => 0
  | k + 1 => lst b k + Tv k b * wt b k
theorem wt_pos (b : Int) : ∀ k, 1 ≤ wt b k
  | 0 => Int.le_refl _
  | k + 1 => by
    have h := wt_pos b k
    have t := Tv_pos k b
    have : 1 * 1 ≤ wt b k * (36 - Tv k b) := Int.mul_le_mul h (by (first | decide | lia | omega)) (by decide) (by (first | decide | lia | omega))
    simpa [wt] using this
/-- the quotients of numL -/
noncomputable def quo (b : Int) (N : Int) : Nat → Int
  | 0 => N
  | k + 1 => (quo b N k - Tv k b) / (36 - Tv k b)
/-- N < least + wt * X, told by the quotient -/
theorem quo_lt (b N : Int) : ∀ (k : Nat) (X : Int), N < lst b k + wt b k * X ↔ quo b N k < X
  | 0, X => by simp [lst, wt, quo]
  | k + 1, X => by
    have t := Tv_pos k b
    have ih := quo_lt b N k (Tv k b + (36 - Tv k b) * X)
    have e : lst b k + wt b k * (Tv k b + (36 - Tv k b) * X) = lst b (k + 1) + wt b (k + 1) * X := by
      simp only [lst, wt, Int.mul_add, Int.mul_comm (Tv k b), Int.mul_assoc]
      (first | decide | lia | omega)
    rw [e] at ih
    rw [ih]
    simp only [quo]
    rw [Int.ediv_lt_iff_lt_mul (by (first | decide | lia | omega))]
    rw [Int.mul_comm X]
    (first | decide | lia | omega)
theorem numL_of (b : Int) : ∀ (K : Nat) (N : Int) (j : Nat), (∀ i, i < K → Tv (j + i : Nat) b ≤ quo b N (j + i)) → quo b N (j + K) < Tv (j + K : Nat) b → numL b j (quo b N j) = (List.range (K + 1)).map fun i => if i = K then quo b N (j + i) else Tv (j + i : Nat) b + (quo b N (j + i) - Tv (j + i : Nat) b) % (36 - Tv (j + i : Nat) b)
  | 0, N, j, h1, h2 => by
    unfold numL
    rw [if_pos (by simpa using h2)]
    simp
  | K + 1, N, j, h1, h2 => by
    unfold numL
    have h0 := h1 0 (by (first | decide | lia | omega))
    simp only [Nat.add_zero] at h0
    rw [if_neg (by (first | decide | lia | omega))]
    have ih := numL_of b K N (j + 1) (fun i hi => by have := h1 (i + 1) (by (first | decide | lia | omega)); rwa [show j + 1 + i = j + (i + 1) by (first | decide | lia | omega)]) (by rwa [show j + 1 + K = j + (K + 1) by (first | decide | lia | omega)])
    have ej : ((j : Int) + 1) = ((j + 1 : Nat) : Int) := by (first | decide | lia | omega)
    have eq : (quo b N j - Tv j b) / (36 - Tv j b) = quo b N (j + 1) := rfl
    rw [ej, eq, ih]
    rw [List.range_succ_eq_map (n := K + 1)]
    simp only [List.map_cons, List.map_map]
    congr 1
    refine List.map_congr_left fun i _ => ?_
    simp only [Function.comp]
    rw [show j + 1 + i = j + (i + 1) by (first | decide | lia | omega)]
    by_cases c : i = K
    · subst c; simp
    · rw [if_neg c, if_neg (by (first | decide | lia | omega))]
theorem ediv2 (a b c : Int) (hb : 0 < b) : a / b / c = a / (b * c) := by
  rw [Int.ediv_ediv, if_neg (fun h => by (first | decide | lia | omega))]; (first | decide | lia | omega)
theorem quo_div (b N : Int) : ∀ k, quo b N k = (N - lst b k) / wt b k
  | 0 => by simp [quo, lst, wt]
  | k + 1 => by
    have t := Tv_pos k b
    have w := wt_pos b k
    simp only [quo, lst, wt]
    rw [quo_div b N k, ← ediv2 _ _ _ (by (first | decide | lia | omega))]
    congr 1
    have : N - (lst b k + Tv k b * wt b k) = N - lst b k + (-Tv k b) * wt b k := by rw [Int.neg_mul]; (first | decide | lia | omega)
    rw [this, Int.add_mul_ediv_right _ _ (by (first | decide | lia | omega))]
    (first | decide | lia | omega)
theorem wt_dvd (b : Int) (i : Nat) : ∀ d, wt b i ∣ wt b (i + d)
  | 0 => Int.dvd_refl _
  | d + 1 => Int.dvd_trans (wt_dvd b i d) ⟨36 - Tv (i + d : Nat) b, rfl⟩
theorem lst_mod (b N : Int) (i : Nat) : ∀ d, (N - lst b (i + d)) % wt b i = (N - lst b i) % wt b i
  | 0 => rfl
  | d + 1 => by
    obtain ⟨c, hc⟩ := wt_dvd b i d
    have : N - lst b (i + (d + 1)) = N - lst b (i + d) - wt b i * (Tv (i + d : Nat) b * c) := by
      show N - (lst b (i + d) + Tv (i + d : Nat) b * wt b (i + d)) = _
      rw [hc]
      have : Tv (i + d : Nat) b * (wt b i * c) = wt b i * (Tv (i + d : Nat) b * c) := by rw [Int.mul_left_comm]
      rw [this]; (first | decide | lia | omega)
    rw [this, Int.sub_mul_emod_self_left, lst_mod b N i d]
theorem fig_at (b N : Int) {i K : Nat} (h : i < K) : (N - lst b K) % wt b (i + 1) / wt b i = (quo b N i - Tv i b) % (36 - Tv i b) := by
  obtain ⟨d, rfl⟩ : ∃ d, K = i + 1 + d := ⟨K - i - 1, by (first | decide | lia | omega)⟩
  have w := wt_pos b i
  have t := Tv_pos i b
  rw [lst_mod]
  show (N - (lst b i + Tv i b * wt b i)) % (wt b i * (36 - Tv i b)) / wt b i = _
  have e : N - (lst b i + Tv i b * wt b i) = N - lst b i + (-Tv i b) * wt b i := by rw [Int.neg_mul]; (first | decide | lia | omega)
  have e2 : (N - lst b i + (-Tv i b) * wt b i) / wt b i = quo b N i - Tv i b := by
    rw [Int.add_mul_ediv_right _ _ (by (first | decide | lia | omega)), ← quo_div]; (first | decide | lia | omega)
  rw [e, ← e2]
  generalize N - lst b i + (-Tv i b) * wt b i = X
  rw [Int.emod_def X (wt b i * (36 - Tv i b)), Int.mul_assoc]
  have e3 : X - wt b i * ((36 - Tv i b) * (X / (wt b i * (36 - Tv i b)))) = X + (-((36 - Tv i b) * (X / (wt b i * (36 - Tv i b))))) * wt b i := by
    rw [Int.neg_mul, Int.mul_comm (wt b i)]; (first | decide | lia | omega)
  rw [e3, Int.add_mul_ediv_right _ _ (by (first | decide | lia | omega)), ← ediv2 _ _ _ (by (first | decide | lia | omega)), Int.emod_def]
  (first | decide | lia | omega)
end
section
open PySem PyProof.Rows PySem.Calls
section
variable {prog : Program} {w : World} {B : Heap} {mg mb : Str → Option Value}
theorem item_int {C : Cx} {S : St} {a : Addr} {ns : List Int} {i : Int} {k : PV → Prop} (m : Has C S a (.list (ns.map .int))) (hl : ns.length ≤ 2 ^ 20) (h0 : 0 ≤ i) (h1 : i < ns.length) (h : k (.int (ns.getD i.toNat 0))) : ItemK C S k (.ref a) (.int i) := by
  have hi : i.toNat < ns.length := by (first | decide | lia | omega)
  refine ⟨ns.map .int, i.toNat, .int (ns.getD i.toNat 0), m, by simp; (first | decide | lia | omega), seqIndex_nn h0 (by simpa using h1), ?_, h⟩
  simp [hi]
theorem item_last {C : Cx} {S : St} {a : Addr} {ns : List Int} {x : Int} {k : PV → Prop} (m : Has C S a (.list ((ns ++ [x]).map .int))) (hl : ns.length < 2 ^ 20) (h : k (.int x)) : ItemK C S k (.ref a) (.int (-1)) := by
  refine ⟨(ns ++ [x]).map .int, ns.length, .int x, m, by simp; (first | decide | lia | omega), ?_, (by first | decide | exact Nat.le_of_ble_eq_true rfl | exact List.forall_mem_nil _ | simp), h⟩
  rw [List.length_map, List.length_append]
  exact seqIndex_last
noncomputable def wts (b : Int) (k : Nat) : List Int := (List.range (k + 1)).map (wt b)
noncomputable def edg (b : Int) (k : Nat) : List Int := (List.range k).map fun i : Nat => Tv i b
theorem wts_succ (b : Int) (k : Nat) : wts b (k + 1) = wts b k ++ [wt b (k + 1)] := by unfold wts; rw [List.range_succ]; simp
theorem wts_last (b : Int) (k : Nat) : ∃ l, wts b k = l ++ [wt b k] ∧ l.length = k := ⟨(List.range k).map (wt b), by unfold wts; rw [List.range_succ]; simp, (by first | decide | exact Nat.le_of_ble_eq_true rfl | exact List.forall_mem_nil _ | simp)⟩
theorem edg_succ (b : Int) (k : Nat) : edg b (k + 1) = edg b k ++ [Tv k b] := by unfold edg; rw [List.range_succ]; simp
theorem edge_eq (b : Int) (k : Nat) : min 26 (max 1 (36 * ((k + 1 : Nat) : Int) - b)) = Tv k b := by
  unfold Tv
  have : ((k + 1 : Nat) : Int) = k + 1 := by (first | decide | lia | omega)
  rw [this]
  split
  · (first | decide | lia | omega)
  · split <;> (first | decide | lia | omega)
noncomputable def figv (b N : Int) (j p : Nat) : Int := if p = j then quo b N p else Tv p b + (quo b N p - Tv p b) % (36 - Tv p b)
noncomputable def rstv (b N : Int) (j i : Nat) : Int := if i = 0 then N - lst b j else (N - lst b j) % wt b (j + 1 - i)
noncomputable def fgs (b N : Int) (j i : Nat) : List Int := (List.range i).map fun s => figv b N j (j - s)
theorem fgs_succ (b N : Int) (j i : Nat) : fgs b N j (i + 1) = fgs b N j i ++ [figv b N j (j - i)] := by unfold fgs; rw [List.range_succ]; simp
theorem fgs_all (b N : Int) (j : Nat) : (fgs b N j (j + 1)).reverse = (List.range (j + 1)).map (figv b N j) := by
  unfold fgs
  refine List.ext_getElem ((by first | decide | exact Nat.le_of_ble_eq_true rfl | exact List.forall_mem_nil _ | simp)) fun i h1 h2 => ?_
  simp at h1 h2 ⊢
  congr 1
  (first | decide | lia | omega)
theorem rst_succ (b N : Int) (j i : Nat) (h : i ≤ j) : rstv b N j i % wt b (j - i) = rstv b N j (i + 1) := by
  unfold rstv
  rw [if_neg (by (first | decide | lia | omega) : ¬ i + 1 = 0), show j + 1 - (i + 1) = j - i by (first | decide | lia | omega)]
  split
  · rename_i e; subst e; rfl
  · rw [show j + 1 - i = j - i + 1 by (first | decide | lia | omega)]
    exact Int.emod_emod_of_dvd _ (wt_dvd b (j - i) 1)
theorem fig_ok (b N : Int) (j i : Nat) (h : i ≤ j) : ((edg b j ++ [0]).getD (j - i) 0) + rstv b N j i / wt b (j - i) = figv b N j (j - i) := by
  unfold rstv figv
  by_cases e : i = 0
  · subst e
    rw [if_pos rfl, if_pos (by (first | decide | lia | omega))]
    have : (edg b j ++ [0]).getD (j - 0) 0 = 0 := by simp [edg]
    rw [this, Nat.sub_zero, ← quo_div]; (first | decide | lia | omega)
  · rw [if_neg e, if_neg (by (first | decide | lia | omega)), show j + 1 - i = j - i + 1 by (first | decide | lia | omega), fig_at b N (by (first | decide | lia | omega))]
    congr 1
    have h1 : j - i < (edg b j).length := by simp [edg]; (first | decide | lia | omega)
    rw [List.getD_eq_getElem?_getD, List.getElem?_append_left h1]
    simp [edg, show j - i < j by (first | decide | lia | omega)]
theorem wt_pow (b : Int) : ∀ k : Nat, 2 ^ k ≤ wt b k
  | 0 => Int.le_refl _
  | k + 1 => by
    have t := Tv_pos k b
    have w := wt_pow b k
    have p : (0 : Int) < 2 ^ k := Int.pow_pos (by decide)
    have : 2 ^ k * 2 ≤ wt b k * (36 - Tv k b) := Int.mul_le_mul w (by (first | decide | lia | omega)) (by decide) (by (first | decide | lia | omega))
    rw [Int.pow_succ]
    simpa [wt] using this
theorem lst_pow (b : Int) : ∀ k : Nat, 2 ^ k ≤ lst b k + 1
  | 0 => Int.le_refl _
  | k + 1 => by
    have := lst_pow b k
    have t := Tv_pos k b
    have w := wt_pow b k
    have p : (0 : Int) < 2 ^ k := Int.pow_pos (by decide)
    have : 1 * wt b k ≤ Tv k b * wt b k := Int.mul_le_mul_of_nonneg_right t.1 (by (first | decide | lia | omega))
    simp only [lst]
    rw [Int.pow_succ]
    (first | decide | lia | omega)
theorem lst_le {b N : Int} {k : Nat} (h : lst b k ≤ N) (hN : N < 2 ^ 40) : k ≤ 40 := by
  have := lst_pow b k
  rcases Nat.lt_or_ge 40 k with c | c
  · have h2 : (2 : Int) ^ 41 ≤ 2 ^ k := by
      have := Nat.pow_le_pow_right (by decide : 0 < 2) c
      exact_mod_cast this
    (first | decide | lia | omega)
  · exact c
theorem lst_mono (b : Int) (i : Nat) : ∀ d, lst b i ≤ lst b (i + d)
  | 0 => Int.le_refl _
  | d + 1 => by
    have := lst_mono b i d
    have t := Tv_pos (i + d : Nat) b
    have w := wt_pos b (i + d)
    have : 0 < Tv (i + d : Nat) b * wt b (i + d) := Int.mul_pos (by (first | decide | lia | omega)) (by (first | decide | lia | omega))
    show _ ≤ lst b (i + d) + Tv (i + d : Nat) b * wt b (i + d)
    (first | decide | lia | omega)
theorem wt_lt {b N : Int} {j p : Nat} (h : lst b j ≤ N) (hN : N < 2 ^ 40) (hp : p ≤ j) : wt b p < 2 ^ 62 := by
  cases p with
  | zero => simp [wt]
  | succ q =>
    have m := lst_mono b (q + 1) (j - (q + 1))
    rw [show q + 1 + (j - (q + 1)) = j by (first | decide | lia | omega)] at m
    have m0 := lst_mono b 0 q
    rw [Nat.zero_add] at m0
    have t := Tv_pos q b
    have w := wt_pos b q
    have e : wt b q ≤ Tv q b * wt b q := by
      have := Int.mul_le_mul_of_nonneg_right t.1 (by (first | decide | lia | omega) : 0 ≤ wt b q)
      (first | decide | lia | omega)
    have e1 : lst b (q + 1) = lst b q + Tv q b * wt b q := rfl
    have e0 : lst b 0 = 0 := rfl
    have hw : wt b q < 2 ^ 40 := by (first | decide | lia | omega)
    have e2 : wt b q * (36 - Tv q b) ≤ wt b q * 35 := Int.mul_le_mul_of_nonneg_left (by (first | decide | lia | omega)) (by (first | decide | lia | omega))
    show wt b q * (36 - Tv q b) < _
    (first | decide | lia | omega)
set_option maxHeartbeats 8000000 in
theorem num_fun (G : Gnd B mg mb) (R : FnRec B mg (fnd 18)) (N b : Int) (hN : 0 ≤ N) (hN' : N < 2 ^ 40) (hb : -(2 ^ 40) < b ∧ b < 2 ^ 40) :
    Fun prog w B mg 1 "_law_numeral" [.int N, .int b] [] [] (fun d post => ∃ a, d = .ref a ∧ post = [(a, .list ((numL b 0 N).map .int))]) := by
  refine Fun_of_body (d := fnd 18) (n := 0) (own := []) (ro := []) G R ["number", "bias"] ["worths", "edges", "least", "edge", "rest", "figures", "place"]
    [("number", .int N), ("bias", .int b), ("worths", .any), ("edges", .any), ("least", .any), ("edge", .any), ("rest", .any), ("figures", .any), ("place", .any)] rfl ?_ ?_ rfl ?_ ((by first | decide | exact Nat.le_of_ble_eq_true rfl | exact List.forall_mem_nil _ | simp)) ((by first | decide | exact Nat.le_of_ble_eq_true rfl | exact List.forall_mem_nil _ | simp)) fun C k hs room hW hro => ?_
  · intro pm code doc vs h
    rcases vs with _ | ⟨a, _ | ⟨b, _ | ⟨c, r⟩⟩⟩ <;> simp at h
    rfl
  · decide +kernel
  · refine ⟨rfl, rfl, rfl, ?_⟩
    decide +kernel
  · have hh : C.A.handled = none := room.2.2.1
    refine WXs_cons ?_
    walk_at "stes"
    refine WE_list ?_
    walk_at "stes"
    refine ⟨(by first | decide | exact Nat.le_of_ble_eq_true rfl | exact List.forall_mem_nil _ | simp), newK fun wa => ?_⟩
    refine storeK (by walk_at "upd") (seqK_next (WXs_cons ?_))
    walk_at "stes"
    refine WE_list (WL_nil ⟨(by first | decide | exact Nat.le_of_ble_eq_true rfl | exact List.forall_mem_nil _ | simp), newK fun ea => ?_⟩)
    walk_at "sts"
    refine WX_while (X := Nat) (fun j => ⟨[("number", .int N), ("bias", .int b), ("worths", .ref wa), ("edges", .ref ea), ("least", .int (lst b j)), ("edge", .any), ("rest", .any), ("figures", .any), ("place", .any)], [(ea, .list ((edg b j).map .int)), (wa, .list ((wts b j).map .int))]⟩)
      (fun j => lst b j ≤ N ∧ ∀ i, i < j → Tv i b ≤ quo b N i) (fun j => (N - lst b j).toNat) 0 ⟨by simpa [lst] using hN, by intro i hi; (first | decide | lia | omega)⟩ ⟨by (repeat (first | exact LocLe.nil | apply LocLe.same | apply LocLe.any)), List.Sublist.refl _⟩ ?_
    rintro j ⟨hj, hq⟩
    have hj40 := lst_le hj hN'
    obtain ⟨wl, hwl, hwll⟩ := wts_last b j
    have hlw : (wts b j).length = j + 1 := by simp [wts]
    have hT := Tv_pos j b
    have hw := wt_pos b j
    walk_at "stes"
    refine tsplit ?_
    refine WXs_cons ?_
    walk_at "stes"
    (first | ((with_reducible refine' WE_blt ?kx115 ?Gx115 ?hsx115 ?hfx115 ?hdx115 ?hvx115 ?hbx115 ?hnx115 ?_ ?hex115 ?hpx115); (case kx115 => assumption); (case Gx115 => assumption); (case hsx115 => assumption); (case hfx115 => decide +kernel); (case hdx115 => decide +kernel); (case hvx115 => decide +kernel); (case hbx115 => (with_reducible first | exact boot_len' | exact boot_min' | exact boot_max' | exact boot_sum' | exact boot_divmod' | exact boot_chr' | exact boot_sorted' | exact boot_isinstance' | exact boot_bytes' | exact boot_bytearray' | exact boot_list' | exact boot_str' | exact boot_memoryview')); (case hnx115 => decide +kernel); (case hex115 => with_unfolding_all rfl); (case hpx115 => with_unfolding_all rfl)) | ((with_reducible refine' WE_typ ?kx115 ?Gx115 ?hsx115 ?hfx115 ?hdx115 ?hvx115 ?hbx115 ?hnx115 ?_ ?hex115 ?hpx115); (case kx115 => assumption); (case Gx115 => assumption); (case hsx115 => assumption); (case hfx115 => decide +kernel); (case hdx115 => decide +kernel); (case hvx115 => decide +kernel); (case hbx115 => (with_reducible first | exact boot_len' | exact boot_min' | exact boot_max' | exact boot_sum' | exact boot_divmod' | exact boot_chr' | exact boot_sorted' | exact boot_isinstance' | exact boot_bytes' | exact boot_bytearray' | exact boot_list' | exact boot_str' | exact boot_memoryview')); (case hnx115 => decide +kernel); (case hex115 => with_unfolding_all rfl); (case hpx115 => with_unfolding_all rfl)))
    walk_at "stes"
    (first | ((with_reducible refine' WE_blt ?kx118 ?Gx118 ?hsx118 ?hfx118 ?hdx118 ?hvx118 ?hbx118 ?hnx118 ?_ ?hex118 ?hpx118); (case kx118 => assumption); (case Gx118 => assumption); (case hsx118 => assumption); (case hfx118 => decide +kernel); (case hdx118 => decide +kernel); (case hvx118 => decide +kernel); (case hbx118 => (with_reducible first | exact boot_len' | exact boot_min' | exact boot_max' | exact boot_sum' | exact boot_divmod' | exact boot_chr' | exact boot_sorted' | exact boot_isinstance' | exact boot_bytes' | exact boot_bytearray' | exact boot_list' | exact boot_str' | exact boot_memoryview')); (case hnx118 => decide +kernel); (case hex118 => with_unfolding_all rfl); (case hpx118 => with_unfolding_all rfl)) | ((with_reducible refine' WE_typ ?kx118 ?Gx118 ?hsx118 ?hfx118 ?hdx118 ?hvx118 ?hbx118 ?hnx118 ?_ ?hex118 ?hpx118); (case kx118 => assumption); (case Gx118 => assumption); (case hsx118 => assumption); (case hfx118 => decide +kernel); (case hdx118 => decide +kernel); (case hvx118 => decide +kernel); (case hbx118 => (with_reducible first | exact boot_len' | exact boot_min' | exact boot_max' | exact boot_sum' | exact boot_divmod' | exact boot_chr' | exact boot_sorted' | exact boot_isinstance' | exact boot_bytes' | exact boot_bytearray' | exact boot_list' | exact boot_str' | exact boot_memoryview')); (case hnx118 => decide +kernel); (case hex118 => with_unfolding_all rfl); (case hpx118 => with_unfolding_all rfl)))
    walk_at "stes"
    (first | ((with_reducible refine' WE_blt ?kx121 ?Gx121 ?hsx121 ?hfx121 ?hdx121 ?hvx121 ?hbx121 ?hnx121 ?_ ?hex121 ?hpx121); (case kx121 => assumption); (case Gx121 => assumption); (case hsx121 => assumption); (case hfx121 => decide +kernel); (case hdx121 => decide +kernel); (case hvx121 => decide +kernel); (case hbx121 => (with_reducible first | exact boot_len' | exact boot_min' | exact boot_max' | exact boot_sum' | exact boot_divmod' | exact boot_chr' | exact boot_sorted' | exact boot_isinstance' | exact boot_bytes' | exact boot_bytearray' | exact boot_list' | exact boot_str' | exact boot_memoryview')); (case hnx121 => decide +kernel); (case hex121 => with_unfolding_all rfl); (case hpx121 => with_unfolding_all rfl)) | ((with_reducible refine' WE_typ ?kx121 ?Gx121 ?hsx121 ?hfx121 ?hdx121 ?hvx121 ?hbx121 ?hnx121 ?_ ?hex121 ?hpx121); (case kx121 => assumption); (case Gx121 => assumption); (case hsx121 => assumption); (case hfx121 => decide +kernel); (case hdx121 => decide +kernel); (case hvx121 => decide +kernel); (case hbx121 => (with_reducible first | exact boot_len' | exact boot_min' | exact boot_max' | exact boot_sum' | exact boot_divmod' | exact boot_chr' | exact boot_sorted' | exact boot_isinstance' | exact boot_bytes' | exact boot_bytearray' | exact boot_list' | exact boot_str' | exact boot_memoryview')); (case hnx121 => decide +kernel); (case hex121 => with_unfolding_all rfl); (case hpx121 => with_unfolding_all rfl)))
    walk_at "stes"
    refine callB_lenList k (l := (wts b j).map .int) (by (first | (refine Has.own ?_; walk_at "mem"; done) | (refine Has.roAt (by assumption) ?_; walk_at "mem"; done))) (by simp [hlw]; (first | decide | lia | omega)) ?_
    rw [List.length_map, hlw]
    walk_at "stes"
    refine callB_max hh ?_
    walk_at "stes"
    refine callB_min hh ?_
    rw [edge_eq]
    refine storeK (by walk_at "upd") (seqK_next (WXs_cons ?_))
    walk_at "stes"
    rw [hwl]
    refine item_last (ns := wl) (by (first | (refine Has.own ?_; walk_at "mem"; done) | (refine Has.roAt (by assumption) ?_; walk_at "mem"; done))) (by (first | decide | lia | omega)) ?_
    walk_at "stes"
    have hcond : N < lst b j + Tv j b * wt b j ↔ quo b N j < Tv j b := by rw [Int.mul_comm]; exact quo_lt b N j _
    refine dsplit (fun h => ?_) (fun h => ?_)
    · have hnum : numL b 0 N = (List.range (j + 1)).map (figv b N j) := by
        have := numL_of b j N 0 (fun i hi => by simpa using hq i hi) (by simpa using hcond.mp h)
        simp only [Nat.zero_add, quo] at this
        rw [show ((0 : Nat) : Int) = 0 from rfl] at this
        rw [this]; rfl
      walk_at "sts"
      (((with_reducible refine' WX_expr ?kx126 ?_ ?hsx126); (case kx126 => assumption); (case hsx126 => with_unfolding_all rfl)))
      (((with_reducible refine' WE_meth "list.append" ?_ ?hbx127 ?hlx127 ?hfx127 ?hex127 ?hpx127); (case hbx127 => with_unfolding_all rfl); (case hlx127 => with_unfolding_all rfl); (case hfx127 => with_unfolding_all rfl); (case hex127 => with_unfolding_all rfl); (case hpx127 => with_unfolding_all rfl)))
      walk_at "stes"
      refine ⟨meth_list k (by (first | (refine Has.own ?_; walk_at "mem"; done) | (refine Has.roAt (by assumption) ?_; walk_at "mem"; done))) F.slot_list_append F.type_list_append, ?_⟩
      walk_at "stes"
      refine callB_append (by walk_at "upd") (by simp [edg]; (first | decide | lia | omega)) ⟨rfl, ?_⟩
      have ee : (edg b j).map PV.int ++ [PV.int 0] = (edg b j ++ [0]).map PV.int := by simp
      have hle : (edg b j ++ [0]).length = j + 1 := by simp [edg]
      rw [ee, ← hwl]
      walk_at "sts"
      refine WE_list (WL_nil ⟨(by first | decide | exact Nat.le_of_ble_eq_true rfl | exact List.forall_mem_nil _ | simp), newK fun fa => ?_⟩)
      refine storeK (by walk_at "upd") (seqK_next (WXs_cons ?_))
      refine WX_for (X := Unit) ?_ (by intro _; with_unfolding_all rfl)
      refine WI_range k G hs (by decide +kernel) hh ?_ (by with_unfolding_all rfl) (by with_unfolding_all rfl)
      walk_at "stes"
      (first | ((with_reducible refine' WE_blt ?kx129 ?Gx129 ?hsx129 ?hfx129 ?hdx129 ?hvx129 ?hbx129 ?hnx129 ?_ ?hex129 ?hpx129); (case kx129 => assumption); (case Gx129 => assumption); (case hsx129 => assumption); (case hfx129 => decide +kernel); (case hdx129 => decide +kernel); (case hvx129 => decide +kernel); (case hbx129 => (with_reducible first | exact boot_len' | exact boot_min' | exact boot_max' | exact boot_sum' | exact boot_divmod' | exact boot_chr' | exact boot_sorted' | exact boot_isinstance' | exact boot_bytes' | exact boot_bytearray' | exact boot_list' | exact boot_str' | exact boot_memoryview')); (case hnx129 => decide +kernel); (case hex129 => with_unfolding_all rfl); (case hpx129 => with_unfolding_all rfl)) | ((with_reducible refine' WE_typ ?kx129 ?Gx129 ?hsx129 ?hfx129 ?hdx129 ?hvx129 ?hbx129 ?hnx129 ?_ ?hex129 ?hpx129); (case kx129 => assumption); (case Gx129 => assumption); (case hsx129 => assumption); (case hfx129 => decide +kernel); (case hdx129 => decide +kernel); (case hvx129 => decide +kernel); (case hbx129 => (with_reducible first | exact boot_len' | exact boot_min' | exact boot_max' | exact boot_sum' | exact boot_divmod' | exact boot_chr' | exact boot_sorted' | exact boot_isinstance' | exact boot_bytes' | exact boot_bytearray' | exact boot_list' | exact boot_str' | exact boot_memoryview')); (case hnx129 => decide +kernel); (case hex129 => with_unfolding_all rfl); (case hpx129 => with_unfolding_all rfl)))
      walk_at "stes"
      refine callB_lenList k (l := (edg b j ++ [0]).map .int) (by (first | (refine Has.own ?_; walk_at "mem"; done) | (refine Has.roAt (by assumption) ?_; walk_at "mem"; done))) (by simp [edg]; (first | decide | lia | omega)) ?_
      rw [List.length_map, hle]
      walk_at "stes"
      refine ⟨j, -1, j + 1, ⟨⟨by (first | decide | lia | omega), by (first | decide | lia | omega)⟩, rfl, rfl, by (first | decide | lia | omega), rfl, by (first | decide | lia | omega)⟩, ?_⟩
      refine ⟨fun i _ => ⟨[("number", .int N), ("bias", .int b), ("worths", .ref wa), ("edges", .ref ea), ("least", .int (lst b j)), ("edge", .int (Tv j b)), ("rest", .int (rstv b N j i)), ("figures", .ref fa), ("place", .any)], [(fa, .list ((fgs b N j i).map .int)), (ea, .list ((edg b j ++ [0]).map .int)), (wa, .list ((wts b j).map .int))]⟩, fun _ _ => True, (), trivial, ⟨LocLe.rfl, List.Sublist.refl _⟩, fun _ _ _ _ => trivial, ?_, ?_⟩
      · intro i _ hi _
        dsimp only
        have epl : (j : Int) + (i : Int) * -1 = ((j - i : Nat) : Int) := by (first | decide | lia | omega)
        rw [epl]
        have hwp := wt_pos b (j - i)
        refine WA_name k (storeK (by walk_at "upd") (WXs_cons ?_))
        (((with_reducible refine' WX_expr ?kx133 ?_ ?hsx133); (case kx133 => assumption); (case hsx133 => with_unfolding_all rfl)))
        (((with_reducible refine' WE_meth "list.append" ?_ ?hbx134 ?hlx134 ?hfx134 ?hex134 ?hpx134); (case hbx134 => with_unfolding_all rfl); (case hlx134 => with_unfolding_all rfl); (case hfx134 => with_unfolding_all rfl); (case hex134 => with_unfolding_all rfl); (case hpx134 => with_unfolding_all rfl)))
        walk_at "stes"
        refine ⟨meth_list k (by (first | (refine Has.own ?_; walk_at "mem"; done) | (refine Has.roAt (by assumption) ?_; walk_at "mem"; done))) F.slot_list_append F.type_list_append, ?_⟩
        walk_at "stes"
        refine item_int (ns := edg b j ++ [0]) (by (first | (refine Has.own ?_; walk_at "mem"; done) | (refine Has.roAt (by assumption) ?_; walk_at "mem"; done))) (by (first | decide | lia | omega)) (by (first | decide | lia | omega)) (by (first | decide | lia | omega)) ?_
        walk_at "stes"
        refine item_int (ns := wts b j) (by (first | (refine Has.own ?_; walk_at "mem"; done) | (refine Has.roAt (by assumption) ?_; walk_at "mem"; done))) (by (first | decide | lia | omega)) (by (first | decide | lia | omega)) (by (first | decide | lia | omega)) ?_
        have ewt : (wts b j).getD (((j - i : Nat) : Int).toNat) 0 = wt b (j - i) := by
          simp [wts, show j - i < j + 1 by (first | decide | lia | omega)]
        rw [ewt]
        have hwlt := wt_lt (p := j - i) hj hN' (by (first | decide | lia | omega))
        walk_at "stes"
        simp only [Int.toNat_natCast]
        rw [fig_ok b N j i (by (first | decide | lia | omega))]
        walk_at "stes"
        refine callB_append (by walk_at "upd") (by simp [fgs]; (first | decide | lia | omega)) ⟨rfl, ?_⟩
        refine seqK_next (WXs_cons ?_)
        walk_at "stes"
        refine item_int (ns := wts b j) (by (first | (refine Has.own ?_; walk_at "mem"; done) | (refine Has.roAt (by assumption) ?_; walk_at "mem"; done))) (by (first | decide | lia | omega)) (by (first | decide | lia | omega)) (by (first | decide | lia | omega)) ?_
        rw [ewt]
        walk_at "stes"
        rw [rst_succ b N j i (by (first | decide | lia | omega))]
        repeat walk_at "flow"
        refine WXs_nil (loopK_next ⟨(), trivial, by (repeat (first | exact LocLe.nil | apply LocLe.same | apply LocLe.any)), ?_⟩)
        rw [fgs_succ]
        simp only [List.map_append, List.map_cons, List.map_nil]
        exact List.Sublist.refl _
      · intro _ _
        dsimp only
        refine seqK_next (WXs_cons (WX_ret ?_))
        refine WE_rev k ?_
        walk_at "stes"
        refine ⟨rfl, fa, (fgs b N j (j + 1)).map .int, rfl, by (first | (refine Has.own ?_; walk_at "mem"; done) | (refine Has.roAt (by assumption) ?_; walk_at "mem"; done)), by simp [fgs]; (first | decide | lia | omega), newK fun ra => ?_⟩
        repeat walk_at "flow"
        refine retK_ret [(ra, _)] (.cons_cons _ (List.nil_sublist _)) ⟨ra, rfl, ?_⟩
        rw [hnum, ← fgs_all, ← List.map_reverse]
    · refine WXs_nil (seqK_next (WXs_cons ?_))
      walk_at "stes"
      refine item_last (ns := wl) (by (first | (refine Has.own ?_; walk_at "mem"; done) | (refine Has.roAt (by assumption) ?_; walk_at "mem"; done))) (by (first | decide | lia | omega)) ?_
      walk_at "stes"
      refine seqK_next (WXs_cons ?_)
      (((with_reducible refine' WX_expr ?kx142 ?_ ?hsx142); (case kx142 => assumption); (case hsx142 => with_unfolding_all rfl)))
      (((with_reducible refine' WE_meth "list.append" ?_ ?hbx143 ?hlx143 ?hfx143 ?hex143 ?hpx143); (case hbx143 => with_unfolding_all rfl); (case hlx143 => with_unfolding_all rfl); (case hfx143 => with_unfolding_all rfl); (case hex143 => with_unfolding_all rfl); (case hpx143 => with_unfolding_all rfl)))
      walk_at "stes"
      refine ⟨meth_list k (by (first | (refine Has.own ?_; walk_at "mem"; done) | (refine Has.roAt (by assumption) ?_; walk_at "mem"; done))) F.slot_list_append F.type_list_append, ?_⟩
      walk_at "stes"
      refine callB_append (by walk_at "upd") (by simp [edg]; (first | decide | lia | omega)) ⟨rfl, ?_⟩
      refine seqK_next (WXs_cons ?_)
      (((with_reducible refine' WX_expr ?kx145 ?_ ?hsx145); (case kx145 => assumption); (case hsx145 => with_unfolding_all rfl)))
      (((with_reducible refine' WE_meth "list.append" ?_ ?hbx146 ?hlx146 ?hfx146 ?hex146 ?hpx146); (case hbx146 => with_unfolding_all rfl); (case hlx146 => with_unfolding_all rfl); (case hfx146 => with_unfolding_all rfl); (case hex146 => with_unfolding_all rfl); (case hpx146 => with_unfolding_all rfl)))
      walk_at "stes"
      refine ⟨meth_list k (by (first | (refine Has.own ?_; walk_at "mem"; done) | (refine Has.roAt (by assumption) ?_; walk_at "mem"; done))) F.slot_list_append F.type_list_append, ?_⟩
      walk_at "stes"
      refine item_last (ns := wl) (by (first | (refine Has.own ?_; walk_at "mem"; done) | (refine Has.roAt (by assumption) ?_; walk_at "mem"; done))) (by (first | decide | lia | omega)) ?_
      walk_at "stes"
      refine callB_append (by walk_at "upd") (by simp; (first | decide | lia | omega)) ⟨rfl, ?_⟩
      repeat walk_at "flow"
      have hq' : Tv j b ≤ quo b N j := by
        have := fun c => h (hcond.mpr c)
        (first | decide | lia | omega)
      have hpos : 0 < Tv j b * wt b j := Int.mul_pos (by (first | decide | lia | omega)) (by (first | decide | lia | omega))
      refine WXs_nil (loopK_next ⟨j + 1, by simp only [lst]; (first | decide | lia | omega), ⟨by simp only [lst]; (first | decide | lia | omega), fun i hi => ?_⟩, by (repeat (first | exact LocLe.nil | apply LocLe.same | apply LocLe.any)), ?_⟩)
      · rcases Nat.lt_or_ge i j with c | c
        · exact hq i c
        · have : i = j := by (first | decide | lia | omega)
          subst this; exact hq'
      · rw [edg_succ, wts_succ, hwl]
        simp only [List.map_append, List.map_cons, List.map_nil, wt]
        exact List.Sublist.refl _
end
end
section
open PySem PyProof.Rows PySem.Calls
noncomputable def octOf (letter v : Int) : Int := if v < 26 then letter + v else 22 + v
theorem adL_snd (d v : Int) (h : 0 ≤ d) : v ≤ (adL d v).2 ∧ (adL d v).2 ≤ v + d := by
  unfold adL
  split
  · have := adL_snd (d / 35) (v + 36) (by (first | decide | lia | omega))
    (first | decide | lia | omega)
  · constructor <;> simp only <;> (first | decide | lia | omega)
termination_by d.toNat
decreasing_by (first | decide | lia | omega)
theorem adS_bound {delta n : Int} {first : Bool} (hd : 0 ≤ delta) (hn : 0 < n) : 0 ≤ adS delta first n ∧ adS delta first n ≤ delta := by
  unfold adS
  have h : 0 ≤ (if first then delta / 700 else delta / 2) ∧ 2 * (if first then delta / 700 else delta / 2) ≤ delta := by
    split <;> (first | decide | lia | omega)
  generalize (if first then delta / 700 else delta / 2) = x at h
  have e0 : 0 ≤ x / n := Int.ediv_nonneg h.1 (by (first | decide | lia | omega))
  have e1 : x / n ≤ x := Int.ediv_le_self _ h.1
  (first | decide | lia | omega)
theorem adV_bound {delta n : Int} {first : Bool} (hd : 0 ≤ delta) (hn : 0 < n) : 0 ≤ adV delta first n ∧ adV delta first n ≤ delta + 36 := by
  have hs := adS_bound (first := first) hd hn
  have h1 := adL_snd (adS delta first n) 0 hs.1
  have h2 := adL_le (adS delta first n) 0 hs.1
  unfold adV
  generalize adL (adS delta first n) 0 = y at h1 h2
  have e0 : 0 ≤ 36 * y.1 / (y.1 + 38) := Int.ediv_nonneg (by (first | decide | lia | omega)) (by (first | decide | lia | omega))
  have e1 : 36 * y.1 / (y.1 + 38) ≤ 36 := by
    have : 36 * y.1 / (y.1 + 38) < 37 := by
      rw [Int.ediv_lt_iff_lt_mul (by (first | decide | lia | omega))]; (first | decide | lia | omega)
    (first | decide | lia | omega)
  (first | decide | lia | omega)
/-- the law's own form of the bias -/
theorem adV_power {delta n : Int} {first : Bool} {p : Nat} (hd : 0 ≤ delta) (hn : 0 < n) (h : adL (adS delta first n / 35 ^ p) (36 * p) = adL (adS delta first n) 0) (hp : ¬ adS delta first n / 35 ^ p > 455) :
    36 * (p : Int) + 36 + -1368 / (adS delta first n / 35 ^ p + 38) = adV delta first n := by
  have hs := adS_bound (first := first) hd hn
  unfold adV
  rw [← h]
  have e : adL (adS delta first n / 35 ^ p) (36 * p) = (adS delta first n / 35 ^ p, 36 * (p : Int)) := by
    unfold adL; rw [if_neg hp]
  rw [e]
  have h0 : 0 ≤ adS delta first n / 35 ^ p := Int.ediv_nonneg hs.1 (Int.le_of_lt (Int.pow_pos (by decide)))
  generalize adS delta first n / 35 ^ p = x at h0
  dsimp only
  have : 36 * x = -1368 + 36 * (x + 38) := by (first | decide | lia | omega)
  rw [this, Int.add_mul_ediv_right _ _ (by (first | decide | lia | omega))]
  (first | decide | lia | omega)
theorem adL_step (x : Int) (p : Nat) (h : x / 35 ^ p > 455) : adL (x / 35 ^ (p + 1)) (36 * ((p + 1 : Nat) : Int)) = adL (x / 35 ^ p) (36 * p) := by
  conv => rhs; unfold adL
  rw [if_pos h, Int.pow_succ, ediv2 _ _ _ (Int.pow_pos (by decide))]
  congr 1
theorem pow_room {p : Nat} (h : p ≤ 10) : 0 < (35 : Int) ^ p ∧ (35 : Int) ^ p < 2 ^ 62 := by
  have : (35 : Nat) ^ p ≤ 35 ^ 10 := Nat.pow_le_pow_right (by decide) h
  have h2 : (35 : Int) ^ p ≤ 35 ^ 10 := by exact_mod_cast this
  exact ⟨Int.pow_pos (by decide), by (first | decide | lia | omega)⟩
theorem biasL_bound (n : Int) (hn : 0 ≤ n) : ∀ (ds : List Int) (i : Nat) (b : Int), (∀ d ∈ ds, 0 ≤ d ∧ d < 2 ^ 39) → (0 ≤ b ∧ b < 2 ^ 40) → 0 ≤ biasL n i b ds ∧ biasL n i b ds < 2 ^ 40
  | [], _, _, _, hb => hb
  | d :: ds, i, b, h, hb => by
    have hd := h d (.head _)
    have := adV_bound (first := i == 0) (n := n + i + 1) hd.1 (by (first | decide | lia | omega))
    exact biasL_bound n hn ds (i + 1) _ (fun e m => h e (.tail _ m)) (by (first | decide | lia | omega))
section
variable {prog : Program} {w : World} {B : Heap} {mg mb : Str → Option Value}
set_option maxHeartbeats 8000000 in
theorem oct_fun (G : Gnd B mg mb) (R18 : FnRec B mg (fnd 18)) (R : FnRec B mg (fnd 19)) (a : Addr) (ds : List Int) (n letter : Int) (dn : PV) (hdn : dn = .int n ∨ dn = .int0 n) (hL : letter = 65 ∨ letter = 97)
    (hn : 0 ≤ n ∧ n < 1000) (hds : ∀ d ∈ ds, 0 ≤ d ∧ d < 2 ^ 39) (hl : ds.length < 1000) (hlen : (genL n 0 72 ds).length ≤ 1000) :
    Fun prog w B mg 2 "_law_octets" [.ref a, dn, .int letter] [(a, .list (ds.map .int))] [] (fun d post => d = .bytes (byteArr ((genL n 0 72 ds).map (octOf letter))) ∧ post = []) := by
  refine Fun_of_body (d := fnd 19) (n := 1) (own := []) (ro := [(a, .list (ds.map .int))]) G R ["gaps", "inside", "letter"] ["octets", "bias", "turn", "figure", "share", "power"]
    [("gaps", .ref a), ("inside", dn), ("letter", .int letter), ("octets", .any), ("bias", .any), ("turn", .any), ("figure", .any), ("share", .any), ("power", .any)] rfl ?_ ?_ rfl ?_ ((by first | decide | exact Nat.le_of_ble_eq_true rfl | exact List.forall_mem_nil _ | simp)) ((by first | decide | exact Nat.le_of_ble_eq_true rfl | exact List.forall_mem_nil _ | simp)) fun C k hs room hW hro => ?_
  · intro pm code doc vs h
    rcases vs with _ | ⟨a, _ | ⟨b, _ | ⟨c, _ | ⟨d, r⟩⟩⟩⟩ <;> simp at h
    rfl
  · decide +kernel
  · refine ⟨rfl, rfl, rfl, ?_⟩
    decide +kernel
  · have hh : C.A.handled = none := room.2.2.1
    refine WXs_cons ?_
    walk_at "stes"
    refine WE_list (WL_nil ⟨(by first | decide | exact Nat.le_of_ble_eq_true rfl | exact List.forall_mem_nil _ | simp), newK fun oa => ?_⟩)
    refine storeK (by walk_at "upd") (seqK_next (WXs_cons ?_))
    walk_at "stes"
    refine seqK_next (WXs_cons ?_)
    refine WX_for (X := Unit) ?_ (by intro _; with_unfolding_all rfl)
    refine WI_range k G hs (by decide +kernel) hh ?_ (by with_unfolding_all rfl) (by with_unfolding_all rfl)
    walk_at "stes"
    (first | ((with_reducible refine' WE_blt ?kx150 ?Gx150 ?hsx150 ?hfx150 ?hdx150 ?hvx150 ?hbx150 ?hnx150 ?_ ?hex150 ?hpx150); (case kx150 => assumption); (case Gx150 => assumption); (case hsx150 => assumption); (case hfx150 => decide +kernel); (case hdx150 => decide +kernel); (case hvx150 => decide +kernel); (case hbx150 => (with_reducible first | exact boot_len' | exact boot_min' | exact boot_max' | exact boot_sum' | exact boot_divmod' | exact boot_chr' | exact boot_sorted' | exact boot_isinstance' | exact boot_bytes' | exact boot_bytearray' | exact boot_list' | exact boot_str' | exact boot_memoryview')); (case hnx150 => decide +kernel); (case hex150 => with_unfolding_all rfl); (case hpx150 => with_unfolding_all rfl)) | ((with_reducible refine' WE_typ ?kx150 ?Gx150 ?hsx150 ?hfx150 ?hdx150 ?hvx150 ?hbx150 ?hnx150 ?_ ?hex150 ?hpx150); (case kx150 => assumption); (case Gx150 => assumption); (case hsx150 => assumption); (case hfx150 => decide +kernel); (case hdx150 => decide +kernel); (case hvx150 => decide +kernel); (case hbx150 => (with_reducible first | exact boot_len' | exact boot_min' | exact boot_max' | exact boot_sum' | exact boot_divmod' | exact boot_chr' | exact boot_sorted' | exact boot_isinstance' | exact boot_bytes' | exact boot_bytearray' | exact boot_list' | exact boot_str' | exact boot_memoryview')); (case hnx150 => decide +kernel); (case hex150 => with_unfolding_all rfl); (case hpx150 => with_unfolding_all rfl)))
    walk_at "stes"
    refine callB_lenList k (l := ds.map .int) (by (first | (refine Has.own ?_; walk_at "mem"; done) | (refine Has.roAt (by assumption) ?_; walk_at "mem"; done))) (by simp; (first | decide | lia | omega)) ?_
    rw [List.length_map]
    walk_at "stes"
    refine ⟨0, 1, ds.length, ⟨⟨by (first | decide | lia | omega), by (first | decide | lia | omega)⟩, rfl, rfl, by (first | decide | lia | omega)⟩, ?_⟩
    refine ⟨fun i _ => ⟨[("gaps", .ref a), ("inside", dn), ("letter", .int letter), ("octets", .ref oa), ("bias", .int (biasL n 0 72 (ds.take i))), ("turn", .any), ("figure", .any), ("share", .any), ("power", .any)], [(oa, .list (((genL n 0 72 (ds.take i)).map (octOf letter)).map .int))]⟩, fun _ _ => True, (), trivial, ⟨LocLe.rfl, List.Sublist.refl _⟩, fun _ _ _ _ => trivial, ?_, ?_⟩
    · intro i _ hi _
      dsimp only
      have epl : (0 : Int) + (i : Int) * 1 = (i : Int) := by (first | decide | lia | omega)
      rw [epl]
      have hmem : ds.getD i 0 ∈ ds := by
        have : ds.getD i 0 = ds[i] := by simp [hi]
        rw [this]; exact List.getElem_mem hi
      have hd0 := hds _ hmem
      have htake : ds.take (i + 1) = ds.take i ++ [ds.getD i 0] := by
        rw [List.take_add_one]; simp [hi]
      have hg := genL_snoc n 0 72 (ds.take i) (ds.getD i 0)
      rw [← htake] at hg
      have hb := biasL_snoc n 0 72 (ds.take i) (ds.getD i 0)
      rw [← htake] at hb
      have hlt : (ds.take i).length = i := by simp; (first | decide | lia | omega)
      rw [hlt] at hb
      obtain ⟨r, hr, _⟩ := genL_pre n (ds.take (i + 1)) (ds.drop (i + 1)) 0 72
      rw [List.take_append_drop] at hr
      have hgl : (genL n 0 72 (ds.take (i + 1))).length ≤ 1000 := by rw [hr, List.length_append] at hlen; (first | decide | lia | omega)
      rw [hg, List.length_append] at hgl
      have hbb := biasL_bound n hn.1 (ds.take i) 0 72 (fun d m => hds d (List.mem_of_mem_take m)) (by (first | decide | lia | omega))
      generalize hB : biasL n 0 72 (ds.take i) = b at hbb hg hgl ⊢
      generalize hD : ds.getD i 0 = dd at hd0 hg hb hgl ⊢
      generalize hG : genL n 0 72 (ds.take i) = gl at hg hgl ⊢
      have hget : ∀ {S : St} {kk : PV → Prop}, kk (.int dd) → ItemK C S kk (.ref a) (.int i) := by
        intro S kk h
        refine item_int (ns := ds) (by (first | (refine Has.own ?_; walk_at "mem"; done) | (refine Has.roAt (by assumption) ?_; walk_at "mem"; done))) (by (first | decide | lia | omega)) (by (first | decide | lia | omega)) (by (first | decide | lia | omega)) ?_
        rw [Int.toNat_natCast, hD]; exact h
      refine WA_name k (storeK (by walk_at "upd") (WXs_cons ?_))
      refine WX_for (X := Unit) ?_ (by intro _; with_unfolding_all rfl)
      refine WI_list k hh ?_
      (((with_reducible refine' WE_call0 ?kx155 ?Gx155 ?hsx155 ?hfx155 ?hdx155 ?_ ?hFx155 ?hex155); (case kx155 => assumption); (case Gx155 => assumption); (case hsx155 => assumption); (case hfx155 => decide +kernel); (case hdx155 => decide +kernel); (case hex155 => with_unfolding_all rfl)))
      case hFx155 => exact ⟨_, _, _, _, _, num_fun G R18 0 0 (by decide) (by decide) (by decide)⟩
      walk_at "stes"
      refine hget ?_
      walk_at "stes"
      refine ⟨1, [], _, num_fun G R18 dd b hd0.1 (by (first | decide | lia | omega)) (by (first | decide | lia | omega)), room, (by first | decide | exact Nat.le_of_ble_eq_true rfl | exact List.forall_mem_nil _ | simp), ?_⟩
      rintro d post ⟨fa, rfl, rfl⟩
      dsimp only [List.nil_append, List.cons_append]
      refine ⟨fa, (numL b 0 dd).map .int, rfl, by (first | (refine Has.own ?_; walk_at "mem"; done) | (refine Has.roAt (by assumption) ?_; walk_at "mem"; done)), ?_⟩
      refine ⟨fun j _ => ⟨[("gaps", .ref a), ("inside", dn), ("letter", .int letter), ("octets", .ref oa), ("bias", .int b), ("turn", .int i), ("figure", .any), ("share", .any), ("power", .any)], [(fa, .list ((numL b 0 dd).map .int)), (oa, .list (((gl ++ (numL b 0 dd).take j).map (octOf letter)).map .int))]⟩, fun _ _ => True, (), trivial, ⟨by (repeat (first | exact LocLe.nil | apply LocLe.same | apply LocLe.any)), ?_⟩, fun _ _ _ _ => by (first | (refine Has.own ?_; walk_at "mem"; done) | (refine Has.roAt (by assumption) ?_; walk_at "mem"; done)), ?_, ?_⟩
      · dsimp only
        simp only [List.take_zero, List.append_nil]
        exact List.Sublist.refl _
      · intro j _ hj _
        rw [List.length_map] at hj
        dsimp only
        have hit : ((numL b 0 dd).map PV.int).getD j .any = .int ((numL b 0 dd).getD j 0) := by simp [hj]
        rw [hit]
        have hfr := numL_range b 0 dd hd0.1 ((numL b 0 dd).getD j 0) (by
          have : (numL b 0 dd).getD j 0 = (numL b 0 dd)[j] := by simp [hj]
          rw [this]; exact List.getElem_mem hj)
        have htk : (numL b 0 dd).take (j + 1) = (numL b 0 dd).take j ++ [(numL b 0 dd).getD j 0] := by
          rw [List.take_add_one]; simp [hj]
        generalize (numL b 0 dd).getD j 0 = fv at hfr htk
        refine WA_name k (storeK (by walk_at "upd") (WXs_cons ?_))
        (((with_reducible refine' WX_expr ?kx159 ?_ ?hsx159); (case kx159 => assumption); (case hsx159 => with_unfolding_all rfl)))
        (((with_reducible refine' WE_meth "list.append" ?_ ?hbx160 ?hlx160 ?hfx160 ?hex160 ?hpx160); (case hbx160 => with_unfolding_all rfl); (case hlx160 => with_unfolding_all rfl); (case hfx160 => with_unfolding_all rfl); (case hex160 => with_unfolding_all rfl); (case hpx160 => with_unfolding_all rfl)))
        walk_at "stes"
        refine ⟨meth_list k (by (first | (refine Has.own ?_; walk_at "mem"; done) | (refine Has.roAt (by assumption) ?_; walk_at "mem"; done))) F.slot_list_append F.type_list_append, ?_⟩
        walk_at "stes"
        refine dsplit (fun h => ?_) (fun h => ?_)
        · walk_at "stes"
          rw [show letter + fv = octOf letter fv by unfold octOf; rw [if_pos h]]
          refine callB_append (by walk_at "upd") (by simp; (first | decide | lia | omega)) ⟨rfl, ?_⟩
          repeat walk_at "flow"
          refine WXs_nil (loopK_next ⟨(), trivial, by (repeat (first | exact LocLe.nil | apply LocLe.same | apply LocLe.any)), ?_⟩)
          dsimp only
          rw [htk]
          simp only [List.map_append, List.map_cons, List.map_nil, List.append_assoc]
          exact List.Sublist.refl _
        · walk_at "stes"
          rw [show 22 + fv = octOf letter fv by unfold octOf; rw [if_neg h]]
          refine callB_append (by walk_at "upd") (by simp; (first | decide | lia | omega)) ⟨rfl, ?_⟩
          repeat walk_at "flow"
          refine WXs_nil (loopK_next ⟨(), trivial, by (repeat (first | exact LocLe.nil | apply LocLe.same | apply LocLe.any)), ?_⟩)
          dsimp only
          rw [htk]
          simp only [List.map_append, List.map_cons, List.map_nil, List.append_assoc]
          exact List.Sublist.refl _
      · intro _ _
        rw [List.length_map]
        dsimp only
        rw [List.take_length, ← hg]
        have tail2 : ∀ (fst : Bool) (K : PFlow → St → Prop), (∀ pw : Int, K .next ⟨[("gaps", .ref a), ("inside", dn), ("letter", .int letter), ("octets", .ref oa), ("bias", .int (adV dd fst (n + i + 1))), ("turn", .int i), ("figure", .any), ("share", .int (adS dd fst (n + i + 1))), ("power", .int pw)], [(fa, .list ((numL b 0 dd).map .int)), (oa, .list (((genL n 0 72 (ds.take (i + 1))).map (octOf letter)).map .int))]⟩) →
            WXs prog w C (loopBody (fnd 19) 2 3) ⟨[("gaps", .ref a), ("inside", dn), ("letter", .int letter), ("octets", .ref oa), ("bias", .int b), ("turn", .int i), ("figure", .any), ("share", .int (adS dd fst (n + i + 1))), ("power", .any)], [(fa, .list ((numL b 0 dd).map .int)), (oa, .list (((genL n 0 72 (ds.take (i + 1))).map (octOf letter)).map .int))]⟩ K := by
          intro fst K hK
          have hsb := adS_bound (first := fst) (n := n + i + 1) hd0.1 (by (first | decide | lia | omega))
          have hpw : ∀ p : Nat, ¬ adS dd fst (n + i + 1) / 35 ^ p > 455 → adL (adS dd fst (n + i + 1) / 35 ^ p) (36 * p) = adL (adS dd fst (n + i + 1)) 0 → 36 * (p : Int) + 36 + -1368 / (adS dd fst (n + i + 1) / 35 ^ p + 38) = adV dd fst (n + i + 1) := fun p h1 h2 => adV_power hd0.1 (by (first | decide | lia | omega)) h2 h1
          generalize adS dd fst (n + i + 1) = sh at hsb hpw hK ⊢
          generalize adV dd fst (n + i + 1) = nb at hpw hK ⊢
          refine WXs_cons ?_
          walk_at "stes"
          refine seqK_next (WXs_cons ?_)
          refine WX_while (X := Nat) (fun p => ⟨[("gaps", .ref a), ("inside", dn), ("letter", .int letter), ("octets", .ref oa), ("bias", .int b), ("turn", .int i), ("figure", .any), ("share", .int sh), ("power", .int p)], [(fa, .list ((numL b 0 dd).map .int)), (oa, .list (((genL n 0 72 (ds.take (i + 1))).map (octOf letter)).map .int))]⟩)
            (fun p => p ≤ 10 ∧ adL (sh / 35 ^ p) (36 * p) = adL sh 0) (fun p => 10 - p) 0 ⟨by (first | decide | lia | omega), (by first | decide | exact Nat.le_of_ble_eq_true rfl | exact List.forall_mem_nil _ | simp)⟩ ⟨LocLe.rfl, List.Sublist.refl _⟩ ?_
          rintro p ⟨hp, he⟩
          have pr := pow_room hp
          have e0 : 0 ≤ sh / 35 ^ p := Int.ediv_nonneg hsb.1 (by (first | decide | lia | omega))
          have e1 : sh / 35 ^ p ≤ sh := Int.ediv_le_self _ hsb.1
          have et : (p : Int).toNat = p := Int.toNat_natCast p
          have pr' := pr
          rw [← et] at pr'
          walk_at "stes"
          rw [et]
          refine dsplit (fun h => ?_) (fun h => ?_)
          · have hp10 : p < 10 := by
              rcases Nat.lt_or_ge p 10 with c | c
              · exact c
              · have : p = 10 := by (first | decide | lia | omega)
                subst this
                have : sh / 35 ^ 10 < 1 := by
                  rw [Int.ediv_lt_iff_lt_mul (by decide)]; (first | decide | lia | omega)
                (first | decide | lia | omega)
            walk_at "sts"
            refine ⟨p + 1, by (first | decide | lia | omega), ⟨by (first | decide | lia | omega), (adL_step sh p h).trans he⟩, ?_, List.Sublist.refl _⟩
            rw [show ((p + 1 : Nat) : Int) = (p : Int) + 1 by (first | decide | lia | omega)]
            (repeat (first | exact LocLe.nil | apply LocLe.same | apply LocLe.any))
          · refine seqK_next (WXs_cons ?_)
            walk_at "stes"
            rw [et] at *
            walk_at "stes"
            rw [hpw p h he]
            walk_at "stes"
            exact WXs_nil (hK p)
        have shr : ∀ (fst : Bool) (q : Int) (K : PFlow → St → Prop), q = (if fst then dd / 700 else dd / 2) → (∀ pw : Int, K .next ⟨[("gaps", .ref a), ("inside", dn), ("letter", .int letter), ("octets", .ref oa), ("bias", .int (adV dd fst (n + i + 1))), ("turn", .int i), ("figure", .any), ("share", .int (adS dd fst (n + i + 1))), ("power", .int pw)], [(fa, .list ((numL b 0 dd).map .int)), (oa, .list (((genL n 0 72 (ds.take (i + 1))).map (octOf letter)).map .int))]⟩) →
            WXs prog w C (loopBody (fnd 19) 2 2) ⟨[("gaps", .ref a), ("inside", dn), ("letter", .int letter), ("octets", .ref oa), ("bias", .int b), ("turn", .int i), ("figure", .any), ("share", .int q), ("power", .any)], [(fa, .list ((numL b 0 dd).map .int)), (oa, .list (((genL n 0 72 (ds.take (i + 1))).map (octOf letter)).map .int))]⟩ K := by
          intro fst q K hq hK
          have hsh : q + q / (n + i + 1) = adS dd fst (n + i + 1) := by unfold adS; rw [hq]
          have t2 := tail2 fst K hK
          rcases hdn with rfl | rfl
          · refine WXs_cons ?_
            walk_at "stes"
            rw [hsh]
            walk_at "stes"
            exact seqK_next t2
          · refine WXs_cons ?_
            walk_at "stes"
            rw [hsh]
            walk_at "stes"
            exact seqK_next t2
        have eb : n + ((0 + i : Nat) : Int) + 1 = n + i + 1 := by (first | decide | lia | omega)
        rw [eb] at hb
        refine seqK_next (WXs_cons ?_)
        walk_at "stes"
        refine hget ?_
        walk_at "stes"
        refine dsplit (fun h => ?_) (fun h => ?_)
        · walk_at "stes"
          refine seqK_next (shr false (dd / 2) _ rfl fun pw => loopK_next ⟨(), trivial, ?_, List.sublist_cons_self _ _⟩)
          rw [hb, show (0 + i == 0) = false by simp; (first | decide | lia | omega)]
          (repeat (first | exact LocLe.nil | apply LocLe.same | apply LocLe.any))
        · walk_at "stes"
          refine seqK_next (shr true (dd / 700) _ rfl fun pw => loopK_next ⟨(), trivial, ?_, List.sublist_cons_self _ _⟩)
          rw [hb, show (0 + i == 0) = true by simp; (first | decide | lia | omega)]
          (repeat (first | exact LocLe.nil | apply LocLe.same | apply LocLe.any))
    · intro _ _
      dsimp only
      rw [List.take_length]
      walk_at "sts"
      (first | ((with_reducible refine' WE_blt ?kx167 ?Gx167 ?hsx167 ?hfx167 ?hdx167 ?hvx167 ?hbx167 ?hnx167 ?_ ?hex167 ?hpx167); (case kx167 => assumption); (case Gx167 => assumption); (case hsx167 => assumption); (case hfx167 => decide +kernel); (case hdx167 => decide +kernel); (case hvx167 => decide +kernel); (case hbx167 => (with_reducible first | exact boot_len' | exact boot_min' | exact boot_max' | exact boot_sum' | exact boot_divmod' | exact boot_chr' | exact boot_sorted' | exact boot_isinstance' | exact boot_bytes' | exact boot_bytearray' | exact boot_list' | exact boot_str' | exact boot_memoryview')); (case hnx167 => decide +kernel); (case hex167 => with_unfolding_all rfl); (case hpx167 => with_unfolding_all rfl)) | ((with_reducible refine' WE_typ ?kx167 ?Gx167 ?hsx167 ?hfx167 ?hdx167 ?hvx167 ?hbx167 ?hnx167 ?_ ?hex167 ?hpx167); (case kx167 => assumption); (case Gx167 => assumption); (case hsx167 => assumption); (case hfx167 => decide +kernel); (case hdx167 => decide +kernel); (case hvx167 => decide +kernel); (case hbx167 => (with_reducible first | exact boot_len' | exact boot_min' | exact boot_max' | exact boot_sum' | exact boot_divmod' | exact boot_chr' | exact boot_sorted' | exact boot_isinstance' | exact boot_bytes' | exact boot_bytearray' | exact boot_list' | exact boot_str' | exact boot_memoryview')); (case hnx167 => decide +kernel); (case hex167 => with_unfolding_all rfl); (case hpx167 => with_unfolding_all rfl)))
      walk_at "stes"
      refine callT_bytesInts k hh (by (first | (refine Has.own ?_; walk_at "mem"; done) | (refine Has.roAt (by assumption) ?_; walk_at "mem"; done))) (by simp; (first | decide | lia | omega)) ?_ ?_
      · intro v mv
        obtain ⟨u, mu, rfl⟩ := List.mem_map.mp mv
        have := genL_range n ds 0 72 (fun d m => (hds d m).1) u mu
        unfold octOf
        split <;> (first | decide | lia | omega)
      · repeat walk_at "flow"
        exact retK_ret [] (List.nil_sublist _) ⟨rfl, rfl⟩
end
end
section
/-! one text's pairs -/
abbrev P2 := Int × Int
noncomputable def tc (t : List Int) (p : Nat) : Int := t.getD p 0
noncomputable def cnt (t : List Int) (p : Nat) : Nat := ((t.take p).filter (fun c => decide (c ≤ tc t p))).length
noncomputable def pairAt (t : List Int) (p : Nat) : P2 := (tc t p, (cnt t p : Int))
noncomputable def pairs (t : List Int) : List P2 := ((List.range t.length).filter (fun p => decide (127 < tc t p))).map (pairAt t)
structure Srt (t : List Int) (qs : List P2) : Prop where
  perm : qs.Perm (pairs t)
  asc : qs.Pairwise (fun x y => plt x y = true)
theorem plt_def (a b : P2) : plt a b = true ↔ (a.1 < b.1 ∨ (a.1 = b.1 ∧ a.2 < b.2)) := by unfold plt; simp
theorem plt_irrefl (a : P2) : ¬ plt a a = true := by rw [plt_def]; (first | decide | lia | omega)
theorem plt_asymm {a b : P2} (h : plt a b = true) : ¬ plt b a = true := by rw [plt_def] at *; (first | decide | lia | omega)
theorem map_range_getD (t : List Int) (q : Nat) (h : q ≤ t.length) : t.take q = (List.range q).map (tc t) := by
  refine List.ext_getElem (by simp; (first | decide | lia | omega)) fun i h1 h2 => ?_
  simp at h1 h2 ⊢
  have : i < t.length := by (first | decide | lia | omega)
  simp [tc, this]
theorem cnt_eq (t : List Int) (q : Nat) (h : q ≤ t.length) : cnt t q = ((List.range q).filter (fun j => decide (tc t j ≤ tc t q))).length := by
  unfold cnt
  rw [map_range_getD t q h, List.filter_map, List.length_map]
  rfl
theorem cnt_lt {t : List Int} {j q : Nat} (hj : j < q) (hq : q ≤ t.length) (e : tc t j = tc t q) : cnt t j < cnt t q := by
  rw [cnt_eq t j (by (first | decide | lia | omega)), cnt_eq t q hq, ← e]
  obtain ⟨m, rfl⟩ : ∃ m, q = j + (1 + m) := ⟨q - j - 1, by (first | decide | lia | omega)⟩
  rw [List.range_add, List.filter_append, List.length_append]
  have : 0 < (((List.range (1 + m)).map (j + ·)).filter (fun i => decide (tc t i ≤ tc t j))).length := by
    refine List.length_pos_of_mem (a := j) ?_
    rw [List.mem_filter]
    exact ⟨List.mem_map.mpr ⟨0, by simp; (first | decide | lia | omega), (by first | decide | exact Nat.le_of_ble_eq_true rfl | exact List.forall_mem_nil _ | simp)⟩, (by first | decide | exact Nat.le_of_ble_eq_true rfl | exact List.forall_mem_nil _ | simp)⟩
  (first | decide | lia | omega)
theorem pairAt_lt {t : List Int} {j q : Nat} (hj : j < q) (hq : q ≤ t.length) (e : tc t j ≤ tc t q) : plt (pairAt t j) (pairAt t q) = true := by
  rw [plt_def]
  rcases Int.lt_or_eq_of_le e with h | h
  · exact .inl h
  · have := cnt_lt hj hq h
    exact .inr ⟨h, by unfold pairAt; simp only; (first | decide | lia | omega)⟩
theorem pairAt_inj {t : List Int} {j q : Nat} (hj : j < t.length) (hq : q < t.length) (e : pairAt t j = pairAt t q) : j = q := by
  have e1 : tc t j = tc t q := congrArg Prod.fst e
  have e2 : cnt t j = cnt t q := by have := congrArg Prod.snd e; simp only [pairAt] at this; (first | decide | lia | omega)
  rcases Nat.lt_trichotomy j q with h | h | h
  · have := cnt_lt h (by (first | decide | lia | omega)) e1; (first | decide | lia | omega)
  · exact h
  · have := cnt_lt h (by (first | decide | lia | omega)) e1.symm; (first | decide | lia | omega)
theorem mem_pairs {t : List Int} {x : P2} : x ∈ pairs t ↔ ∃ p, p < t.length ∧ 127 < tc t p ∧ pairAt t p = x := by
  unfold pairs
  simp only [List.mem_map, List.mem_filter, List.mem_range, decide_eq_true_eq]
  constructor
  · rintro ⟨p, ⟨h1, h2⟩, h3⟩; exact ⟨p, h1, h2, h3⟩
  · rintro ⟨p, h1, h2, h3⟩; exact ⟨p, ⟨h1, h2⟩, h3⟩
theorem nodup_map_on {α β : Type} {f : α → β} : ∀ {l : List α}, l.Nodup → (∀ a ∈ l, ∀ b ∈ l, f a = f b → a = b) → (l.map f).Nodup
  | [], _, _ => by simp
  | a :: l, nd, inj => by
    simp only [List.nodup_cons, List.map_cons] at nd ⊢
    refine ⟨fun m => ?_, nodup_map_on nd.2 fun x mx y my e => inj x (.tail _ mx) y (.tail _ my) e⟩
    obtain ⟨b, mb, e⟩ := List.mem_map.mp m
    have := inj b (.tail _ mb) a (.head _) e
    subst this; exact nd.1 mb
theorem pairs_nodup (t : List Int) : (pairs t).Nodup := by
  unfold pairs
  refine nodup_map_on (List.nodup_range.filter _) fun a ma b mb e => ?_
  rw [List.mem_filter, List.mem_range] at ma mb
  exact pairAt_inj ma.1 mb.1 e
theorem pairs_len_le (t : List Int) : (pairs t).length ≤ t.length := by
  unfold pairs
  rw [List.length_map]
  exact Nat.le_trans (List.length_filter_le _ _) ((by first | decide | exact Nat.le_of_ble_eq_true rfl | exact List.forall_mem_nil _ | simp))
/-- a strictly sorted list is told by its members -/
theorem sorted_unique {α : Type} {lt : α → α → Bool} (irr : ∀ a, ¬ lt a a = true) (asym : ∀ a b, lt a b = true → ¬ lt b a = true) :
    ∀ {l₁ l₂ : List α}, l₁.Perm l₂ → l₁.Pairwise (fun x y => lt x y = true) → l₂.Pairwise (fun x y => lt x y = true) → l₁ = l₂
  | [], l₂, p, _, _ => (List.perm_nil.mp p.symm).symm
  | a :: l₁, [], p, _, _ => absurd (List.perm_nil.mp p) ((by first | decide | exact Nat.le_of_ble_eq_true rfl | exact List.forall_mem_nil _ | simp))
  | a :: l₁, b :: l₂, p, s₁, s₂ => by
    rw [List.pairwise_cons] at s₁ s₂
    have hab : a = b := by
      have ma : a ∈ b :: l₂ := p.subset (.head _)
      have mb : b ∈ a :: l₁ := p.symm.subset (.head _)
      rcases List.mem_cons.mp ma with h | h
      · exact h
      · rcases List.mem_cons.mp mb with h' | h'
        · exact h'.symm
        · exact absurd (s₂.1 a h) (asym a b (s₁.1 b h'))
    subst hab
    rw [sorted_unique irr asym (List.perm_cons a |>.mp p) s₁.2 s₂.2]
theorem Srt.unique {t : List Int} {q₁ q₂ : List P2} (h₁ : Srt t q₁) (h₂ : Srt t q₂) : q₁ = q₂ :=
  sorted_unique plt_irrefl (fun a b h => plt_asymm h) (h₁.perm.trans h₂.perm.symm) h₁.asc h₂.asc
/-! the part of a text that stands already -/
noncomputable def stands (t : List Int) (pre : List P2) (j : Nat) : Bool := decide (tc t j < 128) || decide (pairAt t j ∈ pre)
noncomputable def part (t : List Int) (pre : List P2) : List Int := ((List.range t.length).filter (stands t pre)).map (tc t)
theorem part_nil (t : List Int) : part t [] = t.filter (fun c => decide (c < 128)) := by
  unfold part
  have h : t = (List.range t.length).map (tc t) := by
    have := map_range_getD t t.length (Nat.le_refl _)
    rwa [List.take_length] at this
  conv => rhs; rw [h]
  rw [List.filter_map]
  congr 1
  refine List.filter_congr fun j _ => ?_
  simp [stands]
theorem part_all {t : List Int} {qs : List P2} (s : Srt t qs) : part t qs = t := by
  unfold part
  have h : t = (List.range t.length).map (tc t) := by
    have := map_range_getD t t.length (Nat.le_refl _)
    rwa [List.take_length] at this
  conv => rhs; rw [h]
  congr 1
  rw [List.filter_eq_self]
  intro j mj
  rw [List.mem_range] at mj
  unfold stands
  by_cases c : tc t j < 128
  · simp [c]
  · have : pairAt t j ∈ qs := s.perm.symm.subset (mem_pairs.mpr ⟨j, mj, by (first | decide | lia | omega), rfl⟩)
    simp [this]
theorem part_step {t : List Int} {pre post : List P2} {x : P2} (s : Srt t (pre ++ x :: post)) :
    ∃ i : Nat, x.2 = i ∧ i ≤ (part t pre).length ∧ part t (pre ++ [x]) = (part t pre).take i ++ [x.1] ++ (part t pre).drop i := by
  have hx : x ∈ pairs t := s.perm.subset ((by first | decide | exact Nat.le_of_ble_eq_true rfl | exact List.forall_mem_nil _ | simp))
  obtain ⟨q, hq, hc, rfl⟩ := mem_pairs.mp hx
  have asc := s.asc
  rw [List.pairwise_append, List.pairwise_cons] at asc
  obtain ⟨_, ⟨hpost, _⟩, hpre⟩ := asc
  have pre_lt : ∀ y ∈ pre, plt y (pairAt t q) = true := fun y my => hpre y my _ (.head _)
  have nq : pairAt t q ∉ pre := fun m => plt_irrefl _ (pre_lt _ m)
  obtain ⟨m, hm⟩ : ∃ m, t.length = q + (1 + m) := ⟨t.length - q - 1, by (first | decide | lia | omega)⟩
  have hr : List.range t.length = List.range q ++ q :: (List.range m).map (fun i => q + (i + 1)) := by
    rw [hm, List.range_add, Nat.add_comm 1 m, List.range_succ_eq_map]
    simp [Function.comp_def]
  have same : ∀ j, j < t.length → j ≠ q → stands t (pre ++ [pairAt t q]) j = stands t pre j := by
    intro j hj hne
    have : pairAt t j ≠ pairAt t q := fun e => hne (pairAt_inj hj hq e)
    unfold stands
    simp [this]
  have f1 : (List.range q).filter (stands t (pre ++ [pairAt t q])) = (List.range q).filter (stands t pre) :=
    List.filter_congr fun j mj => by rw [List.mem_range] at mj; exact same j (by (first | decide | lia | omega)) (by (first | decide | lia | omega))
  have f2 : ((List.range m).map (fun i => q + (i + 1))).filter (stands t (pre ++ [pairAt t q])) = ((List.range m).map (fun i => q + (i + 1))).filter (stands t pre) :=
    List.filter_congr fun j mj => by
      obtain ⟨i, mi, rfl⟩ := List.mem_map.mp mj
      rw [List.mem_range] at mi
      exact same _ (by (first | decide | lia | omega)) (by (first | decide | lia | omega))
  have f3 : (List.range q).filter (stands t pre) = (List.range q).filter (fun j => decide (tc t j ≤ tc t q)) :=
    List.filter_congr fun j mj => by
      rw [List.mem_range] at mj
      unfold stands
      rw [Bool.eq_iff_iff]
      simp only [Bool.or_eq_true, decide_eq_true_eq]
      constructor
      · rintro (h | h)
        · (first | decide | lia | omega)
        · have := (plt_def _ _).mp (pre_lt _ h)
          simp only [pairAt] at this
          (first | decide | lia | omega)
      · intro h
        by_cases c : tc t j < 128
        · exact .inl c
        · refine .inr ?_
          have hlt := pairAt_lt mj (by (first | decide | lia | omega)) h
          have hmem : pairAt t j ∈ pre ++ pairAt t q :: post := s.perm.symm.subset (mem_pairs.mpr ⟨j, by (first | decide | lia | omega), by (first | decide | lia | omega), rfl⟩)
          rcases List.mem_append.mp hmem with h' | h'
          · exact h'
          · rcases List.mem_cons.mp h' with h' | h'
            · rw [h'] at hlt; exact absurd hlt (plt_irrefl _)
            · exact absurd (hpost _ h') (plt_asymm hlt)
  have sq : stands t (pre ++ [pairAt t q]) q = true := by unfold stands; simp
  have sq' : stands t pre q = false := by
    unfold stands
    simp [nq]; (first | decide | lia | omega)
  have p1 : part t pre = ((List.range q).filter (stands t pre)).map (tc t) ++ (((List.range m).map (fun i => q + (i + 1))).filter (stands t pre)).map (tc t) := by
    unfold part
    rw [hr, List.filter_append, List.filter_cons, sq', List.map_append]
    simp
  have p2 : part t (pre ++ [pairAt t q]) = ((List.range q).filter (stands t pre)).map (tc t) ++ tc t q :: (((List.range m).map (fun i => q + (i + 1))).filter (stands t pre)).map (tc t) := by
    unfold part
    rw [hr, List.filter_append, List.filter_cons, sq, f1, f2, List.map_append]
    simp
  have hi : (((List.range q).filter (stands t pre)).map (tc t)).length = cnt t q := by
    rw [List.length_map, f3, cnt_eq t q (by (first | decide | lia | omega))]
  refine ⟨cnt t q, rfl, ?_, ?_⟩
  · rw [p1, List.length_append, hi]; (first | decide | lia | omega)
  · rw [p2, p1, ← hi]
    simp [pairAt]
theorem part_len {t : List Int} {qs : List P2} (s : Srt t qs) : ∀ (k : Nat), k ≤ qs.length → (part t (qs.take k)).length = (part t []).length + k
  | 0, _ => by simp
  | k + 1, h => by
    have ih := part_len s k (by (first | decide | lia | omega))
    have e : qs = qs.take k ++ qs[k] :: qs.drop (k + 1) := by
      rw [← List.drop_eq_getElem_cons (by (first | decide | lia | omega) : k < qs.length), List.take_append_drop]
    obtain ⟨i, _, hi, e2⟩ := part_step (t := t) (pre := qs.take k) (x := qs[k]) (post := qs.drop (k + 1)) (e ▸ s)
    have e3 : qs.take (k + 1) = qs.take k ++ [qs[k]] := by rw [List.take_add_one]; simp [show k < qs.length by (first | decide | lia | omega)]
    rw [e3, e2]
    simp only [List.length_append, List.length_take, List.length_drop, List.length_cons, List.length_nil]
    (first | decide | lia | omega)
/-! the gaps -/
noncomputable def lastP (ls : P2) (l : List P2) : P2 := l.getLastD ls
noncomputable def gapOf (m : Int) (ls x : P2) : Int := (x.1 - ls.1) * (m + 1) + x.2 - ls.2 - 1
noncomputable def gapL (n : Int) : Nat → P2 → List P2 → List Int
  | _, _, [] => []
  | k, ls, x :: r => gapOf (n + k) ls x :: gapL n (k + 1) x r
theorem gapL_len (n : Int) : ∀ (k : Nat) (ls : P2) (l : List P2), (gapL n k ls l).length = l.length
  | _, _, [] => rfl
  | k, ls, x :: r => by simp [gapL, gapL_len n (k + 1) x r]
theorem gapL_snoc (n : Int) : ∀ (l : List P2) (k : Nat) (ls x : P2), gapL n k ls (l ++ [x]) = gapL n k ls l ++ [gapOf (n + (k + l.length : Nat)) (lastP ls l) x]
  | [], k, ls, x => by simp [gapL, lastP]
  | y :: l, k, ls, x => by
    simp only [List.cons_append, gapL, gapL_snoc n l (k + 1) y x, List.length_cons, lastP, List.getLastD_cons]
    rw [show k + 1 + l.length = k + (l.length + 1) by (first | decide | lia | omega)]
theorem gapL_take (n : Int) : ∀ (l : List P2) (k : Nat) (ls : P2) (i : Nat), (gapL n k ls l).take i = gapL n k ls (l.take i)
  | [], k, ls, i => by simp [gapL]
  | y :: l, k, ls, 0 => by simp [gapL]
  | y :: l, k, ls, i + 1 => by simp [gapL, gapL_take n l (k + 1) y i]
noncomputable def ls0 : P2 := (128, -1)
/-- what is read of a gap -/
theorem gap_read {m : Int} {ls x : P2} (h0 : 0 ≤ x.2) (h1 : x.2 ≤ m) : ls.1 + (ls.2 + (gapOf m ls x + 1)) / (m + 1) = x.1 ∧ (ls.2 + (gapOf m ls x + 1)) % (m + 1) = x.2 := by
  have e : ls.2 + (gapOf m ls x + 1) = x.2 + (x.1 - ls.1) * (m + 1) := by unfold gapOf; (first | decide | lia | omega)
  rw [e, Int.add_mul_ediv_right _ _ (by (first | decide | lia | omega)), Int.add_mul_emod_self_right, Int.ediv_eq_zero_of_lt h0 (by (first | decide | lia | omega)), Int.emod_eq_of_lt h0 (by (first | decide | lia | omega))]
  (first | decide | lia | omega)
/-- the text's bounds -/
noncomputable def TextOk (t : List Int) : Prop := (∀ c ∈ t, 0 ≤ c ∧ c ≤ 1114111) ∧ t.length ≤ 10
noncomputable def plainN (t : List Int) : Nat := (t.filter (fun c => decide (c < 128))).length
theorem srt_at {t : List Int} {qs : List P2} (s : Srt t qs) (k : Nat) (h : k < qs.length) : 0 ≤ (qs.getD k (0, 0)).2 ∧ (qs.getD k (0, 0)).2 ≤ plainN t + k := by
  have e : qs = qs.take k ++ qs[k] :: qs.drop (k + 1) := by
    rw [← List.drop_eq_getElem_cons h, List.take_append_drop]
  obtain ⟨i, hi, hl, _⟩ := part_step (t := t) (pre := qs.take k) (x := qs[k]) (post := qs.drop (k + 1)) (e ▸ s)
  rw [part_len s k (by (first | decide | lia | omega)), part_nil] at hl
  have : qs.getD k (0, 0) = qs[k] := by simp [h]
  rw [this, hi]
  unfold plainN
  (first | decide | lia | omega)
theorem srt_mem {t : List Int} (ok : TextOk t) {qs : List P2} (s : Srt t qs) {x : P2} (m : x ∈ qs) : 128 ≤ x.1 ∧ x.1 ≤ 1114111 := by
  obtain ⟨p, hp, hc, rfl⟩ := mem_pairs.mp (s.perm.subset m)
  have : tc t p ∈ t := by unfold tc; rw [show t.getD p 0 = t[p] by simp [hp]]; exact List.getElem_mem hp
  have := ok.1 _ this
  simp only [pairAt]
  (first | decide | lia | omega)
theorem lastP_mem (ls : P2) : ∀ (l : List P2), lastP ls l = ls ∨ lastP ls l ∈ l
  | [] => .inl rfl
  | x :: l => by
    right
    unfold lastP
    rw [List.getLastD_cons]
    rcases lastP_mem x l with h | h
    · unfold lastP at h; rw [h]; exact .head _
    · exact .tail _ h
theorem lastP_snoc (ls x : P2) (l : List P2) : lastP ls (l ++ [x]) = x := by unfold lastP; simp
theorem plain_len (t : List Int) : (t.length : Int) - ((pairs t).length : Nat) = plainN t := by
  unfold plainN pairs
  rw [List.length_map]
  have h : t = (List.range t.length).map (tc t) := by
    have := map_range_getD t t.length (Nat.le_refl _)
    rwa [List.take_length] at this
  have e1 : ((List.range t.length).filter (fun p => decide (127 < tc t p))).length = (t.filter (fun c => decide (127 < c))).length := by
    conv => rhs; rw [h]
    rw [List.filter_map, List.length_map]
    rfl
  rw [e1]
  clear h e1
  induction t with
  | nil => simp
  | cons c t ih =>
    simp only [List.filter_cons, List.length_cons]
    by_cases h : 127 < c
    · rw [if_pos (by simpa using h), if_neg (by simp; (first | decide | lia | omega))]
      simp only [List.length_cons]; (first | decide | lia | omega)
    · rw [if_neg (by simpa using h), if_pos (by simp; (first | decide | lia | omega))]
      simp only [List.length_cons]; (first | decide | lia | omega)
/-- each gap's bounds -/
theorem gap_bounds {t : List Int} (ok : TextOk t) {qs : List P2} (s : Srt t qs) : ∀ d ∈ gapL (plainN t) 0 ls0 qs, 0 ≤ d ∧ d < 2 ^ 30 := by
  intro d md
  obtain ⟨k, hk, rfl⟩ := List.mem_iff_getElem.mp md
  rw [gapL_len] at hk
  have e : qs.take (k + 1) = qs.take k ++ [qs.getD k (0, 0)] := by rw [List.take_add_one]; simp [hk]
  have hd : (gapL (plainN t) 0 ls0 qs)[k]'(by rw [gapL_len]; exact hk) = gapOf (plainN t + k) (lastP ls0 (qs.take k)) (qs.getD k (0, 0)) := by
    have h1 : (gapL (plainN t) 0 ls0 qs)[k]? = ((gapL (plainN t) 0 ls0 qs).take (k + 1))[k]? := by
      rw [List.getElem?_take, if_pos (by (first | decide | lia | omega))]
    rw [gapL_take, e, gapL_snoc] at h1
    have hl : (qs.take k).length = k := by simp; (first | decide | lia | omega)
    rw [List.getElem?_append_right (by rw [gapL_len, hl]; (first | decide | lia | omega)), gapL_len, hl] at h1
    simp only [Nat.sub_self, List.getElem?_cons_zero, Nat.zero_add] at h1
    rw [List.getElem?_eq_getElem (by rw [gapL_len]; exact hk)] at h1
    exact Option.some.inj h1
  rw [hd]
  have hx := srt_at s k hk
  have mx : qs.getD k (0, 0) ∈ qs := by rw [show qs.getD k (0, 0) = qs[k] by simp [hk]]; exact List.getElem_mem hk
  have hc := srt_mem ok s mx
  have hpl : plainN t ≤ 10 := Nat.le_trans (List.length_filter_le _ _) ok.2
  have hk10 : k < 10 := by
    have := s.perm.length_eq
    have := pairs_len_le t
    have := ok.2
    (first | decide | lia | omega)
  generalize hq : qs.getD k (0, 0) = x at hx hc mx
  have hls : lastP ls0 (qs.take k) = ls0 ∨ ((lastP ls0 (qs.take k) ∈ qs.take k) ∧ 0 < k) := by
    rcases lastP_mem ls0 (qs.take k) with h | h
    · exact .inl h
    · refine .inr ⟨h, ?_⟩
      cases k with
      | zero => simp at h
      | succ k => (first | decide | lia | omega)
  unfold gapOf
  rcases hls with h | ⟨h, hk0⟩
  · rw [h]
    simp only [ls0]
    have a0 : 0 ≤ (x.1 - 128) * ((plainN t : Int) + k + 1) := Int.mul_nonneg (by (first | decide | lia | omega)) (by (first | decide | lia | omega))
    have a1 : (x.1 - 128) * ((plainN t : Int) + k + 1) ≤ 1114111 * 21 := Int.mul_le_mul (by (first | decide | lia | omega)) (by (first | decide | lia | omega)) (by (first | decide | lia | omega)) (by (first | decide | lia | omega))
    (first | decide | lia | omega)
  · -- the last one taken
    have hlast : ∃ j, j < k ∧ lastP ls0 (qs.take k) = qs.getD j (0, 0) := by
      obtain ⟨j, hj, e⟩ := List.mem_iff_getElem.mp h
      simp at hj
      refine ⟨j, by (first | decide | lia | omega), ?_⟩
      rw [← e]
      simp [show j < qs.length by (first | decide | lia | omega)]
    obtain ⟨j, hj, e⟩ := hlast
    have hy := srt_at s j (by (first | decide | lia | omega))
    have my : qs.getD j (0, 0) ∈ qs := by rw [show qs.getD j (0, 0) = qs[j] by simp [show j < qs.length by (first | decide | lia | omega)]]; exact List.getElem_mem _
    have hcy := srt_mem ok s my
    have hlt : plt (qs.getD j (0, 0)) x = true := by
      have := List.pairwise_iff_getElem.mp s.asc j k (by (first | decide | lia | omega)) hk hj
      rw [← hq]
      simpa [show j < qs.length by (first | decide | lia | omega), hk] using this
    rw [e]
    generalize qs.getD j (0, 0) = y at hy hcy hlt
    rw [plt_def] at hlt
    have a1 : (x.1 - y.1) * ((plainN t : Int) + k + 1) ≤ 1114111 * 21 := Int.mul_le_mul (by (first | decide | lia | omega)) (by (first | decide | lia | omega)) (by (first | decide | lia | omega)) (by (first | decide | lia | omega))
    rcases hlt with h | ⟨h, h'⟩
    · have a0 : 1 * ((plainN t : Int) + k + 1) ≤ (x.1 - y.1) * ((plainN t : Int) + k + 1) := Int.mul_le_mul_of_nonneg_right (by (first | decide | lia | omega)) (by (first | decide | lia | omega))
      (first | decide | lia | omega)
    · have : x.1 - y.1 = 0 := by (first | decide | lia | omega)
      rw [this]
      (first | decide | lia | omega)
/-- the insertions give the text back -/
theorem insT_pre {t : List Int} {qs : List P2} (s : Srt t qs) : ∀ (k : Nat), k ≤ qs.length → insT ((t.filter (fun c => decide (c < 128))).map Int.toNat) (gapL (plainN t) 0 ls0 (qs.take k)) = ((lastP ls0 (qs.take k)).1, (lastP ls0 (qs.take k)).2, (part t (qs.take k)).map Int.toNat)
  | 0, _ => by simp [gapL, insT, lastP, ls0, part_nil]
  | k + 1, h => by
    have ih := insT_pre s k (by (first | decide | lia | omega))
    have hk : k < qs.length := by (first | decide | lia | omega)
    have e : qs.take (k + 1) = qs.take k ++ [qs.getD k (0, 0)] := by rw [List.take_add_one]; simp [hk]
    have e' : qs = qs.take k ++ qs.getD k (0, 0) :: qs.drop (k + 1) := by
      rw [show qs.getD k (0, 0) = qs[k] by simp [hk], ← List.drop_eq_getElem_cons hk, List.take_append_drop]
    obtain ⟨i, hi, hl, hp⟩ := part_step (t := t) (pre := qs.take k) (x := qs.getD k (0, 0)) (post := qs.drop (k + 1)) (e' ▸ s)
    have hlen := part_len s k (by (first | decide | lia | omega))
    have hx := srt_at s k hk
    rw [e, gapL_snoc, insT_snoc, ih, lastP_snoc, hp]
    have hl' : (qs.take k).length = k := by simp; (first | decide | lia | omega)
    rw [hl', Nat.zero_add]
    generalize qs.getD k (0, 0) = x at hi hx
    have rd := gap_read (ls := lastP ls0 (qs.take k)) hx.1 hx.2
    unfold ins1
    simp only [List.length_map]
    have hm : ((part t (qs.take k)).length : Int) = plainN t + k := by rw [hlen, part_nil]; unfold plainN; (first | decide | lia | omega)
    rw [hm, rd.1, rd.2]
    rw [hi, Int.toNat_natCast]
    simp only [List.map_append, List.map_take, List.map_drop, List.map_cons, List.map_nil]
theorem insT_all {t : List Int} {qs : List P2} (s : Srt t qs) : (insT ((t.filter (fun c => decide (c < 128))).map Int.toNat) (gapL (plainN t) 0 ls0 qs)).2.2 = t.map Int.toNat := by
  have := insT_pre s qs.length (Nat.le_refl _)
  rw [List.take_length] at this
  rw [this, part_all s]
theorem insT_code {t : List Int} (ok : TextOk t) {qs : List P2} (s : Srt t qs) : ∀ i, i ≤ (gapL (plainN t) 0 ls0 qs).length → (insT ((t.filter (fun c => decide (c < 128))).map Int.toNat) ((gapL (plainN t) 0 ls0 qs).take i)).1 ≤ 1114111 := by
  intro i hi
  rw [gapL_len] at hi
  rw [gapL_take, insT_pre s i hi]
  rcases lastP_mem ls0 (qs.take i) with h | h
  · rw [h]; show (128 : Int) ≤ _; decide
  · exact (srt_mem ok s (List.mem_of_mem_take h)).2
/-! how many figures -/
theorem numL_len (b : Int) : ∀ (k : Nat) (j N : Int), 0 ≤ N → N < 2 ^ k → (numL b j N).length ≤ k + 1
  | 0, j, N, h0, h => by
    have := Tv_pos j b
    unfold numL
    rw [if_pos (by simp at h; (first | decide | lia | omega))]; simp
  | k + 1, j, N, h0, h => by
    have ht := Tv_pos j b
    unfold numL
    split
    · simp
    · have e0 : 0 ≤ (N - Tv j b) / (36 - Tv j b) := Int.ediv_nonneg (by (first | decide | lia | omega)) (by (first | decide | lia | omega))
      have e1 : (N - Tv j b) / (36 - Tv j b) < 2 ^ k := by
        rw [Int.ediv_lt_iff_lt_mul (by (first | decide | lia | omega))]
        have p : (0 : Int) < 2 ^ k := Int.pow_pos (by decide)
        have : 2 ^ k * 2 ≤ 2 ^ k * (36 - Tv j b) := Int.mul_le_mul_of_nonneg_left (by (first | decide | lia | omega)) (by (first | decide | lia | omega))
        rw [Int.pow_succ] at h
        (first | decide | lia | omega)
      have := numL_len b k (j + 1) _ e0 e1
      simp only [List.length_cons]; (first | decide | lia | omega)
theorem genL_len (n : Int) : ∀ (ds : List Int) (i : Nat) (b : Int), (∀ d ∈ ds, 0 ≤ d ∧ d < 2 ^ 30) → (genL n i b ds).length ≤ 31 * ds.length
  | [], _, _, _ => by simp [genL]
  | d :: ds, i, b, h => by
    have hd := h d (.head _)
    have h1 := numL_len b 30 0 d hd.1 hd.2
    have h2 := genL_len n ds (i + 1) (adV d (i == 0) (n + i + 1)) (fun e m => h e (.tail _ m))
    simp only [genL, List.length_append, List.length_cons]
    (first | decide | lia | omega)
end
section
/-! triples -/
theorem tlt_def (a b : T3) : tlt a b = true ↔ (a.1 < b.1 ∨ (a.1 = b.1 ∧ (a.2.1 < b.2.1 ∨ (a.2.1 = b.2.1 ∧ a.2.2 < b.2.2)))) := by unfold tlt; simp
theorem tlt_f (a b : T3) : tlt a b = false ↔ ¬ (a.1 < b.1 ∨ (a.1 = b.1 ∧ (a.2.1 < b.2.1 ∨ (a.2.1 = b.2.1 ∧ a.2.2 < b.2.2)))) := by rw [← tlt_def]; simp
theorem tlt_irrefl (a : T3) : ¬ tlt a a = true := by rw [tlt_def]; (first | decide | lia | omega)
theorem tlt_asymm {a b : T3} (h : tlt a b = true) : ¬ tlt b a = true := by rw [tlt_def] at *; (first | decide | lia | omega)
theorem tlt_trans {a b c : T3} (h : tlt a b = true) (h' : tlt b c = true) : tlt a c = true := by rw [tlt_def] at *; (first | decide | lia | omega)
theorem tlt_conn {a b : T3} (h : tlt a b = false) (h' : tlt b a = false) : a = b := by
  rw [tlt_f] at *
  obtain ⟨a1, a2, a3⟩ := a
  obtain ⟨b1, b2, b3⟩ := b
  simp only at h h'
  have : a1 = b1 ∧ a2 = b2 ∧ a3 = b3 := by (first | decide | lia | omega)
  obtain ⟨rfl, rfl, rfl⟩ := this
  rfl
/-! heaps of at most three -/
noncomputable def MinAt (l : List T3) : Prop := ∀ y ∈ l, tlt y (g3 l 0) = false
theorem sdn_0 (l : List T3) (x : T3) : sdn l x 0 = l.set 0 x := by unfold sdn; rw [if_neg (by (first | decide | lia | omega))]
theorem sdn_1 (l : List T3) (x : T3) : sdn l x 1 = if tlt x (g3 l 0) = true then (l.set 1 (g3 l 0)).set 0 x else l.set 1 x := by
  unfold sdn
  rw [if_pos (by (first | decide | lia | omega))]
  show (if tlt x (g3 l 0) = true then sdn (l.set 1 (g3 l 0)) x 0 else l.set 1 x) = _
  rw [sdn_0]
theorem sdn_2 (l : List T3) (x : T3) : sdn l x 2 = if tlt x (g3 l 0) = true then (l.set 2 (g3 l 0)).set 0 x else l.set 2 x := by
  unfold sdn
  rw [if_pos (by (first | decide | lia | omega))]
  show (if tlt x (g3 l 0) = true then sdn (l.set 2 (g3 l 0)) x 0 else l.set 2 x) = _
  rw [sdn_0]
theorem tlt_sw {a b : T3} (h : ¬ tlt a b = true) : tlt a b = false := by simpa using h
theorem tlt_ir (a : T3) : tlt a a = false := tlt_sw (tlt_irrefl a)
theorem tlt_as {a b : T3} (h : tlt a b = true) : tlt b a = false := tlt_sw (tlt_asymm h)
theorem tlt_lele {a b c : T3} (h : tlt b a = false) (h' : tlt c b = false) : tlt c a = false := by rw [tlt_f] at *; (first | decide | lia | omega)
theorem sup_1 (x : T3) : sup [x] = [x] := by
  have e : supL [x] 0 = ([x], 0) := by unfold supL; rw [if_neg ((by first | decide | exact Nat.le_of_ble_eq_true rfl | exact List.forall_mem_nil _ | simp))]
  unfold sup
  rw [e]
  simp only
  rw [sdn_0]
  simp [g3]
theorem sup_2 (x a : T3) : sup [x, a] = if tlt x a = true then [x, a] else [a, x] := by
  have e : supL [x, a] 0 = ([a, a], 1) := by
    unfold supL; rw [if_pos ((by first | decide | exact Nat.le_of_ble_eq_true rfl | exact List.forall_mem_nil _ | simp))]
    have : chd [x, a] (2 * 0 + 1) = 1 := by unfold chd; rw [if_neg ((by first | decide | exact Nat.le_of_ble_eq_true rfl | exact List.forall_mem_nil _ | simp))]
    rw [this]
    unfold supL; rw [if_neg ((by first | decide | exact Nat.le_of_ble_eq_true rfl | exact List.forall_mem_nil _ | simp))]
    simp [g3]
  unfold sup
  rw [e]
  simp only
  rw [sdn_1]
  simp [g3]
theorem sup_3 (x a b : T3) : sup [x, a, b] = if tlt a b = true then (if tlt x a = true then [x, a, b] else [a, x, b]) else (if tlt x b = true then [x, a, b] else [b, a, x]) := by
  by_cases c : tlt a b = true
  · rw [if_pos c]
    have e : supL [x, a, b] 0 = ([a, a, b], 1) := by
      unfold supL; rw [if_pos ((by first | decide | exact Nat.le_of_ble_eq_true rfl | exact List.forall_mem_nil _ | simp))]
      have : chd [x, a, b] (2 * 0 + 1) = 1 := by
        unfold chd
        rw [if_neg (by simp [g3, c])]
      rw [this]
      unfold supL; rw [if_neg ((by first | decide | exact Nat.le_of_ble_eq_true rfl | exact List.forall_mem_nil _ | simp))]
      simp [g3]
    unfold sup
    rw [e]
    simp only
    rw [sdn_1]
    simp [g3]
  · rw [if_neg c]
    have e : supL [x, a, b] 0 = ([b, a, b], 2) := by
      unfold supL; rw [if_pos ((by first | decide | exact Nat.le_of_ble_eq_true rfl | exact List.forall_mem_nil _ | simp))]
      have : chd [x, a, b] (2 * 0 + 1) = 2 := by
        unfold chd
        rw [if_pos ⟨(by first | decide | exact Nat.le_of_ble_eq_true rfl | exact List.forall_mem_nil _ | simp), by simpa [g3] using c⟩]
      rw [this]
      unfold supL; rw [if_neg ((by first | decide | exact Nat.le_of_ble_eq_true rfl | exact List.forall_mem_nil _ | simp))]
      simp [g3]
    unfold sup
    rw [e]
    simp only
    rw [sdn_2]
    simp [g3]
theorem sup_ok {ts : List T3} (hl : ts.length ≤ 3) (hne : ts ≠ []) : (sup ts).Perm ts ∧ MinAt (sup ts) := by
  match ts, hl, hne with
  | [x], _, _ =>
    rw [sup_1]
    refine ⟨.refl _, fun y m => ?_⟩
    rw [List.mem_singleton] at m; subst m; exact tlt_ir _
  | [x, a], _, _ =>
    rw [sup_2]
    split
    · rename_i h
      refine ⟨.refl _, fun y m => ?_⟩
      simp only [List.mem_cons, List.not_mem_nil, or_false] at m
      rcases m with rfl | rfl
      · exact tlt_ir _
      · exact tlt_as h
    · rename_i h
      refine ⟨.swap _ _ _, fun y m => ?_⟩
      simp only [List.mem_cons, List.not_mem_nil, or_false] at m
      rcases m with rfl | rfl
      · exact tlt_ir _
      · exact tlt_sw h
  | [x, a, b], _, _ =>
    rw [sup_3]
    split
    · rename_i c
      split
      · rename_i h
        refine ⟨.refl _, fun y m => ?_⟩
        simp only [List.mem_cons, List.not_mem_nil, or_false] at m
        rcases m with rfl | rfl | rfl
        · exact tlt_ir _
        · exact tlt_as h
        · exact tlt_as (tlt_trans h c)
      · rename_i h
        refine ⟨.swap _ _ _, fun y m => ?_⟩
        simp only [List.mem_cons, List.not_mem_nil, or_false] at m
        rcases m with rfl | rfl | rfl
        · exact tlt_ir _
        · exact tlt_sw h
        · exact tlt_as c
    · rename_i c
      split
      · rename_i h
        refine ⟨.refl _, fun y m => ?_⟩
        simp only [List.mem_cons, List.not_mem_nil, or_false] at m
        rcases m with rfl | rfl | rfl
        · exact tlt_ir _
        · exact tlt_lele (tlt_as h) (tlt_sw c)
        · exact tlt_as h
      · rename_i h
        refine ⟨?_, fun y m => ?_⟩
        · have : [b, a, x].Perm [x, a, b] := by
            have := List.reverse_perm [x, a, b]
            simpa using this
          exact this
        · simp only [List.mem_cons, List.not_mem_nil, or_false] at m
          rcases m with rfl | rfl | rfl
          · exact tlt_ir _
          · exact tlt_sw c
          · exact tlt_sw h
  | _ :: _ :: _ :: _ :: _, hl, _ => simp at hl
theorem push_ok {ts : List T3} {x : T3} (hl : ts.length ≤ 2) (hm : MinAt ts) : (sdn (ts ++ [x]) x ts.length).Perm (x :: ts) ∧ MinAt (sdn (ts ++ [x]) x ts.length) := by
  match ts, hl, hm with
  | [], _, _ =>
    show (sdn [x] x 0).Perm _ ∧ _
    rw [show ([] : List T3).length = 0 from rfl, show ([] : List T3) ++ [x] = [x] from rfl, sdn_0]
    refine ⟨.refl _, fun y m => ?_⟩
    have : y = x := by simpa using m
    subst this; exact tlt_ir _
  | [a], _, _ =>
    rw [show [a].length = 1 from rfl, show [a] ++ [x] = [a, x] from rfl, sdn_1]
    show ((if tlt x a = true then [x, a] else [a, x]) : List T3).Perm _ ∧ MinAt (if tlt x a = true then [x, a] else [a, x])
    split
    · rename_i h
      refine ⟨.refl _, fun y m => ?_⟩
      simp only [List.mem_cons, List.not_mem_nil, or_false] at m
      rcases m with rfl | rfl
      · exact tlt_ir _
      · exact tlt_as h
    · rename_i h
      refine ⟨.swap _ _ _, fun y m => ?_⟩
      simp only [List.mem_cons, List.not_mem_nil, or_false] at m
      rcases m with rfl | rfl
      · exact tlt_ir _
      · exact tlt_sw h
  | [a, b], _, hm =>
    have hb : tlt b a = false := hm b ((by first | decide | exact Nat.le_of_ble_eq_true rfl | exact List.forall_mem_nil _ | simp))
    rw [show [a, b].length = 2 from rfl, show [a, b] ++ [x] = [a, b, x] from rfl, sdn_2]
    show ((if tlt x a = true then [x, b, a] else [a, b, x]) : List T3).Perm _ ∧ MinAt (if tlt x a = true then [x, b, a] else [a, b, x])
    split
    · rename_i h
      refine ⟨.cons _ (.swap _ _ _), fun y m => ?_⟩
      simp only [List.mem_cons, List.not_mem_nil, or_false] at m
      rcases m with rfl | rfl | rfl
      · exact tlt_ir _
      · exact tlt_lele (tlt_as h) hb
      · exact tlt_as h
    · rename_i h
      refine ⟨?_, fun y m => ?_⟩
      · exact (List.perm_append_singleton x [a, b])
      · simp only [List.mem_cons, List.not_mem_nil, or_false] at m
        rcases m with rfl | rfl | rfl
        · exact tlt_ir _
        · exact hb
        · exact tlt_sw h
  | _ :: _ :: _ :: _, hl, _ => simp at hl
/-- heappop's heap -/
theorem pop_ok {us : List T3} {x : T3} (hl : us.length ≤ 3) : (if us = [] then [] else sup (us.set 0 x)).Perm (us ++ [x]).tail ∧ MinAt (if us = [] then [] else sup (us.set 0 x)) := by
  cases us with
  | nil => exact ⟨.refl _, fun y m => by simp at m⟩
  | cons a us =>
    rw [if_neg ((by first | decide | exact Nat.le_of_ble_eq_true rfl | exact List.forall_mem_nil _ | simp))]
    have := sup_ok (ts := (a :: us).set 0 x) (by simpa using hl) ((by first | decide | exact Nat.le_of_ble_eq_true rfl | exact List.forall_mem_nil _ | simp))
    refine ⟨this.1.trans ?_, this.2⟩
    show (x :: us).Perm (us ++ [x])
    exact (List.perm_append_singleton x us).symm
theorem repl_ok {l : List T3} {x : T3} (hl : l.length ≤ 3) (hne : l ≠ []) : (sup (l.set 0 x)).Perm (x :: l.tail) ∧ MinAt (sup (l.set 0 x)) := by
  cases l with
  | nil => exact absurd rfl hne
  | cons a us =>
    have := sup_ok (ts := (a :: us).set 0 x) (by simpa using hl) ((by first | decide | exact Nat.le_of_ble_eq_true rfl | exact List.forall_mem_nil _ | simp))
    exact ⟨this.1, this.2⟩
/-! three at once -/
noncomputable def cat3 {α : Type} (f : Nat → List α) : List α := f 0 ++ (f 1 ++ f 2)
theorem mem_cat3 {α : Type} {f : Nat → List α} {x : α} : x ∈ cat3 f ↔ ∃ h, h < 3 ∧ x ∈ f h := by
  unfold cat3
  simp only [List.mem_append]
  constructor
  · rintro (h | h | h)
    · exact ⟨0, by (first | decide | lia | omega), h⟩
    · exact ⟨1, by (first | decide | lia | omega), h⟩
    · exact ⟨2, by (first | decide | lia | omega), h⟩
  · rintro ⟨h, hh, m⟩
    have : h = 0 ∨ h = 1 ∨ h = 2 := by (first | decide | lia | omega)
    rcases this with rfl | rfl | rfl
    · exact .inl m
    · exact .inr (.inl m)
    · exact .inr (.inr m)
theorem cat3_upd {α : Type} {f f' : Nat → List α} {h : Nat} (hh : h < 3) (e : ∀ j, j ≠ h → f' j = f j) : ∃ A B, cat3 f = A ++ (f h ++ B) ∧ cat3 f' = A ++ (f' h ++ B) := by
  have : h = 0 ∨ h = 1 ∨ h = 2 := by (first | decide | lia | omega)
  unfold cat3
  rcases this with rfl | rfl | rfl
  · exact ⟨[], f 1 ++ f 2, rfl, by rw [e 1 (by decide), e 2 (by decide)]; rfl⟩
  · exact ⟨f 0, f 2, rfl, by rw [e 0 (by decide), e 2 (by decide)]⟩
  · exact ⟨f 0 ++ f 1, [], (by first | decide | exact Nat.le_of_ble_eq_true rfl | exact List.forall_mem_nil _ | simp), by rw [e 0 (by decide), e 1 (by decide)]; simp⟩
noncomputable def ups (g : Nat → Nat) (h : Nat) : Nat → Nat := fun j => if j = h then g h + 1 else g j
noncomputable def tau (h : Nat) (x : P2) : T3 := (x.1, (h : Int), x.2)
noncomputable def takenH (qs : Nat → List P2) (g : Nat → Nat) (h : Nat) : List T3 := ((qs h).take (g h)).map (tau h)
noncomputable def headH (qs : Nat → List P2) (g : Nat → Nat) (h : Nat) : List T3 := (((qs h).drop (g h)).take 1).map (tau h)
theorem tau_lt {h : Nat} {x y : P2} : tlt (tau h x) (tau h y) = true ↔ plt x y = true := by
  rw [tlt_def, plt_def]; simp [tau]
structure MInv (qs : Nat → List P2) (done hp : List T3) (g : Nat → Nat) : Prop where
  gle : ∀ h, h < 3 → g h ≤ (qs h).length
  dperm : done.Perm (cat3 (takenH qs g))
  dasc : done.Pairwise (fun x y => tlt x y = true)
  dlt : ∀ x ∈ done, ∀ h, h < 3 → ∀ y ∈ (qs h).drop (g h), tlt x (tau h y) = true
  hperm : hp.Perm (cat3 (headH qs g))
  hmin : MinAt hp
theorem headH_len (qs : Nat → List P2) (g : Nat → Nat) (h : Nat) : (headH qs g h).length ≤ 1 := by unfold headH; rw [List.length_map, List.length_take]; (first | decide | lia | omega)
theorem MInv.len {qs : Nat → List P2} {done hp : List T3} {g : Nat → Nat} (m : MInv qs done hp g) : hp.length ≤ 3 := by
  rw [m.hperm.length_eq]
  unfold cat3
  simp only [List.length_append]
  have h0 := headH_len qs g 0
  have h1 := headH_len qs g 1
  have h2 := headH_len qs g 2
  (first | decide | lia | omega)
theorem g3_head {l : List T3} (hne : l ≠ []) : ∃ r, l = g3 l 0 :: r ∧ l.tail = r := by
  cases l with
  | nil => exact absurd rfl hne
  | cons a r => exact ⟨r, rfl, rfl⟩
theorem drop_cons_getD (l : List P2) {k : Nat} (h : k < l.length) : l.drop k = l.getD k (0, 0) :: l.drop (k + 1) := by
  rw [List.drop_eq_getElem_cons h]; simp [h]
/-- the heap's top -/
theorem MInv.top {qs : Nat → List P2} {done hp : List T3} {g : Nat → Nat} (asc : ∀ h, h < 3 → (qs h).Pairwise (fun x y => plt x y = true)) (m : MInv qs done hp g) (hne : hp ≠ []) :
    ∃ h, h < 3 ∧ g h < (qs h).length ∧ g3 hp 0 = tau h ((qs h).getD (g h) (0, 0)) ∧
      (∀ h', h' < 3 → ∀ y ∈ (qs h').drop (ups g h h'), tlt (g3 hp 0) (tau h' y) = true) ∧ (∀ x ∈ done, tlt x (g3 hp 0) = true) := by
  obtain ⟨r, er, _⟩ := g3_head hne
  have m0 : g3 hp 0 ∈ hp := by rw [er]; simp [g3]
  obtain ⟨h, hh, mh⟩ := mem_cat3.mp (m.hperm.subset m0)
  have hlt : g h < (qs h).length := by
    rcases Nat.lt_or_ge (g h) (qs h).length with c | c
    · exact c
    · unfold headH at mh; rw [List.drop_of_length_le c] at mh; simp at mh
  have hx : g3 hp 0 = tau h ((qs h).getD (g h) (0, 0)) := by
    unfold headH at mh
    rw [drop_cons_getD _ hlt] at mh
    simpa using mh
  refine ⟨h, hh, hlt, hx, ?_, ?_⟩
  · intro h' hh' y my
    have asc' := asc h' hh'
    by_cases e : h' = h
    · subst e
      have eu : ups g h' h' = g h' + 1 := by unfold ups; rw [if_pos rfl]
      rw [eu] at my
      have : ((qs h').drop (g h')).Pairwise (fun x y => plt x y = true) := asc'.sublist (List.drop_sublist _ _)
      rw [drop_cons_getD _ hlt, List.pairwise_cons] at this
      rw [hx, tau_lt]
      exact this.1 y my
    · have eu : ups g h h' = g h' := by unfold ups; rw [if_neg e]
      rw [eu] at my
      have hlt' : g h' < (qs h').length := by
        rcases Nat.lt_or_ge (g h') (qs h').length with c | c
        · exact c
        · rw [List.drop_of_length_le c] at my; simp at my
      have mhd : tau h' ((qs h').getD (g h') (0, 0)) ∈ hp := by
        refine m.hperm.symm.subset (mem_cat3.mpr ⟨h', hh', ?_⟩)
        unfold headH
        rw [drop_cons_getD _ hlt']; simp
      have hmin := m.hmin _ mhd
      have hhd : tlt (g3 hp 0) (tau h' ((qs h').getD (g h') (0, 0))) = true := by
        cases c : tlt (g3 hp 0) (tau h' ((qs h').getD (g h') (0, 0))) with
        | true => rfl
        | false =>
          have := tlt_conn c hmin
          rw [hx] at this
          have := congrArg (fun z : T3 => z.2.1) this
          simp only [tau] at this
          (first | decide | lia | omega)
      have : ((qs h').drop (g h')).Pairwise (fun x y => plt x y = true) := asc'.sublist (List.drop_sublist _ _)
      rw [drop_cons_getD _ hlt'] at this my
      rw [List.pairwise_cons] at this
      rcases List.mem_cons.mp my with rfl | my
      · exact hhd
      · exact tlt_trans hhd (tau_lt.mpr (this.1 y my))
  · intro x mx
    rw [hx]
    refine m.dlt x mx h hh _ ?_
    rw [drop_cons_getD _ hlt]; exact .head _
/-- one turn -/
theorem MInv.step {qs : Nat → List P2} {done hp : List T3} {g : Nat → Nat} (m : MInv qs done hp g) (hne : hp ≠ []) {h : Nat} (hh : h < 3) (hlt : g h < (qs h).length) (hx : g3 hp 0 = tau h ((qs h).getD (g h) (0, 0)))
    (hr : ∀ h', h' < 3 → ∀ y ∈ (qs h').drop (ups g h h'), tlt (g3 hp 0) (tau h' y) = true) (hd : ∀ x ∈ done, tlt x (g3 hp 0) = true)
    {hp' : List T3} (hp1 : hp'.Perm (((((qs h).drop (g h + 1)).take 1).map (tau h)) ++ hp.tail)) (hp2 : MinAt hp') : MInv qs (done ++ [g3 hp 0]) hp' (ups g h) := by
  have eu : ups g h h = g h + 1 := by unfold ups; rw [if_pos rfl]
  have eo : ∀ j, j ≠ h → ups g h j = g j := fun j e => by unfold ups; rw [if_neg e]
  refine ⟨fun j hj => ?_, ?_, ?_, ?_, ?_, hp2⟩
  · by_cases e : j = h
    · subst e; rw [eu]; (first | decide | lia | omega)
    · rw [eo j e]; exact m.gle j hj
  · obtain ⟨A, B, e1, e2⟩ := cat3_upd (f := takenH qs g) (f' := takenH qs (ups g h)) hh fun j e => by unfold takenH; rw [eo j e]
    have e3 : takenH qs (ups g h) h = takenH qs g h ++ [g3 hp 0] := by
      unfold takenH
      rw [eu, hx, List.take_add_one, List.map_append]
      congr 1
      simp [hlt]
    rw [e2, e3]
    have hq := m.dperm
    rw [e1] at hq
    have e4 : A ++ ((takenH qs g h ++ [g3 hp 0]) ++ B) = (A ++ takenH qs g h) ++ g3 hp 0 :: B := by simp
    rw [e4]
    refine (List.perm_append_singleton _ _).trans (.trans (.cons _ ?_) List.perm_middle.symm)
    rw [List.append_assoc]
    exact hq
  · rw [List.pairwise_append]
    refine ⟨m.dasc, (by first | decide | exact Nat.le_of_ble_eq_true rfl | exact List.forall_mem_nil _ | simp), fun a ma b mb => ?_⟩
    rw [List.mem_singleton] at mb; subst mb; exact hd a ma
  · intro x mx h' hh' y my
    rcases List.mem_append.mp mx with mx | mx
    · refine m.dlt x mx h' hh' y ?_
      by_cases e : h' = h
      · subst e; rw [eu] at my
        rw [drop_cons_getD _ hlt]; exact .tail _ my
      · rw [eo h' e] at my; exact my
    · rw [List.mem_singleton] at mx; subst mx
      exact hr h' hh' y my
  · obtain ⟨A, B, e1, e2⟩ := cat3_upd (f := headH qs g) (f' := headH qs (ups g h)) hh fun j e => by unfold headH; rw [eo j e]
    have e3 : headH qs (ups g h) h = (((qs h).drop (g h + 1)).take 1).map (tau h) := by unfold headH; rw [eu]
    have e4 : headH qs g h = [g3 hp 0] := by unfold headH; rw [drop_cons_getD _ hlt, hx]; simp
    obtain ⟨r, er, et⟩ := g3_head hne
    have hq := m.hperm
    rw [e1, e4, er] at hq
    have hq' : (g3 hp 0 :: r).Perm (g3 hp 0 :: (A ++ B)) := by
      have : (g3 (g3 hp 0 :: r) 0) = g3 hp 0 := rfl
      rw [this] at hq
      exact hq.trans List.perm_middle
    have hr' : r.Perm (A ++ B) := (List.perm_cons _).mp hq'
    rw [e2, e3]
    rw [et] at hp1
    refine hp1.trans ?_
    refine (List.Perm.append_left _ hr').trans ?_
    exact List.perm_append_comm_assoc _ _ _
end
section
noncomputable def leN (a : List Int) (c : Int) : Nat := (a.filter (fun x => decide (x ≤ c))).length
theorem leN_append (a b : List Int) (c : Int) : leN (a ++ b) c = leN a c + leN b c := by unfold leN; rw [List.filter_append, List.length_append]
theorem plainN_append (a b : List Int) : plainN (a ++ b) = plainN a + plainN b := by unfold plainN; rw [List.filter_append, List.length_append]
theorem tc_left (a b : List Int) {p : Nat} (h : p < a.length) : tc (a ++ b) p = tc a p := by
  unfold tc
  rw [List.getD_eq_getElem?_getD, List.getD_eq_getElem?_getD, List.getElem?_append_left h]
theorem tc_right (a b : List Int) (p : Nat) : tc (a ++ b) (a.length + p) = tc b p := by
  unfold tc
  rw [List.getD_eq_getElem?_getD, List.getD_eq_getElem?_getD, List.getElem?_append_right (by (first | decide | lia | omega)), Nat.add_sub_cancel_left]
theorem cnt_left (a b : List Int) {p : Nat} (h : p < a.length) : cnt (a ++ b) p = cnt a p := by
  unfold cnt
  rw [tc_left a b h, List.take_append_of_le_length (by (first | decide | lia | omega))]
theorem cnt_right (a b : List Int) (p : Nat) : cnt (a ++ b) (a.length + p) = leN a (tc b p) + cnt b p := by
  unfold cnt leN
  rw [tc_right, List.take_append, List.take_of_length_le (by (first | decide | lia | omega)), Nat.add_sub_cancel_left, List.filter_append, List.length_append]
theorem pairs_append (a b : List Int) : pairs (a ++ b) = pairs a ++ (pairs b).map (fun x => (x.1, (leN a x.1 : Int) + x.2)) := by
  unfold pairs
  rw [List.length_append, List.range_add, List.filter_append, List.map_append]
  congr 1
  · have e : (List.range a.length).filter (fun p => decide (127 < tc (a ++ b) p)) = (List.range a.length).filter (fun p => decide (127 < tc a p)) :=
      List.filter_congr fun p m => by rw [List.mem_range] at m; rw [tc_left a b m]
    rw [e]
    refine List.map_congr_left fun p m => ?_
    rw [List.mem_filter, List.mem_range] at m
    unfold pairAt
    rw [tc_left a b m.1, cnt_left a b m.1]
  · rw [List.filter_map, List.map_map, List.map_map]
    have e : (List.range b.length).filter ((fun p => decide (127 < tc (a ++ b) p)) ∘ (a.length + ·)) = (List.range b.length).filter (fun p => decide (127 < tc b p)) :=
      List.filter_congr fun p m => by simp only [Function.comp]; rw [tc_right]
    rw [e]
    refine List.map_congr_left fun p m => ?_
    simp only [Function.comp, pairAt]
    rw [tc_right, cnt_right]
    simp
noncomputable def off (t : Nat → List Int) : Nat → Int → Nat
  | 0, _ => 0
  | h + 1, c => off t h c + leN (t h) c
noncomputable def psi (t : Nat → List Int) (x : T3) : P2 := (x.1, (off t x.2.1.toNat x.1 : Int) + x.2.2)
noncomputable def joinT (t : Nat → List Int) : List Int := t 0 ++ t 1 ++ t 2
theorem pairs_join (t : Nat → List Int) : pairs (joinT t) = cat3 (fun h => (pairs (t h)).map (fun x => psi t (tau h x))) := by
  unfold joinT cat3
  rw [pairs_append, pairs_append, List.append_assoc]
  congr 1
  · conv => lhs; rw [← List.map_id (pairs (t 0))]
    refine List.map_congr_left fun x _ => ?_
    simp [psi, tau, off]
  congr 1
  · refine List.map_congr_left fun x _ => ?_
    simp [psi, tau, off]
  · refine List.map_congr_left fun x _ => ?_
    simp [psi, tau, off, leN_append]
theorem cnt_lt_leN (t : List Int) {p : Nat} (h : p < t.length) : cnt t p < leN t (tc t p) := by
  unfold cnt leN
  have e : t = t.take p ++ t[p] :: t.drop (p + 1) := by
    rw [← List.drop_eq_getElem_cons h, List.take_append_drop]
  have hc : t[p] = tc t p := by unfold tc; simp [h]
  generalize tc t p = c at hc
  conv => rhs; rw [e]
  rw [List.filter_append, List.length_append, List.filter_cons]
  rw [hc, if_pos ((by first | decide | exact Nat.le_of_ble_eq_true rfl | exact List.forall_mem_nil _ | simp))]
  simp only [List.length_cons]
  (first | decide | lia | omega)
theorem off_mono (t : Nat → List Int) (c : Int) (h : Nat) : ∀ d, off t h c ≤ off t (h + d) c
  | 0 => Nat.le_refl _
  | d + 1 => Nat.le_trans (off_mono t c h d) (by show off t (h + d) c ≤ off t (h + d) c + _; (first | decide | lia | omega))
theorem psi_lt (t : Nat → List Int) {h h' : Nat} {x y : P2} (mx : x ∈ pairs (t h)) (my : y ∈ pairs (t h')) (l : tlt (tau h x) (tau h' y) = true) : plt (psi t (tau h x)) (psi t (tau h' y)) = true := by
  rw [tlt_def] at l
  rw [plt_def]
  simp only [psi, tau, Int.toNat_natCast] at l ⊢
  rcases l with l | ⟨l, l' | ⟨l', l''⟩⟩
  · exact .inl l
  · refine .inr ⟨l, ?_⟩
    obtain ⟨p, hp, _, rfl⟩ := mem_pairs.mp mx
    obtain ⟨q, hq, _, rfl⟩ := mem_pairs.mp my
    simp only [pairAt] at l ⊢
    have h1 := cnt_lt_leN (t h) hp
    rw [← l]
    have h2 := off_mono t (tc (t h) p) (h + 1) (h' - (h + 1))
    rw [show h + 1 + (h' - (h + 1)) = h' by (first | decide | lia | omega)] at h2
    have h3 : off t (h + 1) (tc (t h) p) = off t h (tc (t h) p) + leN (t h) (tc (t h) p) := rfl
    (first | decide | lia | omega)
  · refine .inr ⟨l, ?_⟩
    have : h = h' := by (first | decide | lia | omega)
    subst this
    rw [l]; (first | decide | lia | omega)
theorem cat3_perm {α : Type} {f f' : Nat → List α} (e : ∀ h, h < 3 → (f h).Perm (f' h)) : (cat3 f).Perm (cat3 f') :=
  (e 0 (by (first | decide | lia | omega))).append ((e 1 (by (first | decide | lia | omega))).append (e 2 (by (first | decide | lia | omega))))
theorem cat3_map {α β : Type} (f : Nat → List α) (p : α → β) : (cat3 f).map p = cat3 fun h => (f h).map p := by unfold cat3; simp
theorem joined_srt {t : Nat → List Int} {qs : Nat → List P2} {done : List T3} {g : Nat → Nat} (s : ∀ h, h < 3 → Srt (t h) (qs h)) (m : MInv qs done [] g) : Srt (joinT t) (done.map (psi t)) := by
  have all : ∀ h, h < 3 → takenH qs g h = (qs h).map (tau h) := by
    intro h hh
    unfold takenH
    rw [List.take_of_length_le]
    rcases Nat.lt_or_ge (g h) (qs h).length with c | c
    · exfalso
      have : tau h ((qs h).getD (g h) (0, 0)) ∈ cat3 (headH qs g) := mem_cat3.mpr ⟨h, hh, by unfold headH; rw [drop_cons_getD _ c]; simp⟩
      have := m.hperm.symm.subset this
      simp at this
    · exact c
  have dp : done.Perm (cat3 fun h => (qs h).map (tau h)) := by
    refine m.dperm.trans ?_
    exact cat3_perm fun h hh => by rw [all h hh]
  have mem : ∀ x ∈ done, ∃ h p, h < 3 ∧ p ∈ pairs (t h) ∧ x = tau h p := by
    intro x mx
    obtain ⟨h, hh, mh⟩ := mem_cat3.mp (dp.subset mx)
    obtain ⟨p, mp, rfl⟩ := List.mem_map.mp mh
    exact ⟨h, p, hh, (s h hh).perm.subset mp, rfl⟩
  refine ⟨?_, ?_⟩
  · rw [pairs_join]
    refine (dp.map (psi t)).trans ?_
    rw [cat3_map]
    refine cat3_perm fun h hh => ?_
    rw [List.map_map]
    exact (s h hh).perm.map _
  · rw [List.pairwise_map]
    refine m.dasc.imp_of_mem fun {a b} ma mb l => ?_
    obtain ⟨h, p, _, hp, rfl⟩ := mem a ma
    obtain ⟨h', p', _, hp', rfl⟩ := mem b mb
    exact psi_lt t hp hp' l
/-! the places moved on -/
theorem leN_pairs (t : List Int) {c : Int} (hc : 127 ≤ c) : leN t c = plainN t + ((pairs t).filter (fun x => decide (x.1 ≤ c))).length := by
  have h : t = (List.range t.length).map (tc t) := by
    have := map_range_getD t t.length (Nat.le_refl _)
    rwa [List.take_length] at this
  have e1 : ((pairs t).filter (fun x => decide (x.1 ≤ c))).length = (t.filter (fun x => decide (127 < x) && decide (x ≤ c))).length := by
    conv => rhs; rw [h]
    unfold pairs
    rw [List.filter_map, List.length_map, List.filter_filter, List.filter_map, List.length_map]
    congr 1
    refine List.filter_congr fun p _ => ?_
    rw [Bool.eq_iff_iff]
    simp [pairAt, and_comm]
    intro _; exact decide_eq_true_iff
  rw [e1]
  unfold leN plainN
  clear h e1
  induction t with
  | nil => simp
  | cons x t ih =>
    simp only [List.filter_cons]
    by_cases h1 : x ≤ c
    · by_cases h2 : x < 128
      · rw [if_pos (by simpa using h1), if_pos (by simpa using h2), if_neg (by simp; (first | decide | lia | omega))]
        simp only [List.length_cons]; (first | decide | lia | omega)
      · rw [if_pos (by simpa using h1), if_neg (by simpa using h2), if_pos (by simp; (first | decide | lia | omega))]
        simp only [List.length_cons]; (first | decide | lia | omega)
    · rw [if_neg (by simpa using h1), if_neg (by simp; (first | decide | lia | omega)), if_neg (by simp; (first | decide | lia | omega))]
      exact ih
theorem gone_at {t : Nat → List Int} {qs : Nat → List P2} {done hp : List T3} {g : Nat → Nat} (s : ∀ h, h < 3 → Srt (t h) (qs h)) (m : MInv qs done hp g) {x : T3} {h : Nat} (hx : x.2.1 = (h : Int)) (hc : 127 ≤ x.1)
    (hd : ∀ y ∈ done, tlt y x = true) (hr : ∀ j, j < h → ∀ y ∈ (qs j).drop (g j), tlt x (tau j y) = true) (hh : h < 3) : ∀ j, j < h → plainN (t j) + g j = leN (t j) x.1 := by
  intro j hj
  have hj3 : j < 3 := by (first | decide | lia | omega)
  rw [leN_pairs (t j) hc]
  have hp : ((pairs (t j)).filter (fun y => decide (y.1 ≤ x.1))).length = ((qs j).filter (fun y => decide (y.1 ≤ x.1))).length := ((s j hj3).perm.filter _).length_eq.symm
  rw [hp]
  have e : qs j = (qs j).take (g j) ++ (qs j).drop (g j) := (List.take_append_drop _ _).symm
  have f1 : ((qs j).take (g j)).filter (fun y => decide (y.1 ≤ x.1)) = (qs j).take (g j) := by
    rw [List.filter_eq_self]
    intro y my
    have : tau j y ∈ done := m.dperm.symm.subset (mem_cat3.mpr ⟨j, hj3, by unfold takenH; exact List.mem_map_of_mem my⟩)
    have := hd _ this
    rw [tlt_def] at this
    simp only [tau, hx] at this
    simp only [decide_eq_true_eq]
    (first | decide | lia | omega)
  have f2 : ((qs j).drop (g j)).filter (fun y => decide (y.1 ≤ x.1)) = [] := by
    rw [List.filter_eq_nil_iff]
    intro y my
    have := hr j hj y my
    rw [tlt_def] at this
    simp only [tau, hx] at this
    simp only [decide_eq_true_eq]
    (first | decide | lia | omega)
  have e2 : ((qs j).filter (fun y => decide (y.1 ≤ x.1))).length = g j := by
    rw [e, List.filter_append, f1, f2, List.append_nil, List.length_take]
    have := m.gle j hj3
    (first | decide | lia | omega)
  rw [e2]
theorem done_len {qs : Nat → List P2} {done hp : List T3} {g : Nat → Nat} (m : MInv qs done hp g) : done.length = g 0 + g 1 + g 2 := by
  rw [m.dperm.length_eq]
  unfold cat3 takenH
  simp only [List.length_append, List.length_map, List.length_take]
  have h0 := m.gle 0 (by (first | decide | lia | omega))
  have h1 := m.gle 1 (by (first | decide | lia | omega))
  have h2 := m.gle 2 (by (first | decide | lia | omega))
  (first | decide | lia | omega)
end
section
open PySem PyProof.Rows PySem.Calls
noncomputable def pairsTo (t : List Int) (i : Nat) : List P2 := ((List.range i).filter (fun p => decide (127 < tc t p))).map (pairAt t)
theorem pairsTo_len (t : List Int) (i : Nat) : (pairsTo t i).length ≤ i := by
  unfold pairsTo
  rw [List.length_map]
  exact Nat.le_trans (List.length_filter_le _ _) ((by first | decide | exact Nat.le_of_ble_eq_true rfl | exact List.forall_mem_nil _ | simp))
theorem pairsTo_succ (t : List Int) (i : Nat) : pairsTo t (i + 1) = if 127 < tc t i then pairsTo t i ++ [pairAt t i] else pairsTo t i := by
  unfold pairsTo
  rw [List.range_succ, List.filter_append]
  split <;> rename_i h <;> simp [h]
theorem map_getD {α β : Type} (f : α → β) (l : List α) {j : Nat} (h : j < l.length) (d : β) (d' : α) : (l.map f).getD j d = f (l.getD j d') := by
  rw [List.getD_eq_getElem?_getD, List.getD_eq_getElem?_getD, List.getElem?_map, List.getElem?_eq_getElem h]; rfl
theorem take_getD {α : Type} (l : List α) {j : Nat} (h : j < l.length) (d : α) : l.take (j + 1) = l.take j ++ [l.getD j d] := by
  rw [List.take_add_one, List.getD_eq_getElem?_getD, List.getElem?_eq_getElem h]; rfl
section
variable {prog : Program} {w : World} {B : Heap} {mg mb : Str → Option Value}
set_option maxHeartbeats 8000000 in
theorem gaps_fun (G : Gnd B mg mb) (R : FnRec B mg (fnd 17)) (a : Addr) (t : List Int) (hl : t.length ≤ 10) (hc : ∀ c ∈ t, 0 ≤ c ∧ c ≤ 1114111) :
    Fun prog w B mg 1 "_law_gaps" [.ref a] [(a, .list (t.map .int))] [] (fun d post => ∃ ga qs, Srt t qs ∧ d = .ref ga ∧ post = [(ga, .list ((gapL (plainN t) 0 ls0 qs).map .int))]) := by
  refine Fun_of_bodyC (d := fnd 17) (n := 0) (x := "text") (y := "place") (arg := .ref a) (ro := [(a, .list (t.map .int))]) G R ["pairs", "code", "inside", "gaps", "last", "spot", "index"]
    [("pairs", .any), ("code", .any), ("inside", .any), ("gaps", .any), ("last", .any), ("spot", .any), ("index", .any)] rfl ?_ ?_ ?_ ?_ ?_ ⟨rfl, rfl, rfl⟩ fun C c₁ c₂ k hs room hW hro hcells => ?_
  · intro pm code doc v
    rfl
  · decide +kernel
  · decide +kernel
  · intro L; rfl
  · decide +kernel
  · have hh : C.A.handled = none := room.2.2.1
    have kt : C.env.kindOf "text" = some .cell := by unfold Env.kindOf; rw [hs]; decide +kernel
    have kp : C.env.kindOf "place" = some .cell := by unfold Env.kindOf; rw [hs]; decide +kernel
    have ct : C.env.cells.lookup ("text" : Str) = some c₁ := by rw [hcells]; rfl
    have cp : C.env.cells.lookup ("place" : Str) = some c₂ := by rw [hcells]; rfl
    have dt : (("text" : Str) == ("__debug__" : Str)) = false := by decide +kernel
    have dp : (("place" : Str) == ("__debug__" : Str)) = false := by decide +kernel
    refine WXs_cons ?_
    walk_at "stes"
    refine WE_list (WL_nil ⟨(by first | decide | exact Nat.le_of_ble_eq_true rfl | exact List.forall_mem_nil _ | simp), newK fun pa => ?_⟩)
    refine storeK (by walk_at "upd") (seqK_next (WXs_cons ?_))
    refine WX_for (X := Option PV) ?_ (by intro _; with_unfolding_all rfl)
    refine WI_range k G hs (by decide +kernel) hh ?_ (by with_unfolding_all rfl) (by with_unfolding_all rfl)
    walk_at "stes"
    (first | ((with_reducible refine' WE_blt ?kx171 ?Gx171 ?hsx171 ?hfx171 ?hdx171 ?hvx171 ?hbx171 ?hnx171 ?_ ?hex171 ?hpx171); (case kx171 => assumption); (case Gx171 => assumption); (case hsx171 => assumption); (case hfx171 => decide +kernel); (case hdx171 => decide +kernel); (case hvx171 => decide +kernel); (case hbx171 => (with_reducible first | exact boot_len' | exact boot_min' | exact boot_max' | exact boot_sum' | exact boot_divmod' | exact boot_chr' | exact boot_sorted' | exact boot_isinstance' | exact boot_bytes' | exact boot_bytearray' | exact boot_list' | exact boot_str' | exact boot_memoryview')); (case hnx171 => decide +kernel); (case hex171 => with_unfolding_all rfl); (case hpx171 => with_unfolding_all rfl)) | ((with_reducible refine' WE_typ ?kx171 ?Gx171 ?hsx171 ?hfx171 ?hdx171 ?hvx171 ?hbx171 ?hnx171 ?_ ?hex171 ?hpx171); (case kx171 => assumption); (case Gx171 => assumption); (case hsx171 => assumption); (case hfx171 => decide +kernel); (case hdx171 => decide +kernel); (case hvx171 => decide +kernel); (case hbx171 => (with_reducible first | exact boot_len' | exact boot_min' | exact boot_max' | exact boot_sum' | exact boot_divmod' | exact boot_chr' | exact boot_sorted' | exact boot_isinstance' | exact boot_bytes' | exact boot_bytearray' | exact boot_list' | exact boot_str' | exact boot_memoryview')); (case hnx171 => decide +kernel); (case hex171 => with_unfolding_all rfl); (case hpx171 => with_unfolding_all rfl)))
    walk_at "stes"
    refine WE_cell k kt ct dt (by (first | (refine Has.own ?_; walk_at "mem"; done) | (refine Has.roAt (by assumption) ?_; walk_at "mem"; done))) ?_
    walk_at "stes"
    refine callB_lenList k (l := t.map .int) (by (first | (refine Has.own ?_; walk_at "mem"; done) | (refine Has.roAt (by assumption) ?_; walk_at "mem"; done))) (by simp; (first | decide | lia | omega)) ?_
    rw [List.length_map]
    walk_at "stes"
    refine ⟨0, 1, t.length, ⟨⟨by (first | decide | lia | omega), by (first | decide | lia | omega)⟩, rfl, rfl, by (first | decide | lia | omega)⟩, ?_⟩
    refine ⟨fun i y => ⟨[("pairs", .ref pa), ("code", .any), ("inside", .any), ("gaps", .any), ("last", .any), ("spot", .any), ("index", .any)], [(pa, .list ((pairsTo t i).map pr)), (c₁, .cell (some (.ref a))), (c₂, .cell y)]⟩, fun _ _ => True, none, trivial, ⟨LocLe.rfl, List.Sublist.refl _⟩, fun _ _ _ _ => trivial, ?_, ?_⟩
    · intro i y hi _
      dsimp only
      have epl : (0 : Int) + (i : Int) * 1 = (i : Int) := by (first | decide | lia | omega)
      rw [epl]
      have hpl := pairsTo_len t i
      have hps := pairsTo_succ t i
      have hget : ∀ {S : St} {kk : PV → Prop}, kk (.int (tc t i)) → ItemK C S kk (.ref a) (.int i) := by
        intro S kk h
        refine item_int (ns := t) (by (first | (refine Has.own ?_; walk_at "mem"; done) | (refine Has.roAt (by assumption) ?_; walk_at "mem"; done))) (by (first | decide | lia | omega)) (by (first | decide | lia | omega)) (by (first | decide | lia | omega)) ?_
        rw [Int.toNat_natCast]; exact h
      refine WA_cell k kp cp (cellK (by walk_at "upd") (WXs_cons ?_))
      walk_at "stes"
      refine WE_cell k kt ct dt (by (first | (refine Has.own ?_; walk_at "mem"; done) | (refine Has.roAt (by assumption) ?_; walk_at "mem"; done))) ?_
      walk_at "stes"
      refine WE_cell k kp cp dp (by (first | (refine Has.own ?_; walk_at "mem"; done) | (refine Has.roAt (by assumption) ?_; walk_at "mem"; done))) ?_
      refine hget ?_
      walk_at "stes"
      refine dsplit (fun h => ?_) (fun h => ?_)
      · rw [if_pos h] at hps
        refine WXs_cons ?_
        (((with_reducible refine' WX_expr ?kx179 ?_ ?hsx179); (case kx179 => assumption); (case hsx179 => with_unfolding_all rfl)))
        (((with_reducible refine' WE_meth "list.append" ?_ ?hbx180 ?hlx180 ?hfx180 ?hex180 ?hpx180); (case hbx180 => with_unfolding_all rfl); (case hlx180 => with_unfolding_all rfl); (case hfx180 => with_unfolding_all rfl); (case hex180 => with_unfolding_all rfl); (case hpx180 => with_unfolding_all rfl)))
        walk_at "stes"
        refine ⟨meth_list k (by (first | (refine Has.own ?_; walk_at "mem"; done) | (refine Has.roAt (by assumption) ?_; walk_at "mem"; done))) F.slot_list_append F.type_list_append, ?_⟩
        walk_at "stes"
        refine WE_tuple ?_
        walk_at "stes"
        refine WE_cell k kt ct dt (by (first | (refine Has.own ?_; walk_at "mem"; done) | (refine Has.roAt (by assumption) ?_; walk_at "mem"; done))) ?_
        walk_at "stes"
        refine WE_cell k kp cp dp (by (first | (refine Has.own ?_; walk_at "mem"; done) | (refine Has.roAt (by assumption) ?_; walk_at "mem"; done))) ?_
        refine hget ?_
        walk_at "stes"
        (first | ((with_reducible refine' WE_blt ?kx184 ?Gx184 ?hsx184 ?hfx184 ?hdx184 ?hvx184 ?hbx184 ?hnx184 ?_ ?hex184 ?hpx184); (case kx184 => assumption); (case Gx184 => assumption); (case hsx184 => assumption); (case hfx184 => decide +kernel); (case hdx184 => decide +kernel); (case hvx184 => decide +kernel); (case hbx184 => (with_reducible first | exact boot_len' | exact boot_min' | exact boot_max' | exact boot_sum' | exact boot_divmod' | exact boot_chr' | exact boot_sorted' | exact boot_isinstance' | exact boot_bytes' | exact boot_bytearray' | exact boot_list' | exact boot_str' | exact boot_memoryview')); (case hnx184 => decide +kernel); (case hex184 => with_unfolding_all rfl); (case hpx184 => with_unfolding_all rfl)) | ((with_reducible refine' WE_typ ?kx184 ?Gx184 ?hsx184 ?hfx184 ?hdx184 ?hvx184 ?hbx184 ?hnx184 ?_ ?hex184 ?hpx184); (case kx184 => assumption); (case Gx184 => assumption); (case hsx184 => assumption); (case hfx184 => decide +kernel); (case hdx184 => decide +kernel); (case hvx184 => decide +kernel); (case hbx184 => (with_reducible first | exact boot_len' | exact boot_min' | exact boot_max' | exact boot_sum' | exact boot_divmod' | exact boot_chr' | exact boot_sorted' | exact boot_isinstance' | exact boot_bytes' | exact boot_bytearray' | exact boot_list' | exact boot_str' | exact boot_memoryview')); (case hnx184 => decide +kernel); (case hex184 => with_unfolding_all rfl); (case hpx184 => with_unfolding_all rfl)))
        walk_at "stes"
        refine WE_comp (X := Unit) (cl := [("text", c₁), ("place", c₂)]) k hs ?_ (by decide +kernel) rfl (by decide +kernel) (by decide +kernel) (by decide +kernel) ?_ (by intro _; with_unfolding_all rfl)
        · unfold closureFor cellOf
          rw [hcells]
          rfl
        refine WI_list k hh ?_
        (((with_reducible refine' WE_slice ?kx187 ?_); (case kx187 => assumption)))
        refine WE_cell k kt ct dt (by (first | (refine Has.own ?_; walk_at "mem"; done) | (refine Has.roAt (by assumption) ?_; walk_at "mem"; done))) ?_
        refine WP_none (WP_some ?_)
        refine WE_cell k kp cp dp (by (first | (refine Has.own ?_; walk_at "mem"; done) | (refine Has.roAt (by assumption) ?_; walk_at "mem"; done))) ?_
        refine ⟨_, rfl, by show (0 : Int) ≤ _; (first | decide | lia | omega), t.map .int, by (first | (refine Has.own ?_; walk_at "mem"; done) | (refine Has.roAt (by assumption) ?_; walk_at "mem"; done)), by simp; (first | decide | lia | omega), newK fun sa => ?_⟩
        have esl : sl none (some (i : Int)) (t.map PV.int) = (t.take i).map .int := by simp [sl, List.map_take]
        rw [esl]
        refine ⟨sa, (t.take i).map .int, rfl, by (first | (refine Has.own ?_; walk_at "mem"; done) | (refine Has.roAt (by assumption) ?_; walk_at "mem"; done)), ?_⟩
        refine ⟨fun j _ la => [(la, .list ((((t.take i).take j).filter (fun c => decide (c ≤ tc t i))).map .int)), (sa, .list ((t.take i).map .int)), (pa, .list ((pairsTo t i).map pr)), (c₁, .cell (some (.ref a))), (c₂, .cell (some (.int i)))], fun _ _ => True, (), trivial, fun la => List.Sublist.refl _, fun _ _ _ _ _ => by (first | (refine Has.own ?_; walk_at "mem"; done) | (refine Has.roAt (by assumption) ?_; walk_at "mem"; done)), ?_, ?_⟩
        · rintro C' la j _ ⟨k', hA', hs', hcl', hW', hro'⟩ hj _
          rw [List.length_map] at hj
          have hit : ((t.take i).map PV.int).getD j .any = .int ((t.take i).getD j 0) := map_getD _ _ hj _ _
          have htk : (t.take i).take (j + 1) = (t.take i).take j ++ [(t.take i).getD j 0] := take_getD _ hj _
          dsimp only
          rw [hit]
          have hlj : (((t.take i).take j).filter (fun c => decide (c ≤ tc t i))).length ≤ 10 := by
            refine Nat.le_trans (List.length_filter_le _ _) ?_
            simp; (first | decide | lia | omega)
          generalize (t.take i).getD j 0 = cc at htk
          have kt' : C'.env.kindOf "text" = some .cell := by unfold Env.kindOf; rw [hs']; decide +kernel
          have kp' : C'.env.kindOf "place" = some .cell := by unfold Env.kindOf; rw [hs']; decide +kernel
          have ct' : C'.env.cells.lookup ("text" : Str) = some c₁ := by rw [hcl']; rfl
          have cp' : C'.env.cells.lookup ("place" : Str) = some c₂ := by rw [hcl']; rfl
          have hro2 : C'.ro = [(a, .list (t.map .int))] := hro'.trans hro
          show WB prog w C' _ _ _
          walk_at "ste"
          walk_at "ste"
          walk_at "ste"
          refine WE_cell k' kt' ct' dt (by (first | (refine Has.own ?_; walk_at "mem"; done) | (refine Has.roAt (by assumption) ?_; walk_at "mem"; done))) ?_
          refine WE_cell k' kp' cp' dp (by (first | (refine Has.own ?_; walk_at "mem"; done) | (refine Has.roAt (by assumption) ?_; walk_at "mem"; done))) ?_
          refine item_int (ns := t) (Has.roAt hro2 (by walk_at "mem")) (by (first | decide | lia | omega)) (by (first | decide | lia | omega)) (by (first | decide | lia | omega)) ?_
          rw [Int.toNat_natCast]
          walk_at "stes"
          refine dsplit (fun h' => ?_) (fun h' => ?_)
          · walk_at "stes"
            refine ⟨_, _, by walk_at "upd", by simpa using (by (first | decide | lia | omega)), (), trivial, ?_, _, rfl⟩
            have e : ((t.take i).take (j + 1)).filter (fun c => decide (c ≤ tc t i)) = ((t.take i).take j).filter (fun c => decide (c ≤ tc t i)) ++ [cc] := by
              rw [htk, List.filter_append]
              congr 1
              have : cc ≤ tc t i := h'
              simp [this]
            rw [e]
            simp only [List.map_append, List.map_cons, List.map_nil]
            exact List.Sublist.refl _
          · refine ⟨(), trivial, ?_, _, rfl⟩
            have e : ((t.take i).take (j + 1)).filter (fun c => decide (c ≤ tc t i)) = ((t.take i).take j).filter (fun c => decide (c ≤ tc t i)) := by
              rw [htk, List.filter_append]
              have : ¬ cc ≤ tc t i := h'
              simp [this]
            rw [e]
            exact List.Sublist.refl _
        · intro la _ _
          dsimp only
          rw [List.length_map, List.take_length]
          have hcn : ((t.take i).filter (fun c => decide (c ≤ tc t i))).length = cnt t i := rfl
          walk_at "stes"
          refine callB_lenList k (l := ((t.take i).filter (fun c => decide (c ≤ tc t i))).map .int) (by (first | (refine Has.own ?_; walk_at "mem"; done) | (refine Has.roAt (by assumption) ?_; walk_at "mem"; done))) ?_ ?_
          · rw [List.length_map]
            exact Nat.le_trans (List.length_filter_le _ _) (by simp; (first | decide | lia | omega))
          rw [List.length_map, hcn]
          walk_at "stes"
          refine ⟨(by first | decide | exact Nat.le_of_ble_eq_true rfl | exact List.forall_mem_nil _ | simp), ?_⟩
          walk_at "stes"
          show CallB prog w C "list.append" [.ref pa, pr (pairAt t i)] _ _
          refine callB_append (by walk_at "upd") (by simp; (first | decide | lia | omega)) ⟨rfl, ?_⟩
          repeat walk_at "flow"
          refine WXs_nil (seqK_next (WXs_nil (loopK_next ⟨some (.int i), trivial, by (repeat (first | exact LocLe.nil | apply LocLe.same | apply LocLe.any)), ?_⟩)))
          dsimp only
          rw [hps]
          simp only [List.map_append, List.map_cons, List.map_nil]
          exact List.Sublist.cons _ (List.Sublist.cons _ (List.Sublist.refl _))
      · rw [if_neg h] at hps
        refine WXs_nil (seqK_next (WXs_nil (loopK_next ⟨some (.int i), trivial, by (repeat (first | exact LocLe.nil | apply LocLe.same | apply LocLe.any)), ?_⟩)))
        dsimp only
        rw [hps]
        exact List.Sublist.refl _
    · intro y _
      dsimp only
      have hpt : pairsTo t t.length = pairs t := rfl
      rw [hpt]
      have hpl : (pairs t).length ≤ 10 := Nat.le_trans (pairs_len_le t) hl
      have hin := plain_len t
      refine seqK_next (WXs_cons ?_)
      walk_at "stes"
      (first | ((with_reducible refine' WE_blt ?kx198 ?Gx198 ?hsx198 ?hfx198 ?hdx198 ?hvx198 ?hbx198 ?hnx198 ?_ ?hex198 ?hpx198); (case kx198 => assumption); (case Gx198 => assumption); (case hsx198 => assumption); (case hfx198 => decide +kernel); (case hdx198 => decide +kernel); (case hvx198 => decide +kernel); (case hbx198 => (with_reducible first | exact boot_len' | exact boot_min' | exact boot_max' | exact boot_sum' | exact boot_divmod' | exact boot_chr' | exact boot_sorted' | exact boot_isinstance' | exact boot_bytes' | exact boot_bytearray' | exact boot_list' | exact boot_str' | exact boot_memoryview')); (case hnx198 => decide +kernel); (case hex198 => with_unfolding_all rfl); (case hpx198 => with_unfolding_all rfl)) | ((with_reducible refine' WE_typ ?kx198 ?Gx198 ?hsx198 ?hfx198 ?hdx198 ?hvx198 ?hbx198 ?hnx198 ?_ ?hex198 ?hpx198); (case kx198 => assumption); (case Gx198 => assumption); (case hsx198 => assumption); (case hfx198 => decide +kernel); (case hdx198 => decide +kernel); (case hvx198 => decide +kernel); (case hbx198 => (with_reducible first | exact boot_len' | exact boot_min' | exact boot_max' | exact boot_sum' | exact boot_divmod' | exact boot_chr' | exact boot_sorted' | exact boot_isinstance' | exact boot_bytes' | exact boot_bytearray' | exact boot_list' | exact boot_str' | exact boot_memoryview')); (case hnx198 => decide +kernel); (case hex198 => with_unfolding_all rfl); (case hpx198 => with_unfolding_all rfl)))
      walk_at "stes"
      refine WE_cell k kt ct dt (by (first | (refine Has.own ?_; walk_at "mem"; done) | (refine Has.roAt (by assumption) ?_; walk_at "mem"; done))) ?_
      walk_at "stes"
      refine callB_lenList k (l := t.map .int) (by (first | (refine Has.own ?_; walk_at "mem"; done) | (refine Has.roAt (by assumption) ?_; walk_at "mem"; done))) (by simp; (first | decide | lia | omega)) ?_
      walk_at "stes"
      (first | ((with_reducible refine' WE_blt ?kx203 ?Gx203 ?hsx203 ?hfx203 ?hdx203 ?hvx203 ?hbx203 ?hnx203 ?_ ?hex203 ?hpx203); (case kx203 => assumption); (case Gx203 => assumption); (case hsx203 => assumption); (case hfx203 => decide +kernel); (case hdx203 => decide +kernel); (case hvx203 => decide +kernel); (case hbx203 => (with_reducible first | exact boot_len' | exact boot_min' | exact boot_max' | exact boot_sum' | exact boot_divmod' | exact boot_chr' | exact boot_sorted' | exact boot_isinstance' | exact boot_bytes' | exact boot_bytearray' | exact boot_list' | exact boot_str' | exact boot_memoryview')); (case hnx203 => decide +kernel); (case hex203 => with_unfolding_all rfl); (case hpx203 => with_unfolding_all rfl)) | ((with_reducible refine' WE_typ ?kx203 ?Gx203 ?hsx203 ?hfx203 ?hdx203 ?hvx203 ?hbx203 ?hnx203 ?_ ?hex203 ?hpx203); (case kx203 => assumption); (case Gx203 => assumption); (case hsx203 => assumption); (case hfx203 => decide +kernel); (case hdx203 => decide +kernel); (case hvx203 => decide +kernel); (case hbx203 => (with_reducible first | exact boot_len' | exact boot_min' | exact boot_max' | exact boot_sum' | exact boot_divmod' | exact boot_chr' | exact boot_sorted' | exact boot_isinstance' | exact boot_bytes' | exact boot_bytearray' | exact boot_list' | exact boot_str' | exact boot_memoryview')); (case hnx203 => decide +kernel); (case hex203 => with_unfolding_all rfl); (case hpx203 => with_unfolding_all rfl)))
      walk_at "stes"
      refine callB_lenList k (l := (pairs t).map pr) (by (first | (refine Has.own ?_; walk_at "mem"; done) | (refine Has.roAt (by assumption) ?_; walk_at "mem"; done))) (by simp; (first | decide | lia | omega)) ?_
      rw [List.length_map, List.length_map]
      walk_at "stes"
      rw [hin]
      walk_at "sts"
      refine WE_list (WL_nil ⟨(by first | decide | exact Nat.le_of_ble_eq_true rfl | exact List.forall_mem_nil _ | simp), newK fun ga => ?_⟩)
      refine storeK (by walk_at "upd") (seqK_next (WXs_cons ?_))
      refine WX_assignT ?_ (by with_unfolding_all rfl) (by rw [swapped_scope, hs]; kernel_rfl)
      refine WE_tuple ?_
      walk_at "stes"
      refine ⟨(by first | decide | exact Nat.le_of_ble_eq_true rfl | exact List.forall_mem_nil _ | simp), ?_⟩
      refine WA_tuple hh ?_ rfl (wa_plain (xs := [(_, _), (_, _)]))
      refine WA_name k (storeK (by walk_at "upd") (WA_name k (storeK (by walk_at "upd") ?_)))
      show seqK _ _ _ _
      refine seqK_next (WXs_cons ?_)
      refine WX_for (X := Unit) ?_ (by intro _; with_unfolding_all rfl)
      refine WI_list k hh ?_
      (first | ((with_reducible refine' WE_blt ?kx207 ?Gx207 ?hsx207 ?hfx207 ?hdx207 ?hvx207 ?hbx207 ?hnx207 ?_ ?hex207 ?hpx207); (case kx207 => assumption); (case Gx207 => assumption); (case hsx207 => assumption); (case hfx207 => decide +kernel); (case hdx207 => decide +kernel); (case hvx207 => decide +kernel); (case hbx207 => (with_reducible first | exact boot_len' | exact boot_min' | exact boot_max' | exact boot_sum' | exact boot_divmod' | exact boot_chr' | exact boot_sorted' | exact boot_isinstance' | exact boot_bytes' | exact boot_bytearray' | exact boot_list' | exact boot_str' | exact boot_memoryview')); (case hnx207 => decide +kernel); (case hex207 => with_unfolding_all rfl); (case hpx207 => with_unfolding_all rfl)) | ((with_reducible refine' WE_typ ?kx207 ?Gx207 ?hsx207 ?hfx207 ?hdx207 ?hvx207 ?hbx207 ?hnx207 ?_ ?hex207 ?hpx207); (case kx207 => assumption); (case Gx207 => assumption); (case hsx207 => assumption); (case hfx207 => decide +kernel); (case hdx207 => decide +kernel); (case hvx207 => decide +kernel); (case hbx207 => (with_reducible first | exact boot_len' | exact boot_min' | exact boot_max' | exact boot_sum' | exact boot_divmod' | exact boot_chr' | exact boot_sorted' | exact boot_isinstance' | exact boot_bytes' | exact boot_bytearray' | exact boot_list' | exact boot_str' | exact boot_memoryview')); (case hnx207 => decide +kernel); (case hex207 => with_unfolding_all rfl); (case hpx207 => with_unfolding_all rfl)))
      walk_at "stes"
      refine callB_sorted k (pairs_nodup t) (by (first | decide | lia | omega)) (by (first | (refine Has.own ?_; walk_at "mem"; done) | (refine Has.roAt (by assumption) ?_; walk_at "mem"; done))) fun qs hqp hqs => newK fun qa => ?_
      have srt : Srt t qs := ⟨hqp, hqs⟩
      have hql : qs.length ≤ 10 := by rw [hqp.length_eq]; exact hpl
      refine ⟨qa, qs.map pr, rfl, by (first | (refine Has.own ?_; walk_at "mem"; done) | (refine Has.roAt (by assumption) ?_; walk_at "mem"; done)), ?_⟩
      refine ⟨fun i _ => ⟨[("pairs", .ref pa), ("code", .any), ("inside", .int (plainN t)), ("gaps", .ref ga), ("last", .int (lastP ls0 (qs.take i)).1), ("spot", .int (lastP ls0 (qs.take i)).2), ("index", .any)], [(qa, .list (qs.map pr)), (ga, .list ((gapL (plainN t) 0 ls0 (qs.take i)).map .int))]⟩, fun _ _ => True, (), trivial, ⟨by (repeat (first | exact LocLe.nil | apply LocLe.same | apply LocLe.any)), ?_⟩, fun _ _ _ _ => by (first | (refine Has.own ?_; walk_at "mem"; done) | (refine Has.roAt (by assumption) ?_; walk_at "mem"; done)), ?_, ?_⟩
      · exact .cons_cons _ (.cons_cons _ (List.nil_sublist _))
      · intro i _ hi _
        rw [List.length_map] at hi
        dsimp only
        have hit : (qs.map pr).getD i .any = pr (qs.getD i (0, 0)) := by simp [hi]
        rw [hit]
        have htk : qs.take (i + 1) = qs.take i ++ [qs.getD i (0, 0)] := by
          rw [List.take_add_one]; simp [hi]
        have hlt : (qs.take i).length = i := by simp; (first | decide | lia | omega)
        have hgl : (gapL (plainN t) 0 ls0 (qs.take i)).length = i := by rw [gapL_len, hlt]
        have hsn := gapL_snoc (plainN t) (qs.take i) 0 ls0 (qs.getD i (0, 0))
        rw [← htk, hlt, Nat.zero_add] at hsn
        have hls := lastP_snoc ls0 (qs.getD i (0, 0)) (qs.take i)
        rw [← htk] at hls
        have hpn : plainN t ≤ 10 := Nat.le_trans (List.length_filter_le _ _) hl
        generalize qs.getD i (0, 0) = x at hsn hls
        obtain ⟨xc, xi⟩ := x
        show WA prog w C _ (.tup [.int xc, .int xi]) _ _
        refine WA_tuple hh ?_ rfl (wa_plain (xs := [(_, _), (_, _)]))
        refine WA_name k (storeK (by walk_at "upd") (WA_name k (storeK (by walk_at "upd") ?_)))
        show WXs prog w C _ _ _
        refine WXs_cons ?_
        (((with_reducible refine' WX_expr ?kx214 ?_ ?hsx214); (case kx214 => assumption); (case hsx214 => with_unfolding_all rfl)))
        (((with_reducible refine' WE_meth "list.append" ?_ ?hbx215 ?hlx215 ?hfx215 ?hex215 ?hpx215); (case hbx215 => with_unfolding_all rfl); (case hlx215 => with_unfolding_all rfl); (case hfx215 => with_unfolding_all rfl); (case hex215 => with_unfolding_all rfl); (case hpx215 => with_unfolding_all rfl)))
        walk_at "stes"
        refine ⟨meth_list k (by (first | (refine Has.own ?_; walk_at "mem"; done) | (refine Has.roAt (by assumption) ?_; walk_at "mem"; done))) F.slot_list_append F.type_list_append, ?_⟩
        walk_at "stes"
        (first | ((with_reducible refine' WE_blt ?kx217 ?Gx217 ?hsx217 ?hfx217 ?hdx217 ?hvx217 ?hbx217 ?hnx217 ?_ ?hex217 ?hpx217); (case kx217 => assumption); (case Gx217 => assumption); (case hsx217 => assumption); (case hfx217 => decide +kernel); (case hdx217 => decide +kernel); (case hvx217 => decide +kernel); (case hbx217 => (with_reducible first | exact boot_len' | exact boot_min' | exact boot_max' | exact boot_sum' | exact boot_divmod' | exact boot_chr' | exact boot_sorted' | exact boot_isinstance' | exact boot_bytes' | exact boot_bytearray' | exact boot_list' | exact boot_str' | exact boot_memoryview')); (case hnx217 => decide +kernel); (case hex217 => with_unfolding_all rfl); (case hpx217 => with_unfolding_all rfl)) | ((with_reducible refine' WE_typ ?kx217 ?Gx217 ?hsx217 ?hfx217 ?hdx217 ?hvx217 ?hbx217 ?hnx217 ?_ ?hex217 ?hpx217); (case kx217 => assumption); (case Gx217 => assumption); (case hsx217 => assumption); (case hfx217 => decide +kernel); (case hdx217 => decide +kernel); (case hvx217 => decide +kernel); (case hbx217 => (with_reducible first | exact boot_len' | exact boot_min' | exact boot_max' | exact boot_sum' | exact boot_divmod' | exact boot_chr' | exact boot_sorted' | exact boot_isinstance' | exact boot_bytes' | exact boot_bytearray' | exact boot_list' | exact boot_str' | exact boot_memoryview')); (case hnx217 => decide +kernel); (case hex217 => with_unfolding_all rfl); (case hpx217 => with_unfolding_all rfl)))
        walk_at "stes"
        refine callB_lenList k (l := (gapL (plainN t) 0 ls0 (qs.take i)).map .int) (by (first | (refine Has.own ?_; walk_at "mem"; done) | (refine Has.roAt (by assumption) ?_; walk_at "mem"; done))) (by simp [hgl]; (first | decide | lia | omega)) ?_
        rw [List.length_map, hgl]
        walk_at "stes"
        refine callB_append (by walk_at "upd") (by simp [hgl]; (first | decide | lia | omega)) ⟨rfl, ?_⟩
        refine seqK_next (WXs_cons ?_)
        refine WX_assignS (x := "last") (y := "spot") k hh ?_ (by rw [swapped_scope, hs]; kernel_rfl) (by with_unfolding_all rfl)
        refine WE_tuple ?_
        walk_at "stes"
        refine ⟨(by first | decide | exact Nat.le_of_ble_eq_true rfl | exact List.forall_mem_nil _ | simp), _, _, rfl, ?_⟩
        refine storeK (by walk_at "upd") (storeK (by walk_at "upd") ?_)
        repeat walk_at "flow"
        refine WXs_nil (loopK_next ⟨(), trivial, ?_, ?_⟩)
        · dsimp only
          rw [hls]
          (repeat (first | exact LocLe.nil | apply LocLe.same | apply LocLe.any))
        · dsimp only
          rw [hsn]
          simp only [List.map_append, List.map_cons, List.map_nil]
          exact List.Sublist.refl _
      · intro _ _
        dsimp only
        rw [List.length_map, List.take_length]
        walk_at "sts"
        exact retK_ret [(ga, _)] (.cons _ (List.Sublist.refl _)) ⟨ga, qs, srt, rfl, rfl⟩
end
end
section
open PySem PyProof.Rows PySem.Calls
section
variable {prog : Program} {w : World} {B : Heap} {mg mb : Str → Option Value}
/-- one's own objects in another order -/
theorem WT.perm {α β : Type} {C : Cx} {t : Sem α} {V : Heap → β → α → Prop} {K : β → St → Prop} {loc : List (Str × PV)} {own own' : List (Addr × AObj)} (hp : own.Perm own') (h : WT prog w C t V ⟨loc, own'⟩ K) : WT prog w C t V ⟨loc, own⟩ K := by
  intro s r ht
  have r' : Rel C ⟨loc, own'⟩ s.heap := { r with
    own := fun p q => r.own p (hp.symm.subset q)
    nd := ((hp.map Prod.fst).nodup_iff).mp r.nd
    apart := fun p q => r.apart p (hp.symm.subset q) }
  have key : ∀ b, b ∈ own'.map Prod.fst ↔ b ∈ own.map Prod.fst := fun b => (hp.map Prod.fst).symm.mem_iff
  exact wpAny_mono (h s r' ht) (fun _ _ ⟨d, S₁, p, v, q⟩ => ⟨d, S₁, ⟨p.gens, p.os, p.rel, fun b o e n => p.frame b o e fun m => n ((key b).mp m), fun x q => (p.fresh x q).imp (fun m => (key _).mp m) id, p.live⟩, v, q⟩) (fun _ _ x => x)
theorem Fun_vac {n : Nat} {d : DefRec} {args : List PV} {pre : List (Addr × AObj)} {W : List Addr} {Q : PV → List (Addr × AObj) → Prop} (R : FnRec B mg d) (h : ∀ hp, (∀ p ∈ pre, ObjIs hp p.1 p.2) → False) : Fun prog w B mg n d.name args pre W Q := by
  obtain ⟨a, o, pm, code, doc, hm, ho, hd, hc⟩ := R
  exact ⟨a, o, _, hm, ho, hd, fun A s vs room ht kb pre wb ia => (h s.heap pre).elim⟩
theorem objs_ne {h : Heap} {a b : Addr} {l₁ l₂ : List PV} {i : Nat} {d₁ d₂ : PV} (o₁ : ObjIs h a (.list l₁)) (o₂ : ObjIs h b (.list l₂)) (e₁ : l₁[i]? = some d₁) (e₂ : l₂[i]? = some d₂) (hd : ∀ v, Is h d₁ v → Is h d₂ v → False) : a ≠ b := by
  rintro rfl
  obtain ⟨vs, n, g, ia⟩ := o₁
  obtain ⟨vs', n', g', ib⟩ := o₂
  rw [g] at g'
  cases g'
  obtain ⟨v, ev, iv⟩ := ia.get e₁
  obtain ⟨u, eu, iu⟩ := ib.get e₂
  rw [ev] at eu; cases eu
  exact hd v iv iu
noncomputable def rowP (pos b code spot ins : Int) : List PV := [.int pos, .int b, .int code, .int spot, .int ins]
theorem head_apart {hp : Heap} {la sa ra : Addr} {labs : List (Array UInt8)} {sts : List PV} {h : Nat} {pos b code spot ins : Int} (hh : h < labs.length) (hst : ∀ i, i < labs.length → ∃ r, sts[i]? = some (.ref r))
    (pre : ∀ p ∈ [(sa, AObj.list sts)] ++ [(la, AObj.list (labs.map .bytes)), (ra, AObj.list (rowP pos b code spot ins))], ObjIs hp p.1 p.2) : la ≠ sa ∧ ra ≠ sa := by
  have o1 : ObjIs hp sa (.list sts) := pre _ (.head _)
  have o2 : ObjIs hp la (.list (labs.map .bytes)) := pre (la, _) (.tail _ (.head _))
  have o3 : ObjIs hp ra (.list (rowP pos b code spot ins)) := pre (ra, _) (.tail _ (.tail _ (.head _)))
  obtain ⟨r, hr⟩ := hst h hh
  obtain ⟨r0, hr0⟩ := hst 0 (by (first | decide | lia | omega))
  refine ⟨objs_ne (i := h) (d₁ := .bytes labs[h]) (d₂ := .ref r) o2 o1 (by simp [hh]) hr fun v i₁ i₂ => (by cases i₁; cases i₂), objs_ne (i := 0) (d₁ := .int pos) (d₂ := .ref r0) o3 o1 rfl hr0 fun v i₁ i₂ => (by cases i₁; cases i₂)⟩
theorem item_at {C : Cx} {S : St} {a : Addr} {l : List PV} {h : Nat} {e : PV} {k : PV → Prop} (m : Has C S a (.list l)) (hl : l.length ≤ 2 ^ 20) (he : l[h]? = some e) (hk : k e) : ItemK C S k (.ref a) (.int h) := by
  have : h < l.length := by
    rcases Nat.lt_or_ge h l.length with c | c
    · exact c
    · rw [List.getElem?_eq_none c] at he; cases he
  exact ⟨l, h, e, m, by (first | decide | lia | omega), by rw [seqIndex_nn (by (first | decide | lia | omega)) (by (first | decide | lia | omega)), Int.toNat_natCast], he, hk⟩
set_option maxHeartbeats 8000000 in
theorem head_none (G : Gnd B mg mb) (R : FnRec B mg (fnd 20)) (la sa ra : Addr) (labs : List (Array UInt8)) (sts : List PV) (h : Nat) (pos : Nat) (b code spot ins : Int) (hh : h < labs.length) (hst : ∀ i, i < labs.length → ∃ r, sts[i]? = some (.ref r)) (hsl : sts.length = labs.length) (hll : labs.length ≤ 1000) (hr : sts[h]? = some (.ref ra))
    (hz : ∀ L ∈ labs, L.size ≤ 2 ^ 20) (hpos : pos = (labs.getD h #[]).size) :
    Fun prog w B mg 3 "_law_head" [.ref la, .ref sa, .int h] ([(sa, .list sts)] ++ [(la, .list (labs.map .bytes)), (ra, .list (rowP pos b code spot ins))]) [sa] (fun d post => d = .none ∧ post = [(sa, .list sts)]) := by
  by_cases ap : la ≠ sa ∧ ra ≠ sa
  case neg => exact Fun_vac R fun hp pre => ap (head_apart hh hst pre)
  refine Fun_of_body (d := fnd 20) (n := 2) (own := [(sa, .list sts)]) (ro := [(la, .list (labs.map .bytes)), (ra, .list (rowP pos b code spot ins))]) G R ["labels", "states", "hand"] ["at", "bias", "code", "spot", "inside", "end", "gap", "steps"]
    [("labels", .ref la), ("states", .ref sa), ("hand", .int h), ("at", .any), ("bias", .any), ("code", .any), ("spot", .any), ("inside", .any), ("end", .any), ("gap", .any), ("steps", .any)] rfl ?_ ?_ rfl ?_ ((by first | decide | exact Nat.le_of_ble_eq_true rfl | exact List.forall_mem_nil _ | simp)) (by simp; exact ap) fun C k hs room hW hro => ?_
  · intro pm code doc vs h
    rcases vs with _ | ⟨a, _ | ⟨b, _ | ⟨c, _ | ⟨d, r⟩⟩⟩⟩ <;> simp at h
    rfl
  · decide +kernel
  · refine ⟨rfl, rfl, rfl, ?_⟩
    decide +kernel
  · have hha : C.A.handled = none := room.2.2.1
    have hL : (labs.map PV.bytes)[h]? = some (.bytes (labs.getD h #[])) := by simp [hh]
    have hLz : (labs.getD h #[]).size ≤ 2 ^ 20 := by
      rw [show labs.getD h #[] = labs[h] by simp [hh]]; exact hz _ (List.getElem_mem hh)
    refine WXs_cons ?_
    (((with_reducible refine' WX_assignT ?_ ?hsx222 ?hwx222); (case hsx222 => with_unfolding_all rfl); (case hwx222 => with_unfolding_all rfl)))
    walk_at "stes"
    refine item_at (l := sts) (by (first | (refine Has.own ?_; walk_at "mem"; done) | (refine Has.roAt (by assumption) ?_; walk_at "mem"; done))) (by (first | decide | lia | omega)) hr ?_
    refine WA_list k hha (ds := rowP pos b code spot ins) (by (first | (refine Has.own ?_; walk_at "mem"; done) | (refine Has.roAt (by assumption) ?_; walk_at "mem"; done))) ?_ rfl (wa_plain (xs := [(_, _), (_, _), (_, _), (_, _), (_, _)]))
    refine WA_name k (storeK (by walk_at "upd") (WA_name k (storeK (by walk_at "upd") (WA_name k (storeK (by walk_at "upd") (WA_name k (storeK (by walk_at "upd") (WA_name k (storeK (by walk_at "upd") ?_)))))))))
    show seqK _ _ _ _
    refine seqK_next (WXs_cons ?_)
    walk_at "stes"
    (first | ((with_reducible refine' WE_blt ?kx225 ?Gx225 ?hsx225 ?hfx225 ?hdx225 ?hvx225 ?hbx225 ?hnx225 ?_ ?hex225 ?hpx225); (case kx225 => assumption); (case Gx225 => assumption); (case hsx225 => assumption); (case hfx225 => decide +kernel); (case hdx225 => decide +kernel); (case hvx225 => decide +kernel); (case hbx225 => (with_reducible first | exact boot_len' | exact boot_min' | exact boot_max' | exact boot_sum' | exact boot_divmod' | exact boot_chr' | exact boot_sorted' | exact boot_isinstance' | exact boot_bytes' | exact boot_bytearray' | exact boot_list' | exact boot_str' | exact boot_memoryview')); (case hnx225 => decide +kernel); (case hex225 => with_unfolding_all rfl); (case hpx225 => with_unfolding_all rfl)) | ((with_reducible refine' WE_typ ?kx225 ?Gx225 ?hsx225 ?hfx225 ?hdx225 ?hvx225 ?hbx225 ?hnx225 ?_ ?hex225 ?hpx225); (case kx225 => assumption); (case Gx225 => assumption); (case hsx225 => assumption); (case hfx225 => decide +kernel); (case hdx225 => decide +kernel); (case hvx225 => decide +kernel); (case hbx225 => (with_reducible first | exact boot_len' | exact boot_min' | exact boot_max' | exact boot_sum' | exact boot_divmod' | exact boot_chr' | exact boot_sorted' | exact boot_isinstance' | exact boot_bytes' | exact boot_bytearray' | exact boot_list' | exact boot_str' | exact boot_memoryview')); (case hnx225 => decide +kernel); (case hex225 => with_unfolding_all rfl); (case hpx225 => with_unfolding_all rfl)))
    walk_at "stes"
    refine item_at (by (first | (refine Has.own ?_; walk_at "mem"; done) | (refine Has.roAt (by assumption) ?_; walk_at "mem"; done))) (by simp; (first | decide | lia | omega)) hL ?_
    walk_at "stes"
    refine callB_lenBytes (by (first | decide | lia | omega)) ?_
    walk_at "stes"
    refine dsplit_t (by (first | decide | lia | omega)) ?_
    walk_at "sts"
    exact retK_ret _ (List.Sublist.refl _) ⟨rfl, rfl⟩
set_option maxHeartbeats 8000000 in
theorem head_some (G : Gnd B mg mb) (R1 : FnRec B mg (fnd 1)) (R4 : FnRec B mg (fnd 4)) (R6 : FnRec B mg (fnd 6)) (R : FnRec B mg (fnd 20)) (la sa ra : Addr) (labs : List (Array UInt8)) (sts : List PV) (h : Nat) (pos : Nat) (b code spot ins : Int) (hh : h < labs.length) (hst : ∀ i, i < labs.length → ∃ r, sts[i]? = some (.ref r)) (hsl : sts.length = labs.length) (hll : labs.length ≤ 1000) (hr : sts[h]? = some (.ref ra))
    (hz : ∀ L ∈ labs, L.size ≤ 2 ^ 20) (N : Int) (rest : List UInt8) (hN : 0 ≤ N) (hx : (labs.getD h #[]).toList.drop pos = upL (numL b 0 N) ++ rest) (hins : 0 ≤ ins ∧ ins < 2 ^ 20) :
    Fun prog w B mg 3 "_law_head" [.ref la, .ref sa, .int h] ([(sa, .list sts)] ++ [(la, .list (labs.map .bytes)), (ra, .list (rowP pos b code spot ins))]) [sa] (fun d post => ∃ r', d = tri (code + (spot + N + 1) / (ins + 1), h, (spot + N + 1) % (ins + 1)) ∧
      post = [(sa, .list (sts.set h (.ref r'))), (r', .list (rowP (pos + (numL b 0 N).length) (adV N (pos == 0) (ins + 1)) (code + (spot + N + 1) / (ins + 1)) ((spot + N + 1) % (ins + 1)) (ins + 1)))]) := by
  by_cases ap : la ≠ sa ∧ ra ≠ sa
  case neg => exact Fun_vac R fun hp pre => ap (head_apart hh hst pre)
  refine Fun_of_body (d := fnd 20) (n := 2) (own := [(sa, .list sts)]) (ro := [(la, .list (labs.map .bytes)), (ra, .list (rowP pos b code spot ins))]) G R ["labels", "states", "hand"] ["at", "bias", "code", "spot", "inside", "end", "gap", "steps"]
    [("labels", .ref la), ("states", .ref sa), ("hand", .int h), ("at", .any), ("bias", .any), ("code", .any), ("spot", .any), ("inside", .any), ("end", .any), ("gap", .any), ("steps", .any)] rfl ?_ ?_ rfl ?_ ((by first | decide | exact Nat.le_of_ble_eq_true rfl | exact List.forall_mem_nil _ | simp)) (by simp; exact ap) fun C k hs room hW hro => ?_
  · intro pm code doc vs h
    rcases vs with _ | ⟨a, _ | ⟨b, _ | ⟨c, _ | ⟨d, r⟩⟩⟩⟩ <;> simp at h
    rfl
  · decide +kernel
  · refine ⟨rfl, rfl, rfl, ?_⟩
    decide +kernel
  · have hha : C.A.handled = none := room.2.2.1
    have hL : (labs.map PV.bytes)[h]? = some (.bytes (labs.getD h #[])) := by simp [hh]
    have hLz : (labs.getD h #[]).size ≤ 2 ^ 20 := by
      rw [show labs.getD h #[] = labs[h] by simp [hh]]; exact hz _ (List.getElem_mem hh)
    have hlt : pos < (labs.getD h #[]).size := by
      have := congrArg List.length hx
      have hne := List.length_pos_iff.mpr (numL_ne b 0 N)
      simp [upL] at this
      rw [← List.getD_eq_getElem?_getD] at this
      (first | decide | lia | omega)
    refine WXs_cons ?_
    (((with_reducible refine' WX_assignT ?_ ?hsx229 ?hwx229); (case hsx229 => with_unfolding_all rfl); (case hwx229 => with_unfolding_all rfl)))
    walk_at "stes"
    refine item_at (l := sts) (by (first | (refine Has.own ?_; walk_at "mem"; done) | (refine Has.roAt (by assumption) ?_; walk_at "mem"; done))) (by (first | decide | lia | omega)) hr ?_
    refine WA_list k hha (ds := rowP pos b code spot ins) (by (first | (refine Has.own ?_; walk_at "mem"; done) | (refine Has.roAt (by assumption) ?_; walk_at "mem"; done))) ?_ rfl (wa_plain (xs := [(_, _), (_, _), (_, _), (_, _), (_, _)]))
    refine WA_name k (storeK (by walk_at "upd") (WA_name k (storeK (by walk_at "upd") (WA_name k (storeK (by walk_at "upd") (WA_name k (storeK (by walk_at "upd") (WA_name k (storeK (by walk_at "upd") ?_)))))))))
    show seqK _ _ _ _
    refine seqK_next (WXs_cons ?_)
    walk_at "stes"
    (first | ((with_reducible refine' WE_blt ?kx232 ?Gx232 ?hsx232 ?hfx232 ?hdx232 ?hvx232 ?hbx232 ?hnx232 ?_ ?hex232 ?hpx232); (case kx232 => assumption); (case Gx232 => assumption); (case hsx232 => assumption); (case hfx232 => decide +kernel); (case hdx232 => decide +kernel); (case hvx232 => decide +kernel); (case hbx232 => (with_reducible first | exact boot_len' | exact boot_min' | exact boot_max' | exact boot_sum' | exact boot_divmod' | exact boot_chr' | exact boot_sorted' | exact boot_isinstance' | exact boot_bytes' | exact boot_bytearray' | exact boot_list' | exact boot_str' | exact boot_memoryview')); (case hnx232 => decide +kernel); (case hex232 => with_unfolding_all rfl); (case hpx232 => with_unfolding_all rfl)) | ((with_reducible refine' WE_typ ?kx232 ?Gx232 ?hsx232 ?hfx232 ?hdx232 ?hvx232 ?hbx232 ?hnx232 ?_ ?hex232 ?hpx232); (case kx232 => assumption); (case Gx232 => assumption); (case hsx232 => assumption); (case hfx232 => decide +kernel); (case hdx232 => decide +kernel); (case hvx232 => decide +kernel); (case hbx232 => (with_reducible first | exact boot_len' | exact boot_min' | exact boot_max' | exact boot_sum' | exact boot_divmod' | exact boot_chr' | exact boot_sorted' | exact boot_isinstance' | exact boot_bytes' | exact boot_bytearray' | exact boot_list' | exact boot_str' | exact boot_memoryview')); (case hnx232 => decide +kernel); (case hex232 => with_unfolding_all rfl); (case hpx232 => with_unfolding_all rfl)))
    walk_at "stes"
    refine item_at (by (first | (refine Has.own ?_; walk_at "mem"; done) | (refine Has.roAt (by assumption) ?_; walk_at "mem"; done))) (by simp; (first | decide | lia | omega)) hL ?_
    walk_at "stes"
    refine callB_lenBytes (by (first | decide | lia | omega)) ?_
    walk_at "stes"
    refine dsplit_f (by (first | decide | lia | omega)) ?_
    refine WXs_nil (seqK_next (WXs_cons ?_))
    (((with_reducible refine' WX_assignT ?_ ?hsx236 ?hwx236); (case hsx236 => with_unfolding_all rfl); (case hwx236 => with_unfolding_all rfl)))
    (((with_reducible refine' WE_call0 ?kx237 ?Gx237 ?hsx237 ?hfx237 ?hdx237 ?_ ?hFx237 ?hex237); (case kx237 => assumption); (case Gx237 => assumption); (case hsx237 => assumption); (case hfx237 => decide +kernel); (case hdx237 => decide +kernel); (case hex237 => with_unfolding_all rfl)))
    case hFx237 => exact ⟨_, _, _, _, _, dec_fun G R1 R6 _ pos b N rest hN hLz hx⟩
    walk_at "stes"
    refine item_at (by (first | (refine Has.own ?_; walk_at "mem"; done) | (refine Has.roAt (by assumption) ?_; walk_at "mem"; done))) (by simp; (first | decide | lia | omega)) hL ?_
    walk_at "stes"
    refine ⟨2, [], _, dec_fun G R1 R6 _ pos b N rest hN hLz hx, room, (by first | decide | exact Nat.le_of_ble_eq_true rfl | exact List.forall_mem_nil _ | simp), ?_⟩
    rintro d post ⟨rfl, rfl⟩
    dsimp only [List.nil_append]
    refine WA_tuple hha ?_ rfl (wa_plain (xs := [(_, _), (_, _)]))
    refine WA_name k (storeK (by walk_at "upd") (WA_name k (storeK (by walk_at "upd") ?_)))
    show seqK _ _ _ _
    refine seqK_next (WXs_cons ?_)
    (((with_reducible refine' WX_assignT ?_ ?hsx239 ?hwx239); (case hsx239 => with_unfolding_all rfl); (case hwx239 => with_unfolding_all rfl)))
    (first | ((with_reducible refine' WE_blt ?kx240 ?Gx240 ?hsx240 ?hfx240 ?hdx240 ?hvx240 ?hbx240 ?hnx240 ?_ ?hex240 ?hpx240); (case kx240 => assumption); (case Gx240 => assumption); (case hsx240 => assumption); (case hfx240 => decide +kernel); (case hdx240 => decide +kernel); (case hvx240 => decide +kernel); (case hbx240 => (with_reducible first | exact boot_len' | exact boot_min' | exact boot_max' | exact boot_sum' | exact boot_divmod' | exact boot_chr' | exact boot_sorted' | exact boot_isinstance' | exact boot_bytes' | exact boot_bytearray' | exact boot_list' | exact boot_str' | exact boot_memoryview')); (case hnx240 => decide +kernel); (case hex240 => with_unfolding_all rfl); (case hpx240 => with_unfolding_all rfl)) | ((with_reducible refine' WE_typ ?kx240 ?Gx240 ?hsx240 ?hfx240 ?hdx240 ?hvx240 ?hbx240 ?hnx240 ?_ ?hex240 ?hpx240); (case kx240 => assumption); (case Gx240 => assumption); (case hsx240 => assumption); (case hfx240 => decide +kernel); (case hdx240 => decide +kernel); (case hvx240 => decide +kernel); (case hbx240 => (with_reducible first | exact boot_len' | exact boot_min' | exact boot_max' | exact boot_sum' | exact boot_divmod' | exact boot_chr' | exact boot_sorted' | exact boot_isinstance' | exact boot_bytes' | exact boot_bytearray' | exact boot_list' | exact boot_str' | exact boot_memoryview')); (case hnx240 => decide +kernel); (case hex240 => with_unfolding_all rfl); (case hpx240 => with_unfolding_all rfl)))
    walk_at "stes"
    refine callB_divmod (by (first | decide | lia | omega)) (by (first | decide | lia | omega)) ?_
    refine WA_tuple hha ?_ rfl (wa_plain (xs := [(_, _), (_, _)]))
    refine WA_name k (storeK (by walk_at "upd") (WA_name k (storeK (by walk_at "upd") ?_)))
    show seqK _ _ _ _
    refine seqK_next (WXs_cons ?_)
    (((with_reducible refine' WX_setItem ?_ ?hsx243); (case hsx243 => with_unfolding_all rfl)))
    refine WE_list ?_
    walk_at "stes"
    (((with_reducible refine' WE_call0 ?kx244 ?Gx244 ?hsx244 ?hfx244 ?hdx244 ?_ ?hFx244 ?hex244); (case kx244 => assumption); (case Gx244 => assumption); (case hsx244 => assumption); (case hfx244 => decide +kernel); (case hdx244 => decide +kernel); (case hex244 => with_unfolding_all rfl)))
    case hFx244 => exact ⟨_, _, _, _, _, adapt_fun G R4 0 true 1 (by decide) (by decide)⟩
    walk_at "stes"
    have ef : (decide ((pos : Int) = 0)) = (pos == 0) := by rw [Bool.eq_iff_iff]; simp
    rw [ef]
    refine ⟨1, [], _, adapt_fun G R4 N (pos == 0) (ins + 1) hN (by (first | decide | lia | omega)), room.mono (by (first | decide | lia | omega)), (by first | decide | exact Nat.le_of_ble_eq_true rfl | exact List.forall_mem_nil _ | simp), ?_⟩
    rintro d post ⟨rfl, rfl⟩
    dsimp only [List.nil_append]
    walk_at "stes"
    refine ⟨(by first | decide | exact Nat.le_of_ble_eq_true rfl | exact List.forall_mem_nil _ | simp), newK fun r' => ?_⟩
    walk_at "stes"
    refine ⟨sts, _, .skip .here, by (first | decide | lia | omega), by (first | decide | lia | omega), by (first | decide | lia | omega), ?_⟩
    rw [Int.toNat_natCast]
    refine seqK_next (WT.perm (List.Perm.swap _ _ _) (WXs_cons ?_))
    walk_at "sts"
    refine WE_tuple ?_
    walk_at "stes"
    refine ⟨(by first | decide | exact Nat.le_of_ble_eq_true rfl | exact List.forall_mem_nil _ | simp), ?_⟩
    walk_at "sts"
    exact retK_ret _ (List.Sublist.refl _) ⟨r', rfl, rfl⟩
end
end
section
open PySem PyProof.Rows PySem.Calls
noncomputable def lst3 {α : Type} (f : Nat → α) : List α := [f 0, f 1, f 2]
theorem lt3 {h : Nat} (hh : h < 3) : h = 0 ∨ h = 1 ∨ h = 2 := by (first | decide | lia | omega)
theorem lst3_get {α : Type} (f : Nat → α) {h : Nat} (hh : h < 3) : (lst3 f)[h]? = some (f h) := by
  rcases lt3 hh with rfl | rfl | rfl <;> rfl
theorem lst3_getD {α : Type} (f : Nat → α) {h : Nat} (hh : h < 3) (d : α) : (lst3 f).getD h d = f h := by
  rcases lt3 hh with rfl | rfl | rfl <;> rfl
theorem lst3_set {α : Type} (f : Nat → α) {h : Nat} (hh : h < 3) (v : α) : (lst3 f).set h v = lst3 (fun j => if j = h then v else f j) := by
  rcases lt3 hh with rfl | rfl | rfl <;> rfl
theorem lst3_map {α β : Type} (f : Nat → α) (p : α → β) : (lst3 f).map p = lst3 (fun j => p (f j)) := rfl
theorem lst3_mem {α : Type} {f : Nat → α} {x : α} (m : x ∈ lst3 f) : ∃ h, h < 3 ∧ x = f h := by
  unfold lst3 at m
  simp only [List.mem_cons, List.not_mem_nil, or_false] at m
  rcases m with rfl | rfl | rfl
  · exact ⟨0, by (first | decide | lia | omega), rfl⟩
  · exact ⟨1, by (first | decide | lia | omega), rfl⟩
  · exact ⟨2, by (first | decide | lia | omega), rfl⟩
theorem lst3_range {α : Type} (f : Nat → α) : (List.range 3).map f = lst3 f := rfl
theorem lst3_take {α : Type} (f : Nat → α) {h : Nat} (hh : h < 3) : (lst3 f).take h = (List.range h).map f := by
  rcases lt3 hh with rfl | rfl | rfl <;> rfl
section
variable (t : Nat → List Int) (qs : Nat → List P2)
noncomputable def dsH (h : Nat) : List Int := gapL (plainN (t h)) 0 ls0 (qs h)
noncomputable def labH (h : Nat) : Array UInt8 := (upL (genL (plainN (t h)) 0 72 (dsH t qs h))).toArray
noncomputable def posH (h k : Nat) : Nat := (genL (plainN (t h)) 0 72 ((dsH t qs h).take k)).length
noncomputable def rowH (h k : Nat) : List PV := rowP (posH t qs h k) (biasL (plainN (t h)) 0 72 ((dsH t qs h).take k)) (lastP ls0 ((qs h).take k)).1 (lastP ls0 ((qs h).take k)).2 (plainN (t h) + k)
end
section
variable {prog : Program} {w : World} {B : Heap} {mg mb : Str → Option Value} {t : Nat → List Int} {qs : Nat → List P2}
theorem Fun.mono {n : Nat} {x : Str} {args : List PV} {pre : List (Addr × AObj)} {W : List Addr} {Q Q' : PV → List (Addr × AObj) → Prop} (h : Fun prog w B mg n x args pre W Q) (q : ∀ d post, Q d post → Q' d post) : Fun prog w B mg n x args pre W Q' := by
  obtain ⟨a, o, fd, hm, ho, hd, run⟩ := h
  exact ⟨a, o, fd, hm, ho, hd, fun A s vs room ht kb pre wb ia => wpAny_mono (run A s vs room ht kb pre wb ia) (fun v s' ⟨d, post, o, i, z⟩ => ⟨d, post, o, i, q d post z⟩) (fun _ _ x => x)⟩
theorem labH_size (ok : ∀ h, h < 3 → TextOk (t h)) (s : ∀ h, h < 3 → Srt (t h) (qs h)) {h : Nat} (hh : h < 3) : (labH t qs h).size ≤ 310 := by
  have h1 := genL_len (plainN (t h)) (dsH t qs h) 0 72 (gap_bounds (ok h hh) (s h hh))
  have h2 : (dsH t qs h).length = (qs h).length := gapL_len _ _ _ _
  have h3 := (s h hh).perm.length_eq
  have h4 := pairs_len_le (t h)
  have h5 := (ok h hh).2
  unfold labH upL
  simp only [List.size_toArray, List.length_map]
  (first | decide | lia | omega)
theorem posH_all (h : Nat) : posH t qs h (qs h).length = (labH t qs h).size := by
  unfold posH labH upL
  rw [List.take_of_length_le (by unfold dsH; rw [gapL_len]; exact Nat.le_refl _)]
  simp
theorem head_end (G : Gnd B mg mb) (R : FnRec B mg (fnd 20)) (ok : ∀ h, h < 3 → TextOk (t h)) (s : ∀ h, h < 3 → Srt (t h) (qs h)) (la sa : Addr) (f : Nat → Addr) {h : Nat} (hh : h < 3) :
    Fun prog w B mg 3 "_law_head" [.ref la, .ref sa, .int h] ([(sa, .list (lst3 fun j => .ref (f j)))] ++ [(la, .list ((lst3 (labH t qs)).map .bytes)), (f h, .list (rowH t qs h (qs h).length))]) [sa] (fun d post => d = .none ∧ post = [(sa, .list (lst3 fun j => .ref (f j)))]) := by
  refine head_none G R la sa (f h) (lst3 (labH t qs)) (lst3 fun j => .ref (f j)) h (posH t qs h (qs h).length) _ _ _ _ hh (fun i hi => ⟨f i, lst3_get _ hi⟩) rfl (by simp [lst3]) (lst3_get _ hh) ?_ ?_
  · intro L mL
    obtain ⟨j, hj, rfl⟩ := lst3_mem mL
    have := labH_size ok s hj
    (first | decide | lia | omega)
  · rw [lst3_getD _ hh, posH_all]
theorem head_next (G : Gnd B mg mb) (R1 : FnRec B mg (fnd 1)) (R4 : FnRec B mg (fnd 4)) (R6 : FnRec B mg (fnd 6)) (R : FnRec B mg (fnd 20)) (ok : ∀ h, h < 3 → TextOk (t h)) (s : ∀ h, h < 3 → Srt (t h) (qs h)) (la sa : Addr) (f : Nat → Addr) {h : Nat} (hh : h < 3) {k : Nat} (hk : k < (qs h).length) :
    Fun prog w B mg 3 "_law_head" [.ref la, .ref sa, .int h] ([(sa, .list (lst3 fun j => .ref (f j)))] ++ [(la, .list ((lst3 (labH t qs)).map .bytes)), (f h, .list (rowH t qs h k))]) [sa]
      (fun d post => ∃ r', d = tri (tau h ((qs h).getD k (0, 0))) ∧ post = [(sa, .list (lst3 fun j => .ref (if j = h then r' else f j))), (r', .list (rowH t qs h (k + 1)))]) := by
  have hdl : (dsH t qs h).length = (qs h).length := gapL_len _ _ _ _
  have hkd : k < (dsH t qs h).length := by (first | decide | lia | omega)
  have hbd := gap_bounds (ok h hh) (s h hh)
  have hNm : (dsH t qs h).getD k 0 ∈ dsH t qs h := by
    rw [show (dsH t qs h).getD k 0 = (dsH t qs h)[k] by simp [hkd]]; exact List.getElem_mem hkd
  have hN := hbd _ hNm
  have htake := take_getD (dsH t qs h) hkd 0
  have hg := genL_snoc (plainN (t h)) 0 72 ((dsH t qs h).take k) ((dsH t qs h).getD k 0)
  rw [← htake] at hg
  have hb := biasL_snoc (plainN (t h)) 0 72 ((dsH t qs h).take k) ((dsH t qs h).getD k 0)
  rw [← htake] at hb
  have hlt : ((dsH t qs h).take k).length = k := by simp; (first | decide | lia | omega)
  rw [hlt] at hb
  obtain ⟨r, hr, _⟩ := genL_pre (plainN (t h)) ((dsH t qs h).take (k + 1)) ((dsH t qs h).drop (k + 1)) 0 72
  rw [List.take_append_drop, hg] at hr
  have hgap : (dsH t qs h).getD k 0 = gapOf (plainN (t h) + k) (lastP ls0 ((qs h).take k)) ((qs h).getD k (0, 0)) := by
    have e1 : (dsH t qs h).take (k + 1) = gapL (plainN (t h)) 0 ls0 ((qs h).take (k + 1)) := gapL_take _ _ _ _ _
    rw [take_getD (qs h) hk (0, 0), gapL_snoc, htake] at e1
    have e2 : (dsH t qs h).take k = gapL (plainN (t h)) 0 ls0 ((qs h).take k) := gapL_take _ _ _ _ _
    rw [e2] at e1
    have e3 := List.append_cancel_left e1
    have hl' : ((qs h).take k).length = k := by simp; (first | decide | lia | omega)
    rw [hl', Nat.zero_add] at e3
    exact (List.cons.inj e3).1
  have hx := srt_at (s h hh) k hk
  have rd := gap_read (ls := lastP ls0 ((qs h).take k)) hx.1 hx.2
  rw [← hgap] at rd
  have e5 : (lastP ls0 ((qs h).take k)).2 + ((dsH t qs h).getD k 0 + 1) = (lastP ls0 ((qs h).take k)).2 + (dsH t qs h).getD k 0 + 1 := by (first | decide | lia | omega)
  rw [e5] at rd
  have hdrop : ((lst3 (labH t qs)).getD h #[]).toList.drop (posH t qs h k) = upL (numL (biasL (plainN (t h)) 0 72 ((dsH t qs h).take k)) 0 ((dsH t qs h).getD k 0)) ++ upL r := by
    rw [lst3_getD _ hh]
    unfold labH posH
    rw [hr]
    simp only [upL, List.map_append, List.append_assoc]
    rw [List.drop_append_of_le_length ((by first | decide | exact Nat.le_of_ble_eq_true rfl | exact List.forall_mem_nil _ | simp)), List.drop_of_length_le ((by first | decide | exact Nat.le_of_ble_eq_true rfl | exact List.forall_mem_nil _ | simp))]
    simp
  have hp10 : plainN (t h) ≤ 10 := Nat.le_trans (List.length_filter_le _ _) (ok h hh).2
  have hk10 : k ≤ 10 := by
    have h3 := (s h hh).perm.length_eq
    have h4 := pairs_len_le (t h)
    have h5 := (ok h hh).2
    (first | decide | lia | omega)
  have key := head_some (prog := prog) (w := w) G R1 R4 R6 R la sa (f h) (lst3 (labH t qs)) (lst3 fun j => .ref (f j)) h (posH t qs h k) (biasL (plainN (t h)) 0 72 ((dsH t qs h).take k)) (lastP ls0 ((qs h).take k)).1 (lastP ls0 ((qs h).take k)).2 (plainN (t h) + k) hh (fun i hi => ⟨f i, lst3_get _ hi⟩) rfl (by simp [lst3]) (lst3_get _ hh) ?_ ((dsH t qs h).getD k 0) (upL r) hN.1 hdrop (by (first | decide | lia | omega))
  · refine key.mono ?_
    rintro d post ⟨r', rfl, rfl⟩
    refine ⟨r', ?_, ?_⟩
    · rw [rd.1, rd.2]; rfl
    · have e0 : (posH t qs h k == 0) = (0 + k == 0) := by
        rw [Bool.eq_iff_iff]
        simp only [beq_iff_eq]
        unfold posH
        constructor
        · intro e
          have e' := List.length_eq_zero_iff.mp e
          cases k with
          | zero => rfl
          | succ k =>
            exfalso
            have : (dsH t qs h).take (k + 1) ≠ [] := by
              intro z
              rw [z] at hlt; simp at hlt
            obtain ⟨z, zs, hz'⟩ := List.exists_cons_of_ne_nil this
            rw [hz'] at e'
            simp [genL, numL_ne] at e'
        · intro e
          have : k = 0 := by (first | decide | lia | omega)
          subst this
          simp [genL]
      rw [lst3_set _ hh, rd.1, rd.2]
      have e1 : (fun j => if j = h then PV.ref r' else PV.ref (f j)) = fun j => PV.ref (if j = h then r' else f j) := by
        funext j; split <;> rfl
      rw [e1]
      congr 1
      congr 1
      congr 1
      unfold rowH
      rw [take_getD (qs h) hk (0, 0), lastP_snoc, hb, e0]
      have e2 : ((posH t qs h (k + 1) : Nat) : Int) = (posH t qs h k : Int) + ((numL (biasL (plainN (t h)) 0 72 ((dsH t qs h).take k)) 0 ((dsH t qs h).getD k 0)).length : Nat) := by
        unfold posH
        rw [hg, List.length_append]; (first | decide | lia | omega)
      rw [e2]
      have e3 : (plainN (t h) : Int) + ((0 + k : Nat) : Int) + 1 = plainN (t h) + k + 1 := by (first | decide | lia | omega)
      have e4 : (plainN (t h) : Int) + ((k + 1 : Nat) : Int) = plainN (t h) + k + 1 := by (first | decide | lia | omega)
      rw [e3, e4]
  · intro L mL
    obtain ⟨j, hj, rfl⟩ := lst3_mem mL
    have := labH_size ok s hj
    (first | decide | lia | omega)
end
end
section
open PySem PyProof.Rows PySem.Calls
theorem InL.app {α β : Type} {x : α} {d : β} {l : List (α × β)} (h : InL x d l) : ∀ r : List (α × β), InL x d (r ++ l)
  | [] => h
  | _ :: r => .skip (InL.app h r)
theorem Upd.app {α β : Type} {a : α} {x y : β} {l l' : List (α × β)} (h : Upd a x y l l') : ∀ r : List (α × β), Upd a x y (r ++ l) (r ++ l')
  | [] => h
  | _ :: r => .skip (Upd.app h r)
theorem InL.inr {α β : Type} {x : α} {d : β} {l : List (α × β)} (h : InL x d l) {r : List (α × β)} : InL x d (r ++ l) := InL.app h r
theorem Upd.inr {α β : Type} {a : α} {x y : β} {l l' : List (α × β)} (h : Upd a x y l l') {r : List (α × β)} : Upd a x y (r ++ l) (r ++ l') := Upd.app h r
local macro_rules | `(tactic| walk_at "mem") => `(tactic| with_reducible (repeat (first | exact InL.here | apply InL.skip | apply InL.inr)))
local macro_rules | `(tactic| walk_at "upd") => `(tactic| with_reducible (repeat (first | exact Upd.here | apply Upd.skip | apply Upd.inr)))
theorem CmpK_isnN {k : Bool → Prop} (h : k false) : CmpK .IsNot .none .none k := h
theorem CmpK_isnT {a : T3} {k : Bool → Prop} (h : k true) : CmpK .IsNot (tri a) .none k := h
theorem CmpK_isN {k : Bool → Prop} (h : k true) : CmpK .Is .none .none k := h
theorem CmpK_isT {a : T3} {k : Bool → Prop} (h : k false) : CmpK .Is (tri a) .none k := h
theorem swaps_scope (v : Expr) (ts : Option Expr) (l : Nat) (env : Env) : swapsWith v ts l env = swapsWith v ts l { (default : Env) with scope := env.scope } := rfl
theorem ite_succ {i j a b : Nat} (e : j ≠ i) : (if j < i + 1 then a else b) = if j < i then a else b := by
  by_cases c : j < i
  · rw [if_pos c, if_pos (by (first | decide | lia | omega))]
  · rw [if_neg c, if_neg (by (first | decide | lia | omega))]
structure JX where
  done : List T3
  hp : List T3
  g : Nat → Nat
  f : Nat → Addr
  rows : List (Addr × AObj)
noncomputable def g0 : Nat → Nat := fun _ => 0
noncomputable def goneF (t : Nat → List Int) (g : Nat → Nat) (h : Nat) : Int := (plainN (t h) : Int) + g h
theorem goneF_ups (t : Nat → List Int) (g : Nat → Nat) {h : Nat} : (fun j => if j = h then goneF t g h + 1 else goneF t g j) = goneF t (ups g h) := by
  funext j
  unfold goneF ups
  split
  · rename_i e; subst e; (first | decide | lia | omega)
  · rfl
theorem gone_sum (t : Nat → List Int) (g : Nat → Nat) : (lst3 (goneF t g)).sum = (plainN (joinT t) : Int) + ((g 0 + g 1 + g 2 : Nat) : Int) := by
  unfold lst3 goneF joinT
  rw [plainN_append, plainN_append]
  simp only [List.sum_cons, List.sum_nil]
  (first | decide | lia | omega)
theorem gone_off {t : Nat → List Int} {g : Nat → Nat} {c : Int} : ∀ h, (∀ j, j < h → plainN (t j) + g j = leN (t j) c) → ((List.range h).map (goneF t g)).sum = (off t h c : Int)
  | 0, _ => rfl
  | h + 1, e => by
    rw [List.range_succ, List.map_append, List.sum_append, gone_off h fun j hj => e j (by (first | decide | lia | omega))]
    simp only [off, goneF, List.map_cons, List.map_nil, List.sum_cons, List.sum_nil]
    have := e h (by (first | decide | lia | omega))
    (first | decide | lia | omega)
noncomputable def headsTo (qs : Nat → List P2) (i : Nat) : List T3 := (List.range i).flatMap (headH qs g0)
theorem headsTo_succ (qs : Nat → List P2) (i : Nat) : headsTo qs (i + 1) = headsTo qs i ++ headH qs g0 i := by
  unfold headsTo; rw [List.range_succ, List.flatMap_append]; simp
theorem headsTo_3 (qs : Nat → List P2) : headsTo qs 3 = cat3 (headH qs g0) := by
  unfold headsTo cat3
  simp [List.range, List.range.loop]
theorem MInv.init {qs : Nat → List P2} {hp : List T3} (h : hp.Perm (headsTo qs 3)) (m : MinAt hp) : MInv qs [] hp g0 :=
  ⟨fun _ _ => Nat.zero_le _, by unfold cat3 takenH g0; simp, .nil, fun _ m => by simp at m, headsTo_3 qs ▸ h, m⟩
section
variable {prog : Program} {w : World} {B : Heap} {mg mb : Str → Option Value} {t : Nat → List Int} {qs : Nat → List P2}
set_option maxHeartbeats 16000000 in
theorem joined_fun (G : Gnd B mg mb) (R1 : FnRec B mg (fnd 1)) (R4 : FnRec B mg (fnd 4)) (R6 : FnRec B mg (fnd 6)) (R10 : FnRec B mg (fnd 10)) (R11 : FnRec B mg (fnd 11)) (R12 : FnRec B mg (fnd 12)) (R13 : FnRec B mg (fnd 13)) (R14 : FnRec B mg (fnd 14)) (R20 : FnRec B mg (fnd 20)) (R : FnRec B mg (fnd 21))
    (ok : ∀ h, h < 3 → TextOk (t h)) (s : ∀ h, h < 3 → Srt (t h) (qs h)) (la pla : Addr) :
    Fun prog w B mg 4 "_law_joined" [.ref la, .ref pla] [(la, .list ((lst3 (labH t qs)).map .bytes)), (pla, .list ((lst3 fun h => (plainN (t h) : Int)).map .int))] []
      (fun d post => ∃ ga qJ, Srt (joinT t) qJ ∧ d = .ref ga ∧ post = [(ga, .list ((gapL (plainN (joinT t)) 0 ls0 qJ).map .int))]) := by
  refine Fun_of_body (d := fnd 21) (n := 3) (own := []) (ro := [(la, .list ((lst3 (labH t qs)).map .bytes)), (pla, .list ((lst3 fun h => (plainN (t h) : Int)).map .int))]) G R ["labels", "plains"] ["states", "gone", "heap", "hand", "head", "gaps", "last", "spot", "top", "code", "index", "gave"]
    [("labels", .ref la), ("plains", .ref pla), ("states", .any), ("gone", .any), ("heap", .any), ("hand", .any), ("head", .any), ("gaps", .any), ("last", .any), ("spot", .any), ("top", .any), ("code", .any), ("index", .any), ("gave", .any)] rfl ?_ ?_ rfl ?_ ((by first | decide | exact Nat.le_of_ble_eq_true rfl | exact List.forall_mem_nil _ | simp)) ((by first | decide | exact Nat.le_of_ble_eq_true rfl | exact List.forall_mem_nil _ | simp)) fun C k hs room hW hro => ?_
  · intro pm code doc vs h
    rcases vs with _ | ⟨a, _ | ⟨b, _ | ⟨c, r⟩⟩⟩ <;> simp at h
    rfl
  · decide +kernel
  · refine ⟨rfl, rfl, rfl, ?_⟩
    decide +kernel
  · have hha : C.A.handled = none := room.2.2.1
    have hu : C.A.units + 64 < cLine := by have := room.2.1; unfold cLine; (first | decide | lia | omega)
    have hpl : ∀ h, h < 3 → plainN (t h) ≤ 10 := fun h hh => Nat.le_trans (List.length_filter_le _ _) (ok h hh).2
    have hql : ∀ h, h < 3 → (qs h).length ≤ 10 := fun h hh => by
      have h3 := (s h hh).perm.length_eq
      have h4 := pairs_len_le (t h)
      have h5 := (ok h hh).2
      (first | decide | lia | omega)
    refine WXs_cons ?_
    refine WX_comp (X := (Nat → Addr) × List (Addr × AObj)) (cl := []) k hs (by rfl) (by decide +kernel) rfl (by decide +kernel) (by decide +kernel) (by decide +kernel) (by rw [swaps_scope, hs]; kernel_rfl) ?_ (by intro _; with_unfolding_all rfl)
    refine WI_list k hha ?_
    walk_at "stes"
    refine ⟨pla, (lst3 fun h => (plainN (t h) : Int)).map .int, rfl, by (first | (refine Has.own ?_; walk_at "mem"; done) | (refine Has.roAt (by assumption) ?_; walk_at "mem"; done)), ?_⟩
    refine ⟨fun i x sa => x.2 ++ [(sa, .list ((List.range i).map fun j => .ref (x.1 j)))], fun i x => ∀ j, j < i → (x.1 j, AObj.list (rowH t qs j 0)) ∈ x.2, (fun _ => 0, []), fun j hj => by (first | decide | lia | omega), fun sa => List.Sublist.refl _, fun sa i x hi _ => Has.roAt hro (by walk_at "mem"), ?_, ?_⟩
    · rintro C' sa i ⟨f, rows⟩ ⟨k', hA', hs', hcl', hW', hro'⟩ hi hP
      dsimp only at hP ⊢
      have hi3 : i < 3 := hi
      have hit : ((lst3 fun h => (plainN (t h) : Int)).map PV.int).getD i .any = .int (plainN (t i)) := by
        rw [lst3_map]; exact lst3_getD _ hi3 _
      rw [hit]
      show WE prog w C' _ _ _
      refine WE_list ?_
      walk_at "stes"
      refine ⟨(by first | decide | exact Nat.le_of_ble_eq_true rfl | exact List.forall_mem_nil _ | simp), newK fun r' => ?_⟩
      refine ⟨_, _, by walk_at "upd", by simp; (first | decide | lia | omega), (fun j => if j = i then r' else f j, (r', .list (rowH t qs i 0)) :: rows), ?_, ?_, _, rfl⟩
      · intro j hj
        dsimp only
        by_cases e : j = i
        · subst e; rw [if_pos rfl]; exact .head _
        · rw [if_neg e]; exact .tail _ (hP j (by (first | decide | lia | omega)))
      · have er : rowH t qs i 0 = [.int 0, .int 72, .int 128, .int (-1), .int (plainN (t i))] := by
          unfold rowH rowP posH
          simp [genL, biasL, lastP, ls0]
        rw [er, List.range_succ, List.map_append]
        have em : (List.range i).map (fun j => PV.ref (if j = i then r' else f j)) = (List.range i).map (fun j => PV.ref (f j)) :=
          List.map_congr_left fun j mj => by rw [List.mem_range] at mj; rw [if_neg (by (first | decide | lia | omega))]
        rw [em]
        simp
    · rintro sa ⟨f, rows⟩ hP
      dsimp only at hP ⊢
      rw [show ((lst3 fun h => (plainN (t h) : Int)).map PV.int).length = 3 from rfl] at hP ⊢
      rw [lst3_range]
      have pm : ∀ a b c : Addr × AObj, (a :: b :: (rows ++ [c])).Perm (rows ++ [a, b, c]) := fun a b c => List.perm_append_comm_assoc [a, b] rows [c]
      refine storeK (by walk_at "upd") (seqK_next (WXs_cons ?_))
      walk_at "stes"
      (first | ((with_reducible refine' WE_blt ?kx246 ?Gx246 ?hsx246 ?hfx246 ?hdx246 ?hvx246 ?hbx246 ?hnx246 ?_ ?hex246 ?hpx246); (case kx246 => assumption); (case Gx246 => assumption); (case hsx246 => assumption); (case hfx246 => decide +kernel); (case hdx246 => decide +kernel); (case hvx246 => decide +kernel); (case hbx246 => (with_reducible first | exact boot_len' | exact boot_min' | exact boot_max' | exact boot_sum' | exact boot_divmod' | exact boot_chr' | exact boot_sorted' | exact boot_isinstance' | exact boot_bytes' | exact boot_bytearray' | exact boot_list' | exact boot_str' | exact boot_memoryview')); (case hnx246 => decide +kernel); (case hex246 => with_unfolding_all rfl); (case hpx246 => with_unfolding_all rfl)) | ((with_reducible refine' WE_typ ?kx246 ?Gx246 ?hsx246 ?hfx246 ?hdx246 ?hvx246 ?hbx246 ?hnx246 ?_ ?hex246 ?hpx246); (case kx246 => assumption); (case Gx246 => assumption); (case hsx246 => assumption); (case hfx246 => decide +kernel); (case hdx246 => decide +kernel); (case hvx246 => decide +kernel); (case hbx246 => (with_reducible first | exact boot_len' | exact boot_min' | exact boot_max' | exact boot_sum' | exact boot_divmod' | exact boot_chr' | exact boot_sorted' | exact boot_isinstance' | exact boot_bytes' | exact boot_bytearray' | exact boot_list' | exact boot_str' | exact boot_memoryview')); (case hnx246 => decide +kernel); (case hex246 => with_unfolding_all rfl); (case hpx246 => with_unfolding_all rfl)))
      walk_at "stes"
      refine callT_list k (by (first | (refine Has.own ?_; walk_at "mem"; done) | (refine Has.roAt (by assumption) ?_; walk_at "mem"; done))) (by simp [lst3]) (newK fun na => ?_)
      have eg : (lst3 fun h => (plainN (t h) : Int)).map PV.int = (lst3 (goneF t g0)).map PV.int := by
        unfold goneF g0; simp [lst3]
      rw [eg]
      refine storeK (by walk_at "upd") (seqK_next (WXs_cons ?_))
      walk_at "stes"
      refine WE_list (WL_nil ⟨(by first | decide | exact Nat.le_of_ble_eq_true rfl | exact List.forall_mem_nil _ | simp), newK fun ha => ?_⟩)
      refine storeK (by walk_at "upd") (seqK_next (WT.perm (own' := rows ++ [(ha, .list ([].map tri)), (na, .list ((lst3 (goneF t g0)).map PV.int)), (sa, .list (lst3 fun j => .ref (f j)))]) (pm _ _ _) (WXs_cons ?_)))
      refine WX_for (X := List T3 × (Nat → Addr) × List (Addr × AObj)) ?_ (by intro _; with_unfolding_all rfl)
      refine WI_range k G hs (by decide +kernel) hha ?_ (by with_unfolding_all rfl) (by with_unfolding_all rfl)
      walk_at "stes"
      refine ⟨0, 1, 3, ⟨⟨by (first | decide | lia | omega), by (first | decide | lia | omega)⟩, rfl, rfl, by (first | decide | lia | omega)⟩, ?_⟩
      refine ⟨fun i x => ⟨[("labels", .ref la), ("plains", .ref pla), ("states", .ref sa), ("gone", .ref na), ("heap", .ref ha), ("hand", .any), ("head", .any), ("gaps", .any), ("last", .any), ("spot", .any), ("top", .any), ("code", .any), ("index", .any), ("gave", .any)], x.2.2 ++ [(ha, .list (x.1.map tri)), (na, .list ((lst3 (goneF t g0)).map PV.int)), (sa, .list (lst3 fun j => .ref (x.2.1 j)))]⟩,
        fun i x => (∀ j, j < 3 → (x.2.1 j, AObj.list (rowH t qs j (if j < i then min 1 (qs j).length else 0))) ∈ x.2.2) ∧ x.1.Perm (headsTo qs i) ∧ MinAt x.1 ∧ x.1.length ≤ i, ([], f, rows), ⟨fun j hj => by simpa using hP j hj, .refl _, fun _ m => by simp at m, (by first | decide | exact Nat.le_of_ble_eq_true rfl | exact List.forall_mem_nil _ | simp)⟩, ⟨LocLe.rfl, List.Sublist.refl _⟩, fun _ _ _ _ => trivial, ?_, ?_⟩
      · clear hP
        rintro i ⟨hp, f, rows⟩ hi ⟨hrow, hperm, hmin, hlen⟩
        dsimp only at hrow hperm hmin hlen ⊢
        have epl : (0 : Int) + (i : Int) * 1 = (i : Int) := by (first | decide | lia | omega)
        rw [epl]
        have hri := hrow i hi
        rw [if_neg (by (first | decide | lia | omega))] at hri
        refine WA_name k (storeK (by walk_at "upd") (WXs_cons ?_))
        walk_at "stes"
        (((with_reducible refine' WE_call1 ?kx250 ?Gx250 ?hsx250 ?hfx250 ?hdx250 ?_ ?hFx250 ?hex250); (case kx250 => assumption); (case Gx250 => assumption); (case hsx250 => assumption); (case hfx250 => decide +kernel); (case hdx250 => decide +kernel); (case hex250 => with_unfolding_all rfl)))
        case hFx250 => exact ⟨_, _, _, _, _, head_end (t := t) (qs := qs) G R20 ok s la sa f hi⟩
        walk_at "stes"
        by_cases hm : (qs i).length = 0
        · have fe := head_end (prog := prog) (w := w) (t := t) (qs := qs) G R20 ok s la sa f hi
          rw [hm] at fe
          refine ⟨3, _, sa, .list (lst3 fun j => .ref (f j)), _, fe, room, ?_, ?_, ?_⟩
          · intro p m
            simp only [List.cons_append, List.nil_append, List.mem_cons, List.not_mem_nil, or_false] at m
            rcases m with rfl | rfl | rfl
            · (first | (refine Has.own ?_; walk_at "mem"; done) | (refine Has.roAt (by assumption) ?_; walk_at "mem"; done))
            · (first | (refine Has.own ?_; walk_at "mem"; done) | (refine Has.roAt (by assumption) ?_; walk_at "mem"; done))
            · exact .inl (List.mem_append_left _ hri)
          · exact List.mem_append_right _ (.tail _ (.tail _ (.head _)))
          rintro d post ⟨rfl, rfl⟩
          refine ⟨_, [], _, rfl, by walk_at "upd", ?_⟩
          dsimp only [List.nil_append]
          refine storeK (by walk_at "upd") (seqK_next (WXs_cons ?_))
          walk_at "stes"
          refine CmpK_isnN (fsplit (WXs_nil (seqK_next (WXs_nil (loopK_next ⟨(hp, f, rows), ⟨fun j hj => ?_, ?_, hmin, by dsimp only; (first | decide | lia | omega)⟩, by (repeat (first | exact LocLe.nil | apply LocLe.same | apply LocLe.any)), List.Sublist.refl _⟩)))))
          · have := hrow j hj
            dsimp only
            by_cases e : j = i
            · subst e
              rw [if_pos (by (first | decide | lia | omega)), hm]
              exact hri
            · rw [ite_succ e]; exact this
          · dsimp only
            rw [headsTo_succ]
            have : headH qs g0 i = [] := by unfold headH g0; rw [List.length_eq_zero_iff.mp hm]; rfl
            rw [this, List.append_nil]; exact hperm
        · have hlt : 0 < (qs i).length := by (first | decide | lia | omega)
          refine ⟨3, _, sa, .list (lst3 fun j => .ref (f j)), _, head_next (t := t) (qs := qs) G R1 R4 R6 R20 ok s la sa f hi hlt, room, ?_, ?_, ?_⟩
          · intro p m
            simp only [List.cons_append, List.nil_append, List.mem_cons, List.not_mem_nil, or_false] at m
            rcases m with rfl | rfl | rfl
            · (first | (refine Has.own ?_; walk_at "mem"; done) | (refine Has.roAt (by assumption) ?_; walk_at "mem"; done))
            · (first | (refine Has.own ?_; walk_at "mem"; done) | (refine Has.roAt (by assumption) ?_; walk_at "mem"; done))
            · exact .inl (List.mem_append_left _ hri)
          · exact List.mem_append_right _ (.tail _ (.tail _ (.head _)))
          rintro d post ⟨r', rfl, rfl⟩
          refine ⟨_, [_], _, rfl, by walk_at "upd", ?_⟩
          dsimp only [List.nil_append, List.cons_append]
          refine storeK (by walk_at "upd") (seqK_next (WXs_cons ?_))
          walk_at "stes"
          refine CmpK_isnT (tsplit (WXs_cons ?_))
          (((with_reducible refine' WX_expr ?kx256 ?_ ?hsx256); (case kx256 => assumption); (case hsx256 => with_unfolding_all rfl)))
          (((with_reducible refine' WE_call1 ?kx257 ?Gx257 ?hsx257 ?hfx257 ?hdx257 ?_ ?hFx257 ?hex257); (case kx257 => assumption); (case Gx257 => assumption); (case hsx257 => assumption); (case hfx257 => decide +kernel); (case hdx257 => decide +kernel); (case hex257 => with_unfolding_all rfl)))
          case hFx257 => exact ⟨_, _, _, _, _, push_fun G R13 R10 0 [] (0, 0, 0) ((by first | decide | exact Nat.le_of_ble_eq_true rfl | exact List.forall_mem_nil _ | simp))⟩
          walk_at "stes"
          refine ⟨2, _, ha, .list (hp.map tri), _, push_fun G R13 R10 ha hp (tau i ((qs i).getD 0 (0, 0))) (by (first | decide | lia | omega)), room.mono (by (first | decide | lia | omega)), ?_, ?_, ?_⟩
          · intro p m
            rw [List.mem_singleton] at m; subst m; (first | (refine Has.own ?_; walk_at "mem"; done) | (refine Has.roAt (by assumption) ?_; walk_at "mem"; done))
          · exact .tail _ (List.mem_append_right _ (.head _))
          rintro d post ⟨rfl, rfl⟩
          refine ⟨_, [], _, rfl, by walk_at "upd", rfl, ?_⟩
          dsimp only [List.nil_append]
          have pk := push_ok (x := tau i ((qs i).getD 0 (0, 0))) (by (first | decide | lia | omega) : hp.length ≤ 2) hmin
          refine seqK_next (WXs_nil (seqK_next (WXs_nil (loopK_next ⟨(_, fun j => if j = i then r' else f j, (r', .list (rowH t qs i 1)) :: rows), ⟨fun j hj => ?_, ?_, pk.2, ?_⟩, by (repeat (first | exact LocLe.nil | apply LocLe.same | apply LocLe.any)), List.Sublist.refl _⟩))))
          · dsimp only
            by_cases e : j = i
            · subst e
              rw [if_pos rfl, if_pos (by (first | decide | lia | omega)), show min 1 (qs j).length = 0 + 1 by (first | decide | lia | omega)]
              exact .head _
            · rw [if_neg e, ite_succ e]; exact .tail _ (hrow j hj)
          · dsimp only
            rw [headsTo_succ]
            have : headH qs g0 i = [tau i ((qs i).getD 0 (0, 0))] := by
              unfold headH g0; rw [drop_cons_getD _ hlt]; rfl
            rw [this]
            exact pk.1.trans ((List.Perm.cons _ hperm).trans (List.perm_append_singleton _ _).symm)
          · dsimp only
            rw [pk.1.length_eq]; simp; (first | decide | lia | omega)
      · clear hP
        rintro ⟨hp, f, rows⟩ ⟨hrow, hperm, hmin, hlen⟩
        dsimp only at hrow hperm hmin hlen ⊢
        have mi0 := MInv.init hperm hmin
        refine seqK_next (WXs_cons ?_)
        walk_at "stes"
        refine WE_list (WL_nil ⟨(by first | decide | exact Nat.le_of_ble_eq_true rfl | exact List.forall_mem_nil _ | simp), newK fun pa => ?_⟩)
        refine storeK (by walk_at "upd") (seqK_next (WT.perm List.perm_middle.symm (WXs_cons ?_)))
        refine WX_assignT ?_ (by with_unfolding_all rfl) (by rw [swapped_scope, hs]; kernel_rfl)
        refine WE_tuple ?_
        walk_at "stes"
        refine ⟨(by first | decide | exact Nat.le_of_ble_eq_true rfl | exact List.forall_mem_nil _ | simp), ?_⟩
        refine WA_tuple hha ?_ rfl (wa_plain (xs := [(_, _), (_, _)]))
        refine WA_name k (storeK (by walk_at "upd") (WA_name k (storeK (by walk_at "upd") ?_)))
        show seqK _ _ _ _
        refine seqK_next (WXs_cons ?_)
        refine WX_while (X := JX) (fun x => ⟨[("labels", .ref la), ("plains", .ref pla), ("states", .ref sa), ("gone", .ref na), ("heap", .ref ha), ("hand", .any), ("head", .any), ("gaps", .ref pa), ("last", .int (lastP ls0 (x.done.map (psi t))).1), ("spot", .int (lastP ls0 (x.done.map (psi t))).2), ("top", .any), ("code", .any), ("index", .any), ("gave", .any)], x.rows ++ [(pa, .list ((gapL (plainN (joinT t)) 0 ls0 (x.done.map (psi t))).map .int)), (ha, .list (x.hp.map tri)), (na, .list ((lst3 (goneF t x.g)).map PV.int)), (sa, .list (lst3 fun j => .ref (x.f j)))]⟩)
          (fun x => MInv qs x.done x.hp x.g ∧ ∀ j, j < 3 → (x.f j, AObj.list (rowH t qs j (min (x.g j + 1) (qs j).length))) ∈ x.rows) (fun x => 30 - x.done.length) ⟨[], hp, g0, f, rows⟩ ⟨mi0, fun j hj => by simpa [g0, hj] using hrow j hj⟩ ⟨LocLe.rfl, List.Sublist.refl _⟩ ?_
        clear hrow hperm hmin hlen mi0
        clear hp f rows
        rintro ⟨done, hp, g, f, rows⟩ ⟨mi, hrow⟩
        dsimp only at mi hrow ⊢
        have hl3 := mi.len
        have hdl := done_len mi
        have hg0 := mi.gle 0 (by (first | decide | lia | omega))
        have hg1 := mi.gle 1 (by (first | decide | lia | omega))
        have hg2 := mi.gle 2 (by (first | decide | lia | omega))
        have hq0 := hql 0 (by (first | decide | lia | omega))
        have hq1 := hql 1 (by (first | decide | lia | omega))
        have hq2 := hql 2 (by (first | decide | lia | omega))
        refine WB_lne k hu ?_ (by with_unfolding_all rfl)
        walk_at "stes"
        refine WE_list (WL_nil ⟨(by first | decide | exact Nat.le_of_ble_eq_true rfl | exact List.forall_mem_nil _ | simp), newK fun e0 => ?_⟩)
        refine ⟨ha, e0, hp, rfl, rfl, by (first | (refine Has.own ?_; walk_at "mem"; done) | (refine Has.roAt (by assumption) ?_; walk_at "mem"; done)), by (first | (refine Has.own ?_; walk_at "mem"; done) | (refine Has.roAt (by assumption) ?_; walk_at "mem"; done)), ?_⟩
        refine dsplit (fun hne => ?_) (fun hne => ?_)
        · obtain ⟨h, hh, hlt, hx, hr, hd⟩ := mi.top (fun j hj => (s j hj).asc) hne
          have hsum := gone_sum t g
          have hidx : ((List.range h).map (goneF t g)).sum = (off t h ((qs h).getD (g h) (0, 0)).1 : Int) := by
            refine gone_off h ?_
            have mp : (qs h).getD (g h) (0, 0) ∈ qs h := by
              rw [show (qs h).getD (g h) (0, 0) = (qs h)[g h] by simp [hlt]]; exact List.getElem_mem hlt
            have hc := srt_mem (ok h hh) (s h hh) mp
            refine gone_at (x := tau h ((qs h).getD (g h) (0, 0))) s mi rfl (by simp only [tau]; (first | decide | lia | omega)) (by rw [← hx]; exact hd) ?_ hh
            intro j hj y my
            rw [← hx]
            refine hr j (by (first | decide | lia | omega)) y ?_
            unfold ups
            rw [if_neg (by (first | decide | lia | omega))]; exact my
          have hstep := fun {hp' : List T3} (h1 : hp'.Perm _) h2 => mi.step hne hh hlt hx hr hd (hp' := hp') h1 h2
          have hpsn : plainN (joinT t) ≤ 30 := by
            unfold joinT
            rw [plainN_append, plainN_append]
            have := hpl 0 (by (first | decide | lia | omega))
            have := hpl 1 (by (first | decide | lia | omega))
            have := hpl 2 (by (first | decide | lia | omega))
            (first | decide | lia | omega)
          have hri := hrow h hh
          rw [show min (g h + 1) (qs h).length = g h + 1 by (first | decide | lia | omega)] at hri
          have hgl : (gapL (plainN (joinT t)) 0 ls0 (done.map (psi t))).length = done.length := by rw [gapL_len, List.length_map]
          have hsn := gapL_snoc (plainN (joinT t)) (done.map (psi t)) 0 ls0 (psi t (g3 hp 0))
          have hls := lastP_snoc ls0 (psi t (g3 hp 0)) (done.map (psi t))
          rw [hx] at hstep hsn hls
          have hpsi : psi t (tau h ((qs h).getD (g h) (0, 0))) = (((qs h).getD (g h) (0, 0)).1, (off t h ((qs h).getD (g h) (0, 0)).1 : Int) + ((qs h).getD (g h) (0, 0)).2) := by
            simp [psi, tau]
          rw [hpsi] at hsn hls
          have hx' := hx
          generalize hp0 : (qs h).getD (g h) (0, 0) = p at hidx hsn hls hstep hx' hpsi
          rw [hp0] at hx
          obtain ⟨pc, pi⟩ := p
          have tail : ∀ (dh : PV) (hp' : List T3) (f' : Nat → Addr) (rows' : List (Addr × AObj)) (K : PFlow → St → Prop), dh.known = true →
              (∀ j o, K .next ⟨[("labels", .ref la), ("plains", .ref pla), ("states", .ref sa), ("gone", .ref na), ("heap", .ref ha), ("hand", .int h), ("head", dh), ("gaps", .ref pa), ("last", .int pc), ("spot", .int (pi + off t h pc)), ("top", tri (tau h (pc, pi))), ("code", .int pc), ("index", .int (pi + off t h pc)), ("gave", tri (tau h (pc, pi)))], (j, o) :: (rows' ++ [(pa, .list ((gapL (plainN (joinT t)) 0 ls0 ((done ++ [tau h (pc, pi)]).map (psi t))).map .int)), (ha, .list (hp'.map tri)), (na, .list ((lst3 (goneF t (ups g h))).map PV.int)), (sa, .list (lst3 fun j => .ref (f' j)))])⟩) →
              WXs prog w C (loopBody (fnd 21) 6 4) ⟨[("labels", .ref la), ("plains", .ref pla), ("states", .ref sa), ("gone", .ref na), ("heap", .ref ha), ("hand", .int h), ("head", dh), ("gaps", .ref pa), ("last", .int (lastP ls0 (done.map (psi t))).1), ("spot", .int (lastP ls0 (done.map (psi t))).2), ("top", tri (tau h (pc, pi))), ("code", .int pc), ("index", .int pi), ("gave", tri (tau h (pc, pi)))], rows' ++ [(pa, .list ((gapL (plainN (joinT t)) 0 ls0 (done.map (psi t))).map .int)), (ha, .list (hp'.map tri)), (na, .list ((lst3 (goneF t g)).map PV.int)), (sa, .list (lst3 fun j => .ref (f' j)))]⟩ K := by
            intro dh hp' f' rows' K hkn hK
            refine WXs_cons (WX_if (WB_tne hu ?_ (by with_unfolding_all rfl)))
            walk_at "stes"
            refine ⟨_, _, rfl, rfl, ?_⟩
            refine dsplit_f ((by first | decide | exact Nat.le_of_ble_eq_true rfl | exact List.forall_mem_nil _ | simp)) (WXs_nil (seqK_next (WXs_cons ?_)))
            walk_at "stes"
            (first | ((with_reducible refine' WE_blt ?kx262 ?Gx262 ?hsx262 ?hfx262 ?hdx262 ?hvx262 ?hbx262 ?hnx262 ?_ ?hex262 ?hpx262); (case kx262 => assumption); (case Gx262 => assumption); (case hsx262 => assumption); (case hfx262 => decide +kernel); (case hdx262 => decide +kernel); (case hvx262 => decide +kernel); (case hbx262 => (with_reducible first | exact boot_len' | exact boot_min' | exact boot_max' | exact boot_sum' | exact boot_divmod' | exact boot_chr' | exact boot_sorted' | exact boot_isinstance' | exact boot_bytes' | exact boot_bytearray' | exact boot_list' | exact boot_str' | exact boot_memoryview')); (case hnx262 => decide +kernel); (case hex262 => with_unfolding_all rfl); (case hpx262 => with_unfolding_all rfl)) | ((with_reducible refine' WE_typ ?kx262 ?Gx262 ?hsx262 ?hfx262 ?hdx262 ?hvx262 ?hbx262 ?hnx262 ?_ ?hex262 ?hpx262); (case kx262 => assumption); (case Gx262 => assumption); (case hsx262 => assumption); (case hfx262 => decide +kernel); (case hdx262 => decide +kernel); (case hvx262 => decide +kernel); (case hbx262 => (with_reducible first | exact boot_len' | exact boot_min' | exact boot_max' | exact boot_sum' | exact boot_divmod' | exact boot_chr' | exact boot_sorted' | exact boot_isinstance' | exact boot_bytes' | exact boot_bytearray' | exact boot_list' | exact boot_str' | exact boot_memoryview')); (case hnx262 => decide +kernel); (case hex262 => with_unfolding_all rfl); (case hpx262 => with_unfolding_all rfl)))
            walk_at "stes"
            (((with_reducible refine' WE_slice ?kx265 ?_); (case kx265 => assumption)))
            walk_at "stes"
            refine WP_none (WP_some ?_)
            walk_at "stes"
            refine ⟨by show (0 : Int) ≤ _; (first | decide | lia | omega), (lst3 (goneF t g)).map PV.int, by (first | (refine Has.own ?_; walk_at "mem"; done) | (refine Has.roAt (by assumption) ?_; walk_at "mem"; done)), by simp [lst3], newK fun ja => ?_⟩
            have esl : sl none (some (h : Int)) ((lst3 (goneF t g)).map PV.int) = ((List.range h).map (goneF t g)).map .int := by
              show ((lst3 (goneF t g)).map PV.int).take (h : Int).toNat = _
              rw [Int.toNat_natCast, ← List.map_take, lst3_take _ hh]
            have hgb : ∀ j, j < 3 → 0 ≤ goneF t g j ∧ goneF t g j ≤ 2 ^ 30 := by
              intro j hj
              have := hpl j hj
              have := mi.gle j hj
              have := hql j hj
              unfold goneF
              (first | decide | lia | omega)
            rw [esl]
            walk_at "stes"
            refine callB_sum k hha (by (first | (refine Has.own ?_; walk_at "mem"; done) | (refine Has.roAt (by assumption) ?_; walk_at "mem"; done))) (by simp; (first | decide | lia | omega)) ?_ ?_
            · intro n mn
              obtain ⟨j, mj, rfl⟩ := List.mem_map.mp mn
              rw [List.mem_range] at mj
              exact hgb j (by (first | decide | lia | omega))
            rw [hidx]
            walk_at "stes"
            refine seqK_next (WXs_cons ?_)
            (((with_reducible refine' WX_expr ?kx268 ?_ ?hsx268); (case kx268 => assumption); (case hsx268 => with_unfolding_all rfl)))
            (((with_reducible refine' WE_meth "list.append" ?_ ?hbx269 ?hlx269 ?hfx269 ?hex269 ?hpx269); (case hbx269 => with_unfolding_all rfl); (case hlx269 => with_unfolding_all rfl); (case hfx269 => with_unfolding_all rfl); (case hex269 => with_unfolding_all rfl); (case hpx269 => with_unfolding_all rfl)))
            walk_at "stes"
            refine ⟨meth_list k (by (first | (refine Has.own ?_; walk_at "mem"; done) | (refine Has.roAt (by assumption) ?_; walk_at "mem"; done))) F.slot_list_append F.type_list_append, ?_⟩
            walk_at "stes"
            (first | ((with_reducible refine' WE_blt ?kx271 ?Gx271 ?hsx271 ?hfx271 ?hdx271 ?hvx271 ?hbx271 ?hnx271 ?_ ?hex271 ?hpx271); (case kx271 => assumption); (case Gx271 => assumption); (case hsx271 => assumption); (case hfx271 => decide +kernel); (case hdx271 => decide +kernel); (case hvx271 => decide +kernel); (case hbx271 => (with_reducible first | exact boot_len' | exact boot_min' | exact boot_max' | exact boot_sum' | exact boot_divmod' | exact boot_chr' | exact boot_sorted' | exact boot_isinstance' | exact boot_bytes' | exact boot_bytearray' | exact boot_list' | exact boot_str' | exact boot_memoryview')); (case hnx271 => decide +kernel); (case hex271 => with_unfolding_all rfl); (case hpx271 => with_unfolding_all rfl)) | ((with_reducible refine' WE_typ ?kx271 ?Gx271 ?hsx271 ?hfx271 ?hdx271 ?hvx271 ?hbx271 ?hnx271 ?_ ?hex271 ?hpx271); (case kx271 => assumption); (case Gx271 => assumption); (case hsx271 => assumption); (case hfx271 => decide +kernel); (case hdx271 => decide +kernel); (case hvx271 => decide +kernel); (case hbx271 => (with_reducible first | exact boot_len' | exact boot_min' | exact boot_max' | exact boot_sum' | exact boot_divmod' | exact boot_chr' | exact boot_sorted' | exact boot_isinstance' | exact boot_bytes' | exact boot_bytearray' | exact boot_list' | exact boot_str' | exact boot_memoryview')); (case hnx271 => decide +kernel); (case hex271 => with_unfolding_all rfl); (case hpx271 => with_unfolding_all rfl)))
            walk_at "stes"
            refine callB_sum k hha (ns := lst3 (goneF t g)) (by (first | (refine Has.own ?_; walk_at "mem"; done) | (refine Has.roAt (by assumption) ?_; walk_at "mem"; done))) (by simp [lst3]) ?_ ?_
            · intro n mn
              obtain ⟨j, hj, rfl⟩ := lst3_mem mn
              exact hgb j hj
            rw [hsum]
            walk_at "stes"
            refine callB_append (by walk_at "upd") (by simp [hgl]; (first | decide | lia | omega)) ⟨rfl, ?_⟩
            refine seqK_next (WXs_cons (WX_augItem k ?_))
            walk_at "stes"
            refine item_at (l := (lst3 (goneF t g)).map PV.int) (by (first | (refine Has.own ?_; walk_at "mem"; done) | (refine Has.roAt (by assumption) ?_; walk_at "mem"; done))) (by simp [lst3]) (lst3_get (fun j => PV.int (goneF t g j)) hh) ⟨_, rfl, ?_⟩
            walk_at "stes"
            refine ⟨(lst3 (goneF t g)).map PV.int, _, by walk_at "upd", by simp [lst3], by (first | decide | lia | omega), by simp [lst3]; (first | decide | lia | omega), ?_⟩
            have eset : ((lst3 (goneF t g)).map PV.int).set (h : Int).toNat (.int (goneF t g h + 1)) = (lst3 (goneF t (ups g h))).map PV.int := by
              rw [Int.toNat_natCast, ← List.map_set, lst3_set _ hh, goneF_ups]
            rw [eset]
            refine seqK_next (WXs_cons ?_)
            refine WX_assignS (x := "last") (y := "spot") k hha ?_ (by rw [swapped_scope, hs]; kernel_rfl) (by with_unfolding_all rfl)
            refine WE_tuple ?_
            walk_at "stes"
            refine ⟨(by first | decide | exact Nat.le_of_ble_eq_true rfl | exact List.forall_mem_nil _ | simp), _, _, rfl, ?_⟩
            refine storeK (by walk_at "upd") (storeK (by walk_at "upd") (seqK_next (WXs_nil ?_)))
            have egap : (gapL (plainN (joinT t)) 0 ls0 (done.map (psi t))).map PV.int ++ [PV.int ((pc - (lastP ls0 (done.map (psi t))).1) * ((plainN (joinT t) : Int) + ((g 0 + g 1 + g 2 : Nat) : Int) + 1) + (pi + (off t h pc : Int)) - (lastP ls0 (done.map (psi t))).2 - 1)] = (gapL (plainN (joinT t)) 0 ls0 ((done ++ [tau h (pc, pi)]).map (psi t))).map .int := by
              rw [List.map_append, List.map_cons, List.map_nil, hpsi, hsn, List.map_append, List.length_map, hdl, Nat.zero_add]
              unfold gapOf
              simp only [List.map_cons, List.map_nil]
              rw [Int.add_comm pi]
            have hk1 := hK ja (.list (((List.range h).map (goneF t g)).map .int))
            rw [← egap] at hk1
            exact hk1
          refine WXs_cons ?_
          walk_at "stes"
          refine item_tri (ts := hp) (by (first | (refine Has.own ?_; walk_at "mem"; done) | (refine Has.roAt (by assumption) ?_; walk_at "mem"; done))) (by (first | decide | lia | omega)) (by (first | decide | lia | omega)) (by have := List.length_pos_iff.mpr hne; (first | decide | lia | omega)) ?_
          simp only [Int.toNat_zero]
          rw [hx]
          refine storeK (by walk_at "upd") (seqK_next (WXs_cons ?_))
          (((with_reducible refine' WX_assignT ?_ ?hsx277 ?hwx277); (case hsx277 => with_unfolding_all rfl); (case hwx277 => with_unfolding_all rfl)))
          walk_at "stes"
          show WA prog w C _ (.tup [.int pc, .int h, .int pi]) _ _
          refine WA_tuple hha ?_ rfl (wa_plain (xs := [(_, _), (_, _), (_, _)]))
          refine WA_name k (storeK (by walk_at "upd") (WA_name k (storeK (by walk_at "upd") (WA_name k (storeK (by walk_at "upd") ?_)))))
          show seqK _ _ _ _
          refine seqK_next (WXs_cons ?_)
          walk_at "stes"
          (((with_reducible refine' WE_call1 ?kx278 ?Gx278 ?hsx278 ?hfx278 ?hdx278 ?_ ?hFx278 ?hex278); (case kx278 => assumption); (case Gx278 => assumption); (case hsx278 => assumption); (case hfx278 => decide +kernel); (case hdx278 => decide +kernel); (case hex278 => with_unfolding_all rfl)))
          case hFx278 => exact ⟨_, _, _, _, _, head_end (t := t) (qs := qs) G R20 ok s la sa f hh⟩
          walk_at "stes"
          have eu : ups g h h = g h + 1 := by unfold ups; rw [if_pos rfl]
          have eo : ∀ j, j ≠ h → ups g h j = g j := fun j e => by unfold ups; rw [if_neg e]
          have fin : ∀ {hp' : List T3}, MInv qs (done ++ [tau h (pc, pi)]) hp' (ups g h) → 30 - (done ++ [tau h (pc, pi)]).length < 30 - done.length := by
            intro hp' mi'
            have h1 := done_len mi'
            have := mi'.gle 0 (by (first | decide | lia | omega))
            have := mi'.gle 1 (by (first | decide | lia | omega))
            have := mi'.gle 2 (by (first | decide | lia | omega))
            have h2 : (done ++ [tau h (pc, pi)]).length = done.length + 1 := by simp
            (first | decide | lia | omega)
          have hlsd : lastP ls0 ((done ++ [tau h (pc, pi)]).map (psi t)) = (pc, pi + (off t h pc : Int)) := by
            rw [List.map_append, List.map_cons, List.map_nil, hpsi, hls, Int.add_comm]
          by_cases hlast : g h + 1 = (qs h).length
          · have fe := head_end (prog := prog) (w := w) (t := t) (qs := qs) G R20 ok s la sa f hh
            rw [← hlast] at fe
            refine ⟨3, _, sa, .list (lst3 fun j => .ref (f j)), _, fe, room, ?_, ?_, ?_⟩
            · intro p m
              simp only [List.cons_append, List.nil_append, List.mem_cons, List.not_mem_nil, or_false] at m
              rcases m with rfl | rfl | rfl
              · (first | (refine Has.own ?_; walk_at "mem"; done) | (refine Has.roAt (by assumption) ?_; walk_at "mem"; done))
              · (first | (refine Has.own ?_; walk_at "mem"; done) | (refine Has.roAt (by assumption) ?_; walk_at "mem"; done))
              · exact .inl (.tail _ (List.mem_append_left _ hri))
            · exact .tail _ (List.mem_append_right _ (.tail _ (.tail _ (.tail _ (.head _)))))
            rintro d post ⟨rfl, rfl⟩
            refine ⟨_, [], _, rfl, by walk_at "upd", ?_⟩
            dsimp only [List.nil_append]
            refine storeK (by walk_at "upd") (seqK_next (WXs_cons ?_))
            walk_at "stes"
            refine CmpK_isN (tsplit ?_)
            (((with_reducible refine' WE_call1 ?kx281 ?Gx281 ?hsx281 ?hfx281 ?hdx281 ?_ ?hFx281 ?hex281); (case kx281 => assumption); (case Gx281 => assumption); (case hsx281 => assumption); (case hfx281 => decide +kernel); (case hdx281 => decide +kernel); (case hex281 => with_unfolding_all rfl)))
            case hFx281 => exact ⟨_, _, _, _, _, pop_fun G R13 R14 R11 0 [] (0, 0, 0) ((by first | decide | exact Nat.le_of_ble_eq_true rfl | exact List.forall_mem_nil _ | simp))⟩
            walk_at "stes"
            obtain ⟨us, lt, ehp⟩ : ∃ us lt, hp = us ++ [lt] := ⟨hp.dropLast, hp.getLast hne, (List.dropLast_concat_getLast hne).symm⟩
            have hul : us.length ≤ 3 := by rw [ehp] at hl3; simp at hl3; (first | decide | lia | omega)
            have fp := pop_fun (prog := prog) (w := w) G R13 R14 R11 ha us lt (by (first | decide | lia | omega))
            rw [← ehp, hx] at fp
            have pk := pop_ok (x := lt) hul
            rw [← ehp] at pk
            have mi' := hstep (hp' := if us = [] then [] else sup (us.set 0 lt)) (by
              rw [List.drop_of_length_le (by (first | decide | lia | omega))]; exact pk.1) pk.2
            refine ⟨3, _, ha, .list (hp.map tri), _, fp, room, ?_, ?_, ?_⟩
            · intro p m
              rw [List.mem_singleton] at m; subst m; (first | (refine Has.own ?_; walk_at "mem"; done) | (refine Has.roAt (by assumption) ?_; walk_at "mem"; done))
            · exact .tail _ (List.mem_append_right _ (.tail _ (.head _)))
            rintro d post ⟨rfl, rfl⟩
            refine ⟨_, [], _, rfl, by walk_at "upd", ?_⟩
            dsimp only [List.nil_append]
            refine storeK (by walk_at "upd") (seqK_next (tail .none (if us = [] then [] else sup (us.set 0 lt)) f ((e0, .list []) :: rows) _ rfl fun j o => ?_))
            refine loopK_next ⟨⟨done ++ [tau h (pc, pi)], if us = [] then [] else sup (us.set 0 lt), ups g h, f, (j, o) :: (e0, .list []) :: rows⟩, fin mi', ⟨mi', ?_⟩, ?_, List.Sublist.refl _⟩
            · intro i hi
              dsimp only
              refine .tail _ (.tail _ ?_)
              by_cases e : i = h
              · subst e
                rw [eu, show min (g i + 1 + 1) (qs i).length = g i + 1 by (first | decide | lia | omega)]; exact hri
              · rw [eo i e]; exact hrow i hi
            · dsimp only
              rw [hlsd]
              (repeat (first | exact LocLe.nil | apply LocLe.same | apply LocLe.any))
          · have hlt2 : g h + 1 < (qs h).length := by (first | decide | lia | omega)
            refine ⟨3, _, sa, .list (lst3 fun j => .ref (f j)), _, head_next (t := t) (qs := qs) G R1 R4 R6 R20 ok s la sa f hh hlt2, room, ?_, ?_, ?_⟩
            · intro p m
              simp only [List.cons_append, List.nil_append, List.mem_cons, List.not_mem_nil, or_false] at m
              rcases m with rfl | rfl | rfl
              · (first | (refine Has.own ?_; walk_at "mem"; done) | (refine Has.roAt (by assumption) ?_; walk_at "mem"; done))
              · (first | (refine Has.own ?_; walk_at "mem"; done) | (refine Has.roAt (by assumption) ?_; walk_at "mem"; done))
              · exact .inl (.tail _ (List.mem_append_left _ hri))
            · exact .tail _ (List.mem_append_right _ (.tail _ (.tail _ (.tail _ (.head _)))))
            rintro d post ⟨r', rfl, rfl⟩
            refine ⟨_, [_], _, rfl, by walk_at "upd", ?_⟩
            dsimp only [List.nil_append, List.cons_append]
            refine storeK (by walk_at "upd") (seqK_next (WXs_cons ?_))
            walk_at "stes"
            refine CmpK_isT (fsplit ?_)
            (((with_reducible refine' WE_call1 ?kx286 ?Gx286 ?hsx286 ?hfx286 ?hdx286 ?_ ?hFx286 ?hex286); (case kx286 => assumption); (case Gx286 => assumption); (case hsx286 => assumption); (case hfx286 => decide +kernel); (case hdx286 => decide +kernel); (case hex286 => with_unfolding_all rfl)))
            case hFx286 => exact ⟨_, _, _, _, _, repl_fun G R13 R14 R12 0 [(0, 0, 0)] (0, 0, 0) ((by first | decide | exact Nat.le_of_ble_eq_true rfl | exact List.forall_mem_nil _ | simp)) ((by first | decide | exact Nat.le_of_ble_eq_true rfl | exact List.forall_mem_nil _ | simp))⟩
            walk_at "stes"
            have fp := repl_fun (prog := prog) (w := w) G R13 R14 R12 ha hp (tau h ((qs h).getD (g h + 1) (0, 0))) hne (by (first | decide | lia | omega))
            rw [hx] at fp
            have pk := repl_ok (x := tau h ((qs h).getD (g h + 1) (0, 0))) hl3 hne
            have mi' := hstep (hp' := sup (hp.set 0 (tau h ((qs h).getD (g h + 1) (0, 0))))) (by
              rw [drop_cons_getD _ hlt2]; exact pk.1) pk.2
            refine ⟨3, _, ha, .list (hp.map tri), _, fp, room, ?_, ?_, ?_⟩
            · intro p m
              rw [List.mem_singleton] at m; subst m; (first | (refine Has.own ?_; walk_at "mem"; done) | (refine Has.roAt (by assumption) ?_; walk_at "mem"; done))
            · exact .tail _ (.tail _ (List.mem_append_right _ (.tail _ (.head _))))
            rintro d post ⟨rfl, rfl⟩
            refine ⟨_, [], _, rfl, by walk_at "upd", ?_⟩
            dsimp only [List.nil_append]
            refine storeK (by walk_at "upd") (seqK_next (tail (tri (tau h ((qs h).getD (g h + 1) (0, 0)))) (sup (hp.set 0 (tau h ((qs h).getD (g h + 1) (0, 0))))) (fun j => if j = h then r' else f j) ((r', .list (rowH t qs h (g h + 1 + 1))) :: (e0, .list []) :: rows) _ rfl fun j o => ?_))
            refine loopK_next ⟨⟨done ++ [tau h (pc, pi)], sup (hp.set 0 (tau h ((qs h).getD (g h + 1) (0, 0)))), ups g h, fun j => if j = h then r' else f j, (j, o) :: (r', .list (rowH t qs h (g h + 1 + 1))) :: (e0, .list []) :: rows⟩, fin mi', ⟨mi', ?_⟩, ?_, List.Sublist.refl _⟩
            · intro i hi
              dsimp only
              by_cases e : i = h
              · subst e
                rw [if_pos rfl, eu, show min (g i + 1 + 1) (qs i).length = g i + 1 + 1 by (first | decide | lia | omega)]; exact .tail _ (.head _)
              · rw [if_neg e, eo i e]; exact .tail _ (.tail _ (.tail _ (hrow i hi)))
            · dsimp only
              rw [hlsd]
              (repeat (first | exact LocLe.nil | apply LocLe.same | apply LocLe.any))
        · have hnil : hp = [] := by simpa using hne
          rw [hnil] at mi
          walk_at "sts"
          refine retK_ret [(pa, _)] (List.singleton_sublist.mpr (.tail _ (List.mem_append_right _ (.head _)))) ⟨pa, done.map (psi t), joined_srt s mi, rfl, rfl⟩
end
end
section
open PySem PyProof.Rows PySem.Calls
/-! octets -/
theorem byteArr_up {l : List Int} : byteArr (l.map (octOf 65)) = (upL l).toArray := by
  unfold byteArr upL
  rw [List.map_map]
  rfl
theorem low_97 : ∀ v : Fin 36, (octOf 97 ((v : Nat) : Int)).toNat.toUInt8 = lowOf ((v : Nat) : Int) := by decide +kernel
theorem byteArr_low {l : List Int} (h : ∀ v ∈ l, 0 ≤ v ∧ v < 36) : byteArr (l.map (octOf 97)) = (lowL l).toArray := by
  unfold byteArr lowL
  rw [List.map_map]
  congr 1
  refine List.map_congr_left fun v mv => ?_
  have hv := h v mv
  have := low_97 ⟨v.toNat, by (first | decide | lia | omega)⟩
  simp only at this
  rw [show ((v.toNat : Nat) : Int) = v by (first | decide | lia | omega)] at this
  exact this
theorem glued_ones (l : List Nat) : Txt.join (PySem.Str.ofString "") (l.map fun c => ⟨#[c]⟩) = ⟨l.toArray⟩ := by
  have e0 : (PySem.Str.ofString "").cps = #[] := by decide +kernel
  have hf : ∀ (l : List Nat) (a : Array Nat), (l.map (fun c => (⟨#[c]⟩ : Str))).foldl (fun acc p => acc ++ (PySem.Str.ofString "").cps ++ p.cps) a = a ++ l.toArray := by
    intro l
    induction l with
    | nil => intro a; simp
    | cons c l ih =>
      intro a
      rw [List.map_cons, List.foldl_cons, ih, e0]
      simp
  show Builtin.Str.glued _ _ = _
  unfold Builtin.Str.glued
  cases l with
  | nil => rfl
  | cons c l =>
    simp only [List.map_cons, List.drop_succ_cons, List.drop_zero, List.headD_cons]
    rw [hf]
    simp
/-! the texts -/
theorem kindV_range (x : Int) : 0 ≤ kindV x ∧ kindV x ≤ 1114111 := by
  unfold kindV
  split
  · (first | decide | lia | omega)
  · split
    · (first | decide | lia | omega)
    · split <;> (first | decide | lia | omega)
noncomputable def TOk (p : List Int × List Int × List Int) (m : Nat) : Prop := (∀ c ∈ p.1 ++ p.2.1 ++ p.2.2, 0 ≤ c ∧ c ≤ 1114111) ∧ p.1.length + p.2.1.length + p.2.2.length ≤ m
theorem addX_ok {p : List Int × List Int × List Int} {m : Nat} (h : TOk p m) (x : Int) : TOk (addX p x) (m + 1) := by
  obtain ⟨h1, h2⟩ := h
  have hk := kindV_range x
  have hc : ∀ c, c ∈ p.1 ∨ c ∈ p.2.1 ∨ c ∈ p.2.2 → 0 ≤ c ∧ c ≤ 1114111 := fun c m => h1 c (by simp only [List.mem_append]; rcases m with m | m | m <;> simp [m])
  unfold addX
  split
  · refine ⟨fun c mc => ?_, by simp; (first | decide | lia | omega)⟩
    simp only [List.mem_append, List.mem_singleton] at mc
    rcases mc with ((mc | mc) | mc) | mc
    · exact hc c (.inl mc)
    · subst mc; exact hk
    · exact hc c (.inr (.inl mc))
    · exact hc c (.inr (.inr mc))
  · split
    · refine ⟨fun c mc => ?_, by simp; (first | decide | lia | omega)⟩
      simp only [List.mem_append, List.mem_singleton] at mc
      rcases mc with (mc | (mc | mc)) | mc
      · exact hc c (.inl mc)
      · exact hc c (.inr (.inl mc))
      · subst mc; exact hk
      · exact hc c (.inr (.inr mc))
    · refine ⟨fun c mc => ?_, by simp; (first | decide | lia | omega)⟩
      simp only [List.mem_append, List.mem_singleton] at mc
      rcases mc with (mc | mc) | (mc | mc)
      · exact hc c (.inl mc)
      · exact hc c (.inr (.inl mc))
      · exact hc c (.inr (.inr mc))
      · subst mc; exact hk
theorem texts_ok (ns : List Int) : TOk (textsOf ns) 10 := by
  have : ∀ (l : List Int) (p : List Int × List Int × List Int) (m : Nat), TOk p m → TOk (l.foldl addX p) (m + l.length) := by
    intro l
    induction l with
    | nil => intro p m h; simpa using h
    | cons x l ih =>
      intro p m h
      have := ih _ _ (addX_ok h x)
      rw [List.foldl_cons, List.length_cons]
      rwa [show m + 1 + l.length = m + (l.length + 1) by (first | decide | lia | omega)] at this
  have h := this (xsOf ns) ([], [], []) 0 ⟨fun c m => by simp at m, (by first | decide | exact Nat.le_of_ble_eq_true rfl | exact List.forall_mem_nil _ | simp)⟩
  have hx : (xsOf ns).length ≤ 10 := by unfold xsOf; simp; (first | decide | lia | omega)
  exact ⟨h.1, by have := h.2; unfold textsOf; (first | decide | lia | omega)⟩
/-- the three texts as one function -/
noncomputable def texF (p : List Int × List Int × List Int) (h : Nat) : List Int := if h = 0 then p.1 else if h = 1 then p.2.1 else p.2.2
theorem texF_ok {p : List Int × List Int × List Int} (o : TOk p 10) : (∀ h, h < 3 → TextOk (texF p h)) ∧ TextOk (joinT (texF p)) := by
  have hj : joinT (texF p) = p.1 ++ p.2.1 ++ p.2.2 := rfl
  refine ⟨fun h hh => ?_, ?_⟩
  · rcases lt3 hh with rfl | rfl | rfl
    · exact ⟨fun c m => o.1 c (by simp only [List.mem_append]; exact .inl (.inl m)), by have := o.2; show p.1.length ≤ 10; (first | decide | lia | omega)⟩
    · exact ⟨fun c m => o.1 c (by simp only [List.mem_append]; exact .inl (.inr m)), by have := o.2; show p.2.1.length ≤ 10; (first | decide | lia | omega)⟩
    · exact ⟨fun c m => o.1 c (by simp only [List.mem_append]; exact .inr m), by have := o.2; show p.2.2.length ≤ 10; (first | decide | lia | omega)⟩
  · rw [hj]
    exact ⟨o.1, by have := o.2; simp only [List.length_append]; (first | decide | lia | omega)⟩
section
variable {prog : Program} {w : World} {B : Heap} {mg mb : Str → Option Value} {C : Cx} {S : St} {sc : Scope}
/-- the first statement: no token is asked -/
theorem exec0 {x f y : Str} {c : Addr} {p1 p2 p3 p4 p5 : Pos} {rest : List Stmt} {K : PFlow → St → Prop} {d : PV} {n : Nat} {pre : List (Addr × AObj)} {Q : PV → List (Addr × AObj) → Prop} (k : CxOk B C) (G : Gnd B mg mb) (hs : C.env.scope = sc) (hk : C.env.kindOf x = some .cell) (hc : C.env.cells.lookup x = some c)
    (hf : sc.names.lookup f = some .globalImplicit) (hd : (f == ("__debug__" : Str)) = false) (hy : InL y d S.loc) (hyk : d.known = true) (F0 : Fun0 prog w B mg n f [d] pre Q) (room : Room n C.A) (hp : ∀ p ∈ pre, Has C S p.1 p.2)
    (h : ∀ d post, Q d post → CellK c d { S with own := post ++ S.own } fun S' => KXs prog w C rest S' K)
    (hsw : swapsWith (.Call (.Name f p2) [.Name y p3] [] p4) (some (.Name x p1)) p5.line C.env = pure false)
    (s : Shared) (rl : Rel C S s.heap) : wpK (model prog w) C.A (execs (.Assign [.Name x p1] (.Call (.Name f p2) [.Name y p3] [] p4) p5 :: rest) C.env) (fun v s' => Ans C S s FlowIs K v s') s := by
  obtain ⟨a, o, fd, hm, ho, hdat, run⟩ := F0
  refine wpK_execs_cons (.of (wpAny_Assign_Name ?_ hsw))
  refine Call_ (fn_name k G hs rl hf hd hm ?_) (by rfl)
  refine callWith_def hdat ?_ (by rfl)
  refine args_cons ?_ (by rfl)
  have m := hy.mem
  obtain ⟨m', nn, ff⟩ := rl.loc
  obtain ⟨v, hv, i⟩ := (ff _ m).resolve_left (fun e => by cases e; cases hyk)
  refine wpAny_Name (wpAny_loadName_local k.kind (rl.kinds _ m).1 nn hv ?_) (rl.kinds _ m).2
  refine args_nil ⟨rl.keepB k _ _ ho, ?_⟩
  refine wpAny_mono (run C.A s [v] room (rl.keepB k) (fun p m => rl.has k (hp p m)) (.cons i .nil)) (fun v s₂ ⟨ht, d, post, ou, i, q⟩ => ?_) (fun _ _ x => x)
  obtain ⟨d₀, own', u, kk⟩ := h d post q
  have p1 := Post.call0 rl ou
  refine wpAny_mono (wpAny_toks (cell_store (Q := fun _ s₃ => Post C { S with own := post ++ S.own } s₂ s₃ ⟨S.loc, own'⟩) (E := fun _ _ => False) k hk hc p1.rel i u fun s₃ p₃ => p₃)) (fun _ s₃ ⟨hle, p₃⟩ => ?_) (fun _ _ x => x.2)
  exact KT.run kk p₃.rel (by (first | decide | lia | omega)) fun f s' dd S' ht' p i q => ⟨dd, S', (p1.trans p₃).trans p, i, q⟩
end
/-- a contract without token premise, in the own logic -/
noncomputable def FunK0 (prog : Program) (w : World) (B : Heap) (mg : Str → Option Value) (n : Nat) (x : Str) (args : List PV) (pre : List (Addr × AObj)) (Q : PV → List (Addr × AObj) → Prop) : Prop :=
  ∃ a o fd, mg x = some (.ref a) ∧ B.get? a = some o ∧ o.data = .func fd ∧
    ∀ (A : Around) (s : Shared) (vs : List Value), Room n A → (∀ b o, B.get? b = some o → s.heap.get? b = some o) → (∀ p ∈ pre, ObjIs s.heap p.1 p.2) → IsAll s.heap args vs →
      wpK (model prog w) A (call (.ref a) vs) (FOut s [] Q) s
theorem FunK0_of_bodyC {prog : Program} {w : World} {B : Heap} {mg mb : Str → Option Value} {n : Nat} {d : DefRec} {z x y : Str} {arg : PV} {ro : List (Addr × AObj)} {Q : PV → List (Addr × AObj) → Prop}
    (G : Gnd B mg mb) (R : FnRec B mg d) (others : List Str) (loc : List (Str × PV)) (hloc : loc = (z, arg) :: others.map (·, .any))
    (hbind : ∀ pm code doc v, bindArgs (docDef d.name d.params d.body d.scope pm code doc) ⟨[v], []⟩ = pure [(z, v)])
    (hok : locOk d.scope (z :: others) = true) (hcs : ∀ L, cellsFrom L d.scope.names [] = [(y, L + 1), (x, L)]) (hxy : x ≠ y) (hzx : z ≠ x ∧ z ≠ y)
    (hsc : d.scope.isCoroutine = false ∧ d.scope.isGenerator = false ∧ d.scope.kind = .function)
    (h : ∀ (C : Cx) (c₁ c₂ : Addr), CxOk B C → C.env.scope = d.scope → Room n C.A → C.W = [] → C.ro = ro → C.env.cells = [(y, c₂), (x, c₁)] →
      ∀ s, Rel C ⟨loc, [(c₁, .cell none), (c₂, .cell none)]⟩ s.heap → wpK (model prog w) C.A (execs d.body C.env) (fun f s' => Ans C ⟨loc, [(c₁, .cell none), (c₂, .cell none)]⟩ s FlowIs (retK [] Q) f s') s) :
    FunK0 prog w B mg (n + 1) d.name [arg] ro Q := by
  obtain ⟨a, o, pm, code, doc, hm, ho, hd, hc⟩ := R
  subst hloc
  refine ⟨a, o, _, hm, ho, hd, fun A s vs room kb pre ia => ?_⟩
  have lk := locOk_kind hok
  cases ia with
  | cons iv r =>
  cases r
  rename_i v
  have ex : (x == y) = false := by simpa using hxy
  have lkx : ∀ L, (cellsFrom L d.scope.names []).lookup x = some L := fun L => by rw [hcs]; simp [List.lookup, ex]
  have lky : ∀ L, (cellsFrom L d.scope.names []).lookup y = some (L + 1) := fun L => by rw [hcs]; simp [List.lookup]
  have hkz : d.scope.names.lookup z = some .local := (lk.1 z (.head _)).1
  refine wpK_call (codeK_call_function (fd := docDef d.name d.params d.body d.scope pm code doc) (body := d.body) (by have := room.1; unfold recursionLimit; (first | decide | lia | omega)) (kb _ _ ho) hd hsc.1 hsc.2.1 rfl (hc.keeps kb) ?_)
  rw [hbind pm code doc v]
  refine wpAny_pure (wpAny_newFunctionEnv_cells hsc.2.2 ?_ fun env he s' X => ?_)
  · intro u hu
    rw [List.mem_singleton] at hu; subst hu
    exact .inl hkz
  subst he
  refine ⟨(G.lim.keeps kb).keeps X.toInCall.keep, codeK_func ?_⟩
  obtain ⟨h₁, tk, rfl, _⟩ := X.done
  let env : Env := envOfC d.name d.scope s.heap.objs.size a code
  let C : Cx := ⟨A.deeper env, env, s.heap, [], ro⟩
  have hL : s.heap.get? s.heap.objs.size = none := size_none _
  have ok : CxOk B C := ⟨kb, by simp [C], hL, hsc.2.2, rfl, rfl, fun p m => ⟨pre p m, by simp [C]⟩⟩
  have keep := X.toInCall.keep
  have M : Mono s.heap h₁ := Mono.keep keep
  have keys : (((z, arg) :: others.map (·, PV.any)).map Prod.fst) = z :: others := by
    rw [List.map_cons, List.map_map]
    congr 1
    exact List.map_id _
  have c1 : h₁.IsCell (s.heap.objs.size + 1) (bindC (envOfC d.name d.scope s.heap.objs.size a code).kindOf [(z, v)] (fun _ => none) x) := X.cell x _ (lkx _)
  have c2 : h₁.IsCell (s.heap.objs.size + 1 + 1) (bindC (envOfC d.name d.scope s.heap.objs.size a code).kindOf [(z, v)] (fun _ => none) y) := X.cell y _ (lky _)
  have hkz' : env.kindOf z = some .local := hkz
  have e1 : bindC (envOfC d.name d.scope s.heap.objs.size a code).kindOf [(z, v)] (fun _ => none) x = none := by
    show bindC env.kindOf [(z, v)] (fun _ => none) x = none
    unfold bindC bindC
    simp [hkz']
  have e2 : bindC (envOfC d.name d.scope s.heap.objs.size a code).kindOf [(z, v)] (fun _ => none) y = none := by
    show bindC env.kindOf [(z, v)] (fun _ => none) y = none
    unfold bindC bindC
    simp [hkz']
  have e3 : bindL (envOfC d.name d.scope s.heap.objs.size a code).kindOf [(z, v)] (fun _ => none) z = some v := by
    show bindL env.kindOf [(z, v)] (fun _ => none) z = some v
    unfold bindL bindL
    simp [hkz']
  rw [e1] at c1; rw [e2] at c2
  have n1 : s.heap.get? (s.heap.objs.size + 1) = none := Heap.get?_none_of_le (Nat.le_succ _)
  have n2 : s.heap.get? (s.heap.objs.size + 1 + 1) = none := Heap.get?_none_of_le (Nat.le_trans (Nat.le_succ _) (Nat.le_succ _))
  have rel : Rel C ⟨(z, arg) :: others.map (·, .any), [(s.heap.objs.size + 1, .cell none), (s.heap.objs.size + 1 + 1, .cell none)]⟩ h₁ := {
    keep := fun b o e _ => keep b o e
    loc := ⟨_, X.toInCall.ns, fun p m => by
      rcases List.mem_cons.mp m with rfl | m
      · exact .inr ⟨v, e3, iv.mono M⟩
      · obtain ⟨x, _, e⟩ := List.mem_map.mp m
        exact .inl (by rw [← e])⟩
    kinds := fun p m => by
      refine lk.1 p.1 ?_
      rw [← keys]; exact List.mem_map_of_mem m
    lnd := by show (List.map Prod.fst _).Nodup; rw [keys]; exact lk.2
    own := fun p m => by
      rcases List.mem_cons.mp m with rfl | m
      · exact c1
      · rw [List.mem_singleton] at m; subst m; exact c2
    nd := by
      have : ¬ ((s.heap.objs.size + 1 : Nat) = s.heap.objs.size + 1 + 1) := by (first | decide | lia | omega)
      simpa using this
    apart := fun p m => by
      rcases List.mem_cons.mp m with rfl | m
      · exact .inr n1
      · rw [List.mem_singleton] at m; subst m; exact .inr n2
    wtup := by simp [C]
    wlive := by simp [C] }
  have run := h C _ _ ok rfl ⟨by show A.depth + 1 + n ≤ 900; have := room.1; (first | decide | lia | omega), by show A.units + 3 + 40 * n ≤ 9000; have := room.2.1; (first | decide | lia | omega), room.2.2⟩ rfl rfl (hcs _) { s with heap := h₁, toks := tk } rel
  have fin : ∀ (v : Value) (s' : Shared) (dd : PV) (S' : St), Post C ⟨(z, arg) :: others.map (·, .any), [(s.heap.objs.size + 1, .cell none), (s.heap.objs.size + 1 + 1, .cell none)]⟩ { s with heap := h₁, toks := tk } s' S' → Is s'.heap dd v → (∃ post, post.Sublist S'.own ∧ Q dd post) →
      FOut s [] Q v s' := by
    rintro v s' dd S' p i ⟨post, sub, q⟩
    exact ⟨dd, post, ⟨p.gens, p.os, fun b o e m => p.rel.keep b o e m, fun x m => p.rel.own x (sub.subset m), (sub.map Prod.fst).nodup p.rel.nd, fun x m => p.rel.apart x (sub.subset m)⟩, i, q⟩
  refine wpK_mono run fun f s' ⟨dd, S', p, i, q⟩ => ?_
  cases dd <;> cases f <;> first | exact i.elim | exact q.elim | skip
  · exact ⟨_, rfl, fin .none s' .none S' p .none q⟩
  · exact ⟨_, rfl, fin _ s' _ S' p i q⟩
end
section
open PySem PyProof.Rows PySem.Calls
section
variable {prog : Program} {w : World} {B : Heap} {mg mb : Str → Option Value}
set_option maxHeartbeats 16000000 in
theorem law_fun (G : Gnd B mg mb) (Rs : ∀ i ∈ [1, 3, 4, 5, 6, 7, 8, 10, 11, 12, 13, 14, 16, 17, 18, 19, 20, 21, 22], FnRec B mg (fnd i)) (HD : ∃ t, mg "digits" = some (.bytes digs t)) (l : Addr) (ns : List Int) (hl : ns.length ≤ 63) :
    FunK0 prog w B mg 5 "law" [.ref l] [(l, .list (ns.map .int0))] (fun d post => d = .bool true) := by
  have R1 := Rs 1 (by decide)
  have R3 := Rs 3 (by decide)
  have R4 := Rs 4 (by decide)
  have R5 := Rs 5 (by decide)
  have R6 := Rs 6 (by decide)
  have R7 := Rs 7 (by decide)
  have R8 := Rs 8 (by decide)
  have R10 := Rs 10 (by decide)
  have R11 := Rs 11 (by decide)
  have R12 := Rs 12 (by decide)
  have R13 := Rs 13 (by decide)
  have R14 := Rs 14 (by decide)
  have R16 := Rs 16 (by decide)
  have R17 := Rs 17 (by decide)
  have R18 := Rs 18 (by decide)
  have R19 := Rs 19 (by decide)
  have R20 := Rs 20 (by decide)
  have R21 := Rs 21 (by decide)
  have R := Rs 22 (by decide)
  refine FunK0_of_bodyC (d := fnd 22) (n := 4) (z := "script") (x := "texts") (y := "plains") (arg := .ref l) (ro := [(l, .list (ns.map .int0))]) G R ["labels", "joined", "due", "written", "ahead", "label"]
    [("script", .ref l), ("labels", .any), ("joined", .any), ("due", .any), ("written", .any), ("ahead", .any), ("label", .any)] rfl ?_ ?_ ?_ ?_ ?_ ⟨rfl, rfl, rfl⟩ fun C c₁ c₂ k hs room hW hro hcells s rl => ?_
  · intro pm code doc v
    rfl
  · decide +kernel
  · intro L; rfl
  · decide +kernel
  · exact ⟨by decide +kernel, by decide +kernel⟩
  · have hha : C.A.handled = none := room.2.2.1
    have hu : C.A.units + 64 < cLine := by have := room.2.1; unfold cLine; (first | decide | lia | omega)
    have kt : C.env.kindOf "texts" = some .cell := by unfold Env.kindOf; rw [hs]; decide +kernel
    have kp : C.env.kindOf "plains" = some .cell := by unfold Env.kindOf; rw [hs]; decide +kernel
    have ct : C.env.cells.lookup ("texts" : Str) = some c₁ := by rw [hcells]; rfl
    have cp : C.env.cells.lookup ("plains" : Str) = some c₂ := by rw [hcells]; rfl
    have dt : (("texts" : Str) == ("__debug__" : Str)) = false := by decide +kernel
    have dp : (("plains" : Str) == ("__debug__" : Str)) = false := by decide +kernel
    refine exec0 k G hs kt ct (by decide +kernel) (by decide +kernel) (by walk_at "mem") rfl (texts_fun G R16 l ns hl) (room.mono (by (first | decide | lia | omega))) ?_ ?_ (by with_unfolding_all rfl) s rl
    · intro p m
      rw [List.mem_singleton] at m; subst m; exact Has.roAt hro InL.here
    rintro d post ⟨t, a0, a1, a2, rfl, rfl⟩
    dsimp only [List.cons_append, List.nil_append]
    refine cellK (by walk_at "upd") ?_
    have o := texts_ok ns
    generalize textsOf ns = T at o ⊢
    obtain ⟨ra, e0, e1, e2⟩ : ∃ ra : Nat → Addr, ra 0 = a0 ∧ ra 1 = a1 ∧ ra 2 = a2 := ⟨fun h => if h = 0 then a0 else if h = 1 then a1 else a2, rfl, rfl, rfl⟩
    subst e0 e1 e2
    obtain ⟨ok, okJ⟩ := texF_ok o
    show KXs prog w C _ ⟨_, [(t, .list (lst3 fun h => .ref (ra h))), (ra 2, .list ((texF T 2).map .int)), (ra 1, .list ((texF T 1).map .int)), (ra 0, .list ((texF T 0).map .int)), (c₁, .cell (some (.ref t))), (c₂, .cell none)]⟩ _
    generalize texF T = tt at ok okJ ⊢
    have hpl : ∀ h, h < 3 → plainN (tt h) ≤ 10 := fun h hh => Nat.le_trans (List.length_filter_le _ _) (ok h hh).2
    have hasT : ∀ {C : Cx} {S : St} {i : Nat}, i < 3 → InL (ra 2) (AObj.list ((tt 2).map .int)) S.own → InL (ra 1) (AObj.list ((tt 1).map .int)) S.own → InL (ra 0) (AObj.list ((tt 0).map .int)) S.own → Has C S (ra i) (.list ((tt i).map .int)) := by
      intro C S i hi h2 h1 h0
      rcases lt3 hi with rfl | rfl | rfl
      · exact Has.own h0
      · exact Has.own h1
      · exact Has.own h2
    refine KXs_cons (KT.of ?_)
    refine WX_assignC k kp cp ?_ (by rw [swaps_scope, hs]; kernel_rfl)
    refine WE_comp (X := Unit) (cl := []) k hs (by rfl) (by decide +kernel) rfl (by decide +kernel) (by decide +kernel) (by decide +kernel) ?_ (by intro _; with_unfolding_all rfl)
    refine WI_list k hha ?_
    refine WE_cell k kt ct dt (by (first | (refine Has.own ?_; walk_at "mem"; done) | (refine Has.roAt (by assumption) ?_; walk_at "mem"; done))) ?_
    refine ⟨t, lst3 fun h => .ref (ra h), rfl, by (first | (refine Has.own ?_; walk_at "mem"; done) | (refine Has.roAt (by assumption) ?_; walk_at "mem"; done)), ?_⟩
    refine ⟨fun i _ pa => [(pa, .list ((List.range i).map fun h => .int (plainN (tt h)))), (t, .list (lst3 fun h => .ref (ra h))), (ra 2, .list ((tt 2).map .int)), (ra 1, .list ((tt 1).map .int)), (ra 0, .list ((tt 0).map .int)), (c₁, .cell (some (.ref t))), (c₂, .cell none)], fun _ _ => True, (), trivial, fun pa => List.Sublist.refl _, fun _ _ _ _ _ => by (first | (refine Has.own ?_; walk_at "mem"; done) | (refine Has.roAt (by assumption) ?_; walk_at "mem"; done)), ?_, ?_⟩
    · rintro C' pa i _ ⟨k', hA', hs', hcl', hW', hro'⟩ hi _
      have hi3 : i < 3 := hi
      have hit : (lst3 fun h => PV.ref (ra h)).getD i .any = .ref (ra i) := lst3_getD _ hi3 _
      have hha' : C'.A.handled = none := by rw [hA']; exact hha
      dsimp only
      rw [hit]
      show WE prog w C' _ _ _
      (first | ((with_reducible refine' WE_blt ?kx292 ?Gx292 ?hsx292 ?hfx292 ?hdx292 ?hvx292 ?hbx292 ?hnx292 ?_ ?hex292 ?hpx292); (case kx292 => assumption); (case Gx292 => assumption); (case hsx292 => assumption); (case hfx292 => decide +kernel); (case hdx292 => decide +kernel); (case hvx292 => decide +kernel); (case hbx292 => (with_reducible first | exact boot_len' | exact boot_min' | exact boot_max' | exact boot_sum' | exact boot_divmod' | exact boot_chr' | exact boot_sorted' | exact boot_isinstance' | exact boot_bytes' | exact boot_bytearray' | exact boot_list' | exact boot_str' | exact boot_memoryview')); (case hnx292 => decide +kernel); (case hex292 => with_unfolding_all rfl); (case hpx292 => with_unfolding_all rfl)) | ((with_reducible refine' WE_typ ?kx292 ?Gx292 ?hsx292 ?hfx292 ?hdx292 ?hvx292 ?hbx292 ?hnx292 ?_ ?hex292 ?hpx292); (case kx292 => assumption); (case Gx292 => assumption); (case hsx292 => assumption); (case hfx292 => decide +kernel); (case hdx292 => decide +kernel); (case hvx292 => decide +kernel); (case hbx292 => (with_reducible first | exact boot_len' | exact boot_min' | exact boot_max' | exact boot_sum' | exact boot_divmod' | exact boot_chr' | exact boot_sorted' | exact boot_isinstance' | exact boot_bytes' | exact boot_bytearray' | exact boot_list' | exact boot_str' | exact boot_memoryview')); (case hnx292 => decide +kernel); (case hex292 => with_unfolding_all rfl); (case hpx292 => with_unfolding_all rfl)))
      walk_at "ste"
      refine WE_comp (X := Unit) (cl := []) k' hs' (by rfl) (by decide +kernel) rfl (by decide +kernel) (by decide +kernel) (by decide +kernel) ?_ (by intro _; with_unfolding_all rfl)
      refine WI_list k' hha' ?_
      walk_at "stes"
      refine ⟨ra i, (tt i).map .int, rfl, hasT hi3 (by walk_at "mem") (by walk_at "mem") (by walk_at "mem"), ?_⟩
      refine ⟨fun j _ qa => [(qa, .list ((((tt i).take j).filter (fun c => decide (c < 128))).map .int)), (pa, .list ((List.range i).map fun h => .int (plainN (tt h)))), (t, .list (lst3 fun h => .ref (ra h))), (ra 2, .list ((tt 2).map .int)), (ra 1, .list ((tt 1).map .int)), (ra 0, .list ((tt 0).map .int)), (c₁, .cell (some (.ref t))), (c₂, .cell none)], fun _ _ => True, (), trivial, fun qa => List.Sublist.refl _, fun _ _ _ _ _ => hasT hi3 (by walk_at "mem") (by walk_at "mem") (by walk_at "mem"), ?_, ?_⟩
      · rintro C2 qa j _ ⟨k2, hA2, hs2, hcl2, hW2, hro2⟩ hj _
        rw [List.length_map] at hj
        dsimp only
        rw [map_getD PV.int (tt i) hj .any 0]
        have htk := take_getD (tt i) hj 0
        have hlj : (((tt i).take j).filter (fun c => decide (c < 128))).length ≤ 10 := by
          refine Nat.le_trans (List.length_filter_le _ _) ?_
          have := (ok i hi3).2
          simp; (first | decide | lia | omega)
        generalize (tt i).getD j 0 = cc at htk
        show WB prog w C2 _ _ _
        walk_at "stes"
        refine dsplit (fun h' => ?_) (fun h' => ?_)
        · walk_at "stes"
          refine ⟨_, _, by walk_at "upd", by simpa using (by (first | decide | lia | omega)), (), trivial, ?_, _, rfl⟩
          rw [htk, List.filter_append, show [cc].filter (fun c => decide (c < 128)) = [cc] by simp [h']]
          simp only [List.map_append, List.map_cons, List.map_nil]
          exact List.Sublist.refl _
        · refine ⟨(), trivial, ?_, _, rfl⟩
          rw [htk, List.filter_append, show [cc].filter (fun c => decide (c < 128)) = [] by simp; (first | decide | lia | omega), List.append_nil]
          exact List.Sublist.refl _
      · intro qa _ _
        dsimp only
        rw [List.length_map, List.take_length]
        walk_at "stes"
        refine callB_lenList k' (l := ((tt i).filter (fun c => decide (c < 128))).map .int) (by (first | (refine Has.own ?_; walk_at "mem"; done) | (refine Has.roAt (by assumption) ?_; walk_at "mem"; done))) ?_ ?_
        · rw [List.length_map]
          have := hpl i hi3
          unfold plainN at this
          (first | decide | lia | omega)
        rw [List.length_map]
        refine ⟨_, _, by walk_at "upd", by simp; (first | decide | lia | omega), (), trivial, ?_, _, rfl⟩
        rw [List.range_succ, List.map_append]
        exact List.sublist_cons_self _ _
    · intro pa _ _
      dsimp only
      rw [show (lst3 fun h => PV.ref (ra h)).length = 3 from rfl, lst3_range]
      refine cellK (by walk_at "upd") (seqK_next (KXs_cons (KT.of ?_)))
      refine WX_comp (X := Nat → List P2) (cl := [("texts", c₁), ("plains", c₂)]) k hs ?_ (by decide +kernel) rfl (by decide +kernel) (by decide +kernel) (by decide +kernel) (by rw [swaps_scope, hs]; kernel_rfl) ?_ (by intro _; with_unfolding_all rfl)
      · unfold closureFor cellOf
        rw [hcells]
        rfl
      refine WI_range k G hs (by decide +kernel) hha ?_ (by with_unfolding_all rfl) (by with_unfolding_all rfl)
      walk_at "stes"
      refine ⟨0, 1, 3, ⟨⟨by (first | decide | lia | omega), by (first | decide | lia | omega)⟩, rfl, rfl, by (first | decide | lia | omega)⟩, ?_⟩
      refine ⟨fun i q ya => [(ya, .list ((List.range i).map fun h => .bytes (labH tt q h))), (pa, .list (lst3 fun h => .int (plainN (tt h)))), (t, .list (lst3 fun h => .ref (ra h))), (ra 2, .list ((tt 2).map .int)), (ra 1, .list ((tt 1).map .int)), (ra 0, .list ((tt 0).map .int)), (c₁, .cell (some (.ref t))), (c₂, .cell (some (.ref pa)))], fun i q => ∀ h, h < i → Srt (tt h) (q h), fun _ => [], fun h hh => by (first | decide | lia | omega), fun ya => List.Sublist.refl _, fun _ _ _ _ _ => trivial, ?_, ?_⟩
      · rintro C' ya i q ⟨k', hA', hs', hcl', hW', hro'⟩ hi hq
        have hi3 : i < 3 := hi
        have epl : (0 : Int) + (i : Int) * 1 = (i : Int) := by (first | decide | lia | omega)
        dsimp only
        rw [epl]
        have room' : Room 4 C'.A := by rw [hA']; exact room
        have kt' : C'.env.kindOf "texts" = some .cell := by unfold Env.kindOf; rw [hs']; decide +kernel
        have kp' : C'.env.kindOf "plains" = some .cell := by unfold Env.kindOf; rw [hs']; decide +kernel
        have ct' : C'.env.cells.lookup ("texts" : Str) = some c₁ := by rw [hcl']; rfl
        have cp' : C'.env.cells.lookup ("plains" : Str) = some c₂ := by rw [hcl']; rfl
        show WE prog w C' _ _ _
        (((with_reducible refine' WE_call0 ?kx296 ?Gx296 ?hsx296 ?hfx296 ?hdx296 ?_ ?hFx296 ?hex296); (case kx296 => assumption); (case Gx296 => assumption); (case hsx296 => assumption); (case hfx296 => decide +kernel); (case hdx296 => decide +kernel); (case hex296 => with_unfolding_all rfl)))
        case hFx296 => exact ⟨_, _, _, _, _, oct_fun G R18 R19 0 [] 0 65 (.int 0) (.inl rfl) (.inl rfl) (by decide) ((by first | decide | exact Nat.le_of_ble_eq_true rfl | exact List.forall_mem_nil _ | simp)) ((by first | decide | exact Nat.le_of_ble_eq_true rfl | exact List.forall_mem_nil _ | simp)) (by simp [genL])⟩
        walk_at "ste"
        (((with_reducible refine' WE_call0 ?kx297 ?Gx297 ?hsx297 ?hfx297 ?hdx297 ?_ ?hFx297 ?hex297); (case kx297 => assumption); (case Gx297 => assumption); (case hsx297 => assumption); (case hfx297 => decide +kernel); (case hdx297 => decide +kernel); (case hex297 => with_unfolding_all rfl)))
        case hFx297 => exact ⟨_, _, _, _, _, gaps_fun G R17 0 [] ((by first | decide | exact Nat.le_of_ble_eq_true rfl | exact List.forall_mem_nil _ | simp)) ((by first | decide | exact Nat.le_of_ble_eq_true rfl | exact List.forall_mem_nil _ | simp))⟩
        walk_at "ste"
        walk_at "ste"
        refine WE_cell k' kt' ct' dt (by (first | (refine Has.own ?_; walk_at "mem"; done) | (refine Has.roAt (by assumption) ?_; walk_at "mem"; done))) ?_
        walk_at "stes"
        refine item_at (l := lst3 fun h => .ref (ra h)) (by (first | (refine Has.own ?_; walk_at "mem"; done) | (refine Has.roAt (by assumption) ?_; walk_at "mem"; done))) (by simp [lst3]) (lst3_get _ hi3) ?_
        walk_at "stes"
        refine ⟨1, _, _, gaps_fun G R17 (ra i) (tt i) (ok i hi3).2 (ok i hi3).1, room'.mono (by (first | decide | lia | omega)), ?_, ?_⟩
        · intro p m
          rw [List.mem_singleton] at m; subst m; exact hasT hi3 (by walk_at "mem") (by walk_at "mem") (by walk_at "mem")
        rintro d post ⟨ga, q1, hq1, rfl, rfl⟩
        dsimp only [List.cons_append, List.nil_append]
        walk_at "ste"
        walk_at "ste"
        refine WE_cell k' kp' cp' dp (by (first | (refine Has.own ?_; walk_at "mem"; done) | (refine Has.roAt (by assumption) ?_; walk_at "mem"; done))) ?_
        walk_at "stes"
        refine item_at (l := lst3 fun h => .int (plainN (tt h))) (by (first | (refine Has.own ?_; walk_at "mem"; done) | (refine Has.roAt (by assumption) ?_; walk_at "mem"; done))) (by simp [lst3]) (lst3_get _ hi3) ?_
        walk_at "stes"
        have hgb := gap_bounds (ok i hi3) hq1
        have hgl : (gapL (plainN (tt i)) 0 ls0 q1).length ≤ 10 := by
          rw [gapL_len, hq1.perm.length_eq]
          exact Nat.le_trans (pairs_len_le _) (ok i hi3).2
        have hgn := genL_len (plainN (tt i)) (gapL (plainN (tt i)) 0 ls0 q1) 0 72 hgb
        have hpi := hpl i hi3
        refine ⟨2, _, _, oct_fun G R18 R19 ga (gapL (plainN (tt i)) 0 ls0 q1) (plainN (tt i)) 65 _ (.inl rfl) (.inl rfl) ⟨by (first | decide | lia | omega), by (first | decide | lia | omega)⟩ (fun d m => by have := hgb d m; (first | decide | lia | omega)) (by (first | decide | lia | omega)) (by (first | decide | lia | omega)), room'.mono (by (first | decide | lia | omega)), ?_, ?_⟩
        · intro p m
          rw [List.mem_singleton] at m; subst m; (first | (refine Has.own ?_; walk_at "mem"; done) | (refine Has.roAt (by assumption) ?_; walk_at "mem"; done))
        rintro d post ⟨rfl, rfl⟩
        dsimp only [List.nil_append]
        rw [byteArr_up]
        refine ⟨_, _, by walk_at "upd", by simp; (first | decide | lia | omega), fun j => if j = i then q1 else q j, ?_, ?_, _, rfl⟩
        · intro h hh
          dsimp only
          by_cases e : h = i
          · subst e; rw [if_pos rfl]; exact hq1
          · rw [if_neg e]; exact hq h (by (first | decide | lia | omega))
        · rw [List.range_succ, List.map_append]
          have em : (List.range i).map (fun h => PV.bytes (labH tt (fun j => if j = i then q1 else q j) h)) = (List.range i).map (fun h => PV.bytes (labH tt q h)) :=
            List.map_congr_left fun j mj => by
              rw [List.mem_range] at mj
              unfold labH dsH
              dsimp only
              rw [if_neg (by (first | decide | lia | omega))]
          have ei : labH tt (fun j => if j = i then q1 else q j) i = (upL (genL (plainN (tt i)) 0 72 (gapL (plainN (tt i)) 0 ls0 q1))).toArray := by
            unfold labH dsH
            dsimp only
            rw [if_pos rfl]
          rw [em]
          simp only [List.map_cons, List.map_nil]
          rw [ei]
          exact List.sublist_cons_self _ _
      · intro ya qs sr
        dsimp only
        rw [lst3_range, show (lst3 fun h => PV.bytes (labH tt qs h)) = (lst3 (labH tt qs)).map .bytes from rfl, show (lst3 fun h => PV.int (plainN (tt h))) = (lst3 fun h => (plainN (tt h) : Int)).map .int from rfl]
        have hsum : (lst3 fun h => (plainN (tt h) : Int)).sum = plainN (joinT tt) := by
          unfold joinT lst3
          rw [plainN_append, plainN_append]
          simp only [List.sum_cons, List.sum_nil]
          (first | decide | lia | omega)
        have hl0 := (ok 0 (by (first | decide | lia | omega))).2
        have hl1 := (ok 1 (by (first | decide | lia | omega))).2
        have hl2 := (ok 2 (by (first | decide | lia | omega))).2
        have hpJ : plainN (joinT tt) ≤ 10 := Nat.le_trans (List.length_filter_le _ _) okJ.2
        refine storeK (by walk_at "upd") (seqK_next (KXs_cons (KT.of ?_)))
        refine WX_assign k ?_ (by with_unfolding_all rfl)
        refine WE_listAdd k (WE_listAdd k ?_)
        walk_at "ste"
        refine WE_cell k kt ct dt (by (first | (refine Has.own ?_; walk_at "mem"; done) | (refine Has.roAt (by assumption) ?_; walk_at "mem"; done))) ?_
        walk_at "ste"
        refine item_at (h := 0) (l := lst3 fun h => .ref (ra h)) (by (first | (refine Has.own ?_; walk_at "mem"; done) | (refine Has.roAt (by assumption) ?_; walk_at "mem"; done))) (by simp [lst3]) rfl ?_
        walk_at "ste"
        refine WE_cell k kt ct dt (by (first | (refine Has.own ?_; walk_at "mem"; done) | (refine Has.roAt (by assumption) ?_; walk_at "mem"; done))) ?_
        walk_at "ste"
        refine item_at (h := 1) (l := lst3 fun h => .ref (ra h)) (by (first | (refine Has.own ?_; walk_at "mem"; done) | (refine Has.roAt (by assumption) ?_; walk_at "mem"; done))) (by simp [lst3]) rfl ?_
        refine ⟨ra 0, ra 1, (tt 0).map .int, (tt 1).map .int, rfl, rfl, by (first | (refine Has.own ?_; walk_at "mem"; done) | (refine Has.roAt (by assumption) ?_; walk_at "mem"; done)), by (first | (refine Has.own ?_; walk_at "mem"; done) | (refine Has.roAt (by assumption) ?_; walk_at "mem"; done)), by simp; (first | decide | lia | omega), newK fun j1 => ?_⟩
        walk_at "ste"
        refine WE_cell k kt ct dt (by (first | (refine Has.own ?_; walk_at "mem"; done) | (refine Has.roAt (by assumption) ?_; walk_at "mem"; done))) ?_
        walk_at "ste"
        refine item_at (h := 2) (l := lst3 fun h => .ref (ra h)) (by (first | (refine Has.own ?_; walk_at "mem"; done) | (refine Has.roAt (by assumption) ?_; walk_at "mem"; done))) (by simp [lst3]) rfl ?_
        refine ⟨j1, ra 2, (tt 0).map .int ++ (tt 1).map .int, (tt 2).map .int, rfl, rfl, by (first | (refine Has.own ?_; walk_at "mem"; done) | (refine Has.roAt (by assumption) ?_; walk_at "mem"; done)), by (first | (refine Has.own ?_; walk_at "mem"; done) | (refine Has.roAt (by assumption) ?_; walk_at "mem"; done)), by simp; (first | decide | lia | omega), newK fun ja => ?_⟩
        rw [show (tt 0).map PV.int ++ (tt 1).map PV.int ++ (tt 2).map PV.int = (joinT tt).map .int by simp [joinT]]
        refine storeK (by walk_at "upd") (seqK_next (KXs_cons (KT.of ?_)))
        walk_at "stes"
        (((with_reducible refine' WE_call0 ?kx313 ?Gx313 ?hsx313 ?hfx313 ?hdx313 ?_ ?hFx313 ?hex313); (case kx313 => assumption); (case Gx313 => assumption); (case hsx313 => assumption); (case hfx313 => decide +kernel); (case hdx313 => decide +kernel); (case hex313 => with_unfolding_all rfl)))
        case hFx313 => exact ⟨_, _, _, _, _, gaps_fun G R17 0 [] ((by first | decide | exact Nat.le_of_ble_eq_true rfl | exact List.forall_mem_nil _ | simp)) ((by first | decide | exact Nat.le_of_ble_eq_true rfl | exact List.forall_mem_nil _ | simp))⟩
        walk_at "stes"
        refine ⟨1, _, _, gaps_fun G R17 ja (joinT tt) okJ.2 okJ.1, room.mono (by (first | decide | lia | omega)), ?_, ?_⟩
        · intro p m
          rw [List.mem_singleton] at m; subst m; (first | (refine Has.own ?_; walk_at "mem"; done) | (refine Has.roAt (by assumption) ?_; walk_at "mem"; done))
        rintro d post ⟨da, qJ, hJ, rfl, rfl⟩
        dsimp only [List.cons_append, List.nil_append]
        have hgb := gap_bounds okJ hJ
        have hgl : (gapL (plainN (joinT tt)) 0 ls0 qJ).length ≤ 10 := by
          rw [gapL_len, hJ.perm.length_eq]
          exact Nat.le_trans (pairs_len_le _) okJ.2
        have hgn := genL_len (plainN (joinT tt)) (gapL (plainN (joinT tt)) 0 ls0 qJ) 0 72 hgb
        have hgr := genL_range (plainN (joinT tt)) (gapL (plainN (joinT tt)) 0 ls0 qJ) 0 72 (fun d m => (hgb d m).1)
        have hall := insT_all hJ
        have hcod := insT_code okJ hJ
        refine storeK (by walk_at "upd") (seqK_next (KXs_cons (KX_if (WB_ilne k hu ?_ (by with_unfolding_all rfl)))))
        (((with_reducible refine' WE_call0 ?kx315 ?Gx315 ?hsx315 ?hfx315 ?hdx315 ?_ ?hFx315 ?hex315); (case kx315 => assumption); (case Gx315 => assumption); (case hsx315 => assumption); (case hfx315 => decide +kernel); (case hdx315 => decide +kernel); (case hex315 => with_unfolding_all rfl)))
        case hFx315 => exact ⟨_, _, _, _, _, joined_fun G R1 R4 R6 R10 R11 R12 R13 R14 R20 R21 ok sr ya pa⟩
        walk_at "ste"
        walk_at "ste"
        walk_at "ste"
        refine WE_cell k kp cp dp (by (first | (refine Has.own ?_; walk_at "mem"; done) | (refine Has.roAt (by assumption) ?_; walk_at "mem"; done))) ?_
        walk_at "ste"
        refine ⟨4, _, _, joined_fun G R1 R4 R6 R10 R11 R12 R13 R14 R20 R21 ok sr ya pa, room, ?_, ?_⟩
        · intro p m
          simp only [List.mem_cons, List.not_mem_nil, or_false] at m
          rcases m with rfl | rfl <;> (first | (refine Has.own ?_; walk_at "mem"; done) | (refine Has.roAt (by assumption) ?_; walk_at "mem"; done))
        rintro d post ⟨ja2, qJ2, hJ2, rfl, rfl⟩
        obtain rfl := hJ2.unique hJ
        dsimp only [List.cons_append, List.nil_append]
        walk_at "ste"
        refine ⟨ja2, da, gapL (plainN (joinT tt)) 0 ls0 qJ2, gapL (plainN (joinT tt)) 0 ls0 qJ2, rfl, rfl, by (first | (refine Has.own ?_; walk_at "mem"; done) | (refine Has.roAt (by assumption) ?_; walk_at "mem"; done)), by (first | (refine Has.own ?_; walk_at "mem"; done) | (refine Has.roAt (by assumption) ?_; walk_at "mem"; done)), ?_⟩
        refine dnsplit (fun h => absurd rfl h) (fun _ => KXs_nil (seqK_next (KXs_cons ?_)))
        generalize hds : gapL (plainN (joinT tt)) 0 ls0 qJ2 = ds at hgb hgl hgn hgr hall hcod ⊢
        refine KX_assign k ?_ (by with_unfolding_all rfl)
        refine KE_call0 k G hs (by decide +kernel) (by decide +kernel) ?_ ⟨_, _, _, _, gen_fun G R1 R3 R4 R5 HD 0 0 [] (by decide) ((by first | decide | exact Nat.le_of_ble_eq_true rfl | exact List.forall_mem_nil _ | simp)) ((by first | decide | exact Nat.le_of_ble_eq_true rfl | exact List.forall_mem_nil _ | simp)) (by simp [genL])⟩ (by with_unfolding_all rfl)
        walk_at "ste"
        (first | ((with_reducible refine' WE_blt ?kx320 ?Gx320 ?hsx320 ?hfx320 ?hdx320 ?hvx320 ?hbx320 ?hnx320 ?_ ?hex320 ?hpx320); (case kx320 => assumption); (case Gx320 => assumption); (case hsx320 => assumption); (case hfx320 => decide +kernel); (case hdx320 => decide +kernel); (case hvx320 => decide +kernel); (case hbx320 => (with_reducible first | exact boot_len' | exact boot_min' | exact boot_max' | exact boot_sum' | exact boot_divmod' | exact boot_chr' | exact boot_sorted' | exact boot_isinstance' | exact boot_bytes' | exact boot_bytearray' | exact boot_list' | exact boot_str' | exact boot_memoryview')); (case hnx320 => decide +kernel); (case hex320 => with_unfolding_all rfl); (case hpx320 => with_unfolding_all rfl)) | ((with_reducible refine' WE_typ ?kx320 ?Gx320 ?hsx320 ?hfx320 ?hdx320 ?hvx320 ?hbx320 ?hnx320 ?_ ?hex320 ?hpx320); (case kx320 => assumption); (case Gx320 => assumption); (case hsx320 => assumption); (case hfx320 => decide +kernel); (case hdx320 => decide +kernel); (case hvx320 => decide +kernel); (case hbx320 => (with_reducible first | exact boot_len' | exact boot_min' | exact boot_max' | exact boot_sum' | exact boot_divmod' | exact boot_chr' | exact boot_sorted' | exact boot_isinstance' | exact boot_bytes' | exact boot_bytearray' | exact boot_list' | exact boot_str' | exact boot_memoryview')); (case hnx320 => decide +kernel); (case hex320 => with_unfolding_all rfl); (case hpx320 => with_unfolding_all rfl)))
        walk_at "ste"
        refine WE_cell k kp cp dp (by (first | (refine Has.own ?_; walk_at "mem"; done) | (refine Has.roAt (by assumption) ?_; walk_at "mem"; done))) ?_
        walk_at "ste"
        have hsb : ∀ n ∈ lst3 fun h => (plainN (tt h) : Int), 0 ≤ n ∧ n ≤ 2 ^ 30 := by
          intro n mn
          obtain ⟨j, hj, rfl⟩ := lst3_mem mn
          have := hpl j hj
          (first | decide | lia | omega)
        refine callB_sum k hha (ns := lst3 fun h => (plainN (tt h) : Int)) (by (first | (refine Has.own ?_; walk_at "mem"; done) | (refine Has.roAt (by assumption) ?_; walk_at "mem"; done))) (by simp [lst3]) hsb ?_
        rw [hsum]
        walk_at "stes"
        refine ⟨3, _, _, gen_fun G R1 R3 R4 R5 HD (plainN (joinT tt)) da ds ⟨by (first | decide | lia | omega), by (first | decide | lia | omega)⟩ (fun d m => (hgb d m).1) (by (first | decide | lia | omega)) (by (first | decide | lia | omega)), room.mono (by (first | decide | lia | omega)), ?_, ?_⟩
        · intro p m
          rw [List.mem_singleton] at m; subst m; (first | (refine Has.own ?_; walk_at "mem"; done) | (refine Has.roAt (by assumption) ?_; walk_at "mem"; done))
        rintro d post ⟨rfl, rfl⟩
        dsimp only [List.nil_append]
        refine storeK (by walk_at "upd") (seqK_next (KXs_cons (KX_if ?_)))
        walk_at "stes"
        (((with_reducible refine' WE_call0 ?kx326 ?Gx326 ?hsx326 ?hfx326 ?hdx326 ?_ ?hFx326 ?hex326); (case kx326 => assumption); (case Gx326 => assumption); (case hsx326 => assumption); (case hfx326 => decide +kernel); (case hdx326 => decide +kernel); (case hex326 => with_unfolding_all rfl)))
        case hFx326 => exact ⟨_, _, _, _, _, oct_fun G R18 R19 0 [] 0 65 (.int 0) (.inl rfl) (.inl rfl) (by decide) ((by first | decide | exact Nat.le_of_ble_eq_true rfl | exact List.forall_mem_nil _ | simp)) ((by first | decide | exact Nat.le_of_ble_eq_true rfl | exact List.forall_mem_nil _ | simp)) (by simp [genL])⟩
        walk_at "ste"
        walk_at "ste"
        walk_at "ste"
        (first | ((with_reducible refine' WE_blt ?kx327 ?Gx327 ?hsx327 ?hfx327 ?hdx327 ?hvx327 ?hbx327 ?hnx327 ?_ ?hex327 ?hpx327); (case kx327 => assumption); (case Gx327 => assumption); (case hsx327 => assumption); (case hfx327 => decide +kernel); (case hdx327 => decide +kernel); (case hvx327 => decide +kernel); (case hbx327 => (with_reducible first | exact boot_len' | exact boot_min' | exact boot_max' | exact boot_sum' | exact boot_divmod' | exact boot_chr' | exact boot_sorted' | exact boot_isinstance' | exact boot_bytes' | exact boot_bytearray' | exact boot_list' | exact boot_str' | exact boot_memoryview')); (case hnx327 => decide +kernel); (case hex327 => with_unfolding_all rfl); (case hpx327 => with_unfolding_all rfl)) | ((with_reducible refine' WE_typ ?kx327 ?Gx327 ?hsx327 ?hfx327 ?hdx327 ?hvx327 ?hbx327 ?hnx327 ?_ ?hex327 ?hpx327); (case kx327 => assumption); (case Gx327 => assumption); (case hsx327 => assumption); (case hfx327 => decide +kernel); (case hdx327 => decide +kernel); (case hvx327 => decide +kernel); (case hbx327 => (with_reducible first | exact boot_len' | exact boot_min' | exact boot_max' | exact boot_sum' | exact boot_divmod' | exact boot_chr' | exact boot_sorted' | exact boot_isinstance' | exact boot_bytes' | exact boot_bytearray' | exact boot_list' | exact boot_str' | exact boot_memoryview')); (case hnx327 => decide +kernel); (case hex327 => with_unfolding_all rfl); (case hpx327 => with_unfolding_all rfl)))
        walk_at "ste"
        refine WE_cell k kp cp dp (by (first | (refine Has.own ?_; walk_at "mem"; done) | (refine Has.roAt (by assumption) ?_; walk_at "mem"; done))) ?_
        walk_at "ste"
        refine callB_sum k hha (ns := lst3 fun h => (plainN (tt h) : Int)) (by (first | (refine Has.own ?_; walk_at "mem"; done) | (refine Has.roAt (by assumption) ?_; walk_at "mem"; done))) (by simp [lst3]) hsb ?_
        rw [hsum]
        walk_at "stes"
        refine ⟨2, _, _, oct_fun G R18 R19 da ds (plainN (joinT tt)) 97 _ (.inr rfl) (.inr rfl) ⟨by (first | decide | lia | omega), by (first | decide | lia | omega)⟩ (fun d m => by have := hgb d m; (first | decide | lia | omega)) (by (first | decide | lia | omega)) (by (first | decide | lia | omega)), room.mono (by (first | decide | lia | omega)), ?_, ?_⟩
        · intro p m
          rw [List.mem_singleton] at m; subst m; (first | (refine Has.own ?_; walk_at "mem"; done) | (refine Has.roAt (by assumption) ?_; walk_at "mem"; done))
        rintro d post ⟨rfl, rfl⟩
        dsimp only [List.nil_append]
        rw [byteArr_low hgr]
        walk_at "stes"
        refine dsplit_f ((by first | decide | exact Nat.le_of_ble_eq_true rfl | exact List.forall_mem_nil _ | simp)) (KXs_nil (seqK_next (KXs_cons (KT.of ?_))))
        refine WT.less (S' := ⟨[("script", .ref l), ("labels", .ref ya), ("joined", .ref ja), ("due", .ref da), ("written", .bytes (lowL (genL (plainN (joinT tt)) 0 72 ds)).toArray), ("ahead", .any), ("label", .any)], [(ja, .list ((joinT tt).map .int))]⟩) ⟨LocLe.rfl, List.singleton_sublist.mpr ((by first | decide | exact Nat.le_of_ble_eq_true rfl | exact List.forall_mem_nil _ | simp))⟩ ?_
        clear hsum hsb hl0 hl1 hl2
        have hJc := okJ.1
        have hJl := okJ.2
        have hah : ∀ c ∈ (joinT tt).filter (fun c => decide (c < 128)), 0 ≤ c ∧ c < 128 := fun c m => by
          rw [List.mem_filter] at m
          exact ⟨(hJc c m.1).1, by simpa using m.2⟩
        have hpn : ((joinT tt).filter (fun c => decide (c < 128))).length = plainN (joinT tt) := rfl
        generalize joinT tt = J at *
        walk_at "stes"
        (first | ((with_reducible refine' WE_blt ?kx333 ?Gx333 ?hsx333 ?hfx333 ?hdx333 ?hvx333 ?hbx333 ?hnx333 ?_ ?hex333 ?hpx333); (case kx333 => assumption); (case Gx333 => assumption); (case hsx333 => assumption); (case hfx333 => decide +kernel); (case hdx333 => decide +kernel); (case hvx333 => decide +kernel); (case hbx333 => (with_reducible first | exact boot_len' | exact boot_min' | exact boot_max' | exact boot_sum' | exact boot_divmod' | exact boot_chr' | exact boot_sorted' | exact boot_isinstance' | exact boot_bytes' | exact boot_bytearray' | exact boot_list' | exact boot_str' | exact boot_memoryview')); (case hnx333 => decide +kernel); (case hex333 => with_unfolding_all rfl); (case hpx333 => with_unfolding_all rfl)) | ((with_reducible refine' WE_typ ?kx333 ?Gx333 ?hsx333 ?hfx333 ?hdx333 ?hvx333 ?hbx333 ?hnx333 ?_ ?hex333 ?hpx333); (case kx333 => assumption); (case Gx333 => assumption); (case hsx333 => assumption); (case hfx333 => decide +kernel); (case hdx333 => decide +kernel); (case hvx333 => decide +kernel); (case hbx333 => (with_reducible first | exact boot_len' | exact boot_min' | exact boot_max' | exact boot_sum' | exact boot_divmod' | exact boot_chr' | exact boot_sorted' | exact boot_isinstance' | exact boot_bytes' | exact boot_bytearray' | exact boot_list' | exact boot_str' | exact boot_memoryview')); (case hnx333 => decide +kernel); (case hex333 => with_unfolding_all rfl); (case hpx333 => with_unfolding_all rfl)))
        walk_at "ste"
        refine WE_comp (X := Unit) (cl := []) k hs (by rfl) (by decide +kernel) rfl (by decide +kernel) (by decide +kernel) (by decide +kernel) ?_ (by intro _; with_unfolding_all rfl)
        refine WI_list k hha ?_
        walk_at "stes"
        refine ⟨ja, J.map .int, rfl, by (first | (refine Has.own ?_; walk_at "mem"; done) | (refine Has.roAt (by assumption) ?_; walk_at "mem"; done)), ?_⟩
        refine ⟨fun j _ qa => [(qa, .list (((J.take j).filter (fun c => decide (c < 128))).map .int)), (ja, .list (J.map .int))], fun _ _ => True, (), trivial, fun qa => List.Sublist.refl _, fun _ _ _ _ _ => by (first | (refine Has.own ?_; walk_at "mem"; done) | (refine Has.roAt (by assumption) ?_; walk_at "mem"; done)), ?_, ?_⟩
        · rintro C2 qa j _ ⟨k2, hA2, hs2, hcl2, hW2, hro2⟩ hj _
          rw [List.length_map] at hj
          dsimp only
          rw [map_getD PV.int J hj .any 0]
          have htk := take_getD J hj 0
          have hlj : ((J.take j).filter (fun c => decide (c < 128))).length ≤ 10 := by
            refine Nat.le_trans (List.length_filter_le _ _) ?_
            simp; (first | decide | lia | omega)
          generalize J.getD j 0 = cc at htk
          show WB prog w C2 _ _ _
          walk_at "stes"
          refine dsplit (fun h' => ?_) (fun h' => ?_)
          · walk_at "stes"
            refine ⟨_, _, by walk_at "upd", by simpa using (by (first | decide | lia | omega)), (), trivial, ?_, _, rfl⟩
            rw [htk, List.filter_append, show [cc].filter (fun c => decide (c < 128)) = [cc] by simp [h']]
            simp only [List.map_append, List.map_cons, List.map_nil]
            exact List.Sublist.refl _
          · refine ⟨(), trivial, ?_, _, rfl⟩
            rw [htk, List.filter_append, show [cc].filter (fun c => decide (c < 128)) = [] by simp; (first | decide | lia | omega), List.append_nil]
            exact List.Sublist.refl _
        intro qa _ _
        dsimp only
        rw [List.length_map, List.take_length]
        walk_at "stes"
        refine callT_bytesInts k hha (by (first | (refine Has.own ?_; walk_at "mem"; done) | (refine Has.roAt (by assumption) ?_; walk_at "mem"; done))) (by (first | decide | lia | omega)) (fun c m => by have := hah c m; (first | decide | lia | omega)) ?_
        have eba : byteArr (J.filter (fun c => decide (c < 128))) = ((J.filter (fun c => decide (c < 128))).map (fun c => c.toNat.toUInt8)).toArray := rfl
        have emp : (((J.filter (fun c => decide (c < 128))).map (fun c => c.toNat.toUInt8)).map UInt8.toNat) = (J.filter (fun c => decide (c < 128))).map Int.toNat := by
          rw [List.map_map]
          refine List.map_congr_left fun c m => ?_
          have := hah c m
          simp only [Function.comp]
          rw [Nat.toUInt8, UInt8.toNat_ofNat', Nat.mod_eq_of_lt (by (first | decide | lia | omega))]
        have elen : ((J.filter (fun c => decide (c < 128))).map (fun c => c.toNat.toUInt8)).length = plainN J := by rw [List.length_map, hpn]
        have hlt : ∀ c ∈ (J.filter (fun c => decide (c < 128))).map (fun c => c.toNat.toUInt8), c.toNat < 128 := by
          intro u mu
          obtain ⟨c, mc, rfl⟩ := List.mem_map.mp mu
          have := hah c mc
          rw [Nat.toUInt8, UInt8.toNat_ofNat', Nat.mod_eq_of_lt (by (first | decide | lia | omega))]
          (first | decide | lia | omega)
        rw [eba]
        generalize (J.filter (fun c => decide (c < 128))).map (fun c => c.toNat.toUInt8) = ah at emp elen hlt ⊢
        rw [← emp] at hall hcod
        rw [← elen] at hgn hpJ ⊢
        refine storeK (by walk_at "upd") (seqK_next (KXs_cons (KT.of ?_)))
        have tail : ∀ (lb : Array UInt8) (K : PFlow → St → Prop), lb = (labelOf ah ds).toArray → (∀ S, K (.ret (.bool true)) S) → WXs prog w C ((fnd 22).body.drop 10) ⟨[("script", .ref l), ("labels", .ref ya), ("joined", .ref ja), ("due", .ref da), ("written", .bytes (lowL (genL ah.length 0 72 ds)).toArray), ("ahead", .bytes ah.toArray), ("label", .bytes lb)], [(qa, .list ((J.filter (fun c => decide (c < 128))).map .int)), (ja, .list (J.map .int))]⟩ K := by
          intro lb K hlb hK
          subst hlb
          have hpuny := puny_fun (prog := prog) (w := w) G R1 R4 R6 R7 R8 ah ds (by (first | decide | lia | omega)) hlt (fun d m => (hgb d m).1) (by (first | decide | lia | omega)) (by (first | decide | lia | omega)) hcod
          refine WXs_cons ?_
          walk_at "stes"
          (((with_reducible refine' WE_call0 ?kx339 ?Gx339 ?hsx339 ?hfx339 ?hdx339 ?_ ?hFx339 ?hex339); (case kx339 => assumption); (case Gx339 => assumption); (case hsx339 => assumption); (case hfx339 => decide +kernel); (case hdx339 => decide +kernel); (case hex339 => with_unfolding_all rfl)))
          case hFx339 => exact ⟨_, _, _, _, _, hpuny⟩
          walk_at "stes"
          refine ⟨4, [], _, hpuny, room, (by first | decide | exact Nat.le_of_ble_eq_true rfl | exact List.forall_mem_nil _ | simp), ?_⟩
          rintro d post ⟨rfl, rfl⟩
          dsimp only [List.nil_append]
          rw [hall]
          refine WE_meth "str.join" ?_ (by with_unfolding_all rfl) (by with_unfolding_all rfl) (by with_unfolding_all rfl) (by with_unfolding_all rfl) (by with_unfolding_all rfl)
          walk_at "stes"
          refine ⟨meth_str F.slot_str_join F.type_str_join, ?_⟩
          walk_at "ste"
          refine WE_comp (X := Unit) (cl := []) k hs (by rfl) (by decide +kernel) rfl (by decide +kernel) (by decide +kernel) (by decide +kernel) ?_ (by intro _; with_unfolding_all rfl)
          refine WI_list k hha ?_
          walk_at "stes"
          refine ⟨ja, J.map .int, rfl, by (first | (refine Has.own ?_; walk_at "mem"; done) | (refine Has.roAt (by assumption) ?_; walk_at "mem"; done)), ?_⟩
          refine ⟨fun j _ za => [(za, .list (((J.take j).map (fun c => (⟨#[c.toNat]⟩ : Str))).map .str)), (qa, .list ((J.filter (fun c => decide (c < 128))).map .int)), (ja, .list (J.map .int))], fun _ _ => True, (), trivial, fun za => List.Sublist.refl _, fun _ _ _ _ _ => by (first | (refine Has.own ?_; walk_at "mem"; done) | (refine Has.roAt (by assumption) ?_; walk_at "mem"; done)), ?_, ?_⟩
          · rintro C2 za j _ ⟨k2, hA2, hs2, hcl2, hW2, hro2⟩ hj _
            rw [List.length_map] at hj
            dsimp only
            rw [map_getD PV.int J hj .any 0]
            have htk := take_getD J hj 0
            have hcc := hJc (J.getD j 0) (by
              rw [show J.getD j 0 = J[j] by simp [hj]]; exact List.getElem_mem hj)
            generalize J.getD j 0 = cc at htk hcc
            show WE prog w C2 _ _ _
            (first | ((with_reducible refine' WE_blt ?kx342 ?Gx342 ?hsx342 ?hfx342 ?hdx342 ?hvx342 ?hbx342 ?hnx342 ?_ ?hex342 ?hpx342); (case kx342 => assumption); (case Gx342 => assumption); (case hsx342 => assumption); (case hfx342 => decide +kernel); (case hdx342 => decide +kernel); (case hvx342 => decide +kernel); (case hbx342 => (with_reducible first | exact boot_len' | exact boot_min' | exact boot_max' | exact boot_sum' | exact boot_divmod' | exact boot_chr' | exact boot_sorted' | exact boot_isinstance' | exact boot_bytes' | exact boot_bytearray' | exact boot_list' | exact boot_str' | exact boot_memoryview')); (case hnx342 => decide +kernel); (case hex342 => with_unfolding_all rfl); (case hpx342 => with_unfolding_all rfl)) | ((with_reducible refine' WE_typ ?kx342 ?Gx342 ?hsx342 ?hfx342 ?hdx342 ?hvx342 ?hbx342 ?hnx342 ?_ ?hex342 ?hpx342); (case kx342 => assumption); (case Gx342 => assumption); (case hsx342 => assumption); (case hfx342 => decide +kernel); (case hdx342 => decide +kernel); (case hvx342 => decide +kernel); (case hbx342 => (with_reducible first | exact boot_len' | exact boot_min' | exact boot_max' | exact boot_sum' | exact boot_divmod' | exact boot_chr' | exact boot_sorted' | exact boot_isinstance' | exact boot_bytes' | exact boot_bytearray' | exact boot_list' | exact boot_str' | exact boot_memoryview')); (case hnx342 => decide +kernel); (case hex342 => with_unfolding_all rfl); (case hpx342 => with_unfolding_all rfl)))
            walk_at "stes"
            refine callB_chr hcc.1 hcc.2 ?_
            refine ⟨_, _, by walk_at "upd", by simp; (first | decide | lia | omega), (), trivial, ?_, _, rfl⟩
            rw [htk]
            simp only [List.map_append, List.map_cons, List.map_nil]
            exact List.Sublist.refl _
          · intro za _ _
            dsimp only
            rw [List.length_map, List.take_length]
            walk_at "stes"
            refine callB_join k (by (first | (refine Has.own ?_; walk_at "mem"; done) | (refine Has.roAt (by assumption) ?_; walk_at "mem"; done))) ?_ ?_
            · have h1 : ∀ L : List Int, ((L.map (fun c => (⟨#[c.toNat]⟩ : Str))).map (·.length)).sum = L.length := by
                intro L
                induction L with
                | nil => rfl
                | cons c L ih =>
                  simp only [List.map_cons, List.sum_cons, ih, List.length_cons]
                  show 1 + L.length = L.length + 1
                  (first | decide | lia | omega)
              have h2 : (PySem.Str.ofString "").length = 0 := by decide +kernel
              rw [h1, h2]
              (first | decide | lia | omega)
            rw [show J.map (fun c => (⟨#[c.toNat]⟩ : Str)) = (J.map Int.toNat).map (fun c => (⟨#[c]⟩ : Str)) by rw [List.map_map]; rfl, glued_ones]
            walk_at "stes"
            rw [decide_eq_true rfl]
            exact hK _
        refine WX_assign k ?_ (by with_unfolding_all rfl)
        walk_at "stes"
        refine dsplit (fun h => ?_) (fun h => ?_)
        · walk_at "stes"
          refine BinK_bytes (by simp; (first | decide | lia | omega)) ?_
          walk_at "stes"
          refine BinK_bytes (by simp [lowL]; (first | decide | lia | omega)) ?_
          refine storeK (by walk_at "upd") (seqK_next (KT.of ?_))
          refine tail _ _ ?_ fun S => retK_ret [] (List.nil_sublist _) rfl
          unfold labelOf
          rw [if_pos (by simpa using h)]
          simp
        · walk_at "stes"
          refine seqK_next (KT.of ?_)
          refine tail _ _ ?_ fun S => retK_ret [] (List.nil_sublist _) rfl
          unfold labelOf
          rw [if_neg (by simpa using h)]
end
end
end
end Mine
namespace Mine
section
open PySem PySem.W PySem.Calls PyProof.Rows PySem.Spec
open Sem (wp)
theorem caller_ok : OkC (⟨.builtin "claim.caller" {}, none, none, [], none⟩ : _root_.PySem.Ctx) := ⟨by decide +kernel, (by first | decide | exact Nat.le_of_ble_eq_true rfl | exact List.forall_mem_nil _ | simp)⟩
theorem haltsK {prog : Program} {w : World} {t : Sem Fin} {s : Shared} {R : Result → Shared → Prop} (hz : s.asleep)
    (h : wpK (model prog w) callerA t (fun fin s' => ∃ f, fin = .done f ∧ R (.ok f) s' ∧ AllBare s'.gens) s) :
    ∃ n r s' s'', schedN (denote table) prog w n (.single s ⟨t, .builtin "claim.caller" {}, default, []⟩) = .halted (outcomeOf r) s'' ∧
      PySem.runN (denote table) prog w n s ⟨t, .builtin "claim.caller" {}, default, []⟩ = .halted (outcomeOf r) s'' ∧ s''.forget = s'.forget ∧ R r s' :=
  wp_halts_full (M := model prog w) hz (Sem.wp_mono (model prog w) ⟨.builtin "claim.caller" {}, none, none, [], none⟩ t
    (post' := Sem.finPost (model prog w) ⟨.builtin "claim.caller" {}, none, none, [], none⟩ fun r s' => R r s' ∧ leftWithCleanup s'.gens = false)
    (exc' := fun e _ s' => R (.error e) s' ∧ leftWithCleanup s'.gens = false)
    (fun fin p' s' ⟨f, e, h1, h2⟩ => by subst e; exact ⟨h1, leftWithCleanup_false_of_bare h2⟩) (fun _ _ _ x => x.elim) default s (h _ default caller_in caller_ok))
/-- the caller's own context alone is asked -/
theorem callFromK {c : ClaimW} {tree : List Value → Sem Fin} {w : World} {s : Shared} {free : Addr → Prop} {gens : Prop} {kept : Heap → Prop} (hz : s.asleep) (hgens : s.gens = #[])
    (hspec : ∀ args, c.pre args = true → WData.layableAll args = true →
      ∀ ord : List DictEntry → List DictEntry, (∀ l, (ord l).Perm l) →
      ∃ vs s₁, layAllW c.records (classAt s.heap) w.params ord args s = some (vs, s₁) ∧
        wpK (model c.prog w) callerA (tree vs) (fun fin s' => ∃ f, fin = .done f ∧ (c.Ends s args vs s₁ (.ok f) s' ∧ s'.os = s.os ∧ kept s'.heap) ∧ AllBare s'.gens) s₁) :
    c.CallFrom (fun vs => ⟨tree vs, .builtin "claim.caller" {}, default, []⟩) w free gens kept s := by
  intro args hpre hlay ord hord
  refine Classical.byContradiction fun k => ?_
  obtain ⟨vs, s₁, hlaid, hcode⟩ := hspec args hpre hlay ord hord
  have hal := layAllW_rest _ _ _ hlaid
  obtain ⟨n, r, s', s'', hsched, hrun, hfo, hR⟩ := haltsK (R := fun r s' => c.Ends s args vs s₁ r s' ∧ s'.os = s.os ∧ kept s'.heap) (Shared.asleep_of_life hal.2.2.2 hz) hcode
  obtain ⟨eh, _, _, eo, _⟩ := Shared.forget_eq hfo
  refine k ⟨vs, s₁, hlaid, n, _, s'', hsched, ?_, fun _ i x hx => by rw [hgens] at hx; simp at hx, eh ▸ hR.2.2, ?_, Shared.rest_eq (eo.trans hR.2.1)⟩
  · exact (hR.1.congr eh).imp
      (Exists.imp fun v => And.imp (congrArg outcomeOf) (And.imp id (And.imp id (And.imp id (And.imp (fun d b o y _ => d b o y) id)))))
      (Exists.imp fun e => Exists.imp fun ob => Exists.imp fun cls => And.imp (congrArg outcomeOf) (And.imp id (And.imp id (And.imp id (And.imp id fun d b o y _ => d b o y)))))
  · rw [(runN_life _ _ _ hrun).trans hal.2.2.2]
abbrev WalkK (q : Program) (loose : List Str) (XP : (Str → Option Value) → Heap → Prop) (YP : World → Heap → Prop) (r : RowW) (d : DefRec) (kwd : List (Str × Expr)) : Prop :=
  ∀ (w : World) (s₀ s₁ : Shared) (mg mb : Str → Option Value), Ground q loose r.records XP w s₀ mg mb s₁.heap → YP w s₁.heap → ∀ (a : Addr) (o : Obj) (pm cd doc dV kV : Value), s₁.heap.get? a = some o →
    o.data = .func { docDef d.name d.params d.body d.scope pm cd doc with defaults := dV, kwdefaults := kV } → s₁.heap.CodeRec cd d.name → Dflts mg s₁.heap d.params kwd dV kV → mg d.name = some (.ref a) → s₁.gens = #[] →
    ∀ (args : List WData) (vals : List Value) (as : List Addr), r.claim.pre args = true → WData.layableAll args = true → ReadsAllW r.records (classAt s₀.heap) s₁.heap vals args as → WellAll w.params s₁.heap vals args → (∀ a ∈ as, (a == sysModules) = false) →
      wpK (model r.prog w) callerA (PySem.call (.ref a) vals) (fun v s' => GoodWG r.claim (classAt s₀.heap) (ExcName.means s₀.heap) args s₁ (.ok (.ret v)) s') s₁
theorem holds_openK {r : OpenRow} {q : Program} {loose : List Str} {Xt : Shared → Bool} {XP : (Str → Option Value) → Heap → Prop} {α : Type} {Yf : Shared → α} {Ya : World → α} {YP : World → Heap → Prop} {d : DefRec} {kwd : List (Str × Expr)} {N : Nat}
    (left : LeftO r.prog q loose Xt Yf Ya N) (hY : ∀ w s, Yf s = Ya w → YP w s.heap) (hYk : ∀ w h h', YP w h → (∀ b o, h.get? b = some o → h'.get? b = some o) → YP w h')
    (hX : ∀ s, Xt s = true → XP (s.heap.nsMap mainGlobals) s.heap) (hXk : ∀ mg h h', XP mg h → (∀ b o, h.get? b = some o → h'.get? b = some o) → XP mg h')
    (hdef : defOf q r.name = some (d, kwd)) (hp : r.prog.theDef r.name = some (d.params, d.body, d.scope)) (hk : kwWritten? d.params.kwonlyargs d.params.kw_defaults = some kwd) (hRf : ∀ s, Xt s = true → RecFacts r.records s.heap) (hwr : (!r.writes || r.records.isEmpty) = true)
    (k1 : r.wellSaid = true) (ok : (chainsOk q && opensWell r.prog && (frees r.toRowW && r.within.isEmpty)) = true) (hb : r.prog.bare) (hw : r.toRowW.promised)
    (call : WalkK q loose XP YP r.toRowW d kwd) : r.Holds := by
  refine ⟨k1, hw, ?_⟩
  obtain ⟨ok, k5⟩ := Bool.and_eq_true_iff.mp ok
  obtain ⟨hch, o1⟩ := Bool.and_eq_true_iff.mp ok
  obtain ⟨k5, k6⟩ := Bool.and_eq_true_iff.mp k5
  obtain ⟨hsame, hu, ha, hap, hm⟩ := frees_parts k5
  refine ⟨⟨hb, o1, by show r.toRowW.makers.map _ = []; rw [hm]; rfl⟩, hw.witness, fun w => ⟨(left.behind hX hch w).1, fun s' hs' => Classical.byContradiction fun k => ?_⟩⟩
  obtain ⟨s₀, hf, hg0, s, hT, hz, hgens, hg, G00, y⟩ := (left.behind (XP := fun mg h => XP mg h ∧ RecFacts r.records h) (fun s hs => ⟨hX s hs, hRf s hs⟩) hch w).2 s' hs'
  have G0 : Ground q loose [] XP w s (s.heap.nsMap mainGlobals) (s.heap.nsMap builtinsNs) s.heap := ⟨G00.T, G00.B, G00.D, G00.TE, G00.TD, G00.W, G00.X.1, G00.cls, G00.has, G00.apart, G00.once, G00.K⟩
  have RF := G00.X.2
  have hT' := hT
  refine k ⟨s₀, hf, hg0, s, hT, fun n hn => ?_, RF.1, RF.2.1, ?_⟩
  · obtain rfl : n = r.name := by split at hn <;> simp_all
    exact pinned_of_view hg G0 hdef hp hk
  have hgens : s.gens = #[] := Array.eq_empty_of_size_eq_zero (beq_iff_eq.mp hgens)
  have G : Ground q loose r.records XP w s _ _ s.heap := RF.ground G0
  refine callFromK (c := r.toRowW.claim) hz hgens fun args hpre hlay ord hord => Classical.byContradiction fun k => ?_
  obtain ⟨⟨vs, s₁⟩, hlaid⟩ := Option.isSome_iff_exists.mp (layAllW_isSome (P := w.params) (ord := ord) G.has args r.args s (pre_splitW hpre).1)
  have keeps := layAllW_keeps _ _ _ hlaid
  have hal := layAllW_rest _ _ _ hlaid
  obtain ⟨as, hrd, hin, hold⟩ := reads_layAllW hord _ _ _ hlaid hlay s₁.heap (fun _ _ e => e)
  have L : Laid r.records w s s₁ args vs as := ⟨⟨ord, hord, hlaid⟩, hrd, hin, hold, keeps, hal.1.trans hgens, hal.2.2.1⟩
  have G₁ := G.keeps hXk keeps
  have Y₁ := hYk _ _ _ (hY w s y) keeps
  obtain ⟨a, o, pm, cd, doc, dV, kV, h1, h2, h3, h4, h5⟩ := G₁.fn hdef
  have run := call w s s₁ _ _ G₁ Y₁ a o pm cd doc dV kV h2 h3 h4 h5 (defOf_name hdef ▸ h1) L.gens args vs as hpre hlay L.reads L.well (L.low G.low)
  have hi := ident_freeW hu ha hap
  have hwi : r.toRowW.claim.within = [] := List.isEmpty_iff.mp k6
  refine k ⟨vs, s₁, hlaid, wpK_first (wpAny_nsGet G₁.T.g ?_)⟩
  rw [h1]
  refine wpK_bind (wpK_mono run fun v s' g => wpK_pure ⟨_, rfl, ?_⟩)
  have z := g.laid (c := r.toRowW.claim) hsame hwi hi L
  exact ⟨⟨z.1, z.2.1, fun q => ⟨namesKept_of hT' hg r.keeps keeps g.2.1.old, noTable hwr q⟩⟩, z.2.2⟩
end
end Mine
section
open PySem PySem.W PyProof.Rows
namespace Mine
theorem ints_all {h : Heap} : ∀ {vs : List Value} {ns : List Int}, IntsAre vs ns → IsAll h (ns.map .int0) vs
  | _, _, .nil => .nil
  | _, _, .cons n t r => .cons (.int0 n t) (ints_all r)
theorem script_obj {P : Params} {h : Heap} {l : Addr} {vs : List Value} {ns : List Int} (hw : Well P h (.ref l) (ofPy (.list (ns.map .int)))) (hL : h.IsList l vs.toArray) (hI : IntsAre vs ns) : ObjIs h l (.list (ns.map .int0)) := by
  have hw' : Well P h (.ref l) (.list (ofPys (ns.map .int))) := hw
  cases hw' with
  | @list _ us _ g _ =>
    obtain ⟨o, g', _, n, d⟩ := hL
    rw [g] at g'
    cases g'
    have e : us = vs := by
      simp only [Data.seq.injEq] at d
      exact List.toArray_inj d.1
    subst e
    exact ⟨_, _, g, ints_all hI⟩
theorem fn_rec {p : Program} {loose : List Str} {mean : ExcName → Option Value} {mg mb : Str → Option Value} {h : Heap} (T : Top p loose mean mg mb h) {i : Nat} {x : Str} (e : (recsOf p).find? (fun d => d.name == x) = some (fnd i)) : FnRec h mg (fnd i) :=
  T.fn _ (List.mem_of_find?_eq_some e)
theorem gnd_of {p : Program} {loose : List Str} {mean : ExcName → Option Value} {mg mb : Str → Option Value} {h : Heap} (T : Top p loose mean mg mb h)
    (e : (["len", "min", "max", "range", "sorted", "bytes", "bytearray", "enumerate", "chr", "ord", "divmod", "sum", "list", "isinstance", "str", "memoryview"] : List Str).all (fun x => !startupNames.contains x && !loose.contains x && !((recsOf p).map (·.name)).contains x && !((litsOf p).map (·.1)).contains x && !((clssOf p loose).map (·.name)).contains x) = true) : Gnd h mg mb where
  g := T.g
  b := T.b
  lim := T.nolimit
  blt := T.builtins
  free := fun x hx => by
    have := List.all_eq_true.mp e x (by simpa using hx)
    simp only [Bool.and_eq_true, Bool.not_eq_true', List.contains_eq_mem, decide_eq_false_iff_not] at this
    exact T.free x this.1.1.1.1 this.1.1.1.2 this.1.1.2 this.1.2 this.2
theorem digits_of {p : Program} {mg : Str → Option Value} {h : Heap} (TW : TopW p mg h) (e : (wlitsOf p).find? (fun c => c.1 == ("digits" : Str)) = some (("digits" : Str), WData.bytes digs.toList)) : ∃ t, mg "digits" = some (.bytes digs t) := by
  obtain ⟨v, hv, r⟩ := TW.lits _ (List.mem_of_find?_eq_some e)
  have r' : ReadsW [] (fun _ => none) h v (WData.bytes digs.toList) [] := r
  generalize eb : WData.bytes digs.toList = d at r'
  cases r' with
  | bytes b t =>
    injection eb with eb
    have : digs = b := Array.toList_inj.mp eb
    subst this
    exact ⟨t, hv⟩
  | _ => cases eb
theorem room0 : Room 5 callerA := ⟨by decide +kernel, by decide +kernel, rfl, rfl⟩
noncomputable def view : Program := { _root_.PySem.Challenge.pw_nb0208_01 with main := { _root_.PySem.Challenge.pw_nb0208_01.main with body := (List.range 23).filterMap fun i => if i = 0 || i = 9 || i = 15 then none else _root_.PySem.Challenge.pw_nb0208_01.main.body[i]? } }
theorem said0 : OpenLaw.wellSaid _root_.PySem.Challenge.rw_nb0208_01 = true := by
  unfold OpenLaw.wellSaid OpenRow.wellSaid OpenRow.partSaid looksOpen
  with_reducible repeat' refine look_both ?_ ?_
  all_goals decide +kernel
set_option maxHeartbeats 8000000 in
theorem left0 : LeftO (OpenLaw.row _root_.PySem.Challenge.rw_nb0208_01).prog view [] (fun s => xlAt view [] s && recOk (RowW.records (OpenRow.toRowW (OpenLaw.row _root_.PySem.Challenge.rw_nb0208_01))) s) (fun _ => ()) (fun _ => ()) 1452 := by
  intro w; kernel_rfl
set_option maxHeartbeats 8000000 in
theorem holds0 : _root_.PySem.Challenge.rw_nb0208_01.Holds := by
  refine holds_law said0 fun said => ?_
  refine holds_openK (d := fnd 22) (kwd := []) (q := view) (loose := []) (Xt := fun s => xlAt view [] s && recOk (RowW.records (OpenRow.toRowW (OpenLaw.row _root_.PySem.Challenge.rw_nb0208_01))) s) (XP := XL view []) (Yf := fun _ => ()) (Ya := fun _ => ()) (YP := fun _ _ => True) (N := 1452) left0 (fun _ _ _ => trivial) (fun _ _ _ _ _ => trivial) (fun s e => xl_of s (Bool.and_eq_true_iff.mp e).1) XL.keeps (by kernel_rfl) (by kernel_rfl) (by kernel_rfl) (fun s e => recFacts_of (Bool.and_eq_true_iff.mp e).2) (by rfl) (by first | assumption | decide +kernel) (by decide +kernel) ⟨rfl, rfl, rfl, rfl, rfl, by decide +kernel⟩ ?hw ?hc
  case hw => w_witness2
  intro w s₀ s₁ mg mb G Y fa o pm cd doc dV kV ho hd hcd hD hmg hg args vals as hpre hlay hrd hwl hlo
  have X := (Ground.X G).1
  refine Ground.open G ?_
  intro T B D TE TW
  wrow_args hpre hlay hrd hwl hlo
  rename_i ns hs hlay0 hL1 hr1 hl2 as4 as3 l vs as0 hL ra w1 r0 hI hr hc1 hc2
  have gnd : Gnd s₁.heap mg mb := gnd_of T (by decide +kernel)
  have dig := digits_of TW (by kernel_rfl)
  have Rs : ∀ i ∈ [1, 3, 4, 5, 6, 7, 8, 10, 11, 12, 13, 14, 16, 17, 18, 19, 20, 21, 22], FnRec s₁.heap mg (fnd i) := by
    intro i hi
    simp only [List.mem_cons, List.not_mem_nil, or_false] at hi
    rcases hi with rfl | rfl | rfl | rfl | rfl | rfl | rfl | rfl | rfl | rfl | rfl | rfl | rfl | rfl | rfl | rfl | rfl | rfl | rfl
    · exact fn_rec T (x := "T") (by kernel_rfl)
    · exact fn_rec T (x := "generate_generalized_integer") (by kernel_rfl)
    · exact fn_rec T (x := "adapt") (by kernel_rfl)
    · exact fn_rec T (x := "generate_integers") (by kernel_rfl)
    · exact fn_rec T (x := "decode_generalized_number") (by kernel_rfl)
    · exact fn_rec T (x := "insertion_sort") (by kernel_rfl)
    · exact fn_rec T (x := "punycode_decode") (by kernel_rfl)
    · exact fn_rec T (x := "heappush") (by kernel_rfl)
    · exact fn_rec T (x := "heappop") (by kernel_rfl)
    · exact fn_rec T (x := "heapreplace") (by kernel_rfl)
    · exact fn_rec T (x := "_siftdown") (by kernel_rfl)
    · exact fn_rec T (x := "_siftup") (by kernel_rfl)
    · exact fn_rec T (x := "_law_texts") (by kernel_rfl)
    · exact fn_rec T (x := "_law_gaps") (by kernel_rfl)
    · exact fn_rec T (x := "_law_numeral") (by kernel_rfl)
    · exact fn_rec T (x := "_law_octets") (by kernel_rfl)
    · exact fn_rec T (x := "_law_head") (by kernel_rfl)
    · exact fn_rec T (x := "_law_joined") (by kernel_rfl)
    · exact fn_rec T (x := "law") (by kernel_rfl)
  obtain ⟨fa', o', fd', hm', _, _, run⟩ := law_fun (prog := _root_.PySem.Challenge.rw_nb0208_01.row.prog) (w := w) gnd Rs dig l ns (by (first | decide | lia | omega))
  have efa : fa' = fa := by
    have e1 : mg (_root_.PySem.Str.ofString "law") = some (.ref fa) := hmg
    have e2 : mg (_root_.PySem.Str.ofString "law") = some (.ref fa') := hm'
    rw [e1] at e2
    exact (Value.ref.inj (Option.some.inj e2)).symm
  subst efa
  refine wpK_mono (run callerA s₁ [.ref l] room0 (fun _ _ e => e) ?_ (.cons (.ref l) .nil)) ?_
  · intro p m
    rw [List.mem_singleton] at m; subst m
    exact script_obj w1 hL hI
  rintro v s' ⟨d, post, ou, i, rfl⟩
  cases i
  refine ⟨.inl ⟨.bool true, .bool true, [], rfl, fun _ => rfl, .bool true, ?_, fun _ => ⟨(by first | decide | exact Nat.le_of_ble_eq_true rfl | exact List.forall_mem_nil _ | simp), (by first | decide | exact Nat.le_of_ble_eq_true rfl | exact List.forall_mem_nil _ | simp)⟩⟩, .of_keep fun b o e => ou.frame b o e ((by first | decide | exact Nat.le_of_ble_eq_true rfl | exact List.forall_mem_nil _ | simp)), ou.os, .of_eq (ou.gens.trans hg)⟩
  first | rfl | (with_unfolding_all rfl) | trace_state
end Mine
end
theorem PySem.Challenge.cw_nb0208_01_holds : PySem.Challenge.rw_nb0208_01.Holds :=
  Mine.holds0
