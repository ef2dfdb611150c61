import PyProof.Rows.All
import Wide.All
import OpenK.AllK
import Wide.FinOn
import PySem.Challenge.RW_kl0449_01
section
set_option Elab.async false
set_option linter.all false
set_option linter.unusedVariables false
set_option maxRecDepth 100000
section
open PySem PySem.W PyProof.Rows
namespace Mine
noncomputable abbrev View := Addr → Option Obj
inductive D where
  | none
  | bool (b : Bool)
  | int (i : Int)
  | str (s : PySem.Str)
  | bytes (b : Array UInt8)
  | ty (n : String)
  | list (xs : List D)
  | tup (xs : List D)
  | ent (C : Addr) (xs : List D)
  | inst (o : Option Addr) (C : Addr) (fs : List (PySem.Str × D))
  | ptr (a : Addr)
mutual
noncomputable def Rep (g : View) (v : Value) : D → Prop
  | .none => v = .none
  | .bool b => v = .bool b
  | .int i => ∃ t, v = .int i t
  | .str s => ∃ t, v = .str s t
  | .bytes b => ∃ t, v = .bytes b t
  | .ty n => v = .type n
  | .list xs => ∃ a vs n, v = .ref a ∧ g a = some { cls := .type "list", data := .seq vs n } ∧ RepL g vs.toList xs
  | .tup xs => ∃ a vs n, v = .ref a ∧ g a = some { cls := .type "tuple", data := .seq vs n } ∧ RepL g vs.toList xs
  | .ent C xs => ∃ a vs n dd, v = .ref a ∧ g a = some { cls := .ref C, dict := some dd, data := .seq vs n } ∧ g dd = some { cls := .type "dict", data := .dict #[] } ∧ RepL g vs.toList xs
  | .inst o C fs => ∃ a dx es n, v = .ref a ∧ (∀ b, o = some b → a = b) ∧ g a = some (instObj C dx) ∧ g dx = some (dictOf es n) ∧ RepF g es fs
  | .ptr a => v = .ref a
noncomputable def RepL (g : View) : List Value → List D → Prop
  | vs, [] => vs = []
  | vs, d :: ds => ∃ v r, vs = v :: r ∧ Rep g v d ∧ RepL g r ds
noncomputable def RepF (g : View) : List DictEntry → List (PySem.Str × D) → Prop
  | es, [] => es = []
  | es, p :: fs => ∃ e r t, es = e :: r ∧ e.key = .str p.1 t ∧ RepP g e.val p ∧ RepF g r fs
noncomputable def RepP (g : View) (v : Value) : (PySem.Str × D) → Prop
  | (_, d) => Rep g v d
end
noncomputable abbrev View.le (g g' : View) : Prop := ∀ b o, g b = some o → g' b = some o
section
variable {g : View} {v : Value}
theorem rep_none : Rep g v .none ↔ v = .none := Iff.rfl
theorem rep_bool {b} : Rep g v (.bool b) ↔ v = .bool b := Iff.rfl
theorem rep_ptr {a} : Rep g v (.ptr a) ↔ v = .ref a := Iff.rfl
theorem rep_int {i} : Rep g v (.int i) ↔ ∃ t, v = .int i t := Iff.rfl
theorem rep_str {x} : Rep g v (.str x) ↔ ∃ t, v = .str x t := Iff.rfl
theorem rep_bytes {x} : Rep g v (.bytes x) ↔ ∃ t, v = .bytes x t := Iff.rfl
theorem rep_ty {x} : Rep g v (.ty x) ↔ v = .type x := Iff.rfl
theorem rep_list {xs} : Rep g v (.list xs) ↔ ∃ a vs n, v = .ref a ∧ g a = some { cls := .type "list", data := .seq vs n } ∧ RepL g vs.toList xs := Iff.rfl
theorem rep_tup {xs} : Rep g v (.tup xs) ↔ ∃ a vs n, v = .ref a ∧ g a = some { cls := .type "tuple", data := .seq vs n } ∧ RepL g vs.toList xs := Iff.rfl
theorem rep_ent {C xs} : Rep g v (.ent C xs) ↔ ∃ a vs n dd, v = .ref a ∧ g a = some { cls := .ref C, dict := some dd, data := .seq vs n } ∧ g dd = some { cls := .type "dict", data := .dict #[] } ∧ RepL g vs.toList xs := Iff.rfl
theorem rep_inst {o C fs} : Rep g v (.inst o C fs) ↔ ∃ a dx es n, v = .ref a ∧ (∀ b, o = some b → a = b) ∧ g a = some (instObj C dx) ∧ g dx = some (dictOf es n) ∧ RepF g es fs := Iff.rfl
theorem repL_nil {vs} : RepL g vs [] ↔ vs = [] := Iff.rfl
theorem repL_cons {vs d ds} : RepL g vs (d :: ds) ↔ ∃ v r, vs = v :: r ∧ Rep g v d ∧ RepL g r ds := Iff.rfl
theorem repF_nil {es : List DictEntry} : RepF g es [] ↔ es = [] := Iff.rfl
theorem repF_conP {es : List DictEntry} {p : PySem.Str × D} {fs} : RepF g es (p :: fs) ↔ ∃ e r t, es = e :: r ∧ e.key = .str p.1 t ∧ RepP g e.val p ∧ RepF g r fs := Iff.rfl
end
mutual
theorem Rep.mono {g g' : View} (k : g.le g') {v : Value} : ∀ {d : D}, Rep g v d → Rep g' v d
  | .none, h => h
  | .bool _, h => h
  | .int _, h => h
  | .str _, h => h
  | .bytes _, h => h
  | .ty _, h => h
  | .ptr _, h => h
  | .list xs, h => by obtain ⟨a, vs, n, e, h1, h2⟩ := rep_list.mp h; exact ⟨a, vs, n, e, k _ _ h1, RepL.mono k h2⟩
  | .tup xs, h => by obtain ⟨a, vs, n, e, h1, h2⟩ := rep_tup.mp h; exact ⟨a, vs, n, e, k _ _ h1, RepL.mono k h2⟩
  | .ent C xs, h => by obtain ⟨a, vs, n, dd, e, h1, h3, h2⟩ := rep_ent.mp h; exact ⟨a, vs, n, dd, e, k _ _ h1, k _ _ h3, RepL.mono k h2⟩
  | .inst o C fs, h => by obtain ⟨a, dx, es, n, e, h0, h1, h2, h3⟩ := rep_inst.mp h; exact ⟨a, dx, es, n, e, h0, k _ _ h1, k _ _ h2, RepF.mono k h3⟩
theorem RepL.mono {g g' : View} (k : g.le g') : ∀ {vs : List Value} {ds : List D}, RepL g vs ds → RepL g' vs ds
  | _, [], h => h
  | _, _ :: _, h => by obtain ⟨v, r, e, h1, h2⟩ := repL_cons.mp h; exact ⟨v, r, e, Rep.mono k h1, RepL.mono k h2⟩
theorem RepF.mono {g g' : View} (k : g.le g') : ∀ {es : List DictEntry} {fs : List (PySem.Str × D)}, RepF g es fs → RepF g' es fs
  | _, [], h => h
  | _, _ :: _, h => by obtain ⟨e, r, t, e1, e2, h1, h2⟩ := repF_conP.mp h; exact ⟨e, r, t, e1, e2, RepP.mono k h1, RepF.mono k h2⟩
theorem RepP.mono {g g' : View} (k : g.le g') {v : Value} : ∀ {p : PySem.Str × D}, RepP g v p → RepP g' v p
  | (_, _), h => Rep.mono k h
end
section
variable {g : View} {v : Value}
theorem RepL.cons {vs d ds} (h : Rep g v d) (t : RepL g vs ds) : RepL g (v :: vs) (d :: ds) := repL_cons.mpr ⟨_, _, rfl, h, t⟩
theorem RepL.nil : RepL g [] [] := repL_nil.mpr rfl
theorem RepL.length : ∀ {vs : List Value} {ds : List D}, RepL g vs ds → vs.length = ds.length
  | _, [], h => by rw [repL_nil.mp h]; rfl
  | _, _ :: _, h => by obtain ⟨v, r, rfl, _, h2⟩ := repL_cons.mp h; simp [RepL.length h2]
theorem RepL.get : ∀ {vs : List Value} {ds : List D}, RepL g vs ds → ∀ {i : Nat} {d : D}, ds[i]? = some d → ∃ v, vs[i]? = some v ∧ Rep g v d
  | _, [], _, i, d, e => by simp at e
  | _, _ :: _, h, i, d, e => by
    obtain ⟨v, r, rfl, h1, h2⟩ := repL_cons.mp h
    cases i with
    | zero => simp at e; subst e; exact ⟨v, by simp, h1⟩
    | succ i => simp at e; obtain ⟨u, hu, hr⟩ := RepL.get h2 e; exact ⟨u, by simpa using hu, hr⟩
theorem RepL.append : ∀ {vs us : List Value} {ds es : List D}, RepL g vs ds → RepL g us es → RepL g (vs ++ us) (ds ++ es)
  | _, _, [], _, h, k => by rw [repL_nil.mp h]; exact k
  | _, _, _ :: _, _, h, k => by obtain ⟨v, r, rfl, h1, h2⟩ := repL_cons.mp h; exact RepL.cons h1 (RepL.append h2 k)
theorem RepL.take : ∀ {vs : List Value} {ds : List D}, RepL g vs ds → ∀ n, RepL g (vs.take n) (ds.take n)
  | _, [], h, n => by rw [repL_nil.mp h]; simpa using RepL.nil
  | _, _ :: _, h, 0 => by simpa using RepL.nil
  | _, _ :: _, h, n + 1 => by obtain ⟨v, r, rfl, h1, h2⟩ := repL_cons.mp h; exact RepL.cons h1 (RepL.take h2 n)
theorem RepL.drop : ∀ {vs : List Value} {ds : List D}, RepL g vs ds → ∀ n, RepL g (vs.drop n) (ds.drop n)
  | _, [], h, n => by rw [repL_nil.mp h]; simpa using RepL.nil
  | _, _ :: _, h, 0 => h
  | _, _ :: _, h, n + 1 => by obtain ⟨v, r, rfl, h1, h2⟩ := repL_cons.mp h; exact RepL.drop h2 n
theorem RepL.of_get : ∀ {vs : List Value} {ds : List D}, vs.length = ds.length → (∀ (i : Nat) (v : Value) (d : D), vs[i]? = some v → ds[i]? = some d → Rep g v d) → RepL g vs ds
  | [], [], _, _ => RepL.nil
  | v :: vs, d :: ds, hl, h => RepL.cons (h 0 v d (by simp) (by simp)) (RepL.of_get (by simpa using hl) fun i v' d' a b => h (i + 1) v' d' (by simpa using a) (by simpa using b))
end
section
variable {α : Type} {P : List α → Prop}
theorem len0 (h : P []) : ∀ l : List α, l.length = 0 → P l := fun l e => by
  cases l with
  | nil => exact h
  | cons a l => cases e
theorem lenS {n : Nat} (h : ∀ a (l : List α), l.length = n → P (a :: l)) : ∀ l : List α, l.length = n + 1 → P l := fun l e => by
  cases l with
  | nil => cases e
  | cons a l => exact h a l (Nat.succ.inj e)
theorem szLe {n k : Nat} (h : n ≤ k) (hk : k ≤ 1000000) : n ≤ sizeLine := Nat.le_trans h (Nat.le_trans hk (by decide))
theorem len1 (h : ∀ a, P [a]) : ∀ l : List α, l.length = 1 → P l := lenS fun a => len0 (h a)
theorem len2 (h : ∀ a b, P [a, b]) : ∀ l : List α, l.length = 2 → P l := lenS fun a => len1 (h a)
theorem len3 (h : ∀ a b c, P [a, b, c]) : ∀ l : List α, l.length = 3 → P l := lenS fun a => len2 (h a)
theorem len4 (h : ∀ a b c d, P [a, b, c, d]) : ∀ l : List α, l.length = 4 → P l := lenS fun a => len3 (h a)
theorem len5 (h : ∀ a b c d e, P [a, b, c, d, e]) : ∀ l : List α, l.length = 5 → P l := lenS fun a => len4 (h a)
theorem len6 (h : ∀ a b c d e f, P [a, b, c, d, e, f]) : ∀ l : List α, l.length = 6 → P l := lenS fun a => len5 (h a)
end
theorem opaqueQE {M : Model} {A : Around} {α : Type} {t : Sem α} {Q : α → Shared → Prop} {E : Value → Shared → Prop} {s : Shared} (h : ∀ (QQ : α → Shared → Prop) (EE : Value → Shared → Prop), (∀ f s', Q f s' → QQ f s') → (∀ e s', E e s' → EE e s') → wpAny M A t QQ EE s) : wpAny M A t Q E s := h Q E (fun _ _ h => h) (fun _ _ h => h)
structure Wo where
  prog : Program
  w : World
  hs : Heap
  mg : PySem.Str → Option Value
  mb : PySem.Str → Option Value
noncomputable abbrev Wo.M (W : Wo) : Model := model W.prog W.w
structure Wo.Ok (W : Wo) : Prop where
  g : W.hs.Ns mainGlobals W.mg
  b : W.hs.Ns builtinsNs W.mb
  lim : W.hs.NoLimit
  bi : ∀ x : PySem.Str, x ≠ "__name__" → W.mb x = bootBuiltins x
structure Room (n : Nat) (A : Around) : Prop where
  handled : A.handled = none
  depth : A.depth + 2 * n ≤ 600
  units : A.units + 20 * n ≤ 6000
theorem Room.le {n m : Nat} {A : Around} (R : Room n A) (h : m ≤ n) : Room m A :=
  ⟨R.handled, by have := R.depth; lia, by have := R.units; lia⟩
theorem Room.in1 {n : Nat} {A : Around} (R : Room (n + 1) A) : Room n A.in1 :=
  ⟨R.handled, by have := R.depth; show A.depth + _ ≤ _; lia, by have := R.units; show A.units + 1 + _ ≤ _; lia⟩
theorem Room.deeper {n : Nat} {A : Around} {env : Env} (R : Room (n + 1) A) : Room n (A.deeper env) :=
  ⟨R.handled, by have := R.depth; show A.depth + 1 + _ ≤ _; lia, by have := R.units; show A.units + 3 + _ ≤ _; lia⟩
structure Good (hs : Heap) (g : View) (s : Shared) : Prop where
  stat : ∀ b o, hs.get? b = some o → g b = some o
  sub : ∀ b o, g b = some o → s.heap.get? b = some o
structure Step (g : View) (s : Shared) (g' : View) (s' : Shared) : Prop where
  view : g.le g'
  fresh : ∀ b o, g' b = some o → g b = some o ∨ s.heap.get? b = none
  sub : ∀ b o, g' b = some o → s'.heap.get? b = some o
  keep : ∀ b o, s.heap.get? b = some o → s'.heap.get? b = some o
  rest : s'.gens = s.gens ∧ s'.drawn = s.drawn ∧ s'.os = s.os
theorem Step.trans {g g' g'' : View} {s s' s'' : Shared} (a : Step g s g' s') (b : Step g' s' g'' s'') : Step g s g'' s'' where
  view := fun x o e => b.view _ _ (a.view _ _ e)
  fresh := fun x o e => by
    rcases b.fresh x o e with h | h
    · exact a.fresh x o h
    · refine .inr ?_
      cases q : s.heap.get? x with
      | none => rfl
      | some o' => rw [a.keep _ _ q] at h; cases h
  sub := b.sub
  keep := fun x o e => b.keep _ _ (a.keep _ _ e)
  rest := ⟨b.rest.1.trans a.rest.1, b.rest.2.1.trans a.rest.2.1, b.rest.2.2.trans a.rest.2.2⟩
theorem Step.good {hs : Heap} {g g' : View} {s s' : Shared} (G : Good hs g s) (a : Step g s g' s') : Good hs g' s' :=
  ⟨fun b o e => a.view _ _ (G.stat b o e), a.sub⟩
theorem Step.refl {hs : Heap} {g : View} {s : Shared} (G : Good hs g s) : Step g s g s :=
  ⟨fun _ _ e => e, fun _ _ e => .inl e, G.sub, fun _ _ e => e, rfl, rfl, rfl⟩
theorem Step.keeps {hs : Heap} {g : View} {s : Shared} (G : Good hs g s) {h' : Heap} {tk : Nat} (k : ∀ b o, s.heap.get? b = some o → h'.get? b = some o) : Step g s g { s with heap := h', toks := tk } :=
  ⟨fun _ _ e => e, fun _ _ e => .inl e, fun b o e => k b o (G.sub b o e), k, rfl, rfl, rfl⟩
theorem Step.toks {hs : Heap} {g : View} {s : Shared} (G : Good hs g s) {tk : Nat} : Step g s g { s with toks := tk } :=
  Step.keeps G fun _ _ e => e
noncomputable def View.put (g : View) (a : Addr) (o : Obj) : View := fun b => if b = a then some o else g b
theorem View.put_self {g : View} {a : Addr} {o : Obj} : g.put a o a = some o := by simp [View.put]
theorem View.put_ne {g : View} {a b : Addr} {o : Obj} (h : b ≠ a) : g.put a o b = g b := by simp [View.put, h]
theorem Good.fresh {hs : Heap} {g : View} {s : Shared} (G : Good hs g s) {a : Addr} (h : s.heap.get? a = none) : g a = none := by
  cases q : g a with
  | none => rfl
  | some o => rw [G.sub _ _ q] at h; cases h
theorem View.le_put {g : View} {a : Addr} {o : Obj} (h : g a = none) : g.le (g.put a o) := fun b o' e => by
  rw [View.put_ne (by rintro rfl; rw [h] at e; cases e)]; exact e
theorem Step.put {hs : Heap} {g : View} {s : Shared} (G : Good hs g s) {a : Addr} {o : Obj} {h' : Heap} {tk : Nat} (hf : s.heap.get? a = none) (ha : h'.get? a = some o) (k : ∀ b o, s.heap.get? b = some o → h'.get? b = some o) :
    Step g s (g.put a o) { s with heap := h', toks := tk } := by
  refine ⟨View.le_put (G.fresh hf), fun b o' e => ?_, fun b o' e => ?_, k, rfl, rfl, rfl⟩
  · by_cases hb : b = a
    · subst hb; exact .inr hf
    · rw [View.put_ne hb] at e; exact .inl e
  · by_cases hb : b = a
    · subst hb; rw [View.put_self] at e; cases e; exact ha
    · rw [View.put_ne hb] at e; exact k _ _ (G.sub _ _ e)
theorem size_free (h : Heap) : h.get? h.objs.size = none := Heap.get?_none_of_le (Nat.le_refl _)
theorem Step.push {hs : Heap} {g : View} {s : Shared} (G : Good hs g s) {o : Obj} {tk : Nat} (hf : o.isFreed = false := by rfl) :
    Step g s (g.put s.heap.objs.size o) { s with heap := s.heap.push o, toks := tk } :=
  Step.put G (size_free _) (Heap.get?_push_size _ hf) fun _ _ e => Heap.get?_push_of_some _ e
noncomputable def Res (g : View) (s : Shared) (d : D) (v : Value) (s' : Shared) : Prop := ∃ g', Step g s g' s' ∧ Rep g' v d
noncomputable def ResL (g : View) (s : Shared) (ds : List D) (vs : List Value) (s' : Shared) : Prop := ∃ g', Step g s g' s' ∧ RepL g' vs ds
noncomputable def ResB (g : View) (s : Shared) (b : Bool) (c : Bool) (s' : Shared) : Prop := c = b ∧ ∃ g', Step g s g' s'
noncomputable abbrev Rho := List (PySem.Str × D)
noncomputable abbrev Names := List (PySem.Str × NameKind)
structure En (g : View) (h : Heap) (env : Env) (ns : Names) (ρ : Rho) : Prop where
  names : env.scope.names = ns
  kind : env.scope.kind = .function
  globals : env.globals = mainGlobals
  builtins : env.builtins = builtinsNs
  hidL : g env.locals = none
  cells : ∀ x, (ns.lookup x = some .cell ∨ ns.lookup x = some .free) → ∃ c v, env.cells.lookup x = some c ∧ h.IsCell c v
  hidC : ∀ x c, env.cells.lookup x = some c → g c = none
  isC : ∀ x c, env.cells.lookup x = some c → ∃ v, h.IsCell c v
  apart : ∀ x y c, env.cells.lookup x = some c → env.cells.lookup y = some c → x = y
  loc : ∃ m, h.Ns env.locals m ∧ ∀ x d, ρ.lookup x = some d → ns.lookup x = some .local → ∃ v, m x = some v ∧ Rep g v d
  cv : ∀ x d, ρ.lookup x = some d → (ns.lookup x = some .cell ∨ ns.lookup x = some .free) → ∃ c v, env.cells.lookup x = some c ∧ h.IsCell c (some v) ∧ Rep g v d
theorem En.kindOf {g h env ns ρ} (e : En g h env ns ρ) (x : PySem.Str) : env.kindOf x = ns.lookup x := by rw [← e.names]; rfl
theorem En.step {g g' : View} {s s' : Shared} {env ns ρ} (e : En g s.heap env ns ρ) (a : Step g s g' s') : En g' s'.heap env ns ρ where
  names := e.names
  kind := e.kind
  globals := e.globals
  builtins := e.builtins
  hidL := by
    cases q : g' env.locals with
    | none => rfl
    | some o =>
      obtain ⟨m, ⟨o', es, ep, ho, _⟩, _⟩ := e.loc
      rcases a.fresh _ _ q with h | h
      · rw [e.hidL] at h; cases h
      · rw [ho] at h; cases h
  cells := fun x hx => let ⟨c, v, h1, h2⟩ := e.cells x hx; ⟨c, v, h1, h2.keeps a.keep⟩
  hidC := fun x c hx => by
    cases q : g' c with
    | none => rfl
    | some o =>
      obtain ⟨v, o', ho, _⟩ := e.isC x c hx
      rcases a.fresh _ _ q with h | h
      · rw [e.hidC x c hx] at h; cases h
      · rw [ho] at h; cases h
  isC := fun x c hx => let ⟨v, h⟩ := e.isC x c hx; ⟨v, h.keeps a.keep⟩
  apart := e.apart
  loc := let ⟨m, h1, h2⟩ := e.loc; ⟨m, h1.keeps a.keep, fun x d p q => let ⟨v, r1, r2⟩ := h2 x d p q; ⟨v, r1, r2.mono a.view⟩⟩
  cv := fun x d p q => let ⟨c, v, h1, h2, h3⟩ := e.cv x d p q; ⟨c, v, h1, h2.keeps a.keep, h3.mono a.view⟩
structure Cx (W : Wo) (n : Nat) (A : Around) (env : Env) (ns : Names) (ρ : Rho) (g : View) (s : Shared) : Prop where
  room : Room n A
  good : Good W.hs g s
  en : En g s.heap env ns ρ
theorem Cx.step {W n A env ns ρ} {g g' : View} {s s' : Shared} (c : Cx W n A env ns ρ g s) (a : Step g s g' s') : Cx W n A env ns ρ g' s' :=
  ⟨c.room, a.good c.good, c.en.step a⟩
noncomputable def TriE (W : Wo) (n : Nat) (ns : Names) (ρ : Rho) (e : Expr) (d : D) : Prop :=
  ∀ A env g s (E : Value → Shared → Prop), Cx W n A env ns ρ g s → wpAny W.M A (eval e env) (Res g s d) E s
noncomputable def TriB (W : Wo) (n : Nat) (ns : Names) (ρ : Rho) (e : Expr) (b : Bool) : Prop :=
  ∀ A env g s (E : Value → Shared → Prop), Cx W n A env ns ρ g s → wpAny W.M A (isTrue e env (eval e env)) (ResB g s b) E s
noncomputable def TriL (W : Wo) (n : Nat) (ns : Names) (ρ : Rho) (es : List Expr) (ds : List D) : Prop :=
  ∀ A env g s (E : Value → Shared → Prop) (pos : Pos), Cx W n A env ns ρ g s → wpAny W.M A (spliced (backTo pos (starEach es env))) (ResL g s ds) E s
noncomputable def BinE (W : Wo) (op : Operator) (a b d : D) : Prop :=
  ∀ n A g s (E : Value → Shared → Prop) u v, Room (n + 1) A → Good W.hs g s → Rep g u a → Rep g v b → wpAny W.M A (binaryOp op u v) (Res g s d) E s
noncomputable def CmpE (W : Wo) (op : CmpOp) (a b : D) (d : Bool) : Prop :=
  ∀ n A g s (E : Value → Shared → Prop) u v, Room (n + 1) A → Good W.hs g s → Rep g u a → Rep g v b → wpAny W.M A (compareOp op u v) (Res g s (.bool d)) E s
noncomputable def UnE (W : Wo) (op : UnaryOp) (a d : D) : Prop :=
  ∀ n A g s (E : Value → Shared → Prop) u, Room (n + 1) A → Good W.hs g s → Rep g u a → wpAny W.M A (unaryOp op u) (Res g s d) E s
noncomputable def TruE (W : Wo) (a : D) (b : Bool) : Prop :=
  ∀ n A g s (E : Value → Shared → Prop) u, Room (n + 1) A → Good W.hs g s → Rep g u a → wpAny W.M A (truthy u) (ResB g s b) E s
section
variable {W : Wo} {n : Nat} {ns : Names} {ρ : Rho}
theorem wp_mono' {α : Type} {M : Model} {A : Around} {t : Sem α} {Q Q' : α → Shared → Prop} {E : Value → Shared → Prop} {s : Shared} (h : wpAny M A t Q E s) (hQ : ∀ a s, Q a s → Q' a s) : wpAny M A t Q' E s :=
  wpAny_mono h hQ fun _ _ e => e
theorem TriE.bin {op : Operator} {l r : Expr} {pos : Pos} {a b d : D} (hl : TriE W (n + 1) ns ρ l a) (hr : TriE W (n + 1) ns ρ r b) (hop : BinE W op a b d) : TriE W (n + 1) ns ρ (.BinOp l op r pos) d :=
  fun A env g s E c => wpAny_BinOp (wp_mono' (hl A env g s E c) fun u s₁ ⟨g₁, st₁, r₁⟩ => wp_mono' (hr A env g₁ s₁ E (c.step st₁)) fun v s₂ ⟨g₂, st₂, r₂⟩ =>
    wp_mono' (hop n A g₂ s₂ E u v c.room ((c.step st₁).step st₂).good (r₁.mono st₂.view) r₂) fun x s₃ ⟨g₃, st₃, r₃⟩ => ⟨g₃, (st₁.trans st₂).trans st₃, r₃⟩)
theorem TriE.un {op : UnaryOp} {x : Expr} {pos : Pos} {a d : D} (hx : TriE W (n + 1) ns ρ x a) (hop : UnE W op a d) : TriE W (n + 1) ns ρ (.UnaryOp op x pos) d :=
  fun A env g s E c => wpAny_UnaryOp (wp_mono' (hx A env g s E c) fun u s₁ ⟨g₁, st₁, r₁⟩ =>
    wp_mono' (hop n A g₁ s₁ E u c.room (c.step st₁).good r₁) fun x s₃ ⟨g₃, st₃, r₃⟩ => ⟨g₃, st₁.trans st₃, r₃⟩)
theorem TriE.int {i : Int} {k pos} : TriE W n ns ρ (.Constant (.int i) k pos) (.int i) :=
  fun A env g s E c => wpAny_Constant_int ⟨g, Step.toks c.good, rep_int.mpr ⟨_, rfl⟩⟩
theorem TriE.str {x : PySem.Str} {k pos} : TriE W n ns ρ (.Constant (.str x) k pos) (.str x) :=
  fun A env g s E c => wpAny_Constant_str ⟨g, Step.toks c.good, rep_str.mpr ⟨_, rfl⟩⟩
theorem TriE.boolC {b : Bool} {k pos} : TriE W n ns ρ (.Constant (.bool b) k pos) (.bool b) :=
  fun A env g s E c => wpAny_Constant_bool ⟨g, Step.refl c.good, rep_bool.mpr rfl⟩
theorem TriE.noneC {k pos} : TriE W n ns ρ (.Constant .none k pos) .none :=
  fun A env g s E c => wpAny_Constant_none ⟨g, Step.refl c.good, rep_none.mpr rfl⟩
theorem TriE.name {x : PySem.Str} {pos : Pos} {d : D} (h : ρ.lookup x = some d) (hk : ns.lookup x = some .local ∨ ns.lookup x = some .cell ∨ ns.lookup x = some .free)
    (hd : (x == ("__debug__" : PySem.Str)) = false) (hc : (x == ("__classdict__" : PySem.Str)) = false) : TriE W n ns ρ (.Name x pos) d :=
  fun A env g s E c => by
    refine wpAny_Name ?_ hd
    rcases hk with hk | hk | hk
    · obtain ⟨m, h1, h2⟩ := c.en.loc
      obtain ⟨v, h3, h4⟩ := h2 x d h hk
      exact wpAny_loadName_local c.en.kind ((c.en.kindOf x).trans hk) h1 h3 ⟨g, Step.refl c.good, h4⟩
    · obtain ⟨cc, v, h1, h2, h3⟩ := c.en.cv x d h (.inl hk)
      exact wpAny_loadName_cell c.en.kind ((c.en.kindOf x).trans hk) h1 h2 ⟨g, Step.refl c.good, h3⟩
    · obtain ⟨cc, v, h1, h2, h3⟩ := c.en.cv x d h (.inr hk)
      exact wpAny_loadName_free c.en.kind ((c.en.kindOf x).trans hk) h1 h2 ⟨g, Step.refl c.good, h3⟩ hc
noncomputable def okN (ns : Names) (x : PySem.Str) : Bool := (ns.lookup x == some .local || (ns.lookup x == some .cell || ns.lookup x == some .free)) && (!(x == ("__debug__" : PySem.Str)) && !(x == ("__classdict__" : PySem.Str)))
theorem TriE.nm {x : PySem.Str} {pos : Pos} {d : D} (h : ρ.lookup x = some d) (hk : okN ns x = true) : TriE W n ns ρ (.Name x pos) d := by
  obtain ⟨h1, h2⟩ := Bool.and_eq_true_iff.mp hk
  obtain ⟨h3, h4⟩ := Bool.and_eq_true_iff.mp h2
  refine TriE.name h ?_ (by simpa using h3) (by simpa using h4)
  simpa using h1
theorem TriE.cmp {op : CmpOp} {l r : Expr} {pos : Pos} {a b : D} {d : Bool} (hl : TriE W (n + 1) ns ρ l a) (hr : TriE W (n + 1) ns ρ r b) (hop : CmpE W op a b d) (hm : behindInMarks op r = false) : TriE W (n + 1) ns ρ (.Compare l [op] [r] pos) (.bool d) :=
  fun A env g s E c => wpAny_Compare1 (wp_mono' (hl A env g s E c) fun u s₁ ⟨g₁, st₁, r₁⟩ => wp_mono' (hr A env g₁ s₁ E (c.step st₁)) fun v s₂ ⟨g₂, st₂, r₂⟩ =>
    wp_mono' (hop n A g₂ s₂ E u v c.room ((c.step st₁).step st₂).good (r₁.mono st₂.view) r₂) fun x s₃ ⟨g₃, st₃, r₃⟩ => ⟨g₃, (st₁.trans st₂).trans st₃, r₃⟩) hm
theorem TriB.cmp {op : CmpOp} {l r : Expr} {pos : Pos} {a b : D} {d : Bool} (hl : TriE W (n + 1) ns ρ l a) (hr : TriE W (n + 1) ns ρ r b) (hop : CmpE W op a b d) (hm : behindInMarks op r = false) : TriB W (n + 1) ns ρ (.Compare l [op] [r] pos) d :=
  fun A env g s E c => wpAny_isTrue_Compare1 (wp_mono' (hl A env g s E c) fun u s₁ ⟨g₁, st₁, r₁⟩ => wp_mono' (hr A env g₁ s₁ E (c.step st₁)) fun v s₂ ⟨g₂, st₂, r₂⟩ =>
    wp_mono' (hop n A g₂ s₂ E u v c.room ((c.step st₁).step st₂).good (r₁.mono st₂.view) r₂) fun x s₃ ⟨g₃, st₃, r₃⟩ => by
      rw [rep_bool.mp r₃]
      exact wpAny_truthy_bool ⟨rfl, g₃, (st₁.trans st₂).trans st₃⟩) hm
theorem TriB.not {x : Expr} {pos : Pos} {b : Bool} (h : TriB W n ns ρ x b) : TriB W n ns ρ (.UnaryOp .Not x pos) (!b) :=
  fun A env g s E c => wpAny_isTrue_Not (wp_mono' (h A env g s E c) fun _ _ ⟨e, g', st⟩ => ⟨by rw [e], g', st⟩)
theorem TriB.value {e : Expr} {d : D} {b : Bool} (h : TriE W (n + 1) ns ρ e d) (ht : TruE W d b)
    (he : ∀ env whole, isTrue e env whole = (do let v ← whole; standAt e.pos; holding [v] (truthy v)) := by intro _ _; rfl) : TriB W (n + 1) ns ρ e b :=
  fun A env g s E c => wpAny_isTrue_value (wp_mono' (h A env g s E c) fun u s₁ ⟨g₁, st₁, r₁⟩ =>
    wp_mono' (ht n A g₁ s₁ E u c.room (c.step st₁).good r₁) fun _ _ ⟨e, g', st⟩ => ⟨e, g', st₁.trans st⟩) (he env _)
theorem TriE.ite {t b o : Expr} {pos : Pos} {c : Bool} {d : D} (ht : TriB W n ns ρ t c) (hb : c = true → TriE W n ns ρ b d) (ho : c = false → TriE W n ns ρ o d) : TriE W n ns ρ (.IfExp t b o pos) d :=
  fun A env g s E cx => wpAny_IfExp (wp_mono' (ht A env g s E cx) fun r s₁ ⟨e, g₁, st₁⟩ => by
    subst e
    cases r with
    | true => exact wp_mono' (hb rfl A env g₁ s₁ E (cx.step st₁)) fun _ _ ⟨g₂, st₂, r₂⟩ => ⟨g₂, st₁.trans st₂, r₂⟩
    | false => exact wp_mono' (ho rfl A env g₁ s₁ E (cx.step st₁)) fun _ _ ⟨g₂, st₂, r₂⟩ => ⟨g₂, st₁.trans st₂, r₂⟩)
theorem TriL.nil : TriL W n ns ρ [] [] := fun A env g s E pos c => PySem.Calls.spliced_nil ⟨g, Step.refl c.good, RepL.nil⟩
theorem TriL.cons {e : Expr} {es : List Expr} {d : D} {ds : List D} (h : TriE W n ns ρ e d) (t : TriL W n ns ρ es ds) (hs : ∀ env, starEach (e :: es) env = (false, eval e env) :: starEach es env := by intro _; rfl) : TriL W n ns ρ (e :: es) (d :: ds) :=
  fun A env g s E pos c => by
    rw [hs env]
    refine PySem.Calls.spliced_cons (wp_mono' (h A env g s E c) fun v s₁ ⟨g₁, st₁, r₁⟩ => ?_)
    exact wp_mono' (t A env g₁ s₁ E pos (c.step st₁)) fun vs s₂ ⟨g₂, st₂, r₂⟩ => ⟨g₂, st₁.trans st₂, RepL.cons (r₁.mono st₂.view) r₂⟩
theorem newListR {A : Around} {E : Value → Shared → Prop} {M : Model} {g : View} {s : Shared} {vs : List Value} {ds : List D} {hs : Heap} (G : Good hs g s) (h : RepL g vs ds) (hz : ds.length ≤ sizeLine) : wpAny M A (newList vs) (Res g s (.list ds)) E s := by
  refine wpAny_newObj_type ?_ (by show vs.toArray.size ≤ sizeLine; rw [List.size_toArray, h.length]; exact hz)
  have st : Step g s (g.put s.heap.objs.size { cls := .type "list", dict := none, data := .seq vs.toArray }) { s with heap := s.heap.push { cls := .type "list", dict := none, data := .seq vs.toArray } } := Step.push G
  exact ⟨_, st, rep_list.mpr ⟨_, vs.toArray, 0, rfl, View.put_self, by simpa using h.mono st.view⟩⟩
theorem newTupleR {A : Around} {E : Value → Shared → Prop} {M : Model} {g : View} {s : Shared} {vs : List Value} {ds : List D} {hs : Heap} (G : Good hs g s) (h : RepL g vs ds) (hz : ds.length ≤ sizeLine) : wpAny M A (newTuple vs) (Res g s (.tup ds)) E s := by
  refine wpAny_newObj_type ?_ (by show vs.toArray.size ≤ sizeLine; rw [List.size_toArray, h.length]; exact hz)
  have st : Step g s (g.put s.heap.objs.size { cls := .type "tuple", dict := none, data := .seq vs.toArray }) { s with heap := s.heap.push { cls := .type "tuple", dict := none, data := .seq vs.toArray } } := Step.push G
  exact ⟨_, st, rep_tup.mpr ⟨_, vs.toArray, 0, rfl, View.put_self, by simpa using h.mono st.view⟩⟩
theorem TriE.list {es : List Expr} {ds : List D} {pos : Pos} (h : TriL W n ns ρ es ds) (hz : ds.length ≤ sizeLine) : TriE W n ns ρ (.List es pos) (.list ds) :=
  fun A env g s E c => List_ (wp_mono' (h A env g s E pos c) fun vs s₁ ⟨g₁, st₁, r₁⟩ => wp_mono' (newListR (c.step st₁).good r₁ hz) fun v s₂ ⟨g₂, st₂, r₂⟩ => ⟨g₂, st₁.trans st₂, r₂⟩)
theorem TriE.tuple {es : List Expr} {ds : List D} {k : Nat} {pos : Pos} (h : TriL W n ns ρ es ds) (hz : ds.length ≤ sizeLine) : TriE W n ns ρ (.Tuple es k pos) (.tup ds) :=
  fun A env g s E c => Tuple_ (wp_mono' (h A env g s E pos c) fun vs s₁ ⟨g₁, st₁, r₁⟩ => wp_mono' (newTupleR (c.step st₁).good r₁ hz) fun v s₂ ⟨g₂, st₂, r₂⟩ => ⟨g₂, st₁.trans st₂, r₂⟩)
end
end Mine
end
section
open PySem PySem.W PyProof.Rows
namespace Mine
noncomputable def smallI (a : Int) : Bool := decide (a.natAbs < 2 ^ 64)
noncomputable def binInt (op : Operator) (a b : Int) : Option D := match op with
  | .Add => some (.int (a + b))
  | .Sub => some (.int (a - b))
  | .Mult => if smallI a || smallI b then some (.int (a * b)) else none
  | .FloorDiv => if b ≠ 0 ∧ b.natAbs < 1073741824 then some (.int (a.fdiv b)) else none
  | .Mod => if b ≠ 0 then some (.int (a.fmod b)) else none
  | .Pow => if 0 ≤ b ∧ b ≤ 1000000 ∧ a.natAbs < 2 ^ 64 then some (.int (a ^ b.toNat)) else none
  | .RShift => if 0 ≤ b then some (.int (a.fdiv (2 ^ b.toNat))) else none
  | .LShift => if 0 ≤ b ∧ b ≤ 1000000 ∧ a.natAbs < 2 ^ 64 then some (.int (a * 2 ^ b.toNat)) else none
  | .BitAnd => some (.int (Builtin.bitAnd a b))
  | .BitOr => some (.int (Builtin.bitOr a b))
  | .BitXor => some (.int (Builtin.bitXor a b))
  | _ => none
noncomputable def isAdd : Operator → Bool
  | .Add => true
  | _ => false
noncomputable def isMult : Operator → Bool
  | .Mult => true
  | _ => false
noncomputable def binD (op : Operator) (a b : D) : Option D := match a with
  | .int a => (match b with
    | .int b => binInt op a b
    | _ => none)
  | .str x => (match b with
    | .str y => if isAdd op = true ∧ (x ++ y).length ≤ sizeLine then some (.str (x ++ y)) else none
    | .int n => if isMult op = true ∧ n < 2 ^ 24 ∧ -(2 ^ 24) < n ∧ x.length * n.toNat ≤ 2 ^ 24 then some (.str (Txt.mul x n)) else none
    | _ => none)
  | .list xs => (match b with
    | .list ys => if isAdd op = true ∧ xs.length + ys.length ≤ sizeLine then some (.list (xs ++ ys)) else none
    | .int n => if isMult op = true ∧ n < 2 ^ 24 ∧ -(2 ^ 24) < n ∧ xs.length * n.toNat ≤ 2 ^ 24 then some (.list (List.replicate n.toNat xs).flatten) else none
    | _ => none)
  | _ => none
section
variable {W : Wo}
theorem intBits_small {a : Int} (h : smallI a = true) : Builtin.Int.intBits a ≤ 64 := by
  unfold smallI at h
  have h := of_decide_eq_true h
  first
    | exact PyProof.Rows.intBits_le_of_lt h
    | (unfold Builtin.Int.intBits
       split
       · lia
       · rename_i h0
         have : a.natAbs ≠ 0 := by intro e; apply h0; simp; lia
         have := (Nat.log2_lt this).mpr h
         lia)
theorem repStr_empty_l {x y : Str} (h : x.length = 0) : x ++ y = y := by
  have h1 : x.cps = #[] := Array.eq_empty_of_size_eq_zero h
  have : x = Str.empty := by cases x; simp at h1; subst h1; rfl
  rw [this, Str.empty_append]
theorem repStr_empty_r {x y : Str} (h : y.length = 0) : x ++ y = x := by
  have h1 : y.cps = #[] := Array.eq_empty_of_size_eq_zero h
  apply Str.ext'
  rw [Str.cps_append, h1]
  simp
theorem RepL.replicate {g : View} {vs : List Value} {ds : List D} (h : RepL g vs ds) : ∀ n, RepL g (List.replicate n vs).flatten (List.replicate n ds).flatten
  | 0 => by simpa using RepL.nil
  | n + 1 => by rw [List.replicate_succ, List.replicate_succ, List.flatten_cons, List.flatten_cons]; exact h.append (RepL.replicate h n)
theorem foldl_flat {α : Type} (xs : Array α) : ∀ (n : Nat) (acc : Array α), (List.foldl (fun x1 x2 => x1 ++ x2) acc (List.replicate n xs)).toList = acc.toList ++ (List.replicate n xs.toList).flatten
  | 0, acc => by simp
  | n + 1, acc => by rw [List.replicate_succ, List.foldl_cons, foldl_flat xs n, List.replicate_succ, List.flatten_cons, Array.toList_append, List.append_assoc]
theorem BinE.some {op : Operator} {a b d x : D} (h : Option.some x = Option.some d) (k : BinE W op a b x) : BinE W op a b d := Option.some.inj h ▸ k
theorem BinE.ite {op : Operator} {a b d x : D} {c : Prop} [Decidable c] (h : (if c then Option.some x else Option.none) = Option.some d) (k : c → BinE W op a b x) : BinE W op a b d := by
  by_cases q : c
  · rw [if_pos q] at h; exact .some h (k q)
  · rw [if_neg q] at h; cases h
theorem BinE.ints {op : Operator} {a b : Int} {d : D} (k : ∀ A g s (E : Value → Shared → Prop) t t', Good W.hs g s → wpAny W.M A (binaryOp op (.int a t) (.int b t')) (Res g s d) E s) : BinE W op (.int a) (.int b) d := by
  intro n A g s E u v R G ru rv
  obtain ⟨t, rfl⟩ := rep_int.mp ru
  obtain ⟨t', rfl⟩ := rep_int.mp rv
  exact k A g s E t t' G
theorem Res.int {hs : Heap} {g : View} {s : Shared} {i : Int} {t tk : Tok} (G : Good hs g s) : Res g s (.int i) (.int i t) { s with toks := tk } := ⟨g, Step.toks G, rep_int.mpr ⟨_, rfl⟩⟩
theorem Res.str {hs : Heap} {g : View} {s : Shared} {x : PySem.Str} {t tk : Tok} (G : Good hs g s) : Res g s (.str x) (.str x t) { s with toks := tk } := ⟨g, Step.toks G, rep_str.mpr ⟨_, rfl⟩⟩
theorem binInt_sound {op : Operator} {a b : Int} {d : D} (h : binInt op a b = some d) : BinE W op (.int a) (.int b) d := by
  cases op with
  | Add => exact .some h (.ints fun A g s E t t' G => PySem.P.add_int (Res.int G))
  | Sub => exact .some h (.ints fun A g s E t t' G => PySem.P.sub_int (Res.int G))
  | Mult => exact .ite h fun q => .ints fun A g s E t t' G => PyProof.Rows.mul_int (Res.int G) ((Bool.or_eq_true_iff.mp q).elim (fun q => IntMulOk.of_left (intBits_small q)) fun q => IntMulOk.of_right (intBits_small q))
  | FloorDiv => exact .ite h fun q => .ints fun A g s E t t' G => floordiv_int q.1 (Res.int G) (Or.inl (PyProof.noPylong_small q.2))
  | Mod => exact .ite h fun q => .ints fun A g s E t t' G => mod_int' q (Res.int G)
  | Pow => exact .ite h fun q => .ints fun A g s E t t' G => pow_int_small q.1 q.2.1 q.2.2 (Res.int G)
  | RShift => exact .ite h fun q => .ints fun A g s E t t' G => rshift_int q (Res.int G)
  | LShift => exact .ite h fun q => .ints fun A g s E t t' G => lshift_int_small q.1 q.2.1 q.2.2 (Res.int G)
  | BitAnd => exact .some h (.ints fun A g s E t t' G => and_int (Res.int G))
  | BitOr => exact .some h (.ints fun A g s E t t' G => or_int (Res.int G))
  | BitXor => exact .some h (.ints fun A g s E t t' G => xor_int (Res.int G))
  | _ => cases h
theorem bin_addStr {x y : PySem.Str} (hs : (x ++ y).length ≤ sizeLine) : BinE W .Add (.str x) (.str y) (.str (x ++ y)) := by
  intro n A g s E u v R G ru rv
  obtain ⟨t, rfl⟩ := rep_str.mp ru
  obtain ⟨t', rfl⟩ := rep_str.mp rv
  refine PySem.P.add_str ?_
  split
  · rename_i hx
    rw [repStr_empty_l (by simpa using hx)]
    exact ⟨g, Step.refl G, rep_str.mpr ⟨_, rfl⟩⟩
  · split
    · rename_i hx
      rw [repStr_empty_r (by simpa using hx)]
      exact ⟨g, Step.refl G, rep_str.mpr ⟨_, rfl⟩⟩
    · exact ⟨hs, g, Step.toks G, rep_str.mpr ⟨_, rfl⟩⟩
theorem seqR {hs : Heap} {g : View} {s : Shared} (G : Good hs g s) {zs : Array Value} {ds : List D} (h : RepL g zs.toList ds) :
    Res g s (.list ds) (.ref s.heap.objs.size) { s with heap := s.heap.push { cls := .type "list", data := .seq zs } } :=
  have st : Step g s (g.put s.heap.objs.size { cls := .type "list", data := .seq zs }) { s with heap := s.heap.push { cls := .type "list", data := .seq zs } } := Step.push G
  ⟨_, st, rep_list.mpr ⟨_, _, 0, rfl, View.put_self, h.mono st.view⟩⟩
theorem bin_addList {xs ys : List D} (hs : xs.length + ys.length ≤ sizeLine) : BinE W .Add (.list xs) (.list ys) (.list (xs ++ ys)) := by
  intro n A g s E u v R G ru rv
  obtain ⟨l, vs, k, rfl, hl, hr⟩ := rep_list.mp ru
  obtain ⟨l', vs', k', rfl, hl', hr'⟩ := rep_list.mp rv
  exact PySem.P.add_list (items := vs) (items2 := vs') (G.sub _ _ hl) (G.sub _ _ hl') (seqR G (by rw [Array.toList_append]; exact hr.append hr')) (by rw [← Array.length_toList, hr.length, ← Array.length_toList, hr'.length]; exact hs)
theorem bin_mulStr {x : PySem.Str} {n : Int} (h1 : n < 2 ^ 24) (h2 : -(2 ^ 24) < n) (h3 : x.length * n.toNat ≤ 2 ^ 24) : BinE W .Mult (.str x) (.int n) (.str (Txt.mul x n)) := by
  intro n' A g s E u v R G ru rv
  obtain ⟨t, rfl⟩ := rep_str.mp ru
  obtain ⟨t', rfl⟩ := rep_int.mp rv
  refine SB.mul ⟨?_, ?_, ?_⟩ fun t' k => ⟨g, Step.toks G, rep_str.mpr ⟨_, rfl⟩⟩
  · rw [decide_eq_false (by lia), decide_eq_false (by lia)]; rfl
  · intro q1 q2
    rw [Int.not_lt]
    have hz : (x.length : Int) * n ≤ 2 ^ 24 := by
      have : ((x.length * n.toNat : Nat) : Int) ≤ ((2 ^ 24 : Nat) : Int) := Int.ofNat_le.mpr h3
      rw [Int.natCast_mul, Int.toNat_of_nonneg (by lia)] at this
      simpa using this
    exact (Int.le_ediv_iff_mul_le (by lia)).mpr (by lia)
  · intro q1 q2
    show decide (_ > _) = false
    exact decide_eq_false (by simp [sizeLine] at *; lia)
theorem repeatL {g : View} {vs : Array Value} {xs : List D} (hr : RepL g vs.toList xs) (k : Nat) : RepL g (List.foldl (fun x1 x2 => x1 ++ x2) #[] (List.replicate (if vs.isEmpty = true then 0 else k) vs)).toList (List.replicate k xs).flatten := by
  rw [foldl_flat]
  show RepL g (List.replicate _ vs.toList).flatten _
  by_cases he : vs.isEmpty = true
  · have hv : vs.toList = [] := by simpa using he
    have hx : xs = [] := List.eq_nil_of_length_eq_zero (hr.length.symm.trans (by rw [hv]; rfl))
    subst hx
    rw [hv]
    simpa using RepL.nil
  · rw [if_neg he]; exact hr.replicate _
theorem bin_mulList {xs : List D} {n : Int} (h1 : n < 2 ^ 24) (h2 : -(2 ^ 24) < n) (h3 : xs.length * n.toNat ≤ 2 ^ 24) : BinE W .Mult (.list xs) (.int n) (.list (List.replicate n.toNat xs).flatten) := by
  intro n' A g s E u v R G ru rv
  obtain ⟨l, vs, k, rfl, hl, hr⟩ := rep_list.mp ru
  obtain ⟨t', rfl⟩ := rep_int.mp rv
  have e1 := hr.length
  rw [Array.length_toList] at e1
  have hG := G.sub _ _ hl
  exact wpAny_binaryOp_repeat_ref (T := "list") (U := "int") (by decide) ⟨_, hG, rfl⟩ (fun s' => typeIs_int s' n t') noFill_list_mul F.fills_int_mul F.slot_int_rmul repeat_list F.slot_int_index.lookup
    (call_meets F.slot_int_rmul (typeIs_int s n t') F.entry_int_rmul (F.args_int_rmul_2 _ _) (int___rmul___int_list n t' l vs k)
      ⟨hG, rfl, ⟨_, hG, rfl⟩, call_meets F.slot_list_mul ⟨_, hG, rfl⟩ F.entry_list_mul (F.args_list_mul_2 _ _)
        (AutoListH.list___mul___list_int_3 l vs k n t' (by simp [Builtin.List.listFitsIndex]; lia) (by rw [e1]; lia) (by rw [e1]; simp [Builtin.List.listTooLong, sizeLine]; lia))
        ⟨hG, seqR G (repeatL hr n.toNat)⟩⟩)
theorem isAdd_eq {op : Operator} (h : isAdd op = true) : op = .Add := by cases op <;> first | rfl | cases h
theorem isMult_eq {op : Operator} (h : isMult op = true) : op = .Mult := by cases op <;> first | rfl | cases h
theorem binD_sound {op : Operator} {a b d : D} (h : binD op a b = some d) : BinE W op a b d := by
  cases a with
  | int a => cases b with
    | int b => exact binInt_sound h
    | _ => cases h
  | str x => cases b with
    | str y => exact .ite h fun q => by cases isAdd_eq q.1; exact bin_addStr q.2
    | int n => exact .ite h fun q => by cases isMult_eq q.1; exact bin_mulStr q.2.1 q.2.2.1 q.2.2.2
    | _ => cases h
  | list xs => cases b with
    | list ys => exact .ite h fun q => by cases isAdd_eq q.1; exact bin_addList q.2
    | int n => exact .ite h fun q => by cases isMult_eq q.1; exact bin_mulList q.2.1 q.2.2.1 q.2.2.2
    | _ => cases h
  | _ => cases h
end
end Mine
end
open PySem PySem.W PyProof.Rows PySem.Spec
section
namespace Mine
mutual
noncomputable def D.py : D → PyData
  | .none => .none
  | .bool b => .bool b
  | .int i => .int i
  | .str s => .str s
  | .list xs => .list (D.pyL xs)
  | .tup xs => .tuple (D.pyL xs)
  | _ => .none
noncomputable def D.pyL : List D → List PyData
  | [] => []
  | d :: ds => d.py :: D.pyL ds
end
mutual
noncomputable def D.isPy : D → Bool
  | .none | .bool _ | .int _ => true
  | .str s => PyData.strOk s
  | .list xs => D.isPyL xs
  | .tup xs => D.isPyL xs
  | _ => false
noncomputable def D.isPyL : List D → Bool
  | [] => true
  | d :: ds => d.isPy && D.isPyL ds
end
mutual
theorem D.canLay : ∀ {d : D}, d.isPy = true → d.py.canLay0 = true
  | .none, _ => by simp [D.py, PyData.canLay0]
  | .bool _, _ => by simp [D.py, PyData.canLay0]
  | .int _, _ => by simp [D.py, PyData.canLay0]
  | .str _, h => by simpa [D.py, D.isPy, PyData.canLay0] using h
  | .list xs, h => by rw [D.isPy] at h; simpa [D.py, PyData.canLay0] using D.canLayL h
  | .tup xs, h => by rw [D.isPy] at h; simpa [D.py, PyData.canLay0] using D.canLayL h
  | .bytes _, h => by simp [D.isPy] at h
  | .ty _, h => by simp [D.isPy] at h
  | .ent _ _, h => by simp [D.isPy] at h
  | .inst _ _ _, h => by simp [D.isPy] at h
  | .ptr _, h => by simp [D.isPy] at h
theorem D.canLayL : ∀ {ds : List D}, D.isPyL ds = true → PyData.canLayAll0 (D.pyL ds) = true
  | [], _ => by simp [D.pyL, PyData.canLayAll0]
  | d :: ds, h => by
    rw [D.isPyL, Bool.and_eq_true] at h
    rw [D.pyL, PyData.canLayAll0, D.canLay h.1, D.canLayL h.2]; rfl
end
mutual
theorem Rep.reads {g : View} {h : Heap} (k : ∀ b o, g b = some o → h.get? b = some o) {v : Value} : ∀ {d : D}, d.isPy = true → Rep g v d → ∃ as, Reads h v d.py as
  | .none, _, r => by rw [rep_none.mp r]; exact ⟨_, .none⟩
  | .bool _, _, r => by rw [rep_bool.mp r]; exact ⟨_, .bool _⟩
  | .int _, _, r => by obtain ⟨t, rfl⟩ := rep_int.mp r; exact ⟨_, .int _ _⟩
  | .str _, _, r => by obtain ⟨t, rfl⟩ := rep_str.mp r; exact ⟨_, .str _ _⟩
  | .list xs, p, r => by
    rw [D.isPy] at p
    obtain ⟨a, vs, n, rfl, h1, h2⟩ := rep_list.mp r
    obtain ⟨as, hr⟩ := RepL.reads k p h2
    exact ⟨_, .list (k _ _ h1) rfl rfl hr⟩
  | .tup xs, p, r => by
    rw [D.isPy] at p
    obtain ⟨a, vs, n, rfl, h1, h2⟩ := rep_tup.mp r
    obtain ⟨as, hr⟩ := RepL.reads k p h2
    exact ⟨_, .tuple (k _ _ h1) rfl rfl hr⟩
  | .bytes _, h, _ => by simp [D.isPy] at h
  | .ty _, h, _ => by simp [D.isPy] at h
  | .ent _ _, h, _ => by simp [D.isPy] at h
  | .inst _ _ _, h, _ => by simp [D.isPy] at h
  | .ptr _, h, _ => by simp [D.isPy] at h
theorem RepL.reads {g : View} {h : Heap} (k : ∀ b o, g b = some o → h.get? b = some o) : ∀ {ds : List D} {vs : List Value}, D.isPyL ds = true → RepL g vs ds → ∃ as, ReadsAll h vs (D.pyL ds) as
  | [], _, _, r => by rw [repL_nil.mp r]; exact ⟨_, .nil⟩
  | d :: ds, vs, p, r => by
    rw [D.isPyL, Bool.and_eq_true] at p
    obtain ⟨v, q, rfl, h1, h2⟩ := repL_cons.mp r
    obtain ⟨as, hr⟩ := Rep.reads k p.1 h1
    obtain ⟨bs, hr'⟩ := RepL.reads k p.2 h2
    exact ⟨_, .cons hr hr'⟩
end
noncomputable def D.eqv (a b : D) : Bool := PyData.eqv a.py b.py
noncomputable def D.cmpOk (a b : D) : Bool := a.isPy && b.isPy && decide (a.py.depth ≤ 1000)
noncomputable def cmpInt (op : CmpOp) (a b : Int) : Option Bool := match op with
  | .Eq => some (a == b)
  | .NotEq => some (a != b)
  | .Lt => some (decide (a < b))
  | .LtE => some (decide (a ≤ b))
  | .Gt => some (decide (a > b))
  | .GtE => some (decide (a ≥ b))
  | _ => none
noncomputable def noneD (x : Bool) : D → Option Bool
  | .none => some x
  | _ => none
noncomputable def isD (a b : D) : Option Bool := match a with
  | .bool x => (match b with
    | .bool y => some (x == y)
    | _ => none)
  | .list _ => noneD false b
  | .tup _ => noneD false b
  | .none => noneD true b
  | _ => none
noncomputable def inD (a b : D) : Option Bool := match a with
  | .str y => (match b with
    | .str x => some (!(Builtin.Str.occurrences x y 0 x.length 1).isEmpty)
    | _ => none)
  | _ => none
noncomputable def cmpAny (op : CmpOp) (a b : D) : Option Bool := match op with
  | .Eq => if D.cmpOk a b then some (D.eqv a b) else none
  | .NotEq => if D.cmpOk a b then some (!D.eqv a b) else none
  | .Is => isD a b
  | .IsNot => (isD a b).map not
  | .In => inD a b
  | .NotIn => (inD a b).map not
  | _ => none
noncomputable def cmpD (op : CmpOp) (a b : D) : Option Bool := match a with
  | .int x => (match b with
    | .int y => cmpInt op x y
    | _ => cmpAny op a b)
  | _ => cmpAny op a b
section
variable {W : Wo}
theorem units_lt {u n x y : Nat} (h : u + 20 * n ≤ 6000) (hd : x ≤ 1000) : u + min x y < 9900 := Nat.lt_of_le_of_lt (Nat.add_le_add (Nat.le_trans (Nat.le_add_right _ _) h) (Nat.le_trans (Nat.min_le_left _ _) hd)) (by decide)
theorem CmpE.some {op : CmpOp} {a b : D} {d x : Bool} (h : Option.some x = Option.some d) (k : CmpE W op a b x) : CmpE W op a b d := Option.some.inj h ▸ k
theorem CmpE.ite {op : CmpOp} {a b : D} {d x : Bool} {c : Prop} [Decidable c] (h : (if c then Option.some x else Option.none) = Option.some d) (k : c → CmpE W op a b x) : CmpE W op a b d := by
  by_cases q : c
  · rw [if_pos q] at h; exact .some h (k q)
  · rw [if_neg q] at h; cases h
theorem CmpE.ints {op : CmpOp} {a b : Int} {d : Bool} (k : ∀ A s (Q : Value → Shared → Prop) (E : Value → Shared → Prop) t t', Q (.bool d) s → wpAny W.M A (compareOp op (.int a t) (.int b t')) Q E s) : CmpE W op (.int a) (.int b) d := by
  intro n A g s E u v R G ru rv
  obtain ⟨t, rfl⟩ := rep_int.mp ru
  obtain ⟨t', rfl⟩ := rep_int.mp rv
  exact k A s _ E t t' ⟨g, Step.refl G, rep_bool.mpr rfl⟩
theorem CmpE.vals {op : CmpOp} {a b : D} {d : Bool} (k : ∀ A g u v s (Q : Value → Shared → Prop) (E : Value → Shared → Prop), Rep g u a → Rep g v b → Q (.bool d) s → wpAny W.M A (compareOp op u v) Q E s) : CmpE W op a b d :=
  fun n A g s E u v R G ru rv => k A g u v s _ E ru rv ⟨g, Step.refl G, rep_bool.mpr rfl⟩
theorem cmp_eq {a b : D} (h : D.cmpOk a b = true) : CmpE W .Eq a b (D.eqv a b) := by
  intro n A g s E u v R G ru rv
  rw [D.cmpOk, Bool.and_eq_true, Bool.and_eq_true] at h
  obtain ⟨as, r1⟩ := ru.reads G.sub h.1.1
  obtain ⟨bs, r2⟩ := rv.reads G.sub h.1.2
  exact PySem.SeqAt.compareEq_reads r1 r2 (D.canLay h.1.1) (D.canLay h.1.2) (units_lt R.units (of_decide_eq_true h.2)) ⟨g, Step.refl G, rep_bool.mpr rfl⟩
theorem cmp_ne {a b : D} (h : D.cmpOk a b = true) : CmpE W .NotEq a b (!D.eqv a b) := by
  intro n A g s E u v R G ru rv
  rw [D.cmpOk, Bool.and_eq_true, Bool.and_eq_true] at h
  obtain ⟨as, r1⟩ := ru.reads G.sub h.1.1
  obtain ⟨bs, r2⟩ := rv.reads G.sub h.1.2
  exact PySem.SeqAt.compareNe_reads r1 r2 (D.canLay h.1.1) (D.canLay h.1.2) (units_lt R.units (of_decide_eq_true h.2)) ⟨g, Step.refl G, rep_bool.mpr rfl⟩
theorem cmp_is_bool {x y : Bool} : CmpE W .Is (.bool x) (.bool y) (x == y) := .vals fun A g u v s Q E ru rv q => by
  rw [rep_bool.mp ru, rep_bool.mp rv]
  exact wpAny_is_plain rfl (by cases x <;> cases y <;> exact q)
theorem cmp_isnot_bool {x y : Bool} : CmpE W .IsNot (.bool x) (.bool y) (!(x == y)) := .vals fun A g u v s Q E ru rv q => by
  rw [rep_bool.mp ru, rep_bool.mp rv]
  exact wpAny_isNot_plain rfl (by cases x <;> cases y <;> exact q)
theorem not_some {o : Option Bool} {d : Bool} (h : o.map not = some d) : o = some (!d) := by
  cases o with
  | none => cases h
  | some x => cases h; rw [Bool.not_not]
theorem noneD_some {x d : Bool} {b : D} (h : noneD x b = some d) : b = .none ∧ x = d := by
  cases b <;> first | exact ⟨rfl, Option.some.inj h⟩ | cases h
theorem cmp_is {a b : D} {d : Bool} (h : isD a b = some d) : CmpE W .Is a b d := by
  cases a with
  | bool x => cases b with
    | bool y => exact .some h cmp_is_bool
    | _ => cases h
  | list xs =>
    obtain ⟨rfl, rfl⟩ := noneD_some h
    refine .vals fun A g u v s Q E ru rv q => ?_
    obtain ⟨l, vs, k, rfl, _⟩ := rep_list.mp ru
    rw [rep_none.mp rv]
    exact wpAny_is_other rfl (by intro e; cases e) q
  | tup xs =>
    obtain ⟨rfl, rfl⟩ := noneD_some h
    refine .vals fun A g u v s Q E ru rv q => ?_
    obtain ⟨l, vs, k, rfl, _⟩ := rep_tup.mp ru
    rw [rep_none.mp rv]
    exact wpAny_is_other rfl (by intro e; cases e) q
  | none =>
    obtain ⟨rfl, rfl⟩ := noneD_some h
    refine .vals fun A g u v s Q E ru rv q => ?_
    rw [rep_none.mp rv, rep_none.mp ru]
    exact wpAny_is_self rfl q
  | _ => cases h
theorem cmp_isnot {a b : D} {d : Bool} (h : isD a b = some (!d)) : CmpE W .IsNot a b d := by
  cases a with
  | bool x => cases b with
    | bool y => exact .some (x := !(x == y)) (by rw [Option.some.inj h, Bool.not_not]) cmp_isnot_bool
    | _ => cases h
  | list xs =>
    obtain ⟨rfl, e⟩ := noneD_some h
    refine .vals fun A g u v s Q E ru rv q => ?_
    obtain ⟨l, vs, k, rfl, _⟩ := rep_list.mp ru
    rw [rep_none.mp rv]
    exact wpAny_isNot_other rfl (by intro e; cases e) (by cases d; cases e; exact q)
  | tup xs =>
    obtain ⟨rfl, e⟩ := noneD_some h
    refine .vals fun A g u v s Q E ru rv q => ?_
    obtain ⟨l, vs, k, rfl, _⟩ := rep_tup.mp ru
    rw [rep_none.mp rv]
    exact wpAny_isNot_other rfl (by intro e; cases e) (by cases d; cases e; exact q)
  | none =>
    obtain ⟨rfl, e⟩ := noneD_some h
    refine .vals fun A g u v s Q E ru rv q => ?_
    rw [rep_none.mp rv, rep_none.mp ru]
    exact wpAny_isNot_self rfl (by cases d; exact q; cases e)
  | _ => cases h
theorem inD_some {a b : D} {d : Bool} (h : inD a b = some d) : ∃ y x, a = .str y ∧ b = .str x ∧ (!(Builtin.Str.occurrences x y 0 x.length 1).isEmpty) = d := by
  cases a with
  | str y => cases b with
    | str x => exact ⟨_, _, rfl, rfl, Option.some.inj h⟩
    | _ => cases h
  | _ => cases h
theorem cmp_in {a b : D} {d : Bool} (h : inD a b = some d) : CmpE W .In a b d := by
  obtain ⟨y, x, rfl, rfl, rfl⟩ := inD_some h
  refine .vals fun A g u v s Q E ru rv q => ?_
  obtain ⟨t, rfl⟩ := rep_str.mp ru
  obtain ⟨t', rfl⟩ := rep_str.mp rv
  exact PySem.P.in_str q
theorem cmp_notin {a b : D} {d : Bool} (h : inD a b = some (!d)) : CmpE W .NotIn a b d := by
  obtain ⟨y, x, rfl, rfl, e⟩ := inD_some h
  refine .vals fun A g u v s Q E ru rv q => ?_
  obtain ⟨t, rfl⟩ := rep_str.mp ru
  obtain ⟨t', rfl⟩ := rep_str.mp rv
  exact PySem.P.notIn_str (by rw [e, Bool.not_not]; exact q)
theorem cmpAny_sound {op : CmpOp} {a b : D} {d : Bool} (h : cmpAny op a b = some d) : CmpE W op a b d := by
  cases op with
  | Eq => exact .ite h cmp_eq
  | NotEq => exact .ite h cmp_ne
  | Is => exact cmp_is h
  | IsNot => exact cmp_isnot (not_some h)
  | In => exact cmp_in h
  | NotIn => exact cmp_notin (not_some h)
  | _ => cases h
theorem cmpInt_sound {op : CmpOp} {a b : Int} {d : Bool} (h : cmpInt op a b = some d) : CmpE W op (.int a) (.int b) d := by
  cases op with
  | Eq => exact .some h (.ints fun A s Q E t t' q => PySem.P.eq_int q)
  | NotEq => exact .some h (.ints fun A s Q E t t' q => PySem.P.ne_int q)
  | Lt => exact .some h (.ints fun A s Q E t t' q => PySem.P.lt_int q)
  | LtE => exact .some h (.ints fun A s Q E t t' q => PySem.P.le_int q)
  | Gt => exact .some h (.ints fun A s Q E t t' q => PySem.P.gt_int q)
  | GtE => exact .some h (.ints fun A s Q E t t' q => PySem.P.ge_int q)
  | _ => cases h
theorem cmpD_sound {op : CmpOp} {a b : D} {d : Bool} (h : cmpD op a b = some d) : CmpE W op a b d := by
  cases a with
  | int x => cases b with
    | int y => exact cmpInt_sound h
    | _ => exact cmpAny_sound h
  | _ => exact cmpAny_sound h
noncomputable def truD : D → Option Bool
  | .none => some false
  | .bool b => some b
  | .int i => some (i != 0)
  | .str x => if x.length ≤ sizeLine then some ((x.length : Int) != 0) else none
  | .list xs => if xs.length ≤ sizeLine then some (!xs.isEmpty) else none
  | .tup xs => if xs.length ≤ sizeLine then some (!xs.isEmpty) else none
  | _ => none
theorem size63 {n : Nat} (h : n ≤ sizeLine) : (n : Int) < 2 ^ 63 := by rw [sizeLine_eq] at h; lia
theorem TruE.ite {a : D} {x b : Bool} {c : Prop} [Decidable c] (h : (if c then Option.some x else Option.none) = Option.some b) (k : c → TruE W a x) : TruE W a b := by
  by_cases q : c
  · rw [if_pos q] at h; exact Option.some.inj h ▸ k q
  · rw [if_neg q] at h; cases h
theorem ne_isEmpty {vs : Array Value} {xs : List D} (h : vs.size = xs.length) : (!vs.isEmpty) = !xs.isEmpty := by
  rw [Array.isEmpty, h]
  cases xs <;> simp
theorem truD_sound {a : D} {b : Bool} (h : truD a = some b) : TruE W a b := by
  cases a with
  | none => cases h; intro n A g s E u R G ru; rw [rep_none.mp ru]; exact truthy_none ⟨rfl, g, Step.refl G⟩
  | bool b => cases h; intro n A g s E u R G ru; rw [rep_bool.mp ru]; exact wpAny_truthy_bool ⟨rfl, g, Step.refl G⟩
  | int i => cases h; intro n A g s E u R G ru; obtain ⟨t, rfl⟩ := rep_int.mp ru; exact PySem.P.truthy_int ⟨rfl, g, Step.refl G⟩
  | str x =>
    refine .ite h fun q n A g s E u R G ru => ?_
    obtain ⟨t, rfl⟩ := rep_str.mp ru
    exact PySem.P.truthy_str (Int.not_le.mpr (size63 q)) ⟨rfl, g, Step.toks G⟩
  | list xs =>
    refine .ite h fun q n A g s E u R G ru => ?_
    obtain ⟨l, vs, k, rfl, hl, hr⟩ := rep_list.mp ru
    have e1 := hr.length
    rw [Array.length_toList] at e1
    exact wpAny_truthy_list (s := s) (items := vs) ⟨_, G.sub _ _ hl, rfl, _, rfl⟩ (by rw [e1]; exact size63 q) ⟨ne_isEmpty e1, g, Step.toks G⟩
  | tup xs =>
    refine .ite h fun q n A g s E u R G ru => ?_
    obtain ⟨l, vs, k, rfl, hl, hr⟩ := rep_tup.mp ru
    have e1 := hr.length
    rw [Array.length_toList] at e1
    exact truthy_tuple (s := s) (items := vs) ⟨_, G.sub _ _ hl, rfl, _, rfl⟩ (by rw [e1]; exact size63 q) ⟨ne_isEmpty e1, g, Step.toks G⟩
  | _ => cases h
end
noncomputable def seqItem (xs : List D) (k : Int) : Option D := if -(2 ^ 63) ≤ k ∧ k < 2 ^ 63 then (seqIndex? k xs.length).bind fun j => xs[j]? else none
noncomputable def itemInt (k : Int) : D → Option D
  | .list xs => seqItem xs k
  | .tup xs => seqItem xs k
  | .str x => if fitsSsize k = true ∧ (Txt.charAt x k).isSome = true then some (.str (Txt.item x k)) else none
  | _ => none
noncomputable def itemD (o i : D) : Option D :=
  match i with
  | .int k => itemInt k o
  | _ => none
noncomputable def sliceL {α : Type} (xs : List α) (lo hi : Option Int) : List α := (xs.drop (kms_lo lo xs.length)).take (kms_hi hi xs.length - kms_lo lo xs.length)
section
variable {W : Wo} {n : Nat} {ns : Names} {ρ : Rho}
theorem wpAny_subTail {prog : Program} {w : World} {A : Around} {E : Value → Shared → Prop} {s : Shared} {value slice : Expr} {o i : Value} {T id : String} {Q : Value → Shared → Prop} (hT : s.TypeIs o T)
    (hl : typeLookup (.type T) "__getitem__" = pure (some (.builtin id))) (h : wpAny (model prog w) A (getItem o i) Q E s)
    (hs : subscripted slice false o i = operate [o, i] (getItem o i)) :
    wpAny (model prog w) A (subscriptTail value slice o i) Q E s := by
  unfold subscriptTail
  refine wpAny_bind ?_
  rw [getitemInPython_of_ne hT.not_modules]
  refine wpAny_bind (wpAny_specialOf hT hl ?_)
  have fin : wpAny (model prog w) A (subscripted slice false o i) (fun r s₃ => wpAny (model prog w) A (letTemporaryGo value o r >>= fun _ => pure r) Q E s₃) E s := by
    rw [hs]
    exact wpAny_operating (wpAny_mono h (fun r s₃ h₃ => wpAny_bind (wpAny_letTemporaryGo (wpAny_pure h₃))) fun _ _ x => x)
  first
    | exact wpAny_pure (wpAny_bind fin)
    | exact wpAny_bind (wpAny_pure (wpAny_bind fin))
    | exact wpAny_bind fin
noncomputable def ItemE (W : Wo) (o i d : D) : Prop :=
  ∀ n A g s (E : Value → Shared → Prop) u v (value slice : Expr), Room (n + 1) A → Good W.hs g s → Rep g u o → Rep g v i → (∀ o i, subscripted slice false o i = operate [o, i] (getItem o i)) →
    wpAny W.M A (subscriptTail value slice u v) (Res g s d) E s
theorem seqIndex_lt {k : Int} {n j : Nat} (h : seqIndex? k n = some j) : (if k < 0 then k + n else k) = (j : Int) ∧ j < n := by
  unfold seqIndex? at h
  dsimp only at h
  generalize (if k < 0 then k + (n : Int) else k) = z at h ⊢
  by_cases q : (decide (0 ≤ z) && decide (z < (n : Int))) = true
  · rw [if_pos q] at h
    rw [Bool.and_eq_true, decide_eq_true_eq, decide_eq_true_eq] at q
    cases h
    exact ⟨(Int.toNat_of_nonneg q.1).symm, Int.ofNat_lt.mp (by rw [Int.toNat_of_nonneg q.1]; exact q.2)⟩
  · rw [if_neg q] at h; cases h
theorem seqItem_some {xs : List D} {k : Int} {d : D} (h : seqItem xs k = some d) : (-(2 ^ 63) ≤ k ∧ k < 2 ^ 63) ∧ ∃ j, seqIndex? k xs.length = some j ∧ xs[j]? = some d := by
  unfold seqItem at h
  by_cases q : -(2 ^ 63) ≤ k ∧ k < 2 ^ 63
  · rw [if_pos q] at h; exact ⟨q, Option.bind_eq_some_iff.mp h⟩
  · rw [if_neg q] at h; cases h
theorem itemList {xs : List D} {k : Int} {d : D} (h : seqItem xs k = some d) : ItemE W (.list xs) (.int k) d := by
  intro n A g s E u v value slice R G ru rv hs
  obtain ⟨q, j, hj, hx⟩ := seqItem_some h
  obtain ⟨l, vs, k', rfl, hl, hr⟩ := rep_list.mp ru
  obtain ⟨t, rfl⟩ := rep_int.mp rv
  obtain ⟨x, hx1, hx2⟩ := hr.get hx
  rw [Array.getElem?_toList] at hx1
  have e1 := hr.length
  rw [Array.length_toList] at e1
  have hL : s.heap.IsList l vs := ⟨_, G.sub _ _ hl, rfl, _, rfl⟩
  obtain ⟨a1, a2⟩ := seqIndex_lt hj
  refine wpAny_subTail hL.typeIs slot_list_getitem.lookup ?_ (hs _ _)
  by_cases hk : k < 0
  · rw [if_pos hk] at a1
    refine wpAny_getItem_list_neg hL hk (by rw [e1]; lia) q.1 (x := x) ?_ ⟨g, Step.refl G, hx2⟩
    rw [e1, a1, Int.toNat_natCast]
    exact hx1
  · rw [if_neg hk] at a1
    refine wpAny_getItem_list hL (Int.not_lt.mp hk) q.2 (x := x) ?_ ⟨g, Step.refl G, hx2⟩
    rw [a1, Int.toNat_natCast]
    exact hx1
theorem itemTup {xs : List D} {k : Int} {d : D} (h : seqItem xs k = some d) : ItemE W (.tup xs) (.int k) d := by
  intro n A g s E u v value slice R G ru rv hs
  obtain ⟨q, j, hj, hx⟩ := seqItem_some h
  obtain ⟨l, vs, k', rfl, hl, hr⟩ := rep_tup.mp ru
  obtain ⟨t, rfl⟩ := rep_int.mp rv
  obtain ⟨x, hx1, hx2⟩ := hr.get hx
  rw [Array.getElem?_toList] at hx1
  have e1 := hr.length
  rw [Array.length_toList] at e1
  have hL : IsTup s.heap l vs := ⟨_, G.sub _ _ hl, rfl, _, rfl⟩
  exact wpAny_subTail hL.typeIs slot_tuple_getitem.lookup (getItem_tuple hL q.1 q.2 (by rw [e1]; exact hj) hx1 ⟨g, Step.refl G, hx2⟩) (hs _ _)
theorem itemStrE {x : PySem.Str} {k : Int} (q : fitsSsize k = true ∧ (Txt.charAt x k).isSome = true) : ItemE W (.str x) (.int k) (.str (Txt.item x k)) := by
  intro n A g s E u v value slice R G ru rv hs
  obtain ⟨t, rfl⟩ := rep_str.mp ru
  obtain ⟨t', rfl⟩ := rep_int.mp rv
  exact wpAny_subTail (typeIs_str s _ t) F.slot_str_getitem.lookup (SB.getItem q.1 q.2 ⟨g, Step.toks G, rep_str.mpr ⟨_, rfl⟩⟩) (hs _ _)
theorem itemD_sound {o i d : D} (h : itemD o i = some d) : ItemE W o i d := by
  cases i with
  | int k => cases o with
    | list xs => exact itemList h
    | tup xs => exact itemTup h
    | str x =>
      have h : (if fitsSsize k = true ∧ (Txt.charAt x k).isSome = true then some (D.str (Txt.item x k)) else none) = some d := h
      by_cases q : fitsSsize k = true ∧ (Txt.charAt x k).isSome = true
      · rw [if_pos q] at h; exact Option.some.inj h ▸ itemStrE q
      · rw [if_neg q] at h; cases h
    | _ => cases h
  | _ => cases h
theorem TriE.item {value slice : Expr} {pos : Pos} {o i d : D} (hv : TriE W (n + 1) ns ρ value o) (hi : TriE W (n + 1) ns ρ slice i) (h : ItemE W o i d)
    (hs : ∀ o i, subscripted slice false o i = operate [o, i] (getItem o i) := by intro _ _; rfl) : TriE W (n + 1) ns ρ (.Subscript value slice pos) d :=
  fun A env g s E c => Subscript_ (wp_mono' (hv A env g s E c) fun u s₁ ⟨g₁, st₁, r₁⟩ => wp_mono' (hi A env g₁ s₁ E (c.step st₁)) fun v s₂ ⟨g₂, st₂, r₂⟩ =>
    wp_mono' (h n A g₂ s₂ E u v value slice c.room ((c.step st₁).step st₂).good (r₁.mono st₂.view) r₂ hs) fun x s₃ ⟨g₃, st₃, r₃⟩ => ⟨g₃, (st₁.trans st₂).trans st₃, r₃⟩)
noncomputable def TriP (W : Wo) (n : Nat) (ns : Names) (ρ : Rho) (e : Option Expr) (i : Option Int) : Prop :=
  ∀ A env g s (E : Value → Shared → Prop), Cx W n A env ns ρ g s → wpAny W.M A (evalPart e env) (fun v s' => IsPart v i ∧ ∃ g', Step g s g' s') E s
theorem TriP.none : TriP W n ns ρ none none := fun A env g s E c => by rw [evalPart_none]; exact wpAny_pure ⟨.none, g, Step.refl c.good⟩
theorem TriP.some {e : Expr} {i : Int} (h : TriE W n ns ρ e (.int i)) : TriP W n ns ρ (some e) (some i) := fun A env g s E c => by
  rw [evalPart_some]
  exact wp_mono' (h A env g s E c) fun v s' ⟨g', st, r⟩ => by obtain ⟨t, rfl⟩ := rep_int.mp r; exact ⟨.int _ _, g', st⟩
theorem TriE.sliceList {value : Expr} {lower upper : Option Expr} {p pos : Pos} {xs : List D} {lo hi : Option Int} (hv : TriE W n ns ρ value (.list xs)) (hl : TriP W n ns ρ lower lo) (hu : TriP W n ns ρ upper hi)
    (hz : xs.length ≤ sizeLine) (ht : ∀ o r, letTemporaryGo value o r = pure () := by intro _ _; rfl) : TriE W n ns ρ (.Subscript value (.Slice lower upper Option.none p) pos) (.list (sliceL xs lo hi)) :=
  fun A env g s E c => wpAny_Subscript_list_slice (wp_mono' (hv A env g s E c) fun u s₁ ⟨g₁, st₁, r₁⟩ => wp_mono' (hl A env g₁ s₁ E (c.step st₁)) fun v s₂ ⟨i₂, g₂, st₂⟩ =>
    wp_mono' (hu A env g₂ s₂ E ((c.step st₁).step st₂)) fun v' s₃ ⟨i₃, g₃, st₃⟩ => by
      obtain ⟨l, vs, k, rfl, h1, h2⟩ := rep_list.mp ((r₁.mono st₂.view).mono st₃.view)
      have e1 := h2.length
      rw [Array.length_toList] at e1
      have G := (((c.step st₁).step st₂).step st₃).good
      refine ⟨l, vs, lo, hi, rfl, ⟨_, G.sub _ _ h1, rfl, _, rfl⟩, by rw [e1]; exact hz, i₂, i₃, ?_⟩
      have key : RepL g₃ (slicePick vs lo hi Option.none).toList (sliceL xs lo hi) := by
        rw [kms_pick_eq]
        show RepL _ (kms_pick vs.toList lo hi) (sliceL xs lo hi)
        unfold kms_pick sliceL
        rw [h2.length]
        exact (h2.drop _).take _
      have k1 : ∀ b o, s₃.heap.get? b = Option.some o → ((s₃.heap.push { cls := .type "slice", data := .fields #[v, v', .none] }).push { cls := .type "list", data := .seq (slicePick vs lo hi Option.none) }).get? b = Option.some o :=
        fun b o e => Heap.get?_push_of_some _ (Heap.get?_push_of_some _ e)
      have hf : s₃.heap.get? (s₃.heap.objs.size + 1) = Option.none := Heap.get?_none_of_le (Nat.le_succ _)
      have hat : ((s₃.heap.push { cls := .type "slice", data := .fields #[v, v', .none] }).push { cls := .type "list", data := .seq (slicePick vs lo hi Option.none) }).get? (s₃.heap.objs.size + 1) = Option.some { cls := .type "list", data := .seq (slicePick vs lo hi Option.none) } := by
        have := Heap.get?_push_size (s₃.heap.push { cls := .type "slice", data := .fields #[v, v', .none] }) (o := { cls := .type "list", data := .seq (slicePick vs lo hi Option.none) }) rfl
        rwa [Heap.size_push] at this
      have st := Step.put (hs := W.hs) (tk := s₃.toks) G hf hat k1
      exact ⟨_, ((st₁.trans st₂).trans st₃).trans st, rep_list.mpr ⟨_, _, 0, rfl, View.put_self, key.mono st.view⟩⟩) ht
end
end Mine
end
section
namespace Mine
noncomputable def KeepOk (W : Wo) (f : Value) : Prop :=
  ∀ h : Heap, (∀ b o, W.hs.get? b = some o → h.get? b = some o) → ∃ k, (k = Keeper.frame ∨ k = Keeper.machine ∨ k = Keeper.boundFrame) ∧ Looks W.M h (keeperOf f) k
theorem KeepOk.builtin {W : Wo} {id : String} : KeepOk W (.builtin id) := fun h _ => ⟨.machine, .inr (.inl rfl), Looks.of_pure rfl⟩
theorem KeepOk.type {W : Wo} {T : String} : KeepOk W (.type T) := fun h _ => ⟨.machine, .inr (.inl rfl), Looks.of_pure rfl⟩
theorem KeepOk.func {W : Wo} {a : Addr} {o : Obj} {fd : FuncData} (h : W.hs.get? a = some o) (hd : o.data = .func fd) : KeepOk W (.ref a) := fun hp k => by
  refine ⟨.frame, .inl rfl, fun A Q E s k' q => ?_⟩
  unfold keeperOf
  refine wpAny_bind (wpAny_load (k' _ _ (k _ _ h)) ?_)
  rw [hd]
  exact wpAny_pure q
noncomputable def FnE (W : Wo) (n : Nat) (f : Value) (ds : List D) (d : D) : Prop :=
  ∀ A g s (E : Value → Shared → Prop) vs, Room (n + 1) A → Good W.hs g s → RepL g vs ds → wpAny W.M A (call f vs) (Res g s d) E s
structure Callee (W : Wo) (ns : Names) (x : PySem.Str) (f : Value) : Prop where
  kind : ns.lookup x = some .globalImplicit
  val : W.mg x = some f ∨ (W.mg x = none ∧ W.mb x = some f)
  keep : KeepOk W f
  plain : (x == ("__debug__" : PySem.Str)) = false
section
variable {W : Wo} {n : Nat} {ns : Names} {ρ : Rho}
theorem FnE.le {m : Nat} {f ds d} (h : FnE W m f ds d) (hm : m ≤ n) : FnE W n f ds d := fun A g s E vs R => h A g s E vs (R.le (Nat.succ_le_succ hm))
theorem backTo_any {pos : Pos} {l : List (Bool × Sem Value)} : (backTo pos l).any (·.1) = l.any (·.1) := by
  unfold backTo
  rw [List.any_map]
  rfl
theorem evalArgsR {A env g s} {E : Value → Shared → Prop} {f : Value} {pos : Pos} {es : List Expr} {ds : List D} (c : Cx W n A env ns ρ g s) (h : TriL W n ns ρ es ds) (hs : (starEach es env).any (·.1) = false) :
    wpAny W.M A (evalArgs f true (backTo pos (starEach es env)) []) (fun a s' => a.kw = [] ∧ ResL g s ds a.pos s') E s := by
  have h' := h A env g s E pos c
  have hs' : (backTo pos (starEach es env)).any (·.1) = false := by rw [backTo_any]; exact hs
  revert h' hs'
  generalize backTo pos (starEach es env) = l
  intro h' hs'
  cases l with
  | nil =>
    have : wpAny W.M A (spliced []) (fun vs s' => ([] : List (Str × Value)) = [] ∧ ResL g s ds vs s') E s := wp_mono' h' fun vs s' r => ⟨rfl, r⟩
    unfold evalArgs
    show wpAny _ A (spliced [] >>= _) _ E s
    refine wpAny_bind (wp_mono' h' fun vs s' r => ?_)
    exact wpAny_bind (wpAny_pure (wpAny_holding (wpAny_bind (wpAny_pure (wpAny_bind (wpAny_pure (wpAny_pure ⟨rfl, r⟩)))))))
  | cons x r =>
    obtain ⟨b, t⟩ := x
    have hb : b = false := by
      rw [List.any_cons, Bool.or_eq_false_iff] at hs'
      exact hs'.1
    subst hb
    exact PySem.Calls.evalArgs_plain (wp_mono' h' fun vs s' r => ⟨rfl, r⟩)
theorem callWithR {A env g s} {E : Value → Shared → Prop} {f : Value} {first : List Value} {fd : List D} {pos : Pos} {es : List Expr} {ds : List D} {d : D} (c : Cx W (n + 1) A env ns ρ g s) (h : TriL W (n + 1) ns ρ es ds) (hs : (starEach es env).any (·.1) = false)
    (hk : KeepOk W f) (hf : FnE W n f (fd ++ ds) d) (hfst : RepL g first fd) :
    wpAny W.M A (callWith pos f first (backTo pos (starEach es env)) []) (Res g s d) E s := by
  refine callWith_of (P := fun h => ∀ b o, W.hs.get? b = some o → h.get? b = some o) (by rw [backTo_any, hs]; rfl) hk ?_
  refine wp_mono' (evalArgsR c h hs) fun a s₁ ⟨e, g₁, st₁, r₁⟩ => ?_
  have G := (c.step st₁).good
  refine ⟨fun b o q => G.sub _ _ (G.stat _ _ q), ?_⟩
  rw [e]
  exact wp_mono' (hf A g₁ s₁ E _ c.room G ((hfst.mono st₁.view).append r₁)) fun v s₂ ⟨g₂, st₂, r₂⟩ => ⟨g₂, st₁.trans st₂, r₂⟩
theorem nameGlobal {A env g s} {E : Value → Shared → Prop} {x : PySem.Str} {pos : Pos} {f : Value} {Q : Value → Shared → Prop} (O : W.Ok) (c : Cx W n A env ns ρ g s) (hc : Callee W ns x f) (h : Q f s) : wpAny W.M A (eval (.Name x pos) env) Q E s := by
  have k : ∀ b o, W.hs.get? b = some o → s.heap.get? b = some o := fun b o q => c.good.sub _ _ (c.good.stat _ _ q)
  refine PySem.Calls.Name_function_global c.en.kind ((c.en.kindOf x).trans hc.kind) ?_ hc.plain
  rcases hc.val with hv | ⟨hm, hv⟩
  · exact PySem.Calls.loadGlobal_global (mg := W.mg) (by rw [c.en.globals]; exact O.g.keeps k) hv h
  · exact PySem.Calls.loadGlobal_builtin (mg := W.mg) (mb := W.mb) (by rw [c.en.globals]; exact O.g.keeps k) hm (by rw [c.en.builtins]; exact O.b.keeps k) hv h
theorem TriE.global {x : PySem.Str} {pos : Pos} {f : Value} {d : D} (O : W.Ok) (hk : ns.lookup x = some .globalImplicit) (hv : W.mg x = some f ∨ (W.mg x = none ∧ W.mb x = some f)) (hp : (x == ("__debug__" : PySem.Str)) = false)
    (hd : ∀ g, (∀ b o, W.hs.get? b = some o → g b = some o) → Rep g f d) : TriE W n ns ρ (.Name x pos) d := fun A env g s E c => by
  have k : ∀ b o, W.hs.get? b = some o → s.heap.get? b = some o := fun b o q => c.good.sub _ _ (c.good.stat _ _ q)
  refine PySem.Calls.Name_function_global c.en.kind ((c.en.kindOf x).trans hk) ?_ hp
  rcases hv with hv | ⟨hm, hv⟩
  · exact PySem.Calls.loadGlobal_global (mg := W.mg) (by rw [c.en.globals]; exact O.g.keeps k) hv ⟨g, Step.refl c.good, hd g c.good.stat⟩
  · exact PySem.Calls.loadGlobal_builtin (mg := W.mg) (mb := W.mb) (by rw [c.en.globals]; exact O.g.keeps k) hm (by rw [c.en.builtins]; exact O.b.keeps k) hv ⟨g, Step.refl c.good, hd g c.good.stat⟩
theorem TriE.call {x : PySem.Str} {p pos : Pos} {f : Value} {es : List Expr} {ds : List D} {d : D} (O : W.Ok) (hc : Callee W ns x f) (hl : TriL W (n + 1) ns ρ es ds) (hf : FnE W n f ds d) (hs : ∀ env, (starEach es env).any (·.1) = false) :
    TriE W (n + 1) ns ρ (.Call (.Name x p) es [] pos) d := fun A env g s E c => by
  show wpAny _ A (do callWith pos (← eval (.Name x p) env) [] (backTo pos (starEach es env)) []) _ E s
  refine wpAny_bind (nameGlobal O c hc ?_)
  exact callWithR (fd := []) c hl (hs env) hc.keep hf RepL.nil
noncomputable def GetM (W : Wo) (o : D) (name : PySem.Str) (f : Value) : Prop :=
  ∀ A g s (E : Value → Shared → Prop) u pl (Q : Value × List Value → Shared → Prop), Good W.hs g s → Rep g u o → Q (f, [u]) s → wpAny W.M A (getMethod u name pl) Q E s
theorem TriE.meth {o : Expr} {name : PySem.Str} {apos pos : Pos} {f : Value} {od : D} {es : List Expr} {ds : List D} {d : D} (ho : TriE W (n + 1) ns ρ o od) (hl : TriL W (n + 1) ns ρ es ds) (hg : GetM W od name f) (hk : KeepOk W f) (hf : FnE W n f (od :: ds) d)
    (hs : ∀ env, (starEach es env).any (·.1) = false) (hz : es.length < 29) (hb : ∀ env, attributeBase o name env (eval o env) = eval o env) (hline : (apos.endLine == pos.line) = true) :
    TriE W (n + 1) ns ρ (.Call (.Attribute o name apos) es [] pos) d := fun A env g s E c => by
  rw [arm_eval_Call, hb]
  refine wpAny_bind (wp_mono' (ho A env g s E c) fun u s₁ ⟨g₁, st₁, r₁⟩ => wpAny_bind (wpAny_standAt ?_))
  have hform : methodCallForm (es.length + ([] : List Keyword).length) (backTo pos (starEach es env)) (backToKw pos (keywordEach [] env)) = true := by
    unfold methodCallForm
    have h1 : (backTo pos (starEach es env)).all (fun x => !x.1) = true := by
      have := hs env
      rw [← backTo_any (pos := pos)] at this
      rw [List.all_eq_not_any_not, Bool.not_eq_true']
      simpa using this
    simp only [h1, Bool.true_and, keywordEach, backToKw, List.map_nil, List.all_nil, List.isEmpty_nil, if_true, List.length_nil, Nat.add_zero, decide_eq_true_eq]
    lia
  have hpos : methodCallPos true o env apos pos = pure pos := by unfold methodCallPos; simp [hline]
  unfold methodCall
  rw [hform]
  refine wpAny_bind (wpAny_holding (hg A g₁ s₁ E u _ _ (c.step st₁).good r₁ ?_))
  refine wpAny_bind (wpAny_of_eq hpos ?_)
  exact wp_mono' (callWithR (fd := [od]) (c.step st₁) hl (hs env) hk hf (RepL.cons r₁ RepL.nil)) fun v s₂ ⟨g₂, st₂, r₂⟩ => ⟨g₂, st₁.trans st₂, r₂⟩
theorem GetM.str {x : PySem.Str} {name : PySem.Str} {id : String} (slot : Slot "str" name id) (hty : typeOf (.builtin id) = pure (.type "method_descriptor")) : GetM W (.str x) name (.builtin id) := fun A g s E u pl Q G r h => by
  obtain ⟨t, rfl⟩ := rep_str.mp r
  exact getMethod_builtin (typeIs_str s x t) F.plainAttrs_str slot hty (fun _ e => nomatch e) h
theorem GetM.list {xs : List D} {name : PySem.Str} {id : String} (slot : Slot "list" name id) (hty : typeOf (.builtin id) = pure (.type "method_descriptor")) (pa : PlainAttrs "list") : GetM W (.list xs) name (.builtin id) := fun A g s E u pl Q G r h => by
  obtain ⟨a, vs, k, rfl, h1, h2⟩ := rep_list.mp r
  exact getMethod_builtin (s := s) ⟨_, G.sub _ _ h1, rfl⟩ pa slot hty (fun _ e => by cases e; exact ⟨_, G.sub _ _ h1, rfl⟩) h
end
end Mine
end
section
namespace Mine
noncomputable def intsOf : List D → Option (List Int)
  | [] => some []
  | .int i :: r => (intsOf r).map (i :: ·)
  | _ => none
noncomputable def boolsOf : List D → Option (List Bool)
  | [] => some []
  | .bool i :: r => (boolsOf r).map (i :: ·)
  | _ => none
noncomputable def strsOf : List D → Option (List PySem.Str)
  | [] => some []
  | .str i :: r => (strsOf r).map (i :: ·)
  | _ => none
theorem intsOf_map (ns : List Int) : intsOf (ns.map D.int) = some ns := by
  induction ns with
  | nil => rfl
  | cons a r ih => simp [intsOf, ih]
theorem boolsOf_map (ns : List Bool) : boolsOf (ns.map D.bool) = some ns := by
  induction ns with
  | nil => rfl
  | cons a r ih => simp [boolsOf, ih]
theorem strsOf_map (ns : List PySem.Str) : strsOf (ns.map D.str) = some ns := by
  induction ns with
  | nil => rfl
  | cons a r ih => simp [strsOf, ih]
theorem intsOf_eq : ∀ {ds : List D} {ns : List Int}, intsOf ds = some ns → ds = ns.map D.int
  | [], ns, h => by cases h; rfl
  | .int i :: r, ns, h => by
    obtain ⟨m, hm, rfl⟩ := Option.map_eq_some_iff.mp h
    rw [intsOf_eq hm]; rfl
  | .none :: _, _, h | .bool _ :: _, _, h | .str _ :: _, _, h | .bytes _ :: _, _, h | .ty _ :: _, _, h | .list _ :: _, _, h | .tup _ :: _, _, h | .ent _ _ :: _, _, h | .inst _ _ _ :: _, _, h | .ptr _ :: _, _, h => by cases h
theorem boolsOf_eq : ∀ {ds : List D} {ns : List Bool}, boolsOf ds = some ns → ds = ns.map D.bool
  | [], ns, h => by cases h; rfl
  | .bool i :: r, ns, h => by
    obtain ⟨m, hm, rfl⟩ := Option.map_eq_some_iff.mp h
    rw [boolsOf_eq hm]; rfl
  | .none :: _, _, h | .int _ :: _, _, h | .str _ :: _, _, h | .bytes _ :: _, _, h | .ty _ :: _, _, h | .list _ :: _, _, h | .tup _ :: _, _, h | .ent _ _ :: _, _, h | .inst _ _ _ :: _, _, h | .ptr _ :: _, _, h => by cases h
theorem strsOf_eq : ∀ {ds : List D} {ns : List PySem.Str}, strsOf ds = some ns → ds = ns.map D.str
  | [], ns, h => by cases h; rfl
  | .str i :: r, ns, h => by
    obtain ⟨m, hm, rfl⟩ := Option.map_eq_some_iff.mp h
    rw [strsOf_eq hm]; rfl
  | .none :: _, _, h | .int _ :: _, _, h | .bool _ :: _, _, h | .bytes _ :: _, _, h | .ty _ :: _, _, h | .list _ :: _, _, h | .tup _ :: _, _, h | .ent _ _ :: _, _, h | .inst _ _ _ :: _, _, h | .ptr _ :: _, _, h => by cases h
section
variable {g : View}
theorem RepL.ints : ∀ {ns : List Int} {vs : List Value}, RepL g vs (ns.map D.int) → IntsAre vs ns
  | [], vs, h => by rw [repL_nil.mp h]; exact .nil
  | n :: ns, vs, h => by
    obtain ⟨v, r, rfl, h1, h2⟩ := repL_cons.mp h
    obtain ⟨t, rfl⟩ := rep_int.mp h1
    exact .cons n t h2.ints
theorem RepL.strs : ∀ {ns : List PySem.Str} {vs : List Value}, RepL g vs (ns.map D.str) → StrsAre vs ns
  | [], vs, h => by rw [repL_nil.mp h]; exact .nil
  | n :: ns, vs, h => by
    obtain ⟨v, r, rfl, h1, h2⟩ := repL_cons.mp h
    obtain ⟨t, rfl⟩ := rep_str.mp h1
    exact .cons n t h2.strs
theorem RepL.ofInts : ∀ {ns : List Int} {vs : List Value}, IntsAre vs ns → RepL g vs (ns.map D.int)
  | _, _, .nil => RepL.nil
  | _, _, .cons n t h => RepL.cons (rep_int.mpr ⟨t, rfl⟩) (RepL.ofInts h)
theorem RepL.intItems : ∀ {ns : List Int} {vs : List Value}, RepL g vs (ns.map D.int) → ∃ xs : List (Int × Tok), vs = xs.map (fun p => Value.int p.1 p.2) ∧ xs.map (·.1) = ns
  | [], vs, h => ⟨[], by rw [repL_nil.mp h]; rfl, rfl⟩
  | n :: ns, vs, h => by
    obtain ⟨v, r, rfl, h1, h2⟩ := repL_cons.mp h
    obtain ⟨t, rfl⟩ := rep_int.mp h1
    obtain ⟨xs, rfl, rfl⟩ := RepL.intItems h2
    exact ⟨(n, t) :: xs, rfl, rfl⟩
end
theorem preSum_list (xs : List Int) : ∀ n, n ≤ xs.length → preSum (fun i => xs.getD i 0) n = (xs.take n).sum
  | 0, _ => by simp [preSum]
  | n + 1, h => by
    rw [preSum, preSum_list xs n (Nat.le_of_succ_le h), List.take_add_one, List.sum_append]
    have : xs[n]? = some xs[n] := List.getElem?_eq_getElem h
    simp [this, List.getD]
section
variable {W : Wo} {n : Nat}
theorem iterList {prog : Program} {w : World} {A : Around} {E : Value → Shared → Prop} {s : Shared} {l : Addr} {items : Array Value} {Q : Value → Shared → Prop} (hl : s.heap.IsList l items)
    (h : ∀ s₂ : Shared, s₂ = { s with heap := s.heap.push { cls := .type "list_iterator", data := .fields #[.ref l, .int 0 0] } } →
      (s₂.heap.IsListIter s.heap.objs.size l 0 ∧ s₂.heap.IsList l items) → (∀ b ∈ [s.heap.objs.size, l], b < s₂.heap.objs.size) → l ≠ s.heap.objs.size → Q (.ref s.heap.objs.size) s₂) :
    wpAny (model prog w) A (pyIter (.ref l)) Q E s := by
  have hlt : l < s.heap.objs.size := by obtain ⟨_, e, _⟩ := hl; exact Heap.lt_size e
  refine wpAny_pyIter_list hl (h _ rfl ⟨⟨_, Heap.get?_push_size _ rfl, rfl, rfl⟩, hl.push _⟩ (fun b hb => ?_) (Nat.ne_of_lt hlt))
  show b < (s.heap.push _).objs.size
  rw [Heap.size_push]
  rcases List.mem_cons.mp hb with rfl | hb
  · exact Nat.lt_succ_self _
  · rcases List.mem_cons.mp hb with rfl | hb
    · exact Nat.lt_succ_of_lt hlt
    · cases hb
theorem fn_len_str {x : PySem.Str} (hz : x.length ≤ sizeLine) : FnE W n (.builtin "len") [.str x] (.int x.length) := by
  intro A g s E vs R G r
  obtain ⟨v, r', rfl, h1, h2⟩ := repL_cons.mp r
  cases repL_nil.mp h2
  obtain ⟨t, rfl⟩ := rep_str.mp h1
  exact PySem.P.len_str (by have := size63 hz; omega) ⟨g, Step.toks G, rep_int.mpr ⟨_, rfl⟩⟩
theorem fn_len_list {xs : List D} (hz : xs.length ≤ sizeLine) : FnE W n (.builtin "len") [.list xs] (.int xs.length) := by
  intro A g s E vs R G r
  obtain ⟨v, r', rfl, h1, h2⟩ := repL_cons.mp r
  cases repL_nil.mp h2
  obtain ⟨l, us, k, rfl, hl, hr⟩ := rep_list.mp h1
  have e1 := hr.length
  rw [Array.length_toList] at e1
  refine PySem.Calls.call_len_list (s := s) (items := us) ⟨_, G.sub _ _ hl, rfl, _, rfl⟩ (by rw [e1]; exact size63 hz) ?_
  rw [e1]
  exact ⟨g, Step.toks G, rep_int.mpr ⟨_, rfl⟩⟩
theorem fn_sum {ns : List Int} : FnE W n (.builtin "sum") [.list (ns.map D.int)] (.int ns.sum) := by
  intro A g s E vs R G r
  obtain ⟨v, r', rfl, h1, h2⟩ := repL_cons.mp r
  cases repL_nil.mp h2
  obtain ⟨l, us, k, rfl, hl, hr⟩ := rep_list.mp h1
  have e1 := hr.length
  rw [Array.length_toList] at e1
  have hL : s.heap.IsList l us := ⟨_, G.sub _ _ hl, rfl, _, rfl⟩
  refine call_sum_walkG (iterList hL fun s₂ e st hfp hlI => ?_)
  subst e
  refine ⟨_, _, _, _, _, _, fun i => ns.getD i 0, rfl, Walks.list (A := A.in1) R.handled _ l hlI us, st, hfp, fun i v hv => ?_, fun h' tk t' hk => ?_⟩
  · obtain ⟨hi, rfl⟩ := Array.getElem?_eq_some_iff.mp hv
    have hi' : i < ns.length := by rw [e1] at hi; simpa using hi
    obtain ⟨v, hv, hr'⟩ := hr.get (i := i) (d := .int ns[i]) (by simp [hi'])
    obtain ⟨t, rfl⟩ := rep_int.mp hr'
    have : us[i]? = some (.int ns[i] t) := by simpa using hv
    rw [Array.getElem?_eq_getElem hi] at this
    refine ⟨t, ?_⟩
    rw [Option.some.inj this]
    simp [List.getD, hi']
  · have : preSum (fun i => ns.getD i 0) us.size = ns.sum := by
      rw [e1, List.length_map, preSum_list ns _ (Nat.le_refl _), List.take_length]
    rw [this]
    exact ⟨g, Step.keeps G (old_kept hk), rep_int.mpr ⟨_, rfl⟩⟩
theorem range_all_getD (bs : List Bool) : (List.range bs.length).all (fun i => bs.getD i true) = bs.all id := by
  induction bs with
  | nil => rfl
  | cons b r ih =>
    rw [List.length_cons, List.range_succ_eq_map, List.all_cons, List.all_map, List.all_cons]
    simp only [List.getD_cons_zero, id]
    congr 1
theorem fn_all {bs : List Bool} : FnE W n (.builtin "all") [.list (bs.map D.bool)] (.bool (bs.all id)) := by
  intro A g s E vs R G r
  obtain ⟨v, r', rfl, h1, h2⟩ := repL_cons.mp r
  cases repL_nil.mp h2
  obtain ⟨l, us, k, rfl, hl, hr⟩ := rep_list.mp h1
  have e1 := hr.length
  rw [Array.length_toList] at e1
  have hL : s.heap.IsList l us := ⟨_, G.sub _ _ hl, rfl, _, rfl⟩
  refine call_all_walk (iterList hL fun s₂ e st hfp hlI => ?_)
  subst e
  refine ⟨_, _, _, _, _, _, fun i => bs.getD i true, rfl, Walks.list (A := A.in1) R.handled _ l hlI us, st, fun i v s' Q E' hv hq => ?_, fun h' tk hk => ?_⟩
  · obtain ⟨hi, rfl⟩ := Array.getElem?_eq_some_iff.mp hv
    have hi' : i < bs.length := by rw [e1] at hi; simpa using hi
    obtain ⟨v, hv, hr'⟩ := hr.get (i := i) (d := .bool bs[i]) (by simp [hi'])
    have hv' : us[i]? = some v := by simpa using hv
    rw [Array.getElem?_eq_getElem hi] at hv'
    rw [Option.some.inj hv', rep_bool.mp hr']
    refine wpAny_truthy_bool ?_
    simpa [List.getD, hi'] using hq
  · have : (List.range us.size).all (fun i => bs.getD i true) = bs.all id := by
      rw [e1, List.length_map]
      exact range_all_getD bs
    rw [this]
    exact ⟨g, Step.keeps G (old_kept hk), rep_bool.mpr rfl⟩
noncomputable def maxI : List Int → Int
  | [] => 0
  | [a] => a
  | a :: r => max a (maxI r)
theorem argBest_max (xs : List Int) : ∀ j, j < xs.length → argBest (fun i j => decide (xs.getD i 0 > xs.getD j 0)) j ≤ j ∧ (∀ i, i ≤ j → xs.getD i 0 ≤ xs.getD (argBest (fun i j => decide (xs.getD i 0 > xs.getD j 0)) j) 0)
  | 0, _ => by
    refine ⟨Nat.le_refl _, fun i hi => ?_⟩
    have : i = 0 := Nat.le_zero.mp hi
    subst this
    exact Int.le_refl _
  | j + 1, h => by
    obtain ⟨a, b⟩ := argBest_max xs j (Nat.lt_of_succ_lt h)
    rw [argBest]
    split
    · rename_i q
      have q := of_decide_eq_true q
      refine ⟨Nat.le_refl _, fun i hi => ?_⟩
      rcases Nat.lt_or_ge i (j + 1) with hi' | hi'
      · have := b i (Nat.le_of_lt_succ hi'); omega
      · have : i = j + 1 := Nat.le_antisymm hi hi'
        subst this; exact Int.le_refl _
    · rename_i q
      have q : ¬ _ := fun w => q (decide_eq_true w)
      refine ⟨Nat.le_succ_of_le a, fun i hi => ?_⟩
      rcases Nat.lt_or_ge i (j + 1) with hi' | hi'
      · exact b i (Nat.le_of_lt_succ hi')
      · have : i = j + 1 := Nat.le_antisymm hi hi'
        subst this
        exact Int.not_lt.mp q
theorem maxI_ge : ∀ (xs : List Int) (x : Int), x ∈ xs → x ≤ maxI xs
  | [a], x, h => by simp at h; subst h; exact Int.le_refl _
  | a :: b :: r, x, h => by
    rw [maxI]
    rcases List.mem_cons.mp h with rfl | h
    · exact Int.le_max_left _ _
    · exact Int.le_trans (maxI_ge (b :: r) x h) (Int.le_max_right _ _)
    all_goals simp
theorem maxI_mem : ∀ (xs : List Int), xs ≠ [] → maxI xs ∈ xs
  | [a], _ => by simp [maxI]
  | a :: b :: r, _ => by
    rw [maxI]
    · rcases Int.le_total a (maxI (b :: r)) with h | h
      · rw [Int.max_eq_right h]; exact List.mem_cons_of_mem _ (maxI_mem (b :: r) (by simp))
      · rw [Int.max_eq_left h]; exact List.mem_cons_self
    · simp
theorem fn_max_list {ns : List Int} (hne : ns ≠ []) : FnE W n (.builtin "max") [.list (ns.map D.int)] (.int (maxI ns)) := by
  intro A g s E vs R G r
  obtain ⟨v, r', rfl, h1, h2⟩ := repL_cons.mp r
  cases repL_nil.mp h2
  obtain ⟨l, us, k, rfl, hl, hr⟩ := rep_list.mp h1
  have e1 := hr.length
  rw [Array.length_toList, List.length_map] at e1
  have hL : s.heap.IsList l us := ⟨_, G.sub _ _ hl, rfl, _, rfl⟩
  have hpos : 0 < us.size := by rw [e1]; exact List.length_pos_iff.mpr hne
  have hat : ∀ i v, us[i]? = some v → i < ns.length ∧ ∃ t, v = .int (ns.getD i 0) t := fun i v hv => by
    obtain ⟨hi, rfl⟩ := Array.getElem?_eq_some_iff.mp hv
    have hi' : i < ns.length := by rw [e1] at hi; exact hi
    obtain ⟨v, hv, hr'⟩ := hr.get (i := i) (d := .int ns[i]) (by simp [hi'])
    obtain ⟨t, rfl⟩ := rep_int.mp hr'
    have : us[i]? = some (.int ns[i] t) := by simpa using hv
    rw [Array.getElem?_eq_getElem hi] at this
    refine ⟨hi', t, ?_⟩
    rw [Option.some.inj this]
    simp [List.getD, hi']
  refine call_max_walk (iterList hL fun s₂ e st hfp hlI => ?_)
  subst e
  refine ⟨_, _, _, _, _, _, _, rfl, Walks.list (A := A.in1) R.handled _ l hlI us, st, hfp, hpos, CmpOf.ints_gt (fun i => ns.getD i 0) (fun i v hv => (hat i v hv).2), fun v h' tk hP hk => ?_⟩
  obtain ⟨hi, t, rfl⟩ := hat _ _ hP
  obtain ⟨a, b⟩ := argBest_max ns (us.size - 1) (by omega)
  have : ns.getD (argBest (fun i j => decide (ns.getD i 0 > ns.getD j 0)) (us.size - 1)) 0 = maxI ns := by
    apply Int.le_antisymm
    · refine maxI_ge ns _ ?_
      rw [List.getD_eq_getElem?_getD, List.getElem?_eq_getElem hi]
      exact List.getElem_mem hi
    · obtain ⟨i, hi', he⟩ := List.mem_iff_getElem.mp (maxI_mem ns hne)
      have := b i (by omega)
      rw [List.getD_eq_getElem?_getD, List.getElem?_eq_getElem hi', Option.getD_some, he] at this
      exact this
  rw [this]
  exact ⟨g, Step.keeps G (old_kept hk), rep_int.mpr ⟨_, rfl⟩⟩
theorem fn_max_two {a b : Int} : FnE W n (.builtin "max") [.int a, .int b] (.int (max a b)) := by
  intro A g s E vs R G r
  obtain ⟨v, r', rfl, h1, h2⟩ := repL_cons.mp r
  obtain ⟨v', r'', rfl, h3, h4⟩ := repL_cons.mp h2
  cases repL_nil.mp h4
  obtain ⟨t, rfl⟩ := rep_int.mp h1
  obtain ⟨t', rfl⟩ := rep_int.mp h3
  refine max_two_ints R.handled fun h' tk k => ?_
  by_cases hb : b > a
  · rw [if_pos hb]; exact ⟨g, Step.keeps G k, rep_int.mpr ⟨_, by rw [Int.max_eq_right (Int.le_of_lt hb)]⟩⟩
  · rw [if_neg hb]; exact ⟨g, Step.keeps G k, rep_int.mpr ⟨_, by rw [Int.max_eq_left (Int.not_lt.mp hb)]⟩⟩
theorem fn_abs {a : Int} : FnE W n (.builtin "abs") [.int a] (.int (if a < 0 then -a else a)) := by
  intro A g s E vs R G r
  obtain ⟨v, r', rfl, h1, h2⟩ := repL_cons.mp r
  cases repL_nil.mp h2
  obtain ⟨t, rfl⟩ := rep_int.mp h1
  exact call_abs_int fun u tk => ⟨g, Step.toks G, rep_int.mpr ⟨_, rfl⟩⟩
theorem fn_str {a : Int} (h : a.natAbs.log2 < 1920) : FnE W n (.type "str") [.int a] (.str (PySem.Str.ofString (toString a))) := by
  intro A g s E vs R G r
  obtain ⟨v, r', rfl, h1, h2⟩ := repL_cons.mp r
  cases repL_nil.mp h2
  obtain ⟨t, rfl⟩ := rep_int.mp h1
  exact PySem.P.str_of_int h ⟨g, Step.toks G, rep_str.mpr ⟨_, rfl⟩⟩
theorem fn_hex {a : Int} (hsz : (baseText "0x" 16 a).length ≤ sizeLine) : FnE W n (.builtin "hex") [.int a] (.str (baseText "0x" 16 a)) := by
  intro A g s E vs R G r
  obtain ⟨v, r', rfl, h1, h2⟩ := repL_cons.mp r
  cases repL_nil.mp h2
  obtain ⟨t, rfl⟩ := rep_int.mp h1
  exact PySem.P.hex_of_int ⟨g, Step.toks G, rep_str.mpr ⟨_, rfl⟩⟩ hsz
theorem fn_isi_bool {b : Bool} : FnE W n (.builtin "isinstance") [.bool b, .ty "bool"] (.bool true) := by
  intro A g s E vs R G r
  obtain ⟨v, r', rfl, h1, h2⟩ := repL_cons.mp r
  obtain ⟨v', r'', rfl, h3, h4⟩ := repL_cons.mp h2
  cases repL_nil.mp h4
  rw [rep_bool.mp h1, rep_ty.mp h3]
  exact IsiPair.bool_bool ⟨g, Step.refl G, rep_bool.mpr rfl⟩
theorem fn_bool_int {a : Int} : FnE W n (.type "bool") [.int a] (.bool (a != 0)) := by
  intro A g s E vs R G r
  obtain ⟨v, r', rfl, h1, h2⟩ := repL_cons.mp r
  cases repL_nil.mp h2
  obtain ⟨t, rfl⟩ := rep_int.mp h1
  exact call_bool_int ⟨g, Step.refl G, rep_bool.mpr rfl⟩
theorem fn_ord {c : Nat} : FnE W n (.builtin "ord") [.str ⟨#[c]⟩] (.int c) := by
  intro A g s E vs R G r
  obtain ⟨v, r', rfl, h1, h2⟩ := repL_cons.mp r
  cases repL_nil.mp h2
  obtain ⟨t, rfl⟩ := rep_str.mp h1
  exact PySem.P.ord_of_char ⟨g, Step.toks G, rep_int.mpr ⟨_, rfl⟩⟩
theorem fn_bytes {ns : List Int} (hr : ∀ n ∈ ns, 0 ≤ n ∧ n < 256) (hz : ns.length ≤ sizeLine) : FnE W n (.type "bytes") [.list (ns.map D.int)] (.bytes (byteArr ns)) := by
  intro A g s E vs R G r
  obtain ⟨v, r', rfl, h1, h2⟩ := repL_cons.mp r
  cases repL_nil.mp h2
  obtain ⟨l, us, k, rfl, hl, hu⟩ := rep_list.mp h1
  have e1 := hu.length
  rw [List.length_map] at e1
  exact call_bytes_ints (s := s) (vs := us.toList) (by rw [Array.toArray_toList]; exact ⟨_, G.sub _ _ hl, rfl, _, rfl⟩) hu.ints hr (by rw [e1]; exact hz) R.handled fun h' t k' hk => ⟨g, Step.keeps G hk, rep_bytes.mpr ⟨_, rfl⟩⟩
theorem fn_tuple {xs : List D} (hz : xs.length ≤ sizeLine) : FnE W n (.type "tuple") [.list xs] (.tup xs) := by
  intro A g s E vs R G r
  obtain ⟨v, r', rfl, h1, h2⟩ := repL_cons.mp r
  cases repL_nil.mp h2
  obtain ⟨l, us, k, rfl, hl, hu⟩ := rep_list.mp h1
  have e1 := hu.length
  rw [Array.length_toList] at e1
  refine call_tuple_list (s := s) (items := us) ⟨_, G.sub _ _ hl, rfl, _, rfl⟩ (fun h' hk => ?_) (by rw [e1]; exact hz)
  have hf : s.heap.get? h'.objs.size = none := by
    cases q : s.heap.get? h'.objs.size with
    | none => rfl
    | some o => exact absurd (Heap.lt_size (hk _ _ q)) (Nat.lt_irrefl _)
  have st := Step.put (hs := W.hs) (tk := s.toks) (o := { cls := .type "tuple", data := .seq us }) G hf (Heap.get?_push_size _ rfl) fun b o e => Heap.get?_push_of_some _ (hk b o e)
  exact ⟨_, st, rep_tup.mpr ⟨_, us, 0, rfl, View.put_self, hu.mono st.view⟩⟩
end
end Mine
end
section
open Builtin Builtin.Str Builtin.Int
namespace Mine
section
variable {W : Wo} {n : Nat} {g : View}
theorem RepL.strItems : ∀ {ns : List PySem.Str} {vs : List Value}, RepL g vs (ns.map D.str) → ∃ xs : List (PySem.Str × Tok), vs = strValues xs ∧ xs.map (·.1) = ns
  | [], vs, h => ⟨[], by rw [repL_nil.mp h]; rfl, rfl⟩
  | n :: ns, vs, h => by
    obtain ⟨v, r, rfl, h1, h2⟩ := repL_cons.mp h
    obtain ⟨t, rfl⟩ := rep_str.mp h1
    obtain ⟨xs, rfl, rfl⟩ := RepL.strItems h2
    exact ⟨(n, t) :: xs, rfl, rfl⟩
theorem RepL.strsFrom : ∀ (xs : List PySem.Str) (t : Nat), RepL g (strsFrom t xs) (xs.map D.str)
  | [], _ => RepL.nil
  | x :: r, t => RepL.cons (rep_str.mpr ⟨_, rfl⟩) (RepL.strsFrom r (t + 1))
noncomputable def joinSize (sep : PySem.Str) (xs : List PySem.Str) : Nat := xs.toArray.foldl (· + ·.length + sep.length) 0
theorem fn_join {sep : PySem.Str} {xs : List PySem.Str} (hz : joinSize sep xs ≤ sizeLine) (hg : (glued sep xs).length ≤ sizeLine) : FnE W n (.builtin "str.join") [.str sep, .list (xs.map D.str)] (.str (glued sep xs)) := by
  intro A g s E vs R G r
  obtain ⟨v, r', rfl, h1, h2⟩ := repL_cons.mp r
  obtain ⟨v', r'', rfl, h3, h4⟩ := repL_cons.mp h2
  cases repL_nil.mp h4
  obtain ⟨t, rfl⟩ := rep_str.mp h1
  obtain ⟨l, us, k, rfl, hl, hu⟩ := rep_list.mp h3
  obtain ⟨ps, e, rfl⟩ := hu.strItems
  have hL : s.heap.IsList l (strValues ps).toArray := by
    rw [← e, Array.toArray_toList]; exact ⟨_, G.sub _ _ hl, rfl, _, rfl⟩
  refine call_meets F.slot_str_join (typeIs_str s sep t) F.entry_str_join (F.args_str_join_2 _ _) (meets_str_join_list sep t l ps (by
    show decide (_ > _) = false
    exact decide_eq_false (Nat.not_lt.mpr hz))) ⟨hL, ?_⟩
  cases ps with
  | nil => exact ⟨hg, g, Step.toks G, rep_str.mpr ⟨_, rfl⟩⟩
  | cons p ps =>
    cases ps with
    | nil =>
      show Res g s (.str (glued sep [p.1])) (.str p.1 p.2) s
      refine ⟨g, Step.refl G, rep_str.mpr ⟨p.2, ?_⟩⟩
      rfl
    | cons q ps => exact ⟨hg, g, Step.toks G, rep_str.mpr ⟨_, rfl⟩⟩
theorem getm_join {sep : PySem.Str} : GetM W (.str sep) "join" (.builtin "str.join") := GetM.str F.slot_str_join F.type_str_join
theorem fn_count_str {x y : PySem.Str} : FnE W n (.builtin "str.count") [.str x, .str y] (.int (occurrences x y 0 x.length (x.length + 1)).length) := by
  intro A g s E vs R G r
  obtain ⟨v, r', rfl, h1, h2⟩ := repL_cons.mp r
  obtain ⟨v', r'', rfl, h3, h4⟩ := repL_cons.mp h2
  cases repL_nil.mp h4
  obtain ⟨t, rfl⟩ := rep_str.mp h1
  obtain ⟨u, rfl⟩ := rep_str.mp h3
  exact call_gives F.slot_str_count (typeIs_str s x t) F.entry_str_count (F.args_str_count_2 _ _) (gives_str_count x y t u) ⟨g, Step.toks G, rep_int.mpr ⟨_, rfl⟩⟩
theorem getm_count_str {sep : PySem.Str} : GetM W (.str sep) "count" (.builtin "str.count") := GetM.str F.slot_str_count F.type_str_count
theorem fn_count_list {ns : List Int} {k : Int} : FnE W n (.builtin "list.count") [.list (ns.map D.int), .int k] (.int (ns.count k : Nat)) := by
  intro A g s E vs R G r
  obtain ⟨v, r', rfl, h1, h2⟩ := repL_cons.mp r
  obtain ⟨v', r'', rfl, h3, h4⟩ := repL_cons.mp h2
  cases repL_nil.mp h4
  obtain ⟨l, us, k', rfl, hl, hu⟩ := rep_list.mp h1
  obtain ⟨u, rfl⟩ := rep_int.mp h3
  refine count_list_ints (vs := us.toList) (by rw [Array.toArray_toList]; exact ⟨_, G.sub _ _ hl, rfl, _, rfl⟩) hu.ints ?_
  exact ⟨g, Step.toks G, rep_int.mpr ⟨_, rfl⟩⟩
theorem getm_count_list {xs : List D} : GetM W (.list xs) "count" (.builtin "list.count") := GetM.list F.slot_list_count F.type_list_count F.plainAttrs_list
noncomputable def splitS (x y : PySem.Str) : Option (List PySem.Str) :=
  if x.length ≤ sizeLine then
    if (decide (x.length < y.length) || decide (strKind x < strKind y)) = true then some [x]
    else if y.length == 0 then none
    else if (occurrences x y 0 x.length (x.length + 1)).isEmpty then some [x]
    else if (partsBetween x (occurrences x y 0 x.length (x.length + 1)) y.length).length ≤ sizeLine then some (partsBetween x (occurrences x y 0 x.length (x.length + 1)) y.length) else none
  else none
theorem fn_split {x y : PySem.Str} {xs : List PySem.Str} (h : splitS x y = some xs) : FnE W n (.builtin "str.split") [.str x, .str y] (.list (xs.map D.str)) := by
  intro A g s E vs R G r
  obtain ⟨v, r', rfl, h1, h2⟩ := repL_cons.mp r
  obtain ⟨v', r'', rfl, h3, h4⟩ := repL_cons.mp h2
  cases repL_nil.mp h4
  obtain ⟨t, rfl⟩ := rep_str.mp h1
  obtain ⟨u, rfl⟩ := rep_str.mp h3
  unfold splitS at h
  have one : ∀ tk, Res g s (.list ([x].map D.str)) (.ref s.heap.objs.size) { s with heap := s.heap.push { cls := .type "list", data := .seq [Value.str x t].toArray }, toks := tk } := fun tk => by
    have st : Step g s (g.put s.heap.objs.size { cls := .type "list", data := .seq [Value.str x t].toArray }) { s with heap := s.heap.push { cls := .type "list", data := .seq [Value.str x t].toArray }, toks := tk } := Step.push G
    exact ⟨_, st, rep_list.mpr ⟨_, _, 0, rfl, View.put_self, RepL.cons (rep_str.mpr ⟨_, rfl⟩) RepL.nil⟩⟩
  split at h
  · rename_i hx
    split at h
    · rename_i q; cases h
      exact call_meets F.slot_str_split (typeIs_str s x t) F.entry_str_split (F.args_str_split_2 _ _) (meets_str_split_cannot_occur x y t u q) (one s.toks)
    · rename_i q
      have q : (decide (x.length < y.length) || decide (strKind x < strKind y)) = false := by simpa using q
      split at h
      · cases h
      · rename_i q2
        have q2 : (y.length == 0) = false := by simpa using q2
        split at h
        · rename_i q3; cases h
          exact call_meets F.slot_str_split (typeIs_str s x t) F.entry_str_split (F.args_str_split_2 _ _) (meets_str_split_not_found x y t u q q2 q3) (one s.toks)
        · rename_i q3
          have q3 : (occurrences x y 0 x.length (x.length + 1)).isEmpty = false := by simpa using q3
          split at h
          · rename_i q4; cases h
            refine call_meets F.slot_str_split (typeIs_str s x t) F.entry_str_split (F.args_str_split_2 _ _) (meets_str_split_sep x y t u q q2 q3 hx q4) ?_
            generalize partsBetween x (occurrences x y 0 x.length (x.length + 1)) y.length = ps
            have st : ∀ tk, Step g s (g.put s.heap.objs.size { cls := .type "list", data := .seq (strsFrom s.toks ps).toArray }) { s with heap := s.heap.push { cls := .type "list", data := .seq (strsFrom s.toks ps).toArray }, toks := tk } := fun tk => Step.push G
            exact ⟨_, st _, rep_list.mpr ⟨_, _, 0, rfl, View.put_self, RepL.strsFrom _ _⟩⟩
          · cases h
  · cases h
theorem getm_split {sep : PySem.Str} : GetM W (.str sep) "split" (.builtin "str.split") := GetM.str F.slot_str_split F.type_str_split
theorem gives_str_find_both (x y : PySem.Str) (i j : Int) (t u v v' : Tok) : Gives («str.find» ⟨[.str x t, .str y u, .int i v, .int j v'], []⟩) (.int (match occurrences x y (fromIndex x.length i) (min (fromIndex x.length j) x.length) 1 with | k :: _ => (k : Int) | [] => -1)) := by
  show Gives (match occurrences x y (fromIndex x.length i) (min (fromIndex x.length j) x.length) 1 with | k :: _ => retInt k | [] => (do rule "str.find.not-found"; retInt (-1))) _
  cases occurrences x y (fromIndex x.length i) (min (fromIndex x.length j) x.length) 1 with
  | nil => exact .rule (.of_eq rfl)
  | cons k r => exact .of_eq rfl
noncomputable def findS (x y : PySem.Str) (i j : Int) : Int := match occurrences x y (fromIndex x.length i) (min (fromIndex x.length j) x.length) 1 with | k :: _ => (k : Int) | [] => -1
theorem fn_find {x y : PySem.Str} {i j : Int} : FnE W n (.builtin "str.find") [.str x, .str y, .int i, .int j] (.int (findS x y i j)) := by
  intro A g s E vs R G r
  obtain ⟨v, r', rfl, h1, h2⟩ := repL_cons.mp r
  obtain ⟨v', r'', rfl, h3, h4⟩ := repL_cons.mp h2
  obtain ⟨v2, r2, rfl, h5, h6⟩ := repL_cons.mp h4
  obtain ⟨v3, r3, rfl, h7, h8⟩ := repL_cons.mp h6
  cases repL_nil.mp h8
  obtain ⟨t, rfl⟩ := rep_str.mp h1
  obtain ⟨u, rfl⟩ := rep_str.mp h3
  obtain ⟨t2, rfl⟩ := rep_int.mp h5
  obtain ⟨t3, rfl⟩ := rep_int.mp h7
  exact call_gives F.slot_str_find (typeIs_str s x t) F.entry_str_find (F.args_str_find_4 _ _ _ _) (gives_str_find_both x y i j t u t2 t3) ⟨g, Step.toks G, rep_int.mpr ⟨_, rfl⟩⟩
theorem getm_find {sep : PySem.Str} : GetM W (.str sep) "find" (.builtin "str.find") := GetM.str F.slot_str_find F.type_str_find
end
end Mine
end
section
namespace Mine
structure StepX (X : Addr → Prop) (g : View) (s : Shared) (g' : View) (s' : Shared) : Prop where
  view : g.le g'
  fresh : ∀ b o, g' b = some o → g b = some o ∨ s.heap.get? b = none
  sub : ∀ b o, g' b = some o → s'.heap.get? b = some o
  keep : ∀ b o, ¬ X b → s.heap.get? b = some o → s'.heap.get? b = some o
  live : ∀ b o, s.heap.get? b = some o → ∃ o', s'.heap.get? b = some o'
  rest : s'.gens = s.gens ∧ s'.drawn = s.drawn ∧ s'.os = s.os
section
variable {X Y : Addr → Prop} {g g' g'' : View} {s s' s'' : Shared}
theorem Step.toX (a : Step g s g' s') : StepX X g s g' s' := ⟨a.view, a.fresh, a.sub, fun b o _ e => a.keep b o e, fun b o e => ⟨o, a.keep b o e⟩, a.rest⟩
theorem StepX.trans (a : StepX X g s g' s') (b : StepX X g' s' g'' s'') : StepX X g s g'' s'' where
  view := fun x o e => b.view _ _ (a.view _ _ e)
  fresh := fun x o e => by
    rcases b.fresh x o e with h | h
    · exact a.fresh x o h
    · refine .inr ?_
      cases q : s.heap.get? x with
      | none => rfl
      | some o' => obtain ⟨o'', h'⟩ := a.live _ _ q; rw [h'] at h; cases h
  sub := b.sub
  keep := fun x o n e => b.keep _ _ n (a.keep _ _ n e)
  live := fun x o e => by obtain ⟨o', h⟩ := a.live _ _ e; exact b.live _ _ h
  rest := ⟨b.rest.1.trans a.rest.1, b.rest.2.1.trans a.rest.2.1, b.rest.2.2.trans a.rest.2.2⟩
theorem StepX.mono (a : StepX X g s g' s') (h : ∀ b, X b → Y b) : StepX Y g s g' s' :=
  ⟨a.view, a.fresh, a.sub, fun b o n e => a.keep b o (fun x => n (h b x)) e, a.live, a.rest⟩
theorem StepX.good {hs : Heap} (G : Good hs g s) (a : StepX X g s g' s') : Good hs g' s' := ⟨fun b o e => a.view _ _ (G.stat b o e), a.sub⟩
theorem StepX.strict {s₀ : Shared} {g₀ : View} (a : Step g₀ s₀ g s) (b : StepX X g s g' s') (h : ∀ x, X x → s₀.heap.get? x = none) : Step g₀ s₀ g' s' where
  view := fun x o e => b.view _ _ (a.view _ _ e)
  fresh := fun x o e => by
    rcases b.fresh x o e with q | q
    · exact a.fresh x o q
    · refine .inr ?_
      cases r : s₀.heap.get? x with
      | none => rfl
      | some o' => rw [a.keep _ _ r] at q; cases q
  sub := b.sub
  keep := fun x o e => b.keep x o (fun n => by rw [h x n] at e; cases e) (a.keep x o e)
  rest := ⟨b.rest.1.trans a.rest.1, b.rest.2.1.trans a.rest.2.1, b.rest.2.2.trans a.rest.2.2⟩
end
noncomputable def addrOf (env : Env) (ns : Names) (x : PySem.Str) (b : Addr) : Prop := (ns.lookup x = some .local ∧ b = env.locals) ∨ (ns.lookup x = some .cell ∧ env.cells.lookup x = some b)
noncomputable def Own (env : Env) (ns : Names) (T : List PySem.Str) (b : Addr) : Prop := ∃ x ∈ T, addrOf env ns x b
noncomputable def KeepN (env : Env) (T : List PySem.Str) (s s' : Shared) : Prop := ∀ m, s.heap.Ns env.locals m → ∃ m', s'.heap.Ns env.locals m' ∧ ∀ y, y ∉ T → m' y = m y
theorem KeepN.refl {env T s} : KeepN env T s s := fun m h => ⟨m, h, fun _ _ => rfl⟩
theorem KeepN.trans {env T T' s s' s''} (a : KeepN env T s s') (b : KeepN env T' s' s'') {T''} (h : ∀ y, y ∉ T'' → y ∉ T ∧ y ∉ T') : KeepN env T'' s s'' := fun m hm => by
  obtain ⟨m', h1, h2⟩ := a m hm
  obtain ⟨m'', h3, h4⟩ := b m' h1
  exact ⟨m'', h3, fun y hy => (h4 y (h y hy).2).trans (h2 y (h y hy).1)⟩
theorem KeepN.keeps {env T s s'} (h : ∀ o, s.heap.get? env.locals = some o → s'.heap.get? env.locals = some o) : KeepN env T s s' := fun m hm => ⟨m, hm.at' h, fun _ _ => rfl⟩
theorem Ns.ext {h : Heap} {a m m'} (x : h.Ns a m) (y : h.Ns a m') : m = m' := by
  obtain ⟨o, es, ep, ho, hd, _, hf⟩ := x
  obtain ⟨o', es', ep', ho', hd', _, hf'⟩ := y
  rw [ho] at ho'; cases ho'
  rw [hd] at hd'; cases hd'
  funext z
  rw [← hf z, hf' z]
section
variable {W : Wo} {n : Nat} {ns : Names} {ρ : Rho}
theorem ns_ne_cell {h : Heap} {a c m v} (hn : h.Ns a m) (hc : h.IsCell c v) : a ≠ c := by
  rintro rfl
  obtain ⟨o, es, ep, ho, hd, _⟩ := hn
  obtain ⟨o', ho', hd'⟩ := hc
  rw [ho] at ho'; cases ho'
  rw [hd] at hd'; cases hd'
theorem storeR {A env g s} {E : Value → Shared → Prop} {x : PySem.Str} {d : D} {v : Value} {Q : Unit → Shared → Prop} (c : Cx W n A env ns ρ g s) (r : Rep g v d) (hk : ns.lookup x = some .local ∨ ns.lookup x = some .cell)
    (h : ∀ s', StepX (addrOf env ns x) g s g s' → KeepN env [x] s s' → Cx W n A env ns ((x, d) :: ρ) g s' → Q () s') : wpAny W.M A (storeName env x v) Q E s := by
  rcases hk with hk | hk
  · obtain ⟨m, h1, h2⟩ := c.en.loc
    refine wpAny_storeName_local ((c.en.kindOf x).trans hk) h1 (fun h' hn hs => ?_) (by rw [c.en.kind]; rfl)
    have hsub : ∀ b o, g b = some o → h'.get? b = some o := fun b o e => by
      have : b ≠ env.locals := by rintro rfl; rw [c.en.hidL] at e; cases e
      rw [hs.2 b this]; exact c.good.sub _ _ e
    have hcell : ∀ cc v, s.heap.IsCell cc v → h'.IsCell cc v := fun cc v hc => hc.sameBut hs (ns_ne_cell h1 hc).symm
    refine h _ ⟨fun _ _ e => e, fun _ _ e => .inl e, hsub, fun b o q e => ?_, fun b o e => ?_, rfl, rfl, rfl⟩ ?_ ⟨c.room, ⟨c.good.stat, hsub⟩, ?_⟩
    · have : b ≠ env.locals := fun z => q (.inl ⟨hk, z⟩)
      show h'.get? b = some o
      rw [hs.2 b this]; exact e
    · by_cases hb : b = env.locals
      · subst hb; obtain ⟨o', _, _, ho', _⟩ := hn; exact ⟨o', ho'⟩
      · exact ⟨o, (hs.2 b hb).trans e⟩
    · intro m₀ hm₀
      have := Ns.ext hm₀ h1
      subst this
      exact ⟨_, hn, fun y hy => by rw [List.mem_singleton] at hy; simp [hy]⟩
    · refine ⟨c.en.names, c.en.kind, c.en.globals, c.en.builtins, c.en.hidL, fun y hy => ?_, c.en.hidC, fun y cc hy => ?_, c.en.apart, ⟨_, hn, fun y d' hl hy => ?_⟩, fun y d' hl hy => ?_⟩
      · obtain ⟨cc, v', e1, e2⟩ := c.en.cells y hy; exact ⟨cc, v', e1, hcell _ _ e2⟩
      · obtain ⟨v', e1⟩ := c.en.isC y cc hy; exact ⟨v', hcell _ _ e1⟩
      · rw [List.lookup_cons] at hl
        by_cases hyx : y = x
        · subst hyx; simp at hl; subst hl; exact ⟨v, by simp, r⟩
        · have : (y == x) = false := by simpa using hyx
          rw [this] at hl
          obtain ⟨v', e1, e2⟩ := h2 y d' hl hy
          exact ⟨v', by simp [hyx, e1], e2⟩
      · rw [List.lookup_cons] at hl
        have hyx : y ≠ x := by rintro rfl; rw [hk] at hy; rcases hy with hy | hy <;> cases hy
        have : (y == x) = false := by simpa using hyx
        rw [this] at hl
        obtain ⟨cc, v', e1, e2, e3⟩ := c.en.cv y d' hl hy
        exact ⟨cc, v', e1, hcell _ _ e2, e3⟩
  · obtain ⟨cc, v₀, hc1, hc2⟩ := c.en.cells x (.inl hk)
    refine wpAny_storeName_cell c.en.kind ((c.en.kindOf x).trans hk) hc1 hc2 fun h' hn hs => ?_
    obtain ⟨m, h1, h2⟩ := c.en.loc
    have hL : env.locals ≠ cc := ns_ne_cell h1 hc2
    have hsub : ∀ b o, g b = some o → h'.get? b = some o := fun b o e => by
      have : b ≠ cc := by rintro rfl; rw [c.en.hidC x _ hc1] at e; cases e
      rw [hs.2 b this]; exact c.good.sub _ _ e
    have hcell : ∀ c' v, c' ≠ cc → s.heap.IsCell c' v → h'.IsCell c' v := fun c' v hne hc => hc.sameBut hs hne
    refine h _ ⟨fun _ _ e => e, fun _ _ e => .inl e, hsub, fun b o q e => ?_, fun b o e => ?_, rfl, rfl, rfl⟩ ?_ ⟨c.room, ⟨c.good.stat, hsub⟩, ?_⟩
    · have : b ≠ cc := fun z => q (.inr ⟨hk, z ▸ hc1⟩)
      show h'.get? b = some o
      rw [hs.2 b this]; exact e
    · by_cases hb : b = cc
      · subst hb; obtain ⟨o', ho', _⟩ := hn; exact ⟨o', ho'⟩
      · exact ⟨o, (hs.2 b hb).trans e⟩
    · exact fun m₀ hm₀ => ⟨m₀, hm₀.sameBut hs hL, fun _ _ => rfl⟩
    · refine ⟨c.en.names, c.en.kind, c.en.globals, c.en.builtins, c.en.hidL, fun y hy => ?_, c.en.hidC, fun y c' hy => ?_, c.en.apart, ⟨m, h1.sameBut hs hL, fun y d' hl hy => ?_⟩, fun y d' hl hy => ?_⟩
      · obtain ⟨c', v', e1, e2⟩ := c.en.cells y hy
        by_cases hcc : c' = cc
        · subst hcc; exact ⟨c', _, e1, hn⟩
        · exact ⟨c', v', e1, hcell _ _ hcc e2⟩
      · obtain ⟨v', e1⟩ := c.en.isC y c' hy
        by_cases hcc : c' = cc
        · subst hcc; exact ⟨_, hn⟩
        · exact ⟨v', hcell _ _ hcc e1⟩
      · rw [List.lookup_cons] at hl
        have hyx : y ≠ x := by rintro rfl; rw [hk] at hy; cases hy
        have : (y == x) = false := by simpa using hyx
        rw [this] at hl
        exact h2 y d' hl hy
      · rw [List.lookup_cons] at hl
        by_cases hyx : y = x
        · subst hyx; simp at hl; subst hl; exact ⟨cc, v, hc1, hn, r⟩
        · have : (y == x) = false := by simpa using hyx
          rw [this] at hl
          obtain ⟨c', v', e1, e2, e3⟩ := c.en.cv y d' hl hy
          exact ⟨c', v', e1, hcell _ _ (fun z => hyx (c.en.apart y x cc (z ▸ e1) hc1)) e2, e3⟩
theorem Cx.sub {A env g s} {ρ' : Rho} (c : Cx W n A env ns ρ g s) (h : ∀ x d, ρ'.lookup x = some d → ρ.lookup x = some d) : Cx W n A env ns ρ' g s :=
  ⟨c.room, c.good, ⟨c.en.names, c.en.kind, c.en.globals, c.en.builtins, c.en.hidL, c.en.cells, c.en.hidC, c.en.isC, c.en.apart,
    let ⟨m, h1, h2⟩ := c.en.loc; ⟨m, h1, fun x d p q => h2 x d (h x d p) q⟩, fun x d p q => c.en.cv x d (h x d p) q⟩⟩
inductive BindT (ns : Names) : Expr → D → List (PySem.Str × D) → Prop
  | name {x pos d} : (ns.lookup x = some .local ∨ ns.lookup x = some .cell) → BindT ns (.Name x pos) d [(x, d)]
  | nilT {k pos} : BindT ns (.Tuple [] k pos) (.tup []) []
  | consT {x p es k pos d ds bs} : (ns.lookup x = some .local ∨ ns.lookup x = some .cell) → BindT ns (.Tuple es k pos) (.tup ds) bs → BindT ns (.Tuple (.Name x p :: es) k pos) (.tup (d :: ds)) (bs ++ [(x, d)])
theorem BindT.len {es : List Expr} {k pos} {ds : List D} {bs} : BindT ns (.Tuple es k pos) (.tup ds) bs → es.length = ds.length := by
  intro h
  induction es generalizing ds bs with
  | nil => cases h; rfl
  | cons e es ih => cases h with | consT _ h' => simp [ih h']
theorem assignEach_names {env : Env} {k pos} : ∀ {es : List Expr} {ds : List D} {bs}, BindT ns (.Tuple es k pos) (.tup ds) bs → (assignEach es env).length = es.length ∧ (assignEach es env).findIdx? (·.1) = none := by
  intro es
  induction es with
  | nil => intro _ _ _; exact ⟨rfl, rfl⟩
  | cons e es ih =>
    intro ds bs h
    cases h with
    | @consT x p _ _ _ d ds bs' hk h' =>
      have ih := ih h'
      refine ⟨?_, ?_⟩
      · show ((false, assign (.Name x p) env) :: assignEach es env).length = _
        rw [List.length_cons, ih.1, List.length_cons]
      · show ((false, assign (.Name x p) env) :: assignEach es env).findIdx? (·.1) = none
        rw [List.findIdx?_cons, ih.2]
        rfl
theorem assignInOrderR {A env} {E : Value → Shared → Prop} {k pos} (es : List Expr) : ∀ {ds : List D} {bs : Rho} {vs : List Value} {g : View} {s : Shared} {ρ : Rho} {Q : Unit → Shared → Prop}, BindT ns (.Tuple es k pos) (.tup ds) bs → Cx W n A env ns ρ g s → RepL g vs ds →
    (∀ s', StepX (Own env ns (bs.map (·.1))) g s g s' → KeepN env (bs.map (·.1)) s s' → Cx W n A env ns (bs ++ ρ) g s' → Q () s') → wpAny W.M A (assignInOrder ((assignEach es env).map (·.2)) vs) Q E s := by
  induction es with
  | nil =>
    intro ds bs vs g s ρ Q h c r hQ
    cases h
    rw [repL_nil.mp r]
    exact wpAny_assignInOrder_none (hQ s (Step.refl c.good).toX KeepN.refl c)
  | cons e es ih =>
    intro ds bs vs g s ρ Q h c r hQ
    cases h with
    | @consT x p _ _ _ d ds bs' hk h' =>
      obtain ⟨v, r', rfl, r1, r2⟩ := repL_cons.mp r
      show wpAny _ A (assignInOrder (assign (.Name x p) env :: (assignEach es env).map (·.2)) (v :: r')) _ E s
      refine wpAny_assignInOrder_more (wpAny_assign_Name (storeR c r1 hk fun s₁ st₁ k₁ c₁ => ?_))
      refine ih h' c₁ r2 fun s₂ st₂ k₂ c₂ => hQ s₂ ?_ (k₁.trans k₂ fun y hy => ?_) ?_
      · refine (st₁.mono fun b hb => ⟨x, by simp, hb⟩).trans (st₂.mono fun b ⟨y, hy, hb⟩ => ⟨y, ?_, hb⟩)
        rw [List.map_append]
        exact List.mem_append_left _ hy
      · rw [List.map_append, List.mem_append, not_or] at hy
        exact ⟨by simpa using hy.2, hy.1⟩
      · rw [List.append_assoc]; exact c₂
theorem assignR {A env g s} {E : Value → Shared → Prop} {tgt : Expr} {d : D} {bs : Rho} {v : Value} {Q : Unit → Shared → Prop} (hb : BindT ns tgt d bs) (c : Cx W n A env ns ρ g s) (r : Rep g v d)
    (hQ : ∀ s', StepX (Own env ns (bs.map (·.1))) g s g s' → KeepN env (bs.map (·.1)) s s' → Cx W n A env ns (bs ++ ρ) g s' → Q () s') : wpAny W.M A (assign tgt env v) Q E s := by
  have tup : ∀ {es k pos ds}, BindT ns (.Tuple es k pos) (.tup ds) bs → Rep g v (.tup ds) → wpAny W.M A (assign (.Tuple es k pos) env v) Q E s := fun {es k pos ds} hb r => by
    obtain ⟨a, vs, k', rfl, h1, h2⟩ := rep_tup.mp r
    have hl := assignEach_names (env := env) hb
    have e1 := h2.length
    rw [Array.length_toList] at e1
    refine wpAny_assign_Tuple (s := s) (items := vs) c.room.handled ⟨_, c.good.sub _ _ h1, rfl, _, rfl⟩ (by rw [hl.1, hb.len, e1]) hl.2 fun h' hx => ?_
    have st : Step g s g { s with heap := h', toks := s.toks } := Step.keeps c.good fun b o e => hx b o (Nat.ne_of_lt (Heap.lt_size e)) e
    exact assignInOrderR _ hb (c.step st) h2 fun s₂ st₂ k₂ c₂ => hQ s₂ (st.toX.trans st₂) ((KeepN.keeps (T := bs.map (·.1)) fun o e => st.keep _ _ e).trans k₂ fun y hy => ⟨hy, hy⟩) c₂
  cases hb with
  | name hk => exact wpAny_assign_Name (storeR c r hk fun s₁ st₁ k₁ c₁ => hQ s₁ (st₁.mono fun b hb => ⟨_, by simp, hb⟩) k₁ c₁)
  | nilT => exact tup .nilT r
  | consT hk h' => exact tup (.consT hk h') r
end
theorem StepX.of_but {hs : Heap} {g : View} {s : Shared} {wr : List Addr} (G : Good hs g s) {h' : Heap} {tk : Nat} (hg : ∀ b ∈ wr, g b = none) (hl : ∀ b ∈ wr, ∃ o, h'.get? b = some o) (k : ∀ b o, b ∉ wr → s.heap.get? b = some o → h'.get? b = some o) :
    StepX (· ∈ wr) g s g { s with heap := h', toks := tk } :=
  ⟨fun _ _ e => e, fun _ _ e => .inl e, fun b o e => k b o (fun m => by rw [hg b m] at e; cases e) (G.sub _ _ e), fun b o m e => k b o m e,
    fun b o e => by by_cases m : b ∈ wr; exact hl b m; exact ⟨o, k b o m e⟩, rfl, rfl, rfl⟩
theorem StepX.withNew {hs : Heap} {g : View} {s : Shared} {X : Addr → Prop} (G : Good hs g s) {a : Addr} {T : Obj} {h' : Heap} {tk : Nat} (hX : ∀ b, X b → g b = none) (hk : ∀ b o, ¬ X b → s.heap.get? b = some o → h'.get? b = some o) (hl : ∀ b, X b → ∃ o, h'.get? b = some o) (hn : s.heap.get? a = none) (hT : h'.get? a = some T) :
    StepX X g s (g.put a T) { s with heap := h', toks := tk } :=
  ⟨View.le_put (G.fresh hn), fun b o q => by
    by_cases hb : b = a
    · rw [hb]; exact .inr hn
    · rw [View.put_ne hb] at q; exact .inl q, fun b o q => by
    by_cases hb : b = a
    · rw [hb, View.put_self] at q; cases q; rw [hb]; exact hT
    · rw [View.put_ne hb] at q
      exact hk b o (fun m => by rw [hX b m] at q; cases q) (G.sub _ _ q), hk, fun b o q => Classical.byCases (hl b) fun m => ⟨o, hk b o m q⟩, rfl, rfl, rfl⟩
theorem mem2 {a b : Addr} {P : Addr → Prop} (ha : P a) (hb : P b) : ∀ x ∈ [a, b], P x := List.forall_mem_cons.mpr ⟨ha, List.forall_mem_cons.mpr ⟨hb, fun _ h => nomatch h⟩⟩
theorem not2 {a b x : Addr} (ha : x ≠ a) (hb : x ≠ b) : x ∉ [a, b] := fun h => (List.mem_cons.mp h).elim ha fun h => hb (List.mem_singleton.mp h)
end Mine
end
section
namespace Mine
structure Src (W : Wo) (A : Around) (tgt : Expr) (I : Addr) (fp wr : List Addr) (xs : List D) (St : Nat → Heap → Prop) (g₀ : View) : Prop where
  sub : ∀ b ∈ wr, b ∈ fp
  frame : ∀ i h h', St i h → (∀ b ∈ fp, ∀ o, h.get? b = some o → h'.get? b = some o) → St i h'
  next : ∀ i (d : D) s g (Q : Option Value → Shared → Prop) (E : Value → Shared → Prop), xs[i]? = some d → St i s.heap → Good W.hs g s → g₀.le g → (∀ b ∈ wr, g b = none) →
    (∀ v g' s', Rep g' v d → StepX (· ∈ wr) g s g' s' →
      (∀ (Q' : Unit → Shared → Prop) (E' : Value → Shared → Prop), (∀ s₂, StepX (· ∈ wr) g' s' g' s₂ → St (i + 1) s₂.heap → Q' () s₂) → wpAny W.M A (letOwnedTupleGo tgt (.ref I) v) Q' E' s') → Q (some v) s') →
    wpAny W.M A (pyNext (.ref I)) Q E s
  done : ∀ s (Q : Option Value → Shared → Prop) (E : Value → Shared → Prop), St xs.length s.heap →
    (∀ h' tk, (∀ b o, b ∉ wr → s.heap.get? b = some o → h'.get? b = some o) → Q none { s with heap := h', toks := tk }) → wpAny W.M A (pyNext (.ref I)) Q E s
  self : ∀ i s (Q : Value → Shared → Prop) (E : Value → Shared → Prop), St i s.heap → Q (.ref I) s → wpAny W.M A (pyIter (.ref I)) Q E s
structure SrcAt (W : Wo) (A : Around) (tgt : Expr) (I : Addr) (fp wr : List Addr) (xs : List D) (St : Nat → Heap → Prop) (g : View) (s : Shared) : Prop where
  src : Src W A tgt I fp wr xs St g
  st : St 0 s.heap
  live : ∀ b ∈ fp, ∃ o, s.heap.get? b = some o
  hid : ∀ b ∈ wr, g b = none
noncomputable def From (g₀ : View) (s₀ : Shared) (fp wr : List Addr) (g : View) : Prop := (∀ b ∈ fp, s₀.heap.get? b = none ∨ ∃ o, g b = some o) ∧ ∀ b ∈ wr, s₀.heap.get? b = none
noncomputable def ownsTuple (n : String) : Bool := ["enumerate", "zip", "dict_itemiterator", "dict_reverseitemiterator", "odict_iterator", "itertools.zip_longest", "itertools.pairwise"].contains n
theorem wpAny_letGoPlain {M : Model} {A : Around} {E : Value → Shared → Prop} {s : Shared} {tgt : Expr} {I : Addr} {v : Value} {o : Obj} {n : String} {Q : Unit → Shared → Prop} (ho : s.heap.get? I = some o) (hc : o.cls = .type n) (hn : ownsTuple n = false) (h : Q () s) :
    wpAny M A (letOwnedTupleGo tgt (.ref I) v) Q E s := by
  have key : wpAny M A (do
      let (.ref r, .ref a) := (Value.ref I, v) | return
      let o ← load r
      match o.cls, o.data with
      | .type n, .fields vs =>
        if ["enumerate", "zip", "dict_itemiterator", "dict_reverseitemiterator", "odict_iterator", "itertools.zip_longest", "itertools.pairwise"].contains n && vs[0]? == some (rawInt a) then
          rule "for.unpacks-the-owned-tuple"
          updateField r 0 .none
      | _, _ => pure ()) Q E s := by
    cases v with
    | ref a =>
      show wpAny M A (load I >>= _) Q E s
      refine wpAny_bind (wpAny_load ho ?_)
      rw [hc]
      generalize o.data = dd
      cases dd with
      | fields vs =>
        show wpAny M A (if ownsTuple n && vs[0]? == some (rawInt a) then _ else _) Q E s
        rw [hn]
        exact wpAny_pure h
      | _ => exact wpAny_pure h
    | _ => exact wpAny_pure h
  cases tgt with
  | Tuple es k pos => exact key
  | List es pos => exact key
  | _ => exact wpAny_pure h
section
variable {W : Wo} {n : Nat} {ns : Names} {ρ : Rho}
theorem Src.ofWalks {A tgt I fp wr k} {P : Nat → Value → Prop} {St : Nat → Heap → Prop} {xs : List D} {g₀ : View} (Wk : Walks W.prog W.w A I fp wr k P St) (hk : k = xs.length) (hP : ∀ i v d, P i v → xs[i]? = some d → Rep g₀ v d)
    (hlive : ∀ i h, St i h → ∀ b ∈ wr, ∃ o, h.get? b = some o) (hgo : ∀ i h, St i h → ∃ o T, h.get? I = some o ∧ o.cls = .type T ∧ ownsTuple T = false) : Src W A tgt I fp wr xs St g₀ where
  sub := Wk.sub
  frame := Wk.frame
  next := fun i d s g Q E hx hst G hg hh hQ => by
    have hi : i < k := by rw [hk]; exact (List.getElem?_eq_some_iff.mp hx).1
    refine Wk.item i s Q E hi hst fun v h' tk hp hst' hkk => ?_
    refine hQ v g _ ((hP i v d hp hx).mono hg) (StepX.of_but G hh (hlive _ _ hst') hkk) fun Q' E' hq => ?_
    obtain ⟨o, T, ho, hc, hn⟩ := hgo _ _ hst'
    exact wpAny_letGoPlain (s := { s with heap := h', toks := tk }) ho hc hn (hq _ (StepX.of_but (s := { s with heap := h', toks := tk }) (hs := W.hs) (StepX.of_but G hh (hlive _ _ hst') hkk |>.good G) hh (hlive _ _ hst') fun b o _ e => e) hst')
  done := fun s Q E hst hQ => Wk.done s Q E (hk ▸ hst) hQ
  self := Wk.self
noncomputable def iterD : D → Option (List D)
  | .list xs => some xs
  | .tup xs => some xs
  | .str x => some (x.cps.toList.map fun c => .str ⟨#[c]⟩)
  | _ => none
theorem iterSeq {A g s} {a : Addr} {vs : Array Value} {xs : List D} {o₀ o : Obj} {P : Nat → Value → Prop} {St : Nat → Heap → Prop} {T : String} {Q : Value → Shared → Prop} {tgt : Expr} (G : Good W.hs g s) (h1 : g a = some o₀) (h2 : RepL g vs.toList xs) (hP : ∀ i u, P i u → vs[i]? = some u)
    (Wk : Walks W.prog W.w A s.heap.objs.size [s.heap.objs.size, a] [s.heap.objs.size] vs.size P St) (hS : ∀ i h, St i h → ∃ o, h.get? s.heap.objs.size = some o ∧ o.cls = .type T) (hT : ownsTuple T = false) (h0 : St 0 (s.heap.push o)) (hf : o.isFreed = false)
    (hQ : ∀ I fp wr St s', Step g s g s' → SrcAt W A tgt I fp wr xs St g s' → From g s fp wr g → Q (.ref I) s') : Q (.ref s.heap.objs.size) { s with heap := s.heap.push o } :=
  hQ _ [s.heap.objs.size, a] [s.heap.objs.size] St _ (Step.keeps G fun b o e => Heap.get?_push_of_some _ e)
    ⟨Src.ofWalks Wk (by rw [← h2.length, Array.length_toList])
      (fun i u d hu hd => by
        obtain ⟨u', e1, e2⟩ := h2.get hd
        rw [Array.getElem?_toList, hP i u hu] at e1
        exact Option.some.inj e1 ▸ e2)
      (fun i h hst b hb => List.mem_singleton.mp hb ▸ let ⟨o, ho, _⟩ := hS i h hst; ⟨o, ho⟩) (fun i h hst => let ⟨o, ho, hc⟩ := hS i h hst; ⟨o, _, ho, hc, hT⟩),
      h0, mem2 ⟨_, Heap.get?_push_size _ hf⟩ ⟨_, Heap.get?_push_of_some _ (G.sub _ _ h1)⟩, fun b hb => List.mem_singleton.mp hb ▸ G.fresh (size_free _)⟩
    ⟨mem2 (.inl (size_free _)) (.inr ⟨_, h1⟩), fun b hb => List.mem_singleton.mp hb ▸ size_free _⟩
theorem pyIterR {A g s} {E : Value → Shared → Prop} {Q : Value → Shared → Prop} {tgt : Expr} {v : Value} {d : D} {xs : List D} (hA : A.handled = none) (G : Good W.hs g s) (r : Rep g v d) (hx : iterD d = some xs)
    (hQ : ∀ I fp wr St s', Step g s g s' → SrcAt W A tgt I fp wr xs St g s' → From g s fp wr g → Q (.ref I) s') : wpAny W.M A (pyIter v) Q E s := by
  cases d with
  | list xs' =>
    cases hx
    obtain ⟨a, vs, m, rfl, h1, h2⟩ := rep_list.mp r
    have hne : a ≠ s.heap.objs.size := Nat.ne_of_lt (Heap.lt_size (G.sub _ _ h1))
    refine wpAny_pyIter_list ⟨_, G.sub _ _ h1, rfl, _, rfl⟩ ?_
    exact iterSeq G h1 h2 (fun i u h => h) (Walks.list hA _ _ hne vs) (fun i h hst => let ⟨⟨o, ho, hc, _⟩, _⟩ := hst; ⟨o, ho, hc⟩) rfl ⟨⟨_, Heap.get?_push_size _ rfl, rfl, rfl⟩, _, Heap.get?_push_of_some _ (G.sub _ _ h1), rfl, _, rfl⟩ rfl hQ
  | tup xs' =>
    cases hx
    obtain ⟨a, vs, m, rfl, h1, h2⟩ := rep_tup.mp r
    have hne : a ≠ s.heap.objs.size := Nat.ne_of_lt (Heap.lt_size (G.sub _ _ h1))
    refine wpAny_pyIter_tuple ⟨_, G.sub _ _ h1, rfl, _, rfl⟩ ?_
    exact iterSeq G h1 h2 (fun i u h => h) (Walks.tuple hA _ _ hne vs) (fun i h hst => let ⟨⟨o, ho, hc, _⟩, _⟩ := hst; ⟨o, ho, hc⟩) rfl ⟨⟨_, Heap.get?_push_size _ rfl, rfl, rfl⟩, _, Heap.get?_push_of_some _ (G.sub _ _ h1), rfl, _, rfl⟩ rfl hQ
  | str x =>
    cases hx
    obtain ⟨t, rfl⟩ := rep_str.mp r
    have main : ∀ (o : Obj) (St : Nat → Heap → Prop), Walks W.prog W.w A s.heap.objs.size [s.heap.objs.size] [s.heap.objs.size] x.cps.size (SignAt x) St → St 0 (s.heap.push o) → o.isFreed = false →
        (∀ i h, St i h → ∃ o T, h.get? s.heap.objs.size = some o ∧ o.cls = .type T ∧ ownsTuple T = false) → Q (.ref s.heap.objs.size) { s with heap := s.heap.push o } := fun o St Wk hst hf hgo => by
      refine hQ _ [s.heap.objs.size] [s.heap.objs.size] St _ (Step.keeps G fun b o e => Heap.get?_push_of_some _ e) ⟨Src.ofWalks Wk ?_ ?_ ?_ hgo, hst, ?_, ?_⟩ ?_
      · simp
      · intro i u d ⟨c, t', hc, hu⟩ hd
        subst hu
        rw [List.getElem?_map, Array.getElem?_toList, hc] at hd
        cases hd
        exact rep_str.mpr ⟨_, rfl⟩
      · intro i h hst b hb
        rw [List.mem_singleton.mp hb]
        obtain ⟨o, T, ho, _⟩ := hgo _ _ hst
        exact ⟨o, ho⟩
      · intro b hb
        rw [List.mem_singleton.mp hb]
        exact ⟨_, Heap.get?_push_size _ hf⟩
      · intro b hb
        rw [List.mem_singleton.mp hb]
        exact G.fresh (size_free _)
      · refine ⟨fun b hb => ?_, fun b hb => ?_⟩
        · rw [List.mem_singleton.mp hb]; exact .inl (size_free _)
        · rw [List.mem_singleton.mp hb]; exact size_free _
    cases ha : x.cps.all (· < 128)
    · exact wpAny_pyIter_wide ha (main _ _ (Walks.strWide hA _ x t) ⟨_, Heap.get?_push_size _ rfl, rfl, rfl⟩ rfl fun i h ⟨o, ho, hc, _⟩ => ⟨o, _, ho, hc, rfl⟩)
    · exact wpAny_pyIter_ascii ha (main _ _ (Walks.strAscii hA _ x t) ⟨_, Heap.get?_push_size _ rfl, rfl, rfl⟩ rfl fun i h ⟨o, ho, hc, _⟩ => ⟨o, _, ho, hc, rfl⟩)
  | _ => cases hx
noncomputable def TriI (W : Wo) (n : Nat) (ns : Names) (ρ : Rho) (tgt e : Expr) (xs : List D) : Prop :=
  ∀ A env g s (Q : Value → Shared → Prop) (E : Value → Shared → Prop), Cx W n A env ns ρ g s →
    (∀ I fp wr St g' s', Step g s g' s' → SrcAt W A tgt I fp wr xs St g' s' → From g s fp wr g' → Q (.ref I) s') → wpAny W.M A (eval e env) (fun v s₁ => wpAny W.M A (pyIter v) Q E s₁) E s
theorem From.step {g₀ g g' : View} {s₀ s : Shared} {fp wr} (a : Step g₀ s₀ g s) (k : g.le g') (h : From g s fp wr g') : From g₀ s₀ fp wr g' := by
  refine ⟨fun b hb => ?_, fun b hb => ?_⟩
  · rcases h.1 b hb with e | e
    · refine .inl ?_
      cases q : s₀.heap.get? b with
      | none => rfl
      | some o => rw [a.keep _ _ q] at e; cases e
    · exact .inr e
  · have e := h.2 b hb
    cases q : s₀.heap.get? b with
    | none => rfl
    | some o => rw [a.keep _ _ q] at e; cases e
theorem TriI.of {tgt e : Expr} {d : D} {xs : List D} (h : TriE W n ns ρ e d) (hx : iterD d = some xs) : TriI W n ns ρ tgt e xs := fun A env g s Q E c hQ => by
  refine wp_mono' (h A env g s E c) fun v s₁ ⟨g₁, st₁, r₁⟩ => ?_
  refine pyIterR (tgt := tgt) c.room.handled (c.step st₁).good r₁ hx fun I fp wr St s₂ st₂ hs hf => ?_
  exact hQ I fp wr St g₁ s₂ (st₁.trans st₂) hs (hf.step st₁ fun _ _ e => e)
noncomputable def rangeL (a b : Int) : List D := (List.range (b - a).toNat).map fun (i : Nat) => .int (a + (i : Int))
theorem rangeIter {A g s} {E : Value → Shared → Prop} {Q : Value → Shared → Prop} {tgt : Expr} {r : Addr} {a b : Int} {t u v : Tok} (hA : A.handled = none) (G : Good W.hs g s) (hr : IsRange s.heap r a b 1 t u v)
    (hs : Builtin.Range.small a b 1 = true)
    (hQ : ∀ I fp wr St s', Step g s g s' → SrcAt W A tgt I fp wr (rangeL a b) St g s' → From g s fp wr g → Q (.ref I) s') : wpAny W.M A (pyIter (.ref r)) Q E s := by
  refine wpAny_pyIter_range hr hs ?_
  refine hQ _ [s.heap.objs.size] [s.heap.objs.size] _ _ (Step.keeps G fun b o e => Heap.get?_push_of_some _ e) ⟨Src.ofWalks (Walks.range hA _ a 1 (b - a).toNat) ?_ ?_ ?_ ?_, ?_, ?_, ?_⟩ ?_
  · simp [rangeL]
  · intro i u d ⟨t', hu⟩ hd
    subst hu
    unfold rangeL at hd
    rw [List.getElem?_map] at hd
    cases hq : (List.range (b - a).toNat)[i]? with
    | none => rw [hq] at hd; cases hd
    | some j =>
      rw [hq] at hd
      cases hd
      have : j = i := by
        rw [List.getElem?_eq_some_iff] at hq
        obtain ⟨hlt, e⟩ := hq
        simpa using e.symm
      subst this
      exact rep_int.mpr ⟨t', by rw [Int.mul_one]⟩
  · intro i h hst b hb
    rw [List.mem_singleton.mp hb]
    exact ⟨_, hst⟩
  · intro i h hst
    exact ⟨_, _, hst, rfl, rfl⟩
  · show IsRangeIter _ _ _ _ _
    have e := Heap.get?_push_size s.heap (o := { cls := .type "range_iterator", data := .fields #[rawInt a, rawInt (Builtin.Range.rangeSize a b 1), rawInt 1] }) rfl
    unfold IsRangeIter
    rw [e]
    have : Builtin.Range.rangeSize a b 1 = (((b - a).toNat : Int) - (0 : Nat)) := by rw [rangeSize_one]; split <;> lia
    rw [this]
    simp
  · intro b hb
    rw [List.mem_singleton.mp hb]
    exact ⟨_, Heap.get?_push_size _ rfl⟩
  · intro b hb
    rw [List.mem_singleton.mp hb]
    exact G.fresh (size_free _)
  · refine ⟨fun b hb => ?_, fun b hb => ?_⟩
    · rw [List.mem_singleton.mp hb]; exact .inl (size_free _)
    · rw [List.mem_singleton.mp hb]; exact size_free _
structure TypeName (W : Wo) (ns : Names) (x : PySem.Str) (T : String) : Prop where
  callee : Callee W ns x (.type T)
theorem TriI.call {x : PySem.Str} {p pos : Pos} {f : Value} {tgt : Expr} {es : List Expr} {ds : List D} {xs : List D} (O : W.Ok) (hc : Callee W ns x f) (hl : TriL W (n + 1) ns ρ es ds) (hs : ∀ env, (starEach es env).any (·.1) = false)
    (hf : ∀ A g s (Q : Value → Shared → Prop) (E : Value → Shared → Prop) vs, A.handled = none → Good W.hs g s → RepL g vs ds →
      (∀ I fp wr St g' s', Step g s g' s' → SrcAt W A tgt I fp wr xs St g' s' → From g s fp wr g' → Q (.ref I) s') → wpAny W.M A (call f vs) (fun v s₁ => wpAny W.M A (pyIter v) Q E s₁) E s) :
    TriI W (n + 1) ns ρ tgt (.Call (.Name x p) es [] pos) xs := fun A env g s Q E c hQ => by
  show wpAny _ A (do callWith pos (← eval (.Name x p) env) [] (backTo pos (starEach es env)) []) _ E s
  refine wpAny_bind (nameGlobal O c hc ?_)
  refine callWith_of (P := fun h => ∀ b o, W.hs.get? b = some o → h.get? b = some o) (by rw [backTo_any, hs env]; rfl) hc.keep ?_
  refine wp_mono' (evalArgsR c hl (hs env)) fun a s₁ ⟨e, g₁, st₁, r₁⟩ => ?_
  have G := (c.step st₁).good
  refine ⟨fun b o q => G.sub _ _ (G.stat _ _ q), ?_⟩
  rw [e]
  refine hf A g₁ s₁ Q E _ c.room.handled G (by simpa using r₁) fun I fp wr St g' s' st' hs' hfr => ?_
  exact hQ I fp wr St g' s' (st₁.trans st') hs' (hfr.step st₁ st'.view)
theorem TriI.range1 {x : PySem.Str} {p pos : Pos} {tgt e : Expr} {b : Int} (O : W.Ok) (hc : Callee W ns x (.type "range")) (h : TriE W (n + 1) ns ρ e (.int b)) (hb : -(2 ^ 62) ≤ b) (hb' : b < 2 ^ 62) (hs : ∀ env, starEach [e] env = [(false, eval e env)] := by intro _; rfl) :
    TriI W (n + 1) ns ρ tgt (.Call (.Name x p) [e] [] pos) (rangeL 0 b) := by
  refine TriI.call O hc (TriL.cons h TriL.nil (by intro env; rw [hs env]; rfl)) (fun env => by rw [hs env]; rfl) fun A g s Q E vs hA G r hQ => ?_
  obtain ⟨v, r', rfl, h1, h2⟩ := repL_cons.mp r
  rw [repL_nil.mp h2]
  obtain ⟨t, rfl⟩ := rep_int.mp h1
  refine call_range_1 ?_
  have st := Step.keeps (tk := s.toks + 1 + 1) G (h' := s.heap.push { cls := .type "range", data := .fields #[.int 0 s.toks, .int b t, .int 1 (s.toks + 1)] }) fun b o e => Heap.get?_push_of_some _ e
  refine rangeIter (tgt := tgt) hA (st.good G) (IsRange.new s.heap 0 b 1 _ _ _) (small_one (by decide) (by decide) hb hb') fun I fp wr St s' st' hs' hfr => ?_
  exact hQ I fp wr St g s' (st.trans st') hs' (hfr.step st fun _ _ e => e)
theorem TriI.range2 {x : PySem.Str} {p pos : Pos} {tgt e₁ e₂ : Expr} {a b : Int} (O : W.Ok) (hc : Callee W ns x (.type "range")) (h₁ : TriE W (n + 1) ns ρ e₁ (.int a)) (h₂ : TriE W (n + 1) ns ρ e₂ (.int b)) (ha : -(2 ^ 62) ≤ a) (ha' : a < 2 ^ 62) (hb : -(2 ^ 62) ≤ b) (hb' : b < 2 ^ 62)
    (hs : ∀ env, starEach [e₁, e₂] env = [(false, eval e₁ env), (false, eval e₂ env)] := by intro _; rfl) (hs' : ∀ env, starEach [e₂] env = [(false, eval e₂ env)] := by intro _; rfl) :
    TriI W (n + 1) ns ρ tgt (.Call (.Name x p) [e₁, e₂] [] pos) (rangeL a b) := by
  refine TriI.call O hc (TriL.cons h₁ (TriL.cons h₂ TriL.nil (by intro env; rw [hs' env]; rfl)) (by intro env; rw [hs env, hs' env])) (fun env => by rw [hs env]; rfl) fun A g s Q E vs hA G r hQ => ?_
  obtain ⟨v, r', rfl, h1, h2⟩ := repL_cons.mp r
  obtain ⟨v', r'', rfl, h3, h4⟩ := repL_cons.mp h2
  rw [repL_nil.mp h4]
  obtain ⟨t, rfl⟩ := rep_int.mp h1
  obtain ⟨t', rfl⟩ := rep_int.mp h3
  refine call_range_2 ?_
  have st := Step.keeps (tk := s.toks + 1) G (h' := s.heap.push { cls := .type "range", data := .fields #[.int a t, .int b t', .int 1 s.toks] }) fun b o e => Heap.get?_push_of_some _ e
  refine rangeIter (tgt := tgt) hA (st.good G) (IsRange.new s.heap a b 1 _ _ _) (small_one ha ha' hb hb') fun I fp wr St s' st' hs' hfr => ?_
  exact hQ I fp wr St g s' (st.trans st') hs' (hfr.step st fun _ _ e => e)
noncomputable def enumL (xs : List D) : List D := (List.range xs.length).map fun (i : Nat) => .tup [.int (i : Int), xs.getD i .none]
theorem Src.enum {A : Around} {es : List Expr} {k : Nat} {pos : Pos} {e it l : Addr} {vs : Array Value} {xs : List D} {g₀ : View} (hA : A.handled = none) (hei : e ≠ it) (hle : l ≠ e) (hli : l ≠ it) (r : RepL g₀ vs.toList xs) :
    Src W A (.Tuple es k pos) e [e, it, l] [e, it] (enumL xs) (fun i h => (∃ old, IsEnum h e it (i : Nat) old) ∧ h.IsListIter it l i ∧ h.IsList l vs) g₀ where
  sub := (WalksT.enumerate (prog := W.prog) (w := W.w) hA e it l hei hle hli vs).sub
  frame := (WalksT.enumerate (prog := W.prog) (w := W.w) hA e it l hei hle hli vs).frame
  next := fun i d s g Q E hx hst G hg hh hQ => by
    obtain ⟨⟨old, he⟩, hit, hl⟩ := hst
    have hlen : vs.size = xs.length := (Array.length_toList (xs := vs)).symm.trans r.length
    have hi : i < xs.length := by
      have := (List.getElem?_eq_some_iff.mp hx).1
      rwa [enumL, List.length_map, List.length_range] at this
    have hx' : vs[i]? = some vs[i] := Array.getElem?_eq_getElem (by rw [hlen]; exact hi)
    have hxi : xs[i]? = some (xs.getD i .none) := by rw [List.getD_eq_getElem?_getD, List.getElem?_eq_getElem hi]; rfl
    have hd : .tup [.int i, xs.getD i .none] = d := by
      unfold enumL at hx
      rw [List.getElem?_map, List.getElem?_range hi] at hx
      exact Option.some.inj hx
    obtain ⟨v, e1, e2⟩ := r.get hxi
    rw [Array.getElem?_toList, hx'] at e1
    rw [← Option.some.inj e1] at e2
    rw [← hd] at hQ
    clear hd hx hxi e1
    have hitS : ∃ o, s.heap.get? it = some o := let ⟨o, x, _⟩ := hit; ⟨o, x⟩
    have notE : ∀ {b}, b ∉ [e, it] → b ≠ e ∧ b ≠ it := fun hb => ⟨fun h => hb (h ▸ .head _), fun h => hb (h ▸ .tail _ (.head _))⟩
    refine wpAny_pyNext_enum_item he hit hl hx' hei fun h' ho hit' hT hsz hk => ?_
    have hkk : ∀ b o, b ∉ [e, it] → s.heap.get? b = some o → h'.get? b = some o := fun b o hb x => hk b o (notE hb).1 (notE hb).2 x
    have hitl : ∃ o, h'.get? it = some o := let ⟨o, x, _⟩ := hit'; ⟨o, x⟩
    have st : StepX (· ∈ [e, it]) g s (g.put s.heap.objs.size { cls := .type "tuple", data := .seq #[.int i s.toks, vs[i]] }) { s with heap := h', toks := s.toks + 1 } := .withNew G hh hkk (mem2 ⟨_, ho⟩ hitl) (size_free _) hT
    have hhT : ∀ b ∈ [e, it], (g.put s.heap.objs.size { cls := .type "tuple", data := .seq #[.int i s.toks, vs[i]] }) b = none := fun b hb =>
      (View.put_ne fun h => let ⟨_, q⟩ := mem2 (P := fun b => ∃ o, s.heap.get? b = some o) ⟨_, he⟩ hitS b hb; by rw [h, size_free] at q; cases q).trans (hh b hb)
    refine hQ (.ref s.heap.objs.size) (g.put s.heap.objs.size _) _ (rep_tup.mpr ⟨_, #[.int i s.toks, vs[i]], 0, rfl, View.put_self, RepL.cons (rep_int.mpr ⟨_, rfl⟩) (RepL.cons ((e2.mono hg).mono st.view) RepL.nil)⟩) st fun Q' E' hq => ?_
    refine wpAny_letOwnedTupleGo_enum ho fun h₂ he₂ hs₂ => ?_
    have keep₂ : ∀ b o, b ∉ [e, it] → h'.get? b = some o → h₂.get? b = some o := fun b o hb y => (hs₂.2 b (notE hb).1).trans y
    exact hq _ (StepX.of_but (s := { s with heap := h', toks := s.toks + 1 }) (hs := W.hs) (st.good G) hhT (mem2 ⟨_, he₂⟩ (let ⟨o, x⟩ := hitl; ⟨o, (hs₂.2 _ hei.symm).trans x⟩)) keep₂) ⟨⟨_, he₂⟩, hit'.at fun o y => (hs₂.2 it hei.symm).trans y, hl.at fun o y => keep₂ l o (not2 hle hli) (hkk l o (not2 hle hli) y)⟩
  done := fun s Q E hst hQ => by
    obtain ⟨⟨old, he⟩, hit, hl⟩ := hst
    have hlen : vs.size = xs.length := (Array.length_toList (xs := vs)).symm.trans r.length
    have hn : vs[(enumL xs).length]? = none := by rw [enumL, List.length_map, List.length_range, ← hlen]; exact Array.getElem?_eq_none (Nat.le_refl _)
    exact wpAny_pyNext_enum_end hA he hit hl hn fun h' hx => hQ h' s.toks fun b o hb y => hx b o (fun e' => hb (e' ▸ .tail _ (.head _))) y
  self := fun i s Q E hst hQ => let ⟨⟨_, he⟩, _⟩ := hst; wpAny_pyIter_enum he hQ
theorem TriI.enumerate {x : PySem.Str} {p pos tp : Pos} {ts : List Expr} {k : Nat} {e : Expr} {xs : List D} (O : W.Ok) (hc : Callee W ns x (.type "enumerate")) (h : TriE W (n + 1) ns ρ e (.list xs)) (hs : ∀ env, starEach [e] env = [(false, eval e env)] := by intro _; rfl) :
    TriI W (n + 1) ns ρ (.Tuple ts k tp) (.Call (.Name x p) [e] [] pos) (enumL xs) := by
  refine TriI.call O hc (TriL.cons h TriL.nil (by intro env; rw [hs env]; rfl)) (fun env => by rw [hs env]; rfl) fun A g s Q E vs hA G r hQ => ?_
  obtain ⟨v, r', rfl, h1, h2⟩ := repL_cons.mp r
  rw [repL_nil.mp h2]
  obtain ⟨a, us, m, rfl, h3, h4⟩ := rep_list.mp h1
  have hl : s.heap.IsList a us := ⟨_, G.sub _ _ h3, rfl, _, rfl⟩
  have halt : a < s.heap.objs.size := Heap.lt_size (G.sub _ _ h3)
  refine call_enumerate_list hl fun h' hE hI hsz hk => ?_
  refine wpAny_pyIter_enum (s := { s with heap := h' }) hE ?_
  have st : Step g s g { s with heap := h' } := Step.keeps G hk
  have fr : ∀ b, s.heap.objs.size ≤ b → s.heap.get? b = none := fun b hb => Heap.get?_none_of_le hb
  refine hQ _ [s.heap.objs.size + 1, s.heap.objs.size, a] [s.heap.objs.size + 1, s.heap.objs.size] _ g _ st ⟨Src.enum hA (Nat.succ_ne_self _) (Nat.ne_of_lt (Nat.lt_succ_of_lt halt)) (Nat.ne_of_lt halt) h4, ⟨⟨_, hE⟩, hI, hl.at fun o x => hk _ o x⟩, ?_, ?_⟩ ?_
  · intro b hb
    rcases List.mem_cons.mp hb with rfl | hb
    · exact ⟨_, hE⟩
    · rcases List.mem_cons.mp hb with rfl | hb
      · exact let ⟨o, x, _⟩ := hI; ⟨o, x⟩
      · rw [List.mem_singleton.mp hb]; exact ⟨_, hk _ _ (G.sub _ _ h3)⟩
  · intro b hb
    rcases List.mem_cons.mp hb with rfl | hb
    · exact G.fresh (fr _ (by lia))
    · rw [List.mem_singleton.mp hb]; exact G.fresh (fr _ (by lia))
  · refine ⟨fun b hb => ?_, fun b hb => ?_⟩
    · rcases List.mem_cons.mp hb with rfl | hb
      · exact .inl (fr _ (by lia))
      · rcases List.mem_cons.mp hb with rfl | hb
        · exact .inl (fr _ (by lia))
        · rw [List.mem_singleton.mp hb]; exact .inr ⟨_, h3⟩
    · rcases List.mem_cons.mp hb with rfl | hb
      · exact fr _ (by lia)
      · rw [List.mem_singleton.mp hb]; exact fr _ (by lia)
end
end Mine
end
section
namespace Mine
noncomputable def closGo (env : Env) : Names → List (PySem.Str × Addr) → List (PySem.Str × Addr)
  | [], acc => acc
  | (x, k) :: r, acc => if k == .free then (match env.cells.lookup x with | some c => closGo env r ((x, c) :: acc) | none => closGo env r acc) else closGo env r acc
theorem closureFor_eq {scope : Scope} {env : Env} (h : ∀ x, (x, NameKind.free) ∈ scope.names → ∃ c, env.cells.lookup x = some c) : closureFor scope env = pure (closGo env scope.names []) := by
  unfold closureFor
  have key : ∀ (names : Names) (acc : List (PySem.Str × Addr)), (∀ x, (x, NameKind.free) ∈ names → ∃ c, env.cells.lookup x = some c) →
      (forIn names acc fun (p : PySem.Str × NameKind) (cs : List (PySem.Str × Addr)) => if (p.2 == .free) = true then (do let a ← cellOf env p.1; pure (ForInStep.yield ((p.1, a) :: cs))) else (pure (ForInStep.yield cs) : Sem _)) = pure (closGo env names acc) := by
    intro names
    induction names with
    | nil => intro acc _; rfl
    | cons p r ih =>
      intro acc hh
      obtain ⟨x, k⟩ := p
      rw [List.forIn_cons]
      have hr := fun y hy => hh y (List.mem_cons_of_mem _ hy)
      cases hk : (k == NameKind.free) with
      | true =>
        have : k = .free := by simpa using hk
        subst this
        obtain ⟨c, hc⟩ := hh x List.mem_cons_self
        simp only [if_true, closGo, hc, cellOf, pure_bind, beq_self_eq_true]
        exact ih _ hr
      | false =>
        simp only [closGo, hk, Bool.false_eq_true, if_false, pure_bind]
        exact ih _ hr
  have key' : (forIn scope.names ([] : List (PySem.Str × Addr)) fun (p : PySem.Str × NameKind) (cs : List (PySem.Str × Addr)) => (match p with
      | (name, kind) => if (kind == NameKind.free) = true then (do let a ← cellOf env name; pure (ForInStep.yield ((name, a) :: cs))) else (pure (ForInStep.yield cs) : Sem _))) = pure (closGo env scope.names []) := key scope.names [] h
  dsimp only
  rw [key']
  rfl
theorem closGo_mem {env : Env} {y c} : ∀ {names : Names} {acc}, (y, c) ∈ closGo env names acc → (y, c) ∈ acc ∨ ((y, NameKind.free) ∈ names ∧ env.cells.lookup y = some c)
  | [], _, h => .inl h
  | (x, k) :: r, acc, h => by
    unfold closGo at h
    split at h
    · rename_i hk
      have : k = .free := by simpa using hk
      subst this
      split at h
      · rename_i c' hc
        rcases closGo_mem h with h | ⟨h1, h2⟩
        · rcases List.mem_cons.mp h with h | h
          · cases h; exact .inr ⟨List.mem_cons_self, hc⟩
          · exact .inl h
        · exact .inr ⟨List.mem_cons_of_mem _ h1, h2⟩
      · rcases closGo_mem h with h | ⟨h1, h2⟩
        · exact .inl h
        · exact .inr ⟨List.mem_cons_of_mem _ h1, h2⟩
    · rcases closGo_mem h with h | ⟨h1, h2⟩
      · exact .inl h
      · exact .inr ⟨List.mem_cons_of_mem _ h1, h2⟩
theorem closGo_acc {env : Env} {p} : ∀ {names : Names} {acc}, p ∈ acc → p ∈ closGo env names acc
  | [], _, h => h
  | (x, k) :: r, acc, h => by
    unfold closGo
    split
    · split
      · exact closGo_acc (List.mem_cons_of_mem _ h)
      · exact closGo_acc h
    · exact closGo_acc h
theorem closGo_has {env : Env} {y c} (hc : env.cells.lookup y = some c) : ∀ {names : Names} {acc}, (y, NameKind.free) ∈ names → (y, c) ∈ closGo env names acc
  | (x, k) :: r, acc, h => by
    unfold closGo
    rcases List.mem_cons.mp h with h | h
    · cases h
      simp only [beq_self_eq_true, if_true, hc]
      exact closGo_acc List.mem_cons_self
    · split
      · split
        · exact closGo_has hc h
        · exact closGo_has hc h
      · exact closGo_has hc h
theorem lookup_some_of_mem {α : Type} {y : PySem.Str} {c : α} : ∀ {l : List (PySem.Str × α)}, (y, c) ∈ l → ∃ c', l.lookup y = some c'
  | (x, d) :: r, h => by
    rw [List.lookup_cons]
    cases hb : y == x with
    | true => exact ⟨d, rfl⟩
    | false =>
      rcases List.mem_cons.mp h with h | h
      · cases h; simp at hb
      · exact lookup_some_of_mem h
theorem lookup_none_of {α : Type} {y : PySem.Str} : ∀ {l : List (PySem.Str × α)}, (∀ c, (y, c) ∉ l) → l.lookup y = none
  | [], _ => rfl
  | (x, d) :: r, h => by
    rw [List.lookup_cons]
    cases hb : y == x with
    | true => have : y = x := by simpa using hb
              subst this; exact absurd List.mem_cons_self (h d)
    | false => exact lookup_none_of fun c hc => h c (List.mem_cons_of_mem _ hc)
theorem cellsFrom_append : ∀ {names : Names} {n : Nat} {acc acc'}, cellsFrom n names (acc ++ acc') = cellsFrom n names acc ++ acc'
  | [], _, _, _ => rfl
  | (x, k) :: r, n, acc, acc' => by
    unfold cellsFrom
    split
    · rw [← List.cons_append]; exact cellsFrom_append
    · exact cellsFrom_append
theorem cellsFrom_mem {y c} : ∀ {names : Names} {n acc}, (y, c) ∈ cellsFrom n names acc → (y, c) ∈ acc ∨ (y, NameKind.cell) ∈ names
  | [], _, _, h => .inl h
  | (x, k) :: r, n, acc, h => by
    unfold cellsFrom at h
    split at h
    · rename_i hk
      have : k = .cell := by simpa using hk
      subst this
      rcases cellsFrom_mem h with h | h
      · rcases List.mem_cons.mp h with h | h
        · cases h; exact .inr List.mem_cons_self
        · exact .inl h
      · exact .inr (List.mem_cons_of_mem _ h)
    · rcases cellsFrom_mem h with h | h
      · exact .inl h
      · exact .inr (List.mem_cons_of_mem _ h)
theorem cellsFrom_acc {p} : ∀ {names : Names} {n acc}, p ∈ acc → p ∈ cellsFrom n names acc
  | [], _, _, h => h
  | (x, k) :: r, n, acc, h => by
    unfold cellsFrom
    split
    · exact cellsFrom_acc (List.mem_cons_of_mem _ h)
    · exact cellsFrom_acc h
theorem cellsFrom_has {y} : ∀ {names : Names} {n acc}, (y, NameKind.cell) ∈ names → ∃ c, (y, c) ∈ cellsFrom n names acc
  | (x, k) :: r, n, acc, h => by
    unfold cellsFrom
    rcases List.mem_cons.mp h with h | h
    · cases h
      simp only [beq_self_eq_true, if_true]
      exact ⟨n, cellsFrom_acc List.mem_cons_self⟩
    · split
      · exact cellsFrom_has h
      · exact cellsFrom_has h
noncomputable def relN (ns names : Names) : Names := names.map fun p => if (p.2 == NameKind.free && ns.lookup p.1 == some .cell) = true then (p.1, NameKind.cell) else p
noncomputable def capt (names : Names) (ρ : Rho) : Rho := ρ.filter fun p => names.lookup p.1 == some .free
theorem relN_lookup {ns : Names} {x : PySem.Str} : ∀ {names : Names}, (relN ns names).lookup x = (names.lookup x).map fun k => if (k == NameKind.free && ns.lookup x == some .cell) = true then NameKind.cell else k
  | [] => rfl
  | (y, k) :: r => by
    have ih := @relN_lookup ns x r
    show List.lookup x ((if (k == NameKind.free && ns.lookup y == some .cell) = true then (y, NameKind.cell) else (y, k)) :: relN ns r) = _
    cases hb : x == y with
    | true =>
      have : x = y := by simpa using hb
      subst this
      split <;> rename_i hc
      · simp only [List.lookup_cons, beq_self_eq_true, Option.map_some, hc, if_true]
      · simp only [List.lookup_cons, beq_self_eq_true, Option.map_some, hc, if_false]; rfl
    | false => split <;> rename_i hc <;> simp [List.lookup_cons, hb, ih]
theorem relabel_names {scope : Scope} {env : Env} {ns : Names} (hn : env.scope.names = ns) (hk : env.scope.kind = .function) : (relabel scope env).names = relN ns scope.names := by
  show scope.names.map _ = scope.names.map _
  refine List.map_congr_left fun p hp => ?_
  obtain ⟨x, k⟩ := p
  have : env.kindOf x = ns.lookup x := by rw [← hn]; rfl
  simp only [hk, this]
  have e : (k == NameKind.free && ScopeKind.function == ScopeKind.function && List.lookup x ns == some NameKind.cell) = (k == NameKind.free && List.lookup x ns == some NameKind.cell) := by
    rw [show (ScopeKind.function == ScopeKind.function) = true from rfl, Bool.and_true]
  rw [e]
theorem capt_lookup {names : Names} {x : PySem.Str} {d : D} : ∀ {ρ : Rho}, (capt names ρ).lookup x = some d → ρ.lookup x = some d ∧ names.lookup x = some .free
  | [], h => by cases h
  | (y, e) :: r, h => by
    unfold capt at h
    rw [List.filter_cons] at h
    by_cases hxy : x = y
    · subst hxy
      split at h
      · rename_i hc
        simp [List.lookup_cons] at h
        subst h
        exact ⟨by simp [List.lookup_cons], by simpa using hc⟩
      · rename_i hc
        exact absurd (by simpa using (capt_lookup h).2) hc
    · have hb : (x == y) = false := by simpa using hxy
      split at h
      · rw [List.lookup_cons, hb] at h
        have := capt_lookup h
        exact ⟨by rw [List.lookup_cons, hb]; exact this.1, this.2⟩
      · have := capt_lookup h
        exact ⟨by rw [List.lookup_cons, hb]; exact this.1, this.2⟩
section
variable {W : Wo} {n : Nat} {ns : Names} {ρ : Rho}
theorem newCompEnvR {A env g s} {E : Value → Shared → Prop} {scope : Scope} {Q : Env → Shared → Prop} (c : Cx W n A env ns ρ g s) (hkind : scope.kind = .function)
    (huniq : ∀ p ∈ scope.names, scope.names.lookup p.1 = some p.2) (hcap : ∀ x, (x, NameKind.free) ∈ scope.names → ns.lookup x = some .cell ∨ ns.lookup x = some .free)
    (hQ : ∀ cenv s', Step g s g s' → Cx W n A { cenv with scope := relabel scope env } (relN ns scope.names) (capt scope.names ρ) g s' → s.heap.get? cenv.locals = none →
      (∀ x a, cenv.cells.lookup x = some a → ((x, NameKind.cell) ∈ scope.names ∧ s.heap.get? a = none) ∨ ((x, NameKind.free) ∈ scope.names ∧ env.cells.lookup x = some a)) → Q cenv s') :
    wpAny W.M A (newFunctionEnv scope env.globals (closGo env scope.names []) [] env.qual none .none (some env)) Q E s := by
  simp only [newFunctionEnv, Option.isSome_some, if_true]
  refine wpAny_bind (wpAny_alloc ?_)
  refine wpAny_bind (wpAny_layCells _ (fun name kind cells => by cases hkc : kind == NameKind.cell <;> simp [hkc]) _ _ _ _ ?_)
  rw [show ({ s with heap := s.heap.push { cls := .type "dict", data := .dict #[] } } : Shared).heap.objs.size = s.heap.objs.size + 1 from Heap.size_push ..]
  have ok := cellsFrom_ok scope.names (s.heap.push { cls := .type "dict", data := .dict #[] }) (s.heap.objs.size + 1) [] ⟨fun _ _ hm => (nomatch hm), List.Pairwise.nil⟩ (by rw [Heap.size_push]; exact Nat.le_refl _)
  rw [Heap.size_push] at ok
  have hcs : cellsFrom (s.heap.objs.size + 1) scope.names (closGo env scope.names []) = cellsFrom (s.heap.objs.size + 1) scope.names [] ++ closGo env scope.names [] := by
    have := @cellsFrom_append scope.names (s.heap.objs.size + 1) [] (closGo env scope.names [])
    simpa using this
  rw [hcs]
  generalize hown : cellsFrom (s.heap.objs.size + 1) scope.names [] = own at ok
  have fresh : ∀ b, s.heap.objs.size ≤ b → s.heap.get? b = none := fun b hb => Heap.get?_none_of_le hb
  have hkeep : ∀ b o, s.heap.get? b = some o → (pushCells (s.heap.push { cls := .type "dict", data := .dict #[] }) scope.names).get? b = some o := fun b o e => pushCells_keeps _ _ b o (Heap.get?_push_of_some _ e)
  have ownM : ∀ y a, (y, a) ∈ own → (y, NameKind.cell) ∈ scope.names := fun y a h => by
    rw [← hown] at h
    rcases cellsFrom_mem h with h | h
    · cases h
    · exact h
  have clM : ∀ y a, (y, a) ∈ closGo env scope.names [] → (y, NameKind.free) ∈ scope.names ∧ env.cells.lookup y = some a := fun y a h => by
    rcases closGo_mem h with h | h
    · cases h
    · exact h
  have mem : ∀ y a, (own ++ closGo env scope.names []).lookup y = some a → ((y, a) ∈ own) ∨ ((y, NameKind.free) ∈ scope.names ∧ env.cells.lookup y = some a) := fun y a h => by
    rcases List.mem_append.mp (mem_of_lookup h) with h | h
    · exact .inl h
    · exact .inr (clM y a h)
  have ownFresh : ∀ y a, (y, a) ∈ own → s.heap.objs.size + 1 ≤ a := fun y a h => (ok.empty y a h).2
  have isCell : ∀ y a, (own ++ closGo env scope.names []).lookup y = some a → ∃ v, (pushCells (s.heap.push { cls := .type "dict", data := .dict #[] }) scope.names).IsCell a v := fun y a h => by
    rcases mem y a h with h | ⟨_, h⟩
    · exact ⟨_, (ok.empty y a h).1⟩
    · obtain ⟨v, hv⟩ := c.en.isC y a h
      exact ⟨v, hv.keeps hkeep⟩
  refine wpAny_bind (wpAny_pure (wpAny_pure (hQ _ _ (Step.keeps c.good hkeep) ⟨c.room, ⟨c.good.stat, fun b o e => hkeep b o (c.good.sub b o e)⟩, ?_⟩ (size_free _) fun x a ha => ?_)))
  · refine ⟨relabel_names c.en.names c.en.kind, hkind, c.en.globals, c.en.builtins, c.good.fresh (size_free _), fun x hx => ?_, fun x a ha => ?_, isCell, fun x y a hx hy => ?_, ⟨_, (Heap.Ns.new s.heap (.type "dict")).keeps (pushCells_keeps _ _), fun x d hd hl => ?_⟩, fun x d hd hl => ?_⟩
    · have hmem : (x, NameKind.cell) ∈ scope.names ∨ (x, NameKind.free) ∈ scope.names := by
        rw [relN_lookup] at hx
        cases hq : scope.names.lookup x with
        | none => rw [hq] at hx; simp at hx
        | some k =>
          rw [hq] at hx
          have hm := mem_of_lookup hq
          cases k with
          | cell => exact .inl hm
          | free => exact .inr hm
          | _ => simp at hx
      have : ∃ a, (own ++ closGo env scope.names []).lookup x = some a := by
        rcases hmem with hm | hm
        · obtain ⟨a, ha⟩ := @cellsFrom_has x scope.names (s.heap.objs.size + 1) [] hm
          rw [hown] at ha
          exact lookup_some_of_mem (List.mem_append_left _ ha)
        · obtain ⟨a, v, ha, _⟩ := c.en.cells x (hcap x hm)
          exact lookup_some_of_mem (List.mem_append_right _ (closGo_has ha hm))
      obtain ⟨a, ha⟩ := this
      obtain ⟨v, hv⟩ := isCell x a ha
      exact ⟨a, v, ha, hv⟩
    · rcases mem x a ha with h | ⟨_, h⟩
      · exact c.good.fresh (fresh _ (Nat.le_of_succ_le (ownFresh x a h)))
      · exact c.en.hidC x a h
    · have old : ∀ z, env.cells.lookup z = some a → a < s.heap.objs.size := fun z hz => by obtain ⟨v, o, ho, _⟩ := c.en.isC z a hz; exact Heap.lt_size ho
      rcases mem x a hx with h1 | ⟨_, h1⟩ <;> rcases mem y a hy with h2 | ⟨_, h2⟩
      · exact name_of_addr ok.apart h1 h2
      · have q1 := ownFresh x a h1; have q2 := old y h2; exact absurd q2 (Nat.not_lt.mpr (Nat.le_of_succ_le q1))
      · have q1 := ownFresh y a h2; have q2 := old x h1; exact absurd q2 (Nat.not_lt.mpr (Nat.le_of_succ_le q1))
      · exact c.en.apart x y a h1 h2
    · rw [relN_lookup, (capt_lookup hd).2] at hl
      simp at hl
      split at hl <;> cases hl
    · obtain ⟨h1, h2⟩ := capt_lookup hd
      have hm := mem_of_lookup h2
      obtain ⟨a, v, ha, hv, hr⟩ := c.en.cv x d h1 (hcap x hm)
      refine ⟨a, v, ?_, hv.keeps hkeep, hr⟩
      have : ∃ a', (own ++ closGo env scope.names []).lookup x = some a' := lookup_some_of_mem (List.mem_append_right _ (closGo_has ha hm))
      obtain ⟨a', ha'⟩ := this
      rcases mem x a' ha' with h | ⟨_, h⟩
      · have e1 := huniq _ (ownM x a' h)
        rw [h2] at e1; cases e1
      · rw [ha] at h; cases h; exact ha'
  · rcases mem x a ha with h | h
    · exact .inl ⟨ownM x a h, fresh _ (Nat.le_of_succ_le (ownFresh x a h))⟩
    · exact .inr h
end
end Mine
end
section
namespace Mine
section
variable {X Y : Addr → Prop} {g g' g₀ : View} {s s' s₀ : Shared}
theorem StepX.transX (a : StepX X g₀ s₀ g s) (b : StepX Y g s g' s') (h : ∀ x, Y x → X x ∨ s₀.heap.get? x = none) : StepX X g₀ s₀ g' s' where
  view := fun x o e => b.view _ _ (a.view _ _ e)
  fresh := fun x o e => by
    rcases b.fresh x o e with q | q
    · exact a.fresh x o q
    · refine .inr ?_
      cases r : s₀.heap.get? x with
      | none => rfl
      | some o' => obtain ⟨o'', h'⟩ := a.live _ _ r; rw [h'] at q; cases q
  sub := b.sub
  keep := fun x o n e => b.keep _ _ (fun hy => by rcases h x hy with h | h; exact n h; rw [h] at e; cases e) (a.keep _ _ n e)
  live := fun x o e => by obtain ⟨o', h⟩ := a.live _ _ e; exact b.live _ _ h
  rest := ⟨b.rest.1.trans a.rest.1, b.rest.2.1.trans a.rest.2.1, b.rest.2.2.trans a.rest.2.2⟩
theorem Step.hid (a : Step g s g' s') {b : Addr} {o : Obj} (h : g b = none) (hl : s.heap.get? b = some o) : g' b = none := by
  cases q : g' b with
  | none => rfl
  | some o' => exact (a.fresh _ _ q).elim (fun e => by rw [h] at e; cases e) fun e => by rw [hl] at e; cases e
theorem Step.shown {X : Addr → Prop} (st : Step g s₀ g' s') (hold : ∀ b o, s.heap.get? b = some o → ¬ X b → s₀.heap.get? b = some o) (rest : s₀.gens = s.gens ∧ s₀.drawn = s.drawn ∧ s₀.os = s.os) (hid : ∀ b, X b → g' b = none) (hl : ∀ b, X b → ∃ o, s'.heap.get? b = some o) : StepX X g s g' s' where
  view := st.view
  fresh := fun b o e => (st.fresh b o e).imp_right fun h => by
    cases q : s.heap.get? b with
    | none => rfl
    | some o' => exact Classical.byCases (fun hb => by rw [hid b hb] at e; cases e) fun hb => by rw [hold b o' q hb] at h; cases h
  sub := st.sub
  keep := fun b o hb e => st.keep _ _ (hold b o e hb)
  live := fun b o e => Classical.byCases (hl b) fun hb => ⟨o, st.keep _ _ (hold b o e hb)⟩
  rest := ⟨st.rest.1.trans rest.1, st.rest.2.1.trans rest.2.1, st.rest.2.2.trans rest.2.2⟩
theorem StepX.step {X : Addr → Prop} (a : StepX X g₀ s₀ g s) (b : Step g s g' s') : StepX X g₀ s₀ g' s' := a.trans b.toX
theorem StepX.drop {hs : Heap} {wr : List Addr} (G : Good hs g s) (a : StepX X g₀ s₀ g s) (hw : ∀ b ∈ wr, s₀.heap.get? b = none) (hh : ∀ b ∈ wr, g b = none) {h' : Heap} {tk : Nat} (k : ∀ b o, b ∉ wr → s.heap.get? b = some o → h'.get? b = some o) :
    StepX X g₀ s₀ g { s with heap := h', toks := tk } where
  view := a.view
  fresh := a.fresh
  sub := fun b o e => k b o (fun m => by rw [hh b m] at e; cases e) (G.sub _ _ e)
  keep := fun b o n e => k b o (fun m => by rw [hw b m] at e; cases e) (a.keep _ _ n e)
  live := fun b o e => by obtain ⟨o', h⟩ := a.live _ _ e; exact ⟨o', k b o' (fun m => by rw [hw b m] at e; cases e) h⟩
  rest := a.rest
theorem StepX.at1 {hs : Heap} (G : Good hs g s) {a : Addr} {h' : Heap} {tk : Nat} (ha : g a = none) (hk : ∀ b o, b ≠ a → s.heap.get? b = some o → h'.get? b = some o) (hl : ∃ o, h'.get? a = some o) : StepX (· = a) g s g { s with heap := h', toks := tk } where
  view := fun _ _ e => e
  fresh := fun _ _ e => .inl e
  sub := fun b o e => hk b o (fun h => by rw [h, ha] at e; cases e) (G.sub _ _ e)
  keep := hk
  live := fun b o e => by
    by_cases hb : b = a
    · rw [hb]; exact hl
    · exact ⟨o, hk b o hb e⟩
  rest := ⟨rfl, rfl, rfl⟩
theorem none_of {h : Heap} {a : Addr} (n : ∀ o, h.get? a = some o → False) : h.get? a = none := by
  cases q : h.get? a with
  | none => rfl
  | some o => exact (n o q).elim
theorem StepX.hid (a : StepX X g s g' s') {b : Addr} {o : Obj} (h : g b = none) (hl : s.heap.get? b = some o) : g' b = none := by
  cases q : g' b with
  | none => rfl
  | some o' =>
    rcases a.fresh _ _ q with e | e
    · rw [h] at e; cases e
    · rw [hl] at e; cases e
end
section
variable {W : Wo} {n : Nat} {ns : Names} {ρ : Rho}
theorem Cx.but {A env g s} {wr : List Addr} (c : Cx W n A env ns ρ g s) (hl : env.locals ∉ wr) (hc : ∀ x a, env.cells.lookup x = some a → a ∉ wr) (hh : ∀ b ∈ wr, g b = none) {h' : Heap} {tk : Nat} (k : ∀ b o, b ∉ wr → s.heap.get? b = some o → h'.get? b = some o) :
    Cx W n A env ns ρ g { s with heap := h', toks := tk } := by
  refine ⟨c.room, ⟨c.good.stat, fun b o e => k b o (fun m => by rw [hh b m] at e; cases e) (c.good.sub _ _ e)⟩, c.en.names, c.en.kind, c.en.globals, c.en.builtins, c.en.hidL, fun x hx => ?_, c.en.hidC, fun x cc hx => ?_, c.en.apart, ?_, fun x d p q => ?_⟩
  · obtain ⟨cc, v, h1, h2⟩ := c.en.cells x hx
    exact ⟨cc, v, h1, let ⟨o, ho, hd⟩ := h2; ⟨o, k _ _ (hc x cc h1) ho, hd⟩⟩
  · obtain ⟨v, o, ho, hd⟩ := c.en.isC x cc hx
    exact ⟨v, o, k _ _ (hc x cc hx) ho, hd⟩
  · obtain ⟨m, h1, h2⟩ := c.en.loc
    exact ⟨m, h1.at' fun o e => k _ _ hl e, h2⟩
  · obtain ⟨cc, v, h1, ⟨o, ho, hd⟩, h3⟩ := c.en.cv x d p q
    exact ⟨cc, v, h1, ⟨o, k _ _ (hc x cc h1) ho, hd⟩, h3⟩
theorem Cx.stepX {A env g s g' s'} {X : Addr → Prop} (c : Cx W n A env ns ρ g s) (a : StepX X g s g' s') (hl : ¬ X env.locals) (hc : ∀ x b, env.cells.lookup x = some b → ¬ X b) : Cx W n A env ns ρ g' s' := by
  refine ⟨c.room, a.good c.good, c.en.names, c.en.kind, c.en.globals, c.en.builtins, ?_, fun x hx => ?_, fun x cc hx => ?_, fun x cc hx => ?_, c.en.apart, ?_, fun x d p q => ?_⟩
  · obtain ⟨m, ⟨o', es, ep, ho, _⟩, _⟩ := c.en.loc
    exact a.hid c.en.hidL ho
  · obtain ⟨cc, v, h1, h2⟩ := c.en.cells x hx
    exact ⟨cc, v, h1, let ⟨o, ho, hd⟩ := h2; ⟨o, a.keep _ _ (hc x cc h1) ho, hd⟩⟩
  · obtain ⟨v, o, ho, hd⟩ := c.en.isC x cc hx
    exact a.hid (c.en.hidC x cc hx) ho
  · obtain ⟨v, o, ho, hd⟩ := c.en.isC x cc hx
    exact ⟨v, o, a.keep _ _ (hc x cc hx) ho, hd⟩
  · obtain ⟨m, h1, h2⟩ := c.en.loc
    exact ⟨m, h1.at' fun o e => a.keep _ _ hl e, fun x d p q => let ⟨v, r1, r2⟩ := h2 x d p q; ⟨v, r1, r2.mono a.view⟩⟩
  · obtain ⟨cc, v, h1, ⟨o, ho, hd⟩, h3⟩ := c.en.cv x d p q
    exact ⟨cc, v, h1, ⟨o, a.keep _ _ (hc x cc h1) ho, hd⟩, h3.mono a.view⟩
noncomputable def AccAt (g : View) (s : Shared) (L : Addr) (ds : List D) : Prop := ∃ ys, s.heap.PlainList L ys ∧ RepL g ys.toList ds ∧ g L = none
theorem AccAt.stepX {g s g' s'} {X : Addr → Prop} {L ds} (h : AccAt g s L ds) (a : StepX X g s g' s') (hx : ¬ X L) : AccAt g' s' L ds := by
  obtain ⟨ys, ⟨k, h1⟩, h2, h3⟩ := h
  exact ⟨ys, ⟨k, a.keep _ _ hx h1⟩, h2.mono a.view, a.hid h3 h1⟩
theorem AccAt.frozen {g₀ s₀ g s L ds} (h : AccAt g s L ds) (st : Step g₀ s₀ g s) (hL : s₀.heap.get? L = none) : ∃ g', Step g₀ s₀ g' s ∧ g.le g' ∧ Rep g' (.ref L) (.list ds) := by
  obtain ⟨ys, ⟨q, hp⟩, hr, hn⟩ := h
  have le : g.le (g.put L { cls := .type "list", data := .seq ys q }) := View.le_put hn
  refine ⟨_, ⟨fun b o e => le _ _ (st.view _ _ e), fun b o e => ?_, fun b o e => ?_, st.keep, st.rest⟩, le, rep_list.mpr ⟨L, ys, q, rfl, View.put_self, hr.mono le⟩⟩
  · by_cases hb : b = L
    · rw [hb]; exact .inr hL
    · rw [View.put_ne hb] at e; exact st.fresh _ _ e
  · by_cases hb : b = L
    · rw [hb, View.put_self] at e; cases e; rw [hb]; exact hp
    · rw [View.put_ne hb] at e; exact st.sub _ _ e
theorem AccAt.neL {g s L ds m} (h : AccAt g s L ds) {a : Addr} (hn : s.heap.Ns a m) : L ≠ a := by
  rintro rfl
  obtain ⟨ys, ⟨k, h1⟩, _⟩ := h
  obtain ⟨o, es, ep, ho, hd, _⟩ := hn
  rw [h1] at ho; cases ho; cases hd
theorem AccAt.neC {g s L ds} {v : Option Value} (h : AccAt g s L ds) {a : Addr} (hn : s.heap.IsCell a v) : L ≠ a := by
  rintro rfl
  obtain ⟨ys, ⟨k, h1⟩, _⟩ := h
  obtain ⟨o, ho, hd⟩ := hn
  rw [h1] at ho; cases ho; cases hd
noncomputable def CompX (L : Addr) (cenv : Env) (ns : Names) (T : List PySem.Str) : Addr → Prop := fun b => b = L ∨ Own cenv ns T b
noncomputable def Off (cenv : Env) (L : Addr) (fp : List Addr) : Prop := ∀ b ∈ fp, b ≠ L ∧ b ≠ cenv.locals ∧ ∀ x c, cenv.cells.lookup x = some c → b ≠ c
theorem Off.own {cenv L fp} (h : Off cenv L fp) {T} {b} (hb : b ∈ fp) : ¬ CompX L cenv ns T b := by
  rintro (e | ⟨x, _, ⟨_, e⟩ | ⟨_, e⟩⟩)
  · exact (h b hb).1 e
  · exact (h b hb).2.1 e
  · exact (h b hb).2.2 x b e rfl
theorem Off.of {A cenv g s g' s' L ds} {fp wr : List Addr} (c : Cx W n A cenv ns ρ g s) (acc : AccAt g s L ds) (a : Step g s g' s') (h : From g s fp wr g') : Off cenv L fp := fun b hb => by
  have key : ∀ o, s.heap.get? b = some o → g b = none → False := fun o ho hn => by
    rcases h.1 b hb with e | ⟨o', e⟩
    · rw [ho] at e; cases e
    · have := a.toX (X := fun _ => False) |>.hid hn ho
      rw [this] at e; cases e
  refine ⟨?_, ?_, ?_⟩
  · rintro rfl
    obtain ⟨ys, ⟨k, h1⟩, _, h3⟩ := acc
    exact key _ h1 h3
  · rintro rfl
    obtain ⟨m, ⟨o', es, ep, ho, _⟩, _⟩ := c.en.loc
    exact key _ ho c.en.hidL
  · rintro x cc hx rfl
    obtain ⟨v, o, ho, _⟩ := c.en.isC x _ hx
    exact key _ ho (c.en.hidC x _ hx)
noncomputable def CompOk (W : Wo) (n : Nat) (ns : Names) (T : List PySem.Str) (ρ : Rho) (tgt e : Expr) (k : Nat) (xs outs : List D) : Prop :=
  ∀ A cenv g₀ s₀ g s L ds I fp wr St (R : Result → Shared → Prop),
    Cx W n A cenv ns ρ g s → SrcAt W A tgt I fp wr xs St g s → AccAt g s L ds → (∀ b ∈ wr, s₀.heap.get? b = none) → Off cenv L fp → StepX (CompX L cenv ns T) g₀ s₀ g s → ds.length + outs.length ≤ sizeLine →
    (∀ g' s', StepX (CompX L cenv ns T) g₀ s₀ g' s' → Cx W n A cenv ns ρ g' s' → AccAt g' s' L (ds ++ outs) → R (.ok .next) s') →
    codeAny W.M A (.compLoop e k (.ref I) (.ref L) cenv) R s
noncomputable def CompTail (W : Wo) (n : Nat) (ns : Names) (T : List PySem.Str) (ρ : Rho) (e elt : Expr) (gens : List Comprehension) (k : Nat) (outs : List D) : Prop :=
  match gens[k]? with
  | none => ∃ d, TriE W n ns ρ elt d ∧ outs = [d]
  | some g => ∃ xs, g.is_async = 0 ∧ (∀ env x, foldedSetIterable g.iter env x = pure x) ∧ TriI W n ns ρ g.target g.iter xs ∧ CompOk W n ns T ρ g.target e k xs outs
noncomputable def Tests (W : Wo) (n : Nat) (ns : Names) (ρ : Rho) (ifs : List Expr) (b : Bool) : Prop :=
  ∀ A env g s (E : Value → Shared → Prop), Cx W n A env ns ρ g s →
    wpAny W.M A (forIn ifs true fun c r => if r = true then do let ok ← isTrue c env (eval c env); pure (ForInStep.yield ok) else pure (ForInStep.yield r)) (ResB g s b) E s
theorem Tests.nil : Tests W n ns ρ [] true := fun A env g s E c => wpAny_tests_nil ⟨rfl, g, Step.refl c.good⟩
theorem Tests.one {e : Expr} {b : Bool} (h : TriB W n ns ρ e b) : Tests W n ns ρ [e] b := fun A env g s E c => wpAny_tests_one (h A env g s E c)
theorem compTurn_at (elt : Expr) (gens : List Comprehension) (target iter : Expr) (ifs : List Expr) (scope : Scope) (pos : Pos) (it acc : Value) (env : Env) (k : Nat) (hk : gens[k]? = some ⟨target, iter, ifs, 0⟩) :
    compTurn (.ListComp elt gens scope pos) k it acc env = (do
      standAt iter.pos
      match ← pyNext it with
      | none => pure (.done .next)
      | some v =>
        letOwnedTupleGo target it v
        assign target env v
        let ok ← forIn ifs true fun c r => if r = true then do let ok ← isTrue c env (eval c env); pure (ForInStep.yield ok) else pure (ForInStep.yield r)
        if ok then
          (match gens[k + 1]? with
          | some g' => do
            let x ← eval g'.iter env
            standAt g'.iter.pos
            if g'.is_async != 0 then do
              let x ← foldedIterable g'.iter x
              let _ ← runOwn (.compStart (.ListComp elt gens scope pos) (k + 1) (← holding [x] (if g'.is_async != 0 then asyncIter x else pyIter x)) acc env) env
              again (.compLoop (.ListComp elt gens scope pos) k it acc env)
            else do
              let x ← foldedSetIterable g'.iter env x
              let _ ← runOwn (.compStart (.ListComp elt gens scope pos) (k + 1) (← holding [x] (if g'.is_async != 0 then asyncIter x else pyIter x)) acc env) env
              again (.compLoop (.ListComp elt gens scope pos) k it acc env)
          | none => do
            (do let _ ← call (.builtin "list.append") [acc, ← eval elt env])
            again (.compLoop (.ListComp elt gens scope pos) k it acc env))
        else again (.compLoop (.ListComp elt gens scope pos) k it acc env)) := by
  delta compTurn
  dsimp only
  rw [hk]
  rfl
theorem codeAny_compStart_at {A : Around} {R : Result → Shared → Prop} {s : Shared} {M : Model} (hM : M = W.M) {elt gens target iter ifs scope pos it acc env k} (hk : gens[k]? = some ⟨target, iter, ifs, 0⟩)
    (h0 : codeAny W.M A (.compLoop (.ListComp elt gens scope pos) k it acc env) R s)
    (h : ∀ E, wpAny W.M A (pyIter it) (fun it' s' => codeAny W.M A (.compLoop (.ListComp elt gens scope pos) k it' acc env) R s') E s) :
    codeAny W.M A (.compStart (.ListComp elt gens scope pos) k it acc env) R s := by
  refine codeAny_of_tree ?_
  show wpAny _ _ ((compStart (.ListComp elt gens scope pos) k it acc env).onRaise (fun x => do noteFrame x env; standAt theWindowsPlace)) _ _ s
  refine wpAny_notedAt ?_
  delta compStart
  rw [show clausesOf (.ListComp elt gens scope pos) = gens from rfl, hk]
  show wpAny _ _ (ask >>= _) _ _ s
  refine wpAny_bind (wpAny_askSetting (wpAny_ite ?_))
  split
  · first
      | exact wpAny_bind (wpAny_pure (wpAny_pure (And.intro rfl h0)))
      | exact wpAny_pure (And.intro rfl h0)
  · first
      | exact wpAny_bind (wpAny_rule (wpAny_bind (wpAny_standAt (wpAny_bind (wpAny_mono (h _) (fun it' s' h' => wpAny_pure (And.intro rfl h')) fun _ _ x => x)))))
      | (refine wpAny_bind (wpAny_rule ?_); show wpAny _ _ (standAt iter.pos >>= _) _ _ s; exact wpAny_bind (wpAny_standAt (wpAny_bind (wpAny_mono (h _) (fun it' s' h' => wpAny_pure (And.intro rfl h')) fun _ _ x => x))))
noncomputable def AssignsTo (W : Wo) (n : Nat) (ns : Names) (tgt : Expr) (d : D) (bs : Rho) : Prop :=
  ∀ A env ρ g s (E : Value → Shared → Prop) v (Q : Unit → Shared → Prop), Cx W n A env ns ρ g s → Rep g v d → (∀ s', StepX (Own env ns (bs.map (·.1))) g s g s' → KeepN env (bs.map (·.1)) s s' → Cx W n A env ns (bs ++ ρ) g s' → Q () s') → wpAny W.M A (assign tgt env v) Q E s
theorem BindT.assigns {tgt : Expr} {d : D} {bs : Rho} (hb : BindT ns tgt d bs) : AssignsTo W n ns tgt d bs := fun A env ρ g s E v Q c r hQ => assignR hb c r hQ
theorem loopRule {M : Model} {A : Around} {s : Shared} {c : Code} {R : Result → Shared → Prop} (hq : c.quiet = true) (I : Nat → Shared → Prop)
    (turn : ∀ n s (Q : Fin → Shared → Prop) (E : Value → Shared → Prop), (∀ f s', R (.ok f) s' → Q (.done f) s') → (∀ m s', m < n → I m s' → Q (.again c) s') → (∀ e s', R (.error e) s' → E e s') → I n s → wpAny M (A.under c) (M.den c) Q E s)
    (n : Nat) (h : I n s) : codeAny M A c R s :=
  codeAny_loop hq I (fun n s h => turn n s _ _ (fun _ _ h => h) (fun m _ hm hi => ⟨rfl, m, hm, hi⟩) (fun _ _ h => h) h) n h
theorem mark_none (A : Around) : A.mark none = A := by cases A; rfl
theorem Cx.neAcc {A env g s L ds} (c : Cx W n A env ns ρ g s) (acc : AccAt g s L ds) : env.locals ≠ L ∧ ∀ x b, env.cells.lookup x = some b → b ≠ L :=
  ⟨fun e => let ⟨_, hm, _⟩ := c.en.loc; acc.neL hm e.symm, fun x b hx e => let ⟨_, hv⟩ := c.en.isC x b hx; acc.neC hv e.symm⟩
theorem pushAcc {A env g s L ds} {y : Value} {d : D} {Q : Value → Shared → Prop} {E : Value → Shared → Prop} (c : Cx W n A env ns ρ g s) (acc : AccAt g s L ds) (r : Rep g y d) (hz : ds.length ≤ sizeLine)
    (hQ : ∀ s', StepX (· = L) g s g s' → Cx W n A env ns ρ g s' → AccAt g s' L (ds ++ [d]) → Q .none s') : wpAny W.M A (PySem.call (.builtin "list.append") [.ref L, y]) Q E s := by
  obtain ⟨hl, hc⟩ := c.neAcc acc
  obtain ⟨ys, hpl, hr, hLn⟩ := acc
  refine wpAny_list_append_plain (hsz := by rw [← Array.length_toList, hr.length]; exact hz) hpl fun h' hl' hs' => ?_
  have st : StepX (· = L) g s g { s with heap := h', toks := s.toks } := .at1 c.good hLn (fun b o hb e => (hs'.2 b hb).trans e) (let ⟨_, e⟩ := hl'; ⟨_, e⟩)
  exact hQ _ st (c.stepX st hl hc) ⟨ys.push y, hl', by rw [Array.toList_push]; exact hr.append (RepL.cons r RepL.nil), hLn⟩
theorem turnRule {elt : Expr} {gens : List Comprehension} {target iter : Expr} {ifs : List Expr} {scope : Scope} {pos : Pos} {it acc : Value} {env : Env} {k : Nat} {A : Around} {s : Shared} {QQ : Fin → Shared → Prop} {EE : Value → Shared → Prop} (hk : gens[k]? = some ⟨target, iter, ifs, 0⟩)
    (h : ∀ (QN : Option Value → Shared → Prop) (QT : Bool → Shared → Prop) (EN : Value → Shared → Prop), (∀ s', QQ (.done .next) s' → QN none s') →
      (∀ v s', wpAny W.M A (letOwnedTupleGo target it v) (fun _ s₁ => wpAny W.M A (assign target env v) (fun _ s₂ => wpAny W.M A (forIn ifs true fun c r => if r = true then do let ok ← isTrue c env (eval c env); pure (ForInStep.yield ok) else pure (ForInStep.yield r)) QT EN s₂) EN s₁) EN s' → QN (some v) s') →
      (∀ s', QQ (.again (.compLoop (.ListComp elt gens scope pos) k it acc env)) s' → QT false s') →
      (∀ s', (match gens[k + 1]? with
        | none => wpAny W.M A (eval elt env) (fun x s₁ => wpAny W.M A (PySem.call (.builtin "list.append") [acc, x]) (fun _ s₂ => QQ (.again (.compLoop (.ListComp elt gens scope pos) k it acc env)) s₂) EN s₁) EN s'
        | some g' => g'.is_async = 0 ∧ wpAny W.M A (eval g'.iter env) (fun x s₁ => wpAny W.M A (foldedSetIterable g'.iter env x) (fun x s₂ => wpAny W.M A (pyIter x) (fun i s₃ => wpAny W.M A (runOwn (.compStart (.ListComp elt gens scope pos) (k + 1) i acc env) env) (fun _ s₄ => QQ (.again (.compLoop (.ListComp elt gens scope pos) k it acc env)) s₄) EN s₃) EN s₂) EN s₁) EN s') → QT true s') →
      wpAny W.M A (pyNext it) QN EN s) :
    wpAny W.M A ((compTurn (.ListComp elt gens scope pos) k it acc env).onRaise (fun x => do noteFrame x env; theTreesLotGoes x)) QQ EE s := by
  refine wpAny_noted ?_
  rw [compTurn_at _ _ _ _ _ _ _ _ _ _ _ hk]
  refine wpAny_bind (wpAny_standAt (wpAny_bind ?_))
  refine h _ _ _ (fun s' q => wpAny_pure q) (fun v s' q => wpAny_bind (wp_mono' q fun _ s₁ q => wpAny_bind (wp_mono' q fun _ s₂ q => wpAny_bind q))) (fun s' q => wpAny_pure q) fun s' q => ?_
  rw [if_pos rfl]
  cases hg : gens[k + 1]? with
  | none =>
    rw [hg] at q
    exact wpAny_bind (wpAny_bind (wp_mono' q fun x s₁ q => wpAny_bind (wp_mono' q fun _ s₂ q => wpAny_pure (wpAny_pure q))))
  | some g' =>
    rw [hg] at q
    obtain ⟨h0, q⟩ := q
    cases g' with
    | mk t' it' ifs' as' =>
      dsimp only at h0 q ⊢
      subst h0
      exact wpAny_bind (wp_mono' q fun x s₁ q => wpAny_bind (wpAny_standAt (wpAny_bind (wp_mono' q fun x s₂ q => wpAny_bind (wpAny_holding (wp_mono' q fun i s₃ q => wpAny_bind (wp_mono' q fun _ s₄ q => wpAny_pure q)))))))
theorem CompOk.mkA {α : Type} {T : List PySem.Str} {elt : Expr} {gens : List Comprehension} {tgt iter : Expr} {ifs : List Expr} {scope : Scope} {pos : Pos} {k : Nat} (l : List α) (inj : α → D) (p : α → Bool) (f : α → List D) (bs : α → Rho)
    (hk : gens[k]? = some ⟨tgt, iter, ifs, 0⟩) (hb : ∀ a ∈ l, AssignsTo W n ns tgt (inj a) (bs a)) (hT : ∀ a ∈ l, ∀ q ∈ bs a, q.1 ∈ T) (hfree : ∀ x ∈ T, ρ.lookup x = none ∨ ∀ a ∈ l, (bs a).lookup x = none)
    (ht : ∀ a ∈ l, Tests W n ns (bs a ++ ρ) ifs (p a)) (hbody : ∀ a ∈ l, p a = true → CompTail W n ns T (bs a ++ ρ) (.ListComp elt gens scope pos) elt gens (k + 1) (f a)) :
    CompOk W n ns T ρ tgt (.ListComp elt gens scope pos) k (l.map inj) ((l.filter p).flatMap f) := by
  intro A cenv g₀ s₀ g s L ds I fp wr St R c src acc hwr off st hz hR
  have big : ∀ a ∈ l, ∀ x d, ρ.lookup x = some d → (bs a ++ ρ).lookup x = some d := fun a ha x d hd => by
    have : (bs a).lookup x = none := by
      by_cases hx : x ∈ T
      · exact (hfree x hx).elim (fun h => by rw [h] at hd; cases hd) fun h => h a ha
      · exact lookup_none_of fun d hm => hx (hT a ha _ hm)
    rw [List.lookup_append, this]; exact hd
  refine loopRule rfl (fun m s' => ∃ i g', m = l.length + 1 - i ∧ i ≤ l.length ∧ StepX (CompX L cenv ns T) g₀ s₀ g' s' ∧ Cx W n A cenv ns ρ g' s' ∧ AccAt g' s' L (ds ++ ((l.take i).filter p).flatMap f) ∧ St i s'.heap ∧ g.le g' ∧ (∀ b ∈ wr, g' b = none) ∧ ∀ b ∈ fp, ∃ o, s'.heap.get? b = some o) ?_ (l.length + 1)
    ⟨0, g, rfl, Nat.zero_le _, st, c, by rw [List.take_zero]; show AccAt g s L (ds ++ []); rw [List.append_nil]; exact acc, src.st, fun _ _ e => e, src.hid, src.live⟩
  intro m s₁ QQ EE hD hA _ hI
  refine turnRule hk fun QN QT EN k0 k1 k2 k3 => ?_
  obtain ⟨i, g₁, hm, hi, st₁, c₁, acc₁, hst₁, hg₁, hh₁, hl₁⟩ := hI
  have hlw : cenv.locals ∉ wr := fun h => (off _ (src.src.sub _ h)).2.1 rfl
  have hcw : ∀ x a, cenv.cells.lookup x = some a → a ∉ wr := fun x a hx h => (off _ (src.src.sub _ h)).2.2 x a hx rfl
  have hLw : L ∉ wr := fun h => (off _ (src.src.sub _ h)).1 rfl
  have hfpO : ∀ b ∈ fp, ¬ CompX L cenv ns T b := fun b hb => off.own hb
  cases hget : l[i]? with
  | some a =>
    have hlt : i < l.length := (List.getElem?_eq_some_iff.mp hget).1
    have hal : a ∈ l := List.mem_of_getElem? hget
    refine src.src.next i (inj a) s₁ g₁ _ _ (by rw [List.getElem?_map, hget]; rfl) hst₁ c₁.good hg₁ hh₁ fun v g₂ s₂ r₂ st₂ hgo => k1 _ _ (hgo _ _ fun s₃ st₃ hst₃ => ?_)
    have wrx : ∀ b, b ∈ wr → CompX L cenv ns T b ∨ s₀.heap.get? b = none := fun b hb => .inr (hwr b hb)
    have c₃ := (c₁.stepX st₂ hlw hcw).stepX st₃ hlw hcw
    have acc₃ := (acc₁.stepX st₂ hLw).stepX st₃ hLw
    have hh₂ : ∀ b ∈ wr, g₂ b = none := fun b hb => let ⟨o, ho⟩ := hl₁ b (src.src.sub _ hb); st₂.hid (hh₁ b hb) ho
    refine hb a hal _ _ _ _ _ _ _ _ c₃ r₂ fun s₄ st₄ _ c₄ => ?_
    have ownX : ∀ b, Own cenv ns ((bs a).map (·.1)) b → CompX L cenv ns T b := fun b ⟨x, hx, hb⟩ => .inr ⟨x, let ⟨q, hq, e⟩ := List.mem_map.mp hx; e ▸ hT a hal q hq, hb⟩
    have hLO : ¬ Own cenv ns ((bs a).map (·.1)) L := fun ⟨x, _, h⟩ => h.elim (fun e => (c₃.neAcc acc₃).1 e.2.symm) fun e => (c₃.neAcc acc₃).2 x L e.2 rfl
    have acc₄ := acc₃.stepX st₄ hLO
    have hst₄ : St (i + 1) s₄.heap := src.src.frame _ _ _ hst₃ fun b hb o e => st₄.keep b o (fun h => hfpO b hb (ownX b h)) e
    have st04 := ((st₁.transX st₂ wrx).transX st₃ wrx).transX st₄ fun b h => .inl (ownX b h)
    have hl₄ : ∀ b ∈ fp, ∃ o, s₄.heap.get? b = some o := fun b hb => let ⟨_, ho⟩ := hl₁ b hb; let ⟨_, ho⟩ := st₂.live _ _ ho; let ⟨_, ho⟩ := st₃.live _ _ ho; st₄.live _ _ ho
    clear st₁ hst₃ c₃ acc₃ hLO ownX wrx hgo c₁ acc₁ hst₁ hh₁ hl₁ st₃ st₄ k0 k1 hD r₂
    refine wp_mono' (ht a hal A cenv g₂ s₄ _ c₄) fun ok s₅ ⟨hok, g₅, st₅⟩ => ?_
    have c₅ := c₄.step st₅
    have acc₅ := acc₄.stepX (st₅.toX (X := fun _ => False)) (fun h => h)
    have htake : ((l.take (i + 1)).filter p).flatMap f = ((l.take i).filter p).flatMap f ++ (if p a then f a else []) := by
      rw [take_succ_filter p l i a hget, List.flatMap_append]
      cases p a <;> simp
    have fin : ∀ g₆ s₆, StepX (CompX L cenv ns T) g₅ s₅ g₆ s₆ → Cx W n A cenv ns (bs a ++ ρ) g₆ s₆ → AccAt g₆ s₆ L ((ds ++ ((l.take i).filter p).flatMap f) ++ (if p a then f a else [])) →
        QQ (.again (.compLoop (.ListComp elt gens scope pos) k (.ref I) (.ref L) cenv)) s₆ := fun g₆ s₆ st₆ c₆ acc₆ =>
      hA (l.length + 1 - (i + 1)) _ (by rw [hm]; exact Nat.sub_lt_sub_left (Nat.lt_succ_of_lt hlt) (Nat.lt_succ_self i)) ⟨i + 1, g₆, rfl, hlt, (st04.step st₅).trans st₆, c₆.sub (big a hal), by rw [htake, ← List.append_assoc]; exact acc₆,
        src.src.frame _ _ _ hst₄ fun b hb o e => st₆.keep b o (hfpO b hb) (st₅.keep b o e), fun b o e => st₆.view _ _ (st₅.view _ _ (st₂.view _ _ (hg₁ _ _ e))),
        fun b hb => let ⟨_, ho⟩ := hl₄ b (src.src.sub _ hb); st₆.hid (st₅.hid (hh₂ b hb) ho) (st₅.keep _ _ ho), fun b hb => let ⟨_, ho⟩ := hl₄ b hb; st₆.live _ _ (st₅.keep _ _ ho)⟩
    by_cases hp : p a = true
    · rw [if_pos hp] at fin htake
      rw [hok, hp]
      have hsz : (ds ++ ((l.take i).filter p).flatMap f).length + (f a).length ≤ sizeLine := by
        have h1 : ((l.take (i + 1)).filter p).flatMap f <+: (l.filter p).flatMap f := by
          conv => rhs; rw [← List.take_append_drop (i + 1) l, List.filter_append, List.flatMap_append]
          exact List.prefix_append ..
        have h2 := h1.length_le
        rw [htake, List.length_append] at h2
        rw [List.length_append, Nat.add_assoc]
        exact Nat.le_trans (Nat.add_le_add_left h2 _) hz
      have tail := hbody a hal hp
      clear hbody hb hT hfree ht big hA htake hz hok k2 st04 hst₄ hl₄ hh₂ hg₁ src acc₄ c₄
      refine k3 _ ?_
      unfold CompTail at tail
      cases hg : gens[k + 1]? with
      | none =>
        rw [hg] at tail
        obtain ⟨d, hd, hf⟩ := tail
        refine wp_mono' (hd A cenv g₅ s₅ _ c₅) fun y s₆ ⟨g₆, st₆, r₆⟩ => ?_
        refine pushAcc (c₅.step st₆) (acc₅.stepX (st₆.toX (X := fun _ => False)) (fun h => h)) r₆ (Nat.le_trans (Nat.le_add_right _ _) hsz) fun s₇ st₇ c₇ acc₇ => ?_
        exact fin g₆ s₇ (st₆.toX.transX st₇ fun b hb => .inl (.inl hb)) c₇ (by rw [hf]; exact acc₇)
      | some gg =>
        rw [hg] at tail
        obtain ⟨xs, ha0, hfs, hI, hC⟩ := tail
        refine ⟨ha0, wp_mono' (hI A cenv g₅ s₅ (fun it s' => ∀ E', wpAny W.M A (runOwn (.compStart (.ListComp elt gens scope pos) (k + 1) it (.ref L) cenv) cenv) (fun _ s₆ => QQ (.again (.compLoop (.ListComp elt gens scope pos) k (.ref I) (.ref L) cenv)) s₆) E' s') _ c₅ ?_) fun xv s₆ h₆ => wpAny_of_eq (hfs cenv xv) (wp_mono' h₆ fun it s₇ h₇ => h₇ _)⟩
        intro I' fp' wr' St' g₆ s₆ st₆ src' hfr E'
        have off' : Off cenv L fp' := Off.of c₅ acc₅ st₆ hfr
        have loop : ∀ R' : Result → Shared → Prop, (∀ s₇, QQ (.again (.compLoop (.ListComp elt gens scope pos) k (.ref I) (.ref L) cenv)) s₇ → R' (.ok .next) s₇) →
            codeAny W.M A (.compLoop (.ListComp elt gens scope pos) (k + 1) (.ref I') (.ref L) cenv) R' s₆ := fun R' hR' =>
          hC A cenv g₅ s₅ g₆ s₆ L _ I' fp' wr' St' R' (c₅.step st₆) src' (acc₅.stepX (st₆.toX (X := fun _ => False)) (fun h => h)) hfr.2 off' st₆.toX hsz fun g₇ s₇ st₇ c₇ acc₇ => hR' s₇ (fin g₇ s₇ st₇ c₇ acc₇)
        obtain ⟨t', it', ifs', as'⟩ := gg
        have ha0 : as' = 0 := ha0
        subst ha0
        refine wpAny_runOwn ?_
        rw [mark_none]
        exact codeAny_compStart_at rfl hg (loop _ fun s₇ q => q) fun E'' => src'.src.self 0 _ _ _ src'.st (loop _ fun s₇ q => q)
    · have hp : p a = false := eq_false_of_ne_true hp
      rw [hok, hp]
      rw [hp] at fin
      exact k2 _ (fin g₅ s₅ (Step.refl c₅.good).toX c₅ (by show AccAt g₅ s₅ L (_ ++ []); rw [List.append_nil]; exact acc₅))
  | none =>
    have hie : l.length = i := Nat.le_antisymm (List.getElem?_eq_none_iff.mp hget) hi
    rw [← hie] at hst₁ acc₁
    refine src.src.done s₁ _ _ (by rw [List.length_map]; exact hst₁) fun h' tk kk => k0 _ (hD _ _ (hR g₁ _ (st₁.drop c₁.good hwr hh₁ kk) (c₁.but hlw hcw hh₁ kk) ?_))
    obtain ⟨ys, ⟨q, hq⟩, hr, hn⟩ := acc₁
    rw [List.take_length] at hr
    exact ⟨ys, ⟨q, kk _ _ hLw hq⟩, hr, hn⟩
theorem str_mem {x : PySem.Str} {l : List PySem.Str} (h : l.contains x = true) : x ∈ l := by simpa using h
theorem CompOk.mkB {α : Type} {T : List PySem.Str} {elt : Expr} {gens : List Comprehension} {tgt iter : Expr} {ifs : List Expr} {scope : Scope} {pos : Pos} {k : Nat} (N : List PySem.Str) (l : List α) (inj : α → D) (p : α → Bool) (f : α → List D) (bs : α → Rho)
    (hk : gens[k]? = some ⟨tgt, iter, ifs, 0⟩) (hb : ∀ a ∈ l, AssignsTo W n ns tgt (inj a) (bs a)) (hN : ∀ a, (bs a).map (·.1) = N) (hc : (N.all T.contains && T.all fun x => !(N.contains x) || (ρ.lookup x).isNone) = true)
    (ht : ∀ a ∈ l, Tests W n ns (bs a ++ ρ) ifs (p a)) (hbody : ∀ a ∈ l, p a = true → CompTail W n ns T (bs a ++ ρ) (.ListComp elt gens scope pos) elt gens (k + 1) (f a)) :
    CompOk W n ns T ρ tgt (.ListComp elt gens scope pos) k (l.map inj) ((l.filter p).flatMap f) := by
  rw [Bool.and_eq_true] at hc
  refine CompOk.mkA l inj p f bs hk hb (fun a _ q hq => str_mem (List.all_eq_true.mp hc.1 _ (hN a ▸ List.mem_map_of_mem hq))) (fun x hx => ?_) ht hbody
  cases q : ρ.lookup x with
  | none => exact .inl rfl
  | some d =>
    have h := List.all_eq_true.mp hc.2 x hx
    rw [q] at h
    refine .inr fun a _ => lookup_none_of fun c hm => ?_
    have hxN : x ∈ N := hN a ▸ List.mem_map_of_mem (f := Prod.fst) hm
    rw [show N.contains x = true by simpa using hxN] at h
    cases h
theorem CompOk.mk {α : Type} {T : List PySem.Str} {elt : Expr} {gens : List Comprehension} {tgt iter : Expr} {ifs : List Expr} {scope : Scope} {pos : Pos} {k : Nat} (l : List α) (inj : α → D) (p : α → Bool) (f : α → List D) (bs : α → Rho)
    (hk : gens[k]? = some ⟨tgt, iter, ifs, 0⟩) (hb : ∀ a ∈ l, BindT ns tgt (inj a) (bs a)) (hT : ∀ a ∈ l, ∀ q ∈ bs a, q.1 ∈ T) (hfree : ∀ x ∈ T, ρ.lookup x = none ∨ ∀ a ∈ l, (bs a).lookup x = none)
    (ht : ∀ a ∈ l, Tests W n ns (bs a ++ ρ) ifs (p a)) (hbody : ∀ a ∈ l, p a = true → CompTail W n ns T (bs a ++ ρ) (.ListComp elt gens scope pos) elt gens (k + 1) (f a)) :
    CompOk W n ns T ρ tgt (.ListComp elt gens scope pos) k (l.map inj) ((l.filter p).flatMap f) :=
  CompOk.mkA l inj p f bs hk (fun a ha => (hb a ha).assigns) hT hfree ht hbody
end
end Mine
end
section
namespace Mine
theorem Step.drop {hs : Heap} {g g₀ : View} {s s₀ : Shared} {wr : List Addr} (G : Good hs g s) (a : Step g₀ s₀ g s) (hw : ∀ b ∈ wr, s₀.heap.get? b = none) (hh : ∀ b ∈ wr, g b = none) {h' : Heap} {tk : Nat} (k : ∀ b o, b ∉ wr → s.heap.get? b = some o → h'.get? b = some o) :
    Step g₀ s₀ g { s with heap := h', toks := tk } where
  view := a.view
  fresh := a.fresh
  sub := fun b o e => k b o (fun m => by rw [hh b m] at e; cases e) (G.sub _ _ e)
  keep := fun b o e => k b o (fun m => by rw [hw b m] at e; cases e) (a.keep _ _ e)
  rest := a.rest
noncomputable def NewL (g : View) (s : Shared) (xs : List D) (v : Value) (s' : Shared) : Prop := ∃ L g', v = .ref L ∧ s.heap.get? L = none ∧ Step g s g' s' ∧ AccAt g' s' L xs
theorem NewL.res {hs : Heap} {g s xs v s'} (G : Good hs g s) (h : NewL g s xs v s') : Res g s (.list xs) v s' := by
  obtain ⟨L, g', rfl, hf, st, ys, ⟨k, hp⟩, hr, hn⟩ := h
  refine ⟨g'.put L _, ⟨fun b o e => View.le_put hn _ _ (st.view _ _ e), fun b o e => ?_, fun b o e => ?_, st.keep, st.rest⟩, rep_list.mpr ⟨L, ys, k, rfl, View.put_self, hr.mono (View.le_put hn)⟩⟩
  · by_cases hb : b = L
    · subst hb; exact .inr hf
    · rw [View.put_ne hb] at e; exact st.fresh _ _ e
  · by_cases hb : b = L
    · subst hb; rw [View.put_self] at e; cases e; exact hp
    · rw [View.put_ne hb] at e; exact st.sub _ _ e
section
variable {W : Wo} {n : Nat} {ns : Names} {ρ : Rho}
noncomputable def TriN (W : Wo) (n : Nat) (ns : Names) (ρ : Rho) (e : Expr) (xs : List D) : Prop :=
  ∀ A env g s (E : Value → Shared → Prop), Cx W n A env ns ρ g s → wpAny W.M A (eval e env) (NewL g s xs) E s
theorem TriN.toE {e : Expr} {xs : List D} (h : TriN W n ns ρ e xs) : TriE W n ns ρ e (.list xs) := fun A env g s E c => wp_mono' (h A env g s E c) fun _ _ r => r.res c.good
theorem TriN.list {es : List Expr} {ds : List D} {pos : Pos} (h : TriL W n ns ρ es ds) (hz : ds.length ≤ sizeLine) : TriN W n ns ρ (.List es pos) ds :=
  fun A env g s E c => List_ (wp_mono' (h A env g s E pos c) fun vs s₁ ⟨g₁, st₁, r₁⟩ => by
    refine wpAny_newObj_type ?_ (by show vs.toArray.size ≤ sizeLine; rw [List.size_toArray, r₁.length]; exact hz)
    have G₁ := (c.step st₁).good
    refine ⟨s₁.heap.objs.size, g₁, rfl, ?_, st₁.trans (Step.keeps G₁ fun b o e => Heap.get?_push_of_some _ e), vs.toArray, ⟨0, Heap.get?_push_size _ rfl⟩, by simpa using r₁, G₁.fresh (size_free _)⟩
    cases q : s.heap.get? s₁.heap.objs.size with
    | none => rfl
    | some o => have := st₁.keep _ _ q; rw [size_free] at this; cases this)
structure CompScope (ns : Names) (scope : Scope) (T : List PySem.Str) : Prop where
  kind : scope.kind = .function
  uniq : ∀ p ∈ scope.names, scope.names.lookup p.1 = some p.2
  cap : ∀ p ∈ scope.names, p.2 = NameKind.free → ns.lookup p.1 = some .cell ∨ ns.lookup p.1 = some .free
  own : ∀ x ∈ T, (x, NameKind.local) ∈ scope.names ∨ (x, NameKind.cell) ∈ scope.names
theorem compBlock {A env g s} {E : Value → Shared → Prop} {elt tgt iter : Expr} {ifs : List Expr} {rest : List Comprehension} {scope : Scope} {pos : Pos} {T : List PySem.Str} {xs outs : List D} {RR : Value → Addr → Result → Shared → Prop}
    (c : Cx W n A env ns ρ g s) (hsc : CompScope ns scope T) (hI : TriI W n ns ρ tgt iter xs)
    (hC : CompOk W n (relN ns scope.names) T (capt scope.names ρ) tgt (.ListComp elt (⟨tgt, iter, ifs, 0⟩ :: rest) scope pos) 0 xs outs) (hz : outs.length ≤ sizeLine)
    (hRR : ∀ L C g' s', s.heap.get? L = none → s.heap.get? C = none → g' C = none → L ≠ C → Step g s g' s' → AccAt g' s' L outs → (∃ m, s'.heap.Ns C m) → RR (.ref L) C (.ok .next) s') :
    wpAny W.M A (eval iter env) (fun x s₁ => wpAny W.M A (pyIter x) (fun it s₂ => wpAny W.M A (newList []) (fun acc s₃ =>
      wpAny W.M A (newFunctionEnv scope env.globals (closGo env scope.names []) [] env.qual none .none (some env)) (fun cenv s₄ =>
        codeAny W.M A (.compStart (.ListComp elt (⟨tgt, iter, ifs, 0⟩ :: rest) scope pos) 0 it acc { cenv with scope := relabel scope env }) (RR acc cenv.locals) s₄) E s₃) E s₂) E s₁) E s := by
  refine hI A env g s _ E c fun I fp wr St g₂ s₂ st₂ src hfr => ?_
  have c₂ := c.step st₂
  refine wpAny_newObj_type ?_
  have hLn : g₂ s₂.heap.objs.size = none := c₂.good.fresh (size_free _)
  have st₃ : Step g₂ s₂ g₂ { s₂ with heap := s₂.heap.push { cls := .type "list", dict := none, data := .seq ([] : List Value).toArray } } := Step.keeps c₂.good fun b o e => Heap.get?_push_of_some _ e
  have c₃ := c₂.step st₃
  refine newCompEnvR c₃ hsc.kind hsc.uniq (fun x hx => hsc.cap _ hx rfl) fun cenv s₄ st₄ c₄ hCf hcell => ?_
  have hLs : s.heap.get? s₂.heap.objs.size = none := by
    cases q : s.heap.get? s₂.heap.objs.size with
    | none => rfl
    | some o => have := st₂.keep _ _ q; rw [size_free] at this; cases this
  have back : ∀ b, ({ s₂ with heap := s₂.heap.push { cls := .type "list", dict := none, data := .seq ([] : List Value).toArray } } : Shared).heap.get? b = none → s₂.heap.get? b = none ∧ s.heap.get? b = none := fun b hb => by
    have h1 : s₂.heap.get? b = none := by
      cases q : s₂.heap.get? b with
      | none => rfl
      | some o => have := st₃.keep _ _ q; rw [hb] at this; cases this
    refine ⟨h1, ?_⟩
    cases q : s.heap.get? b with
    | none => rfl
    | some o => have := st₂.keep _ _ q; rw [h1] at this; cases this
  have acc₄ : AccAt g₂ s₄ s₂.heap.objs.size [] := ⟨#[], ⟨0, st₄.keep _ _ (Heap.get?_push_size _ rfl)⟩, RepL.nil, hLn⟩
  have src₄ : SrcAt W A tgt I fp wr xs St g₂ s₄ := ⟨src.src, src.src.frame _ _ _ src.st fun b _ o e => st₄.keep _ _ (st₃.keep _ _ e), fun b hb => let ⟨o, ho⟩ := src.live b hb; ⟨o, st₄.keep _ _ (st₃.keep _ _ ho)⟩, src.hid⟩
  have off : Off { cenv with scope := relabel scope env } s₂.heap.objs.size fp := fun b hb => by
    obtain ⟨o, ho⟩ := src.live b hb
    refine ⟨fun e => ?_, fun e => ?_, fun x a hx e => ?_⟩
    · rw [e, size_free] at ho; cases ho
    · have := (back _ hCf).1
      rw [e] at ho
      have ho' : s₂.heap.get? cenv.locals = some o := ho
      rw [this] at ho'; cases ho'
    · subst e
      rcases hcell x b hx with ⟨_, h⟩ | ⟨_, h⟩
      · rw [(back _ h).1] at ho; cases ho
      · obtain ⟨v, o', ho', _⟩ := c.en.isC x b h
        rcases hfr.1 b hb with q | ⟨q, hq⟩
        · rw [ho'] at q; cases q
        · rw [c₂.en.hidC x b h] at hq; cases hq
  have st24 : Step g s g₂ s₄ := (st₂.trans st₃).trans st₄
  have hX : ∀ b, CompX s₂.heap.objs.size { cenv with scope := relabel scope env } (relN ns scope.names) T b → s.heap.get? b = none := by
    rintro b (rfl | ⟨x, hxT, ⟨_, e⟩ | ⟨_, e⟩⟩)
    · exact hLs
    · rw [e]; exact (back _ hCf).2
    · rcases hcell x b e with ⟨_, h⟩ | ⟨h, _⟩
      · exact (back _ h).2
      · have e1 := hsc.uniq _ h
        rcases hsc.own x hxT with h' | h' <;> (have e2 := hsc.uniq _ h'; rw [e1] at e2; cases e2)
  have loop : codeAny W.M A (.compLoop (.ListComp elt (⟨tgt, iter, ifs, 0⟩ :: rest) scope pos) 0 (.ref I) (.ref s₂.heap.objs.size) { cenv with scope := relabel scope env }) (RR (.ref s₂.heap.objs.size) cenv.locals) s₄ := by
    refine hC A _ g s g₂ s₄ _ [] I fp wr St _ c₄ src₄ acc₄ hfr.2 off st24.toX (by simpa using hz) fun g₅ s₅ st₅ c₅ acc₅ => ?_
    have st05 : Step g s g₅ s₅ := StepX.strict (Step.refl c.good) st₅ hX
    obtain ⟨m, hm, _⟩ := c₅.en.loc
    exact hRR _ _ g₅ s₅ hLs (back _ hCf).2 c₅.en.hidL (AccAt.neL acc₅ hm) st05 (by simpa using acc₅) ⟨m, hm⟩
  exact codeAny_compStart_at rfl rfl loop fun E' => src₄.src.self 0 _ _ _ src₄.st loop
theorem CompScope.closure {scope : Scope} {T A env g s} (hsc : CompScope ns scope T) (c : Cx W n A env ns ρ g s) : closureFor scope env = pure (closGo env scope.names []) :=
  closureFor_eq fun x hx => let ⟨a, v, h, _⟩ := c.en.cells x (hsc.cap _ hx rfl); ⟨a, h⟩
theorem TriN.comp {elt tgt iter : Expr} {ifs : List Expr} {rest : List Comprehension} {scope : Scope} {pos : Pos} {T : List PySem.Str} {xs outs : List D}
    (hsc : CompScope ns scope T) (hI : TriI W n ns ρ tgt iter xs)
    (hC : CompOk W n (relN ns scope.names) T (capt scope.names ρ) tgt (.ListComp elt (⟨tgt, iter, ifs, 0⟩ :: rest) scope pos) 0 xs outs) (hz : outs.length ≤ sizeLine)
    (hs : ∀ env x, foldedSetIterable iter env x = pure x := by intro _ _; rfl) : TriN W n ns ρ (.ListComp elt (⟨tgt, iter, ifs, 0⟩ :: rest) scope pos) outs := fun A env g s E c => by
  rw [eval_ListComp]
  refine wpAny_comprehension_free (use := none) rfl (hs env) (hsc.closure c) hsc.kind (fun x hx hl => by rw [hsc.uniq x hx, hl]) (compBlock (RR := fun acc C => compPost W.M A E none (NewL g s outs) acc C) c hsc hI hC hz ?_)
  intro L C g' s' hL hCf hCn hne st acc ⟨m, hm⟩
  refine ⟨m, hm, fun h' hs' => ?_⟩
  have kk : ∀ b o, b ∉ [C] → s'.heap.get? b = some o → h'.get? b = some o := fun b o hb e => (hs'.2 b fun e' => hb (by simp [e'])).trans e
  have G' := st.good c.good
  obtain ⟨ys, ⟨k, hp⟩, hr, hn⟩ := acc
  exact ⟨L, g', rfl, hL, Step.drop (tk := s'.toks) G' st (fun b hb => List.mem_singleton.mp hb ▸ hCf) (fun b hb => List.mem_singleton.mp hb ▸ hCn) kk, ys, ⟨k, kk _ _ (by simpa using hne) hp⟩, hr, hn⟩
theorem TriN.comp1 {α : Type} {elt tgt iter : Expr} {ifs : List Expr} {scope : Scope} {pos : Pos} (T : List PySem.Str) (l : List α) (inj : α → D) (p : α → Bool) (f : α → D) (bs : α → Rho) {xs : List D}
    (hsc : CompScope ns scope T) (hI : TriI W n ns ρ tgt iter xs) (hx : xs = l.map inj) (hb : ∀ a ∈ l, BindT (relN ns scope.names) tgt (inj a) (bs a)) (hT : ∀ a ∈ l, ∀ q ∈ bs a, q.1 ∈ T) (hfree : ∀ x ∈ T, (capt scope.names ρ).lookup x = none)
    (ht : ∀ a ∈ l, Tests W n (relN ns scope.names) (bs a ++ capt scope.names ρ) ifs (p a)) (he : ∀ a ∈ l, p a = true → TriE W n (relN ns scope.names) (bs a ++ capt scope.names ρ) elt (f a)) (hz : l.length ≤ sizeLine)
    (hs : ∀ env x, foldedSetIterable iter env x = pure x := by intro _ _; rfl) :
    TriN W n ns ρ (.ListComp elt [⟨tgt, iter, ifs, 0⟩] scope pos) ((l.filter p).map f) := by
  subst hx
  have h := CompOk.mk (W := W) (n := n) (ns := relN ns scope.names) (ρ := capt scope.names ρ) (elt := elt) (gens := [⟨tgt, iter, ifs, 0⟩]) (scope := scope) (pos := pos) (k := 0) l inj p (fun a => [f a]) bs rfl hb hT (fun x hx => .inl (hfree x hx)) ht (fun a ha hp => ⟨_, he a ha hp, rfl⟩)
  have e : (l.filter p).flatMap (fun a => [f a]) = (l.filter p).map f := by rw [← List.map_eq_flatMap]
  rw [e] at h
  exact TriN.comp hsc hI h (by rw [List.length_map]; exact Nat.le_trans (List.length_filter_le ..) hz) hs
theorem TriN.comp1B {α : Type} {elt tgt iter : Expr} {ifs : List Expr} {scope : Scope} {pos : Pos} (T : List PySem.Str) (l : List α) (inj : α → D) (p : α → Bool) (f : α → D) (bs : α → Rho) {xs : List D}
    (hsc : CompScope ns scope T) (hI : TriI W n ns ρ tgt iter xs) (hx : xs = l.map inj) (hb : ∀ a ∈ l, BindT (relN ns scope.names) tgt (inj a) (bs a)) (hN : ∀ a, (bs a).map (·.1) = T) (hc : (T.all fun x => ((capt scope.names ρ).lookup x).isNone) = true)
    (ht : ∀ a ∈ l, Tests W n (relN ns scope.names) (bs a ++ capt scope.names ρ) ifs (p a)) (he : ∀ a ∈ l, p a = true → TriE W n (relN ns scope.names) (bs a ++ capt scope.names ρ) elt (f a)) (hz : l.length ≤ sizeLine)
    (hs : ∀ env x, foldedSetIterable iter env x = pure x := by intro _ _; rfl) :
    TriN W n ns ρ (.ListComp elt [⟨tgt, iter, ifs, 0⟩] scope pos) ((l.filter p).map f) :=
  TriN.comp1 T l inj p f bs hsc hI hx hb (fun a _ q hq => hN a ▸ List.mem_map_of_mem hq) (fun x hx => by simpa using List.all_eq_true.mp hc x hx) ht he hz hs
end
end Mine
end
section
namespace Mine
noncomputable abbrev Mu := Option (PySem.Str × List D)
structure Fra (W : Wo) (n : Nat) (A : Around) (env : Env) (ns : Names) (ρ : Rho) (μ : Mu) (g₀ : View) (s₀ : Shared) (F : List Addr) (g : View) (s : Shared) : Prop where
  cx : Cx W n A env ns ρ g s
  st : Step g₀ s₀ g s
  loc : s₀.heap.get? env.locals = none
  cel : ∀ x a, env.cells.lookup x = some a → s₀.heap.get? a = none
  own : ∀ y xs, μ = some (y, xs) → ns.lookup y = some .local ∧ ρ.lookup y = none ∧ ∃ L m, s.heap.Ns env.locals m ∧ m y = some (.ref L) ∧ AccAt g s L xs ∧ s₀.heap.get? L = none ∧ L ∉ F
  offL : env.locals ∉ F
  offC : ∀ x a, env.cells.lookup x = some a → a ∉ F
  live : ∀ b ∈ F, ∃ o, s.heap.get? b = some o
structure SafeF (F : List Addr) (g : View) (s : Shared) (g' : View) (s' : Shared) : Prop where
  view : g.le g'
  keep : ∀ b ∈ F, ∀ o, s.heap.get? b = some o → s'.heap.get? b = some o
  hid : ∀ b ∈ F, g b = none → g' b = none
theorem SafeF.trans {F g s g' s' g'' s''} (a : SafeF F g s g' s') (b : SafeF F g' s' g'' s'') : SafeF F g s g'' s'' :=
  ⟨fun x o e => b.view _ _ (a.view _ _ e), fun x hx o e => b.keep x hx o (a.keep x hx o e), fun x hx e => b.hid x hx (a.hid x hx e)⟩
theorem SafeF.refl {F g s} : SafeF F g s g s := ⟨fun _ _ e => e, fun _ _ _ e => e, fun _ _ e => e⟩
theorem SafeF.of_stepX {X : Addr → Prop} {F g s g' s'} (a : StepX X g s g' s') (hl : ∀ b ∈ F, ∃ o, s.heap.get? b = some o) (hx : ∀ b ∈ F, ¬ X b) : SafeF F g s g' s' :=
  ⟨a.view, fun b hb o e => a.keep b o (hx b hb) e, fun b hb e => let ⟨o, ho⟩ := hl b hb; a.hid e ho⟩
theorem SafeF.sub {F F' g s g' s'} (a : SafeF F g s g' s') (h : ∀ b ∈ F', b ∈ F) : SafeF F' g s g' s' := ⟨a.view, fun b hb => a.keep b (h b hb), fun b hb => a.hid b (h b hb)⟩
inductive Out where
  | next (ρ : Rho) (μ : Mu)
  | brk (ρ : Rho) (μ : Mu)
  | cont (ρ : Rho) (μ : Mu)
  | ret (d : D)
noncomputable def OutOk (W : Wo) (n : Nat) (A : Around) (env : Env) (ns : Names) (g₀ : View) (s₀ : Shared) (F : List Addr) (g : View) (s : Shared) (fl : Flow) : Out → Prop
  | .next ρ μ => fl = .next ∧ Fra W n A env ns ρ μ g₀ s₀ F g s
  | .brk ρ μ => fl = .brk ∧ Fra W n A env ns ρ μ g₀ s₀ F g s
  | .cont ρ μ => fl = .cont ∧ Fra W n A env ns ρ μ g₀ s₀ F g s
  | .ret d => ∃ v, fl = .ret v ∧ Rep g v d ∧ Fra W n A env ns [] none g₀ s₀ F g s
noncomputable def TriS (W : Wo) (n : Nat) (ns : Names) (ρ : Rho) (μ : Mu) (st : Stmt) (o : Out) : Prop :=
  ∀ A env g₀ s₀ F g s (Q : Flow → Shared → Prop) (E : Value → Shared → Prop), Fra W n A env ns ρ μ g₀ s₀ F g s →
    (∀ fl g' s', SafeF F g s g' s' → OutOk W n A env ns g₀ s₀ F g' s' fl o → Q fl s') → wpAny W.M A (exec st env) Q E s
noncomputable def TriSS (W : Wo) (n : Nat) (ns : Names) (ρ : Rho) (μ : Mu) (sts : List Stmt) (o : Out) : Prop :=
  ∀ A env g₀ s₀ F g s (Q : Flow → Shared → Prop) (E : Value → Shared → Prop), Fra W n A env ns ρ μ g₀ s₀ F g s →
    (∀ fl g' s', SafeF F g s g' s' → OutOk W n A env ns g₀ s₀ F g' s' fl o → Q fl s') → wpAny W.M A (execs sts env) Q E s
noncomputable def SubR (ρ' ρ : Rho) : Prop := ∀ x d, ρ'.lookup x = some d → ρ.lookup x = some d
noncomputable def dropN (y : PySem.Str) (ρ : Rho) : Rho := ρ.filter fun p => p.1 != y
theorem dropN_none {y : PySem.Str} {ρ : Rho} : (dropN y ρ).lookup y = none := lookup_none_of fun c h => by
  have := (List.mem_filter.mp h).2
  simp at this
theorem dropN_sub {y : PySem.Str} : ∀ {ρ : Rho}, SubR (dropN y ρ) ρ
  | [], x, d, h => h
  | (z, e) :: r, x, d, h => by
    unfold dropN at h
    rw [List.filter_cons] at h
    rw [List.lookup_cons]
    split at h
    · rw [List.lookup_cons] at h
      cases hb : x == z with
      | true => rw [hb] at h; exact h
      | false => rw [hb] at h; exact dropN_sub x d h
    · rename_i hc
      have hzy : z = y := by simpa using hc
      subst hzy
      have hxz : x ≠ z := by
        rintro rfl
        have := @dropN_none x r
        rw [show List.lookup x (r.filter fun p => p.1 != x) = none from this] at h
        cases h
      have : (x == z) = false := by simpa using hxz
      rw [this]
      exact dropN_sub x d h
section
variable {W : Wo} {n : Nat} {ns : Names} {ρ : Rho} {μ : Mu}
theorem Fra.sub {A env g₀ s₀ F g s} {ρ' : Rho} (f : Fra W n A env ns ρ μ g₀ s₀ F g s) (h : SubR ρ' ρ) : Fra W n A env ns ρ' μ g₀ s₀ F g s :=
  { f with cx := f.cx.sub h, own := fun y xs e => let ⟨h1, h2, h3⟩ := f.own y xs e; ⟨h1, (by
      cases q : ρ'.lookup y with
      | none => rfl
      | some d => (rw [h y d q] at h2; cases h2)), h3⟩ }
theorem Fra.safe {A env g₀ s₀ F g s g' s'} (f : Fra W n A env ns ρ μ g₀ s₀ F g s) (a : Step g s g' s') : SafeF F g s g' s' := SafeF.of_stepX (a.toX (X := fun _ => False)) f.live fun _ _ h => h
theorem Fra.step {A env g₀ s₀ F g s g' s'} (f : Fra W n A env ns ρ μ g₀ s₀ F g s) (a : Step g s g' s') : Fra W n A env ns ρ μ g₀ s₀ F g' s' :=
  { f with cx := f.cx.step a, st := f.st.trans a, live := fun b hb => let ⟨o, ho⟩ := f.live b hb; ⟨o, a.keep _ _ ho⟩, own := fun y xs e => let ⟨h1, h2, L, m, h3, h4, h5, h6, h7⟩ := f.own y xs e; ⟨h1, h2, L, m, h3.keeps a.keep, h4, h5.stepX (a.toX (X := fun _ => False)) fun h => h, h6, h7⟩ }
theorem Fra.ownX {A env g₀ s₀ F g s} (f : Fra W n A env ns ρ μ g₀ s₀ F g s) {T} : (∀ b, Own env ns T b → s₀.heap.get? b = none) ∧ ∀ b ∈ F, ¬ Own env ns T b := by
  refine ⟨?_, ?_⟩
  · rintro b ⟨x, _, ⟨_, rfl⟩ | ⟨_, e⟩⟩
    · exact f.loc
    · exact f.cel x b e
  · rintro b hb ⟨x, _, ⟨_, rfl⟩ | ⟨_, e⟩⟩
    · exact f.offL hb
    · exact f.offC x b e hb
theorem Fra.bound {A env g₀ s₀ F g s s'} {bs : Rho} {μ' : Mu} (f : Fra W n A env ns ρ μ g₀ s₀ F g s) (st : StepX (Own env ns (bs.map (·.1))) g s g s') (k : KeepN env (bs.map (·.1)) s s') (c : Cx W n A env ns (bs ++ ρ) g s')
    (hμ : ∀ y xs, μ' = some (y, xs) → μ = some (y, xs) ∧ y ∉ bs.map (·.1)) : Fra W n A env ns (bs ++ ρ) μ' g₀ s₀ F g s' ∧ SafeF F g s g s' := by
  refine ⟨⟨c, StepX.strict f.st st (f.ownX).1, f.loc, f.cel, fun y xs e => ?_, f.offL, f.offC, fun b hb => let ⟨o, ho⟩ := f.live b hb; st.live _ _ ho⟩, SafeF.of_stepX st f.live (f.ownX).2⟩
  obtain ⟨e', hy⟩ := hμ y xs e
  obtain ⟨h1, h2, L, m, h3, h4, h5, h6, h7⟩ := f.own y xs e'
  obtain ⟨m', h8, h9⟩ := k m h3
  refine ⟨h1, ?_, L, m', h8, (h9 y hy).trans h4, h5.stepX st ?_, h6, h7⟩
  · rw [List.lookup_append, lookup_none_of (fun d hm => hy (List.mem_map.mpr ⟨_, hm, rfl⟩))]; exact h2
  · rintro ⟨x, _, ⟨_, q⟩ | ⟨_, q⟩⟩
    · exact h5.neL h3 q
    · obtain ⟨v, hv⟩ := f.cx.en.isC x _ q
      exact h5.neC hv rfl
theorem TriSS.nil : TriSS W n ns ρ μ [] (.next ρ μ) := fun A env g₀ s₀ F g s Q E f h => wpAny_execs_nil (h .next g s SafeF.refl ⟨rfl, f⟩)
theorem TriSS.cons {st : Stmt} {sts : List Stmt} {ρ' : Rho} {μ' : Mu} {o : Out} (h₁ : TriS W n ns ρ μ st (.next ρ' μ')) (h₂ : TriSS W n ns ρ' μ' sts o) : TriSS W n ns ρ μ (st :: sts) o := fun A env g₀ s₀ F g s Q E f h =>
  wpAny_execs_cons (h₁ A env g₀ s₀ F g s _ E f fun fl g' s' sf ⟨e, f'⟩ => by
    subst e
    exact h₂ A env g₀ s₀ F g' s' Q E f' fun fl g'' s'' sf' ok => h fl g'' s'' (sf.trans sf') ok)
noncomputable def Out.stops : Out → Bool
  | .next .. => false
  | _ => true
theorem TriSS.stop {st : Stmt} {sts : List Stmt} {o : Out} (h₁ : TriS W n ns ρ μ st o) (hs : o.stops = true := by rfl) : TriSS W n ns ρ μ (st :: sts) o := fun A env g₀ s₀ F g s Q E f h =>
  wpAny_execs_cons (h₁ A env g₀ s₀ F g s _ E f fun fl g' s' sf ok => by
    cases o with
    | next => cases hs
    | brk => obtain ⟨e, f'⟩ := ok; subst e; exact h _ g' s' sf ⟨rfl, f'⟩
    | cont => obtain ⟨e, f'⟩ := ok; subst e; exact h _ g' s' sf ⟨rfl, f'⟩
    | ret => obtain ⟨v, e, r⟩ := ok; subst e; exact h _ g' s' sf ⟨v, rfl, r⟩)
theorem TriSS.sub {sts : List Stmt} {ρ' : Rho} {o : Out} (hs : SubR ρ' ρ) (h : TriSS W n ns ρ' μ sts o) : TriSS W n ns ρ μ sts o := fun A env g₀ s₀ F g s Q E f hq => h A env g₀ s₀ F g s Q E (f.sub hs) hq
theorem TriS.sub {st : Stmt} {ρ' : Rho} {o : Out} (hs : SubR ρ' ρ) (h : TriS W n ns ρ' μ st o) : TriS W n ns ρ μ st o := fun A env g₀ s₀ F g s Q E f hq => h A env g₀ s₀ F g s Q E (f.sub hs) hq
theorem TriS.next_sub {st : Stmt} {ρ₁ ρ' : Rho} {μ' : Mu} (h : TriS W n ns ρ μ st (.next ρ₁ μ')) (hs : SubR ρ' ρ₁) : TriS W n ns ρ μ st (.next ρ' μ') := fun A env g₀ s₀ F g s Q E f hq =>
  h A env g₀ s₀ F g s Q E f fun fl g' s' sf ⟨e, f'⟩ => hq fl g' s' sf ⟨e, f'.sub hs⟩
theorem TriSS.next_sub {st : List Stmt} {ρ₁ ρ' : Rho} {μ' : Mu} (h : TriSS W n ns ρ μ st (.next ρ₁ μ')) (hs : SubR ρ' ρ₁) : TriSS W n ns ρ μ st (.next ρ' μ') := fun A env g₀ s₀ F g s Q E f hq =>
  h A env g₀ s₀ F g s Q E f fun fl g' s' sf ⟨e, f'⟩ => hq fl g' s' sf ⟨e, f'.sub hs⟩
theorem Fra.ret {A env g₀ s₀ F g s} (f : Fra W n A env ns ρ μ g₀ s₀ F g s) : Fra W n A env ns [] none g₀ s₀ F g s := { f.sub (ρ' := []) (fun x d h => by cases h) with own := fun y xs e => by cases e }
theorem TriS.ret {e : Expr} {pos : Pos} {d : D} (h : TriE W n ns ρ e d) : TriS W n ns ρ μ (.Return (some e) pos) (.ret d) := fun A env g₀ s₀ F g s Q E f hq =>
  wpAny_Return_some (wp_mono' (h A env g s E f.cx) fun v s' ⟨g', st, r⟩ => hq _ g' s' (f.safe st) ⟨v, rfl, r, (f.step st).ret⟩)
theorem TriS.brk {pos : Pos} : TriS W n ns ρ μ (.Break pos) (.brk ρ μ) := fun A env g₀ s₀ F g s Q E f hq => by
  show wpAny _ A (do standAt pos; pure .brk) Q E s
  exact wpAny_bind (wpAny_standAt (wpAny_pure (hq _ g s SafeF.refl ⟨rfl, f⟩)))
theorem TriS.ite {t : Expr} {b o : List Stmt} {pos : Pos} {c : Bool} {r : Out} (ht : TriB W n ns ρ t c) (hb : c = true → TriSS W n ns ρ μ b r) (ho : c = false → TriSS W n ns ρ μ o r) : TriS W n ns ρ μ (.If t b o pos) r := fun A env g₀ s₀ F g s Q E f hq =>
  wpAny_If (wp_mono' (ht A env g s E f.cx) fun x s' ⟨e, g', st⟩ => by
    subst e
    cases x with
    | true => exact hb rfl A env g₀ s₀ F g' s' Q E (f.step st) fun fl g'' s'' sf ok => hq fl g'' s'' ((f.safe st).trans sf) ok
    | false => exact ho rfl A env g₀ s₀ F g' s' Q E (f.step st) fun fl g'' s'' sf ok => hq fl g'' s'' ((f.safe st).trans sf) ok)
noncomputable def OwnK (ns : Names) (x : PySem.Str) : Prop := ns.lookup x = some .local ∨ ns.lookup x = some .cell
noncomputable def lose (μ : Mu) (x : PySem.Str) : Mu := match μ with | some (y, xs) => if y = x then none else some (y, xs) | none => none
theorem lose_ok {x : PySem.Str} {d : D} : ∀ y xs, lose μ x = some (y, xs) → μ = some (y, xs) ∧ y ∉ [(x, d)].map (·.1) := fun y xs h => by
  unfold lose at h
  split at h
  · split at h
    · cases h
    · rename_i hne
      cases h
      exact ⟨rfl, by simpa using hne⟩
  · cases h
noncomputable def EnvIs (ns : Names) (env : Env) : Prop := env.scope.names = ns ∧ env.scope.kind = .function
theorem envEq {ns : Names} {P : Env → Prop} (h : ∀ (env : Env) (sc : Scope), P { env with scope := { sc with kind := .function, names := ns } }) : ∀ env, EnvIs ns env → P env := fun env e => by
  have := h env env.scope
  obtain ⟨h1, h2⟩ := e
  rwa [← h1, ← h2] at this
theorem not_inter {ns : Names} {env : Env} (h : EnvIs ns env) : interactive env = false := by
  unfold interactive
  rw [h.2]
  rfl
theorem Cx.envIs {A env g s} (c : Cx W n A env ns ρ g s) : EnvIs ns env := ⟨c.en.names, c.en.kind⟩
theorem TriS.assign {x : PySem.Str} {e : Expr} {p pos : Pos} {d : D} (h : TriE W n ns ρ e d) (hk : OwnK ns x) (hs : ∀ env, EnvIs ns env → swapsWith e (some (.Name x p)) pos.line env = pure false) :
    TriS W n ns ρ μ (.Assign [.Name x p] e pos) (.next ((x, d) :: ρ) (lose μ x)) := fun A env g₀ s₀ F g s Q E f hq => by
  refine wpAny_Assign_Name (wp_mono' (h A env g s E f.cx) fun v s₁ ⟨g₁, st₁, r₁⟩ => ?_) (hs env f.cx.envIs)
  refine storeR (f.step st₁).cx r₁ hk fun s₂ st₂ k₂ c₂ => ?_
  obtain ⟨f₂, sf₂⟩ := (f.step st₁).bound (bs := [(x, d)]) (μ' := lose μ x) (st₂.mono fun b hb => ⟨x, by simp, hb⟩) k₂ c₂ lose_ok
  exact hq _ g₁ s₂ ((f.safe st₁).trans sf₂) ⟨rfl, f₂⟩
theorem TriS.augName {x : PySem.Str} {op : Operator} {e : Expr} {p pos : Pos} {a b d : D} (hx : ρ.lookup x = some a) (hk : OwnK ns x) (he : TriE W (n + 1) ns ρ e b)
    (hop : ∀ A g s (E : Value → Shared → Prop) u v, Room (n + 1) A → Good W.hs g s → Rep g u a → Rep g v b → wpAny W.M A (inplaceOp op u v) (Res g s d) E s) :
    TriS W (n + 1) ns ρ μ (.AugAssign (.Name x p) op e pos) (.next ((x, d) :: ρ) (lose μ x)) := fun A env g₀ s₀ F g s Q E f hq => by
  have ld : wpAny W.M A (loadName env x) (fun v s' => s' = s ∧ Rep g v a) E s := by
    rcases hk with hk | hk
    · obtain ⟨m, h1, h2⟩ := f.cx.en.loc
      obtain ⟨v, h3, h4⟩ := h2 x a hx hk
      exact wpAny_loadName_local f.cx.en.kind ((f.cx.en.kindOf x).trans hk) h1 h3 ⟨rfl, h4⟩
    · obtain ⟨cc, v, h1, h2, h3⟩ := f.cx.en.cv x a hx (.inl hk)
      exact wpAny_loadName_cell f.cx.en.kind ((f.cx.en.kindOf x).trans hk) h1 h2 ⟨rfl, h3⟩
  refine wpAny_AugAssign_Name (wp_mono' ld fun v₀ s' ⟨e₀, r₀⟩ => ?_)
  subst e₀
  refine wp_mono' (he A env g s' E f.cx) fun v s₁ ⟨g₁, st₁, r₁⟩ => ?_
  refine wp_mono' (hop A g₁ s₁ E v₀ v f.cx.room (f.step st₁).cx.good (r₀.mono st₁.view) r₁) fun v₂ s₂ ⟨g₂, st₂, r₂⟩ => ?_
  have f₂ := (f.step st₁).step st₂
  refine storeR f₂.cx r₂ hk fun s₃ st₃ k₃ c₃ => ?_
  obtain ⟨f₃, sf₃⟩ := f₂.bound (bs := [(x, d)]) (μ' := lose μ x) (st₃.mono fun b hb => ⟨x, by simp, hb⟩) k₃ c₃ lose_ok
  exact hq _ g₂ s₃ (((f.safe st₁).trans ((f.step st₁).safe st₂)).trans sf₃) ⟨rfl, f₃⟩
theorem Fra.take {A env g₀ s₀ F g s} {y : PySem.Str} {L : Addr} {xs : List D} {m : PySem.Str → Option Value} (f : Fra W n A env ns ρ μ g₀ s₀ F g s) (hk : ns.lookup y = some .local) (hy : ρ.lookup y = none) (hn : s.heap.Ns env.locals m) (hm : m y = some (.ref L)) (acc : AccAt g s L xs)
    (hf : s₀.heap.get? L = none) (hF : L ∉ F) : Fra W n A env ns ρ (some (y, xs)) g₀ s₀ F g s :=
  { f with own := fun z zs e => by cases e; exact ⟨hk, hy, L, m, hn, hm, acc, hf, hF⟩ }
theorem storeNew {A env g₀ s₀ F g s} {E : Value → Shared → Prop} {y : PySem.Str} {L : Addr} {xs : List D} {Q : Unit → Shared → Prop} (f : Fra W n A env ns ρ μ g₀ s₀ F g s) (hk : ns.lookup y = some .local) (acc : AccAt g s L xs) (hf : s₀.heap.get? L = none) (hF : L ∉ F)
    (h : ∀ s', SafeF F g s g s' → Fra W n A env ns (dropN y ρ) (some (y, xs)) g₀ s₀ F g s' → Q () s') : wpAny W.M A (storeName env y (.ref L)) Q E s := by
  obtain ⟨m, h1, h2⟩ := f.cx.en.loc
  refine wpAny_storeName_local ((f.cx.en.kindOf y).trans hk) h1 (fun h' hn hs => ?_) (by rw [f.cx.en.kind]; rfl)
  have off : ∀ b o, b ≠ env.locals → s.heap.get? b = some o → h'.get? b = some o := fun b o hb e => (hs.2 b hb).trans e
  have hsub : ∀ b o, g b = some o → h'.get? b = some o := fun b o e => off b o (by rintro rfl; rw [f.cx.en.hidL] at e; cases e) (f.cx.good.sub _ _ e)
  have hcell : ∀ cc v, s.heap.IsCell cc v → h'.IsCell cc v := fun cc v hc => hc.sameBut hs (ns_ne_cell h1 hc).symm
  have st : StepX (Own env ns [y]) g s g { s with heap := h', toks := s.toks + 1 } := ⟨fun _ _ e => e, fun _ _ e => .inl e, hsub, fun b o q e => off b o (fun z => q ⟨y, by simp, .inl ⟨hk, z⟩⟩) e, fun b o e => by
    by_cases hb : b = env.locals
    · subst hb; obtain ⟨o', _, _, ho', _⟩ := hn; exact ⟨o', ho'⟩
    · exact ⟨o, off b o hb e⟩, rfl, rfl, rfl⟩
  have c' : Cx W n A env ns (dropN y ρ) g { s with heap := h', toks := s.toks + 1 } := by
    refine ⟨f.cx.room, ⟨f.cx.good.stat, hsub⟩, f.cx.en.names, f.cx.en.kind, f.cx.en.globals, f.cx.en.builtins, f.cx.en.hidL, fun z hz => ?_, f.cx.en.hidC, fun z cc hz => ?_, f.cx.en.apart, ⟨_, hn, fun z d' hl hz => ?_⟩, fun z d' hl hz => ?_⟩
    · obtain ⟨cc, v', e1, e2⟩ := f.cx.en.cells z hz; exact ⟨cc, v', e1, hcell _ _ e2⟩
    · obtain ⟨v', e1⟩ := f.cx.en.isC z cc hz; exact ⟨v', hcell _ _ e1⟩
    · have hzy : z ≠ y := by rintro rfl; rw [dropN_none] at hl; cases hl
      obtain ⟨v', e1, e2⟩ := h2 z d' (dropN_sub _ _ hl) hz
      exact ⟨v', by simp [hzy, e1], e2⟩
    · obtain ⟨cc, v', e1, e2, e3⟩ := f.cx.en.cv z d' (dropN_sub _ _ hl) hz
      exact ⟨cc, v', e1, hcell _ _ e2, e3⟩
  have sf : SafeF F g s g { s with heap := h', toks := s.toks + 1 } := SafeF.of_stepX st f.live (f.ownX).2
  have hLl : L ≠ env.locals := acc.neL h1
  have f' : Fra W n A env ns (dropN y ρ) none g₀ s₀ F g { s with heap := h', toks := s.toks + 1 } := ⟨c', StepX.strict f.st st (f.ownX).1, f.loc, f.cel, fun _ _ e => (by cases e), f.offL, f.offC, fun b hb => let ⟨o, ho⟩ := f.live b hb; st.live _ _ ho⟩
  refine h _ sf (f'.take hk dropN_none hn (by simp) (acc.stepX st ?_) hf hF)
  rintro ⟨x, _, ⟨_, q⟩ | ⟨_, q⟩⟩
  · exact hLl q
  · obtain ⟨v, hv⟩ := f.cx.en.isC x _ q
    exact acc.neC hv rfl
theorem NewL.freshF {A env g₀ s₀ F g s xs v s'} (f : Fra W n A env ns ρ μ g₀ s₀ F g s) (h : NewL g s xs v s') : ∃ L g', v = .ref L ∧ Step g s g' s' ∧ AccAt g' s' L xs ∧ s₀.heap.get? L = none ∧ L ∉ F := by
  obtain ⟨L, g', e, hf, st, acc⟩ := h
  refine ⟨L, g', e, st, acc, ?_, fun hF => ?_⟩
  · cases q : s₀.heap.get? L with
    | none => rfl
    | some o => rw [f.st.keep _ _ q] at hf; cases hf
  · obtain ⟨o, ho⟩ := f.live L hF
    rw [hf] at ho; cases ho
theorem TriS.assignNew {x : PySem.Str} {e : Expr} {p pos : Pos} {xs : List D} (h : TriN W n ns ρ e xs) (hk : ns.lookup x = some .local) (hs : ∀ env, EnvIs ns env → swapsWith e (some (.Name x p)) pos.line env = pure false) :
    TriS W n ns ρ μ (.Assign [.Name x p] e pos) (.next (dropN x ρ) (some (x, xs))) := fun A env g₀ s₀ F g s Q E f hq => by
  refine wpAny_Assign_Name (wp_mono' (h A env g s E f.cx) fun v s₁ hv => ?_) (hs env f.cx.envIs)
  obtain ⟨L, g₁, rfl, st₁, acc, hf, hF⟩ := hv.freshF f
  exact storeNew (f.step st₁) hk acc hf hF fun s₂ sf₂ f₂ => hq _ g₁ s₂ ((f.safe st₁).trans sf₂) ⟨rfl, f₂⟩
theorem Fra.freeze {A env g₀ s₀ F g s} {y : PySem.Str} {xs : List D} (f : Fra W n A env ns ρ (some (y, xs)) g₀ s₀ F g s) : ∃ g', SafeF F g s g' s ∧ Fra W n A env ns ((y, .list xs) :: ρ) none g₀ s₀ F g' s := by
  obtain ⟨h1, h2, L, m, h3, h4, acc, h6, h7⟩ := f.own y xs rfl
  obtain ⟨ys, ⟨k, hp⟩, hr, hn⟩ := id acc
  have hLl : L ≠ env.locals := acc.neL h3
  have hLc : ∀ x a, env.cells.lookup x = some a → L ≠ a := fun x a hx => let ⟨v, hv⟩ := f.cx.en.isC x a hx; acc.neC hv
  have le : g.le (g.put L { cls := .type "list", data := .seq ys k }) := View.le_put hn
  have sub' : ∀ b o, (g.put L { cls := .type "list", data := .seq ys k }) b = some o → s.heap.get? b = some o := fun b o e => by
    by_cases hb : b = L
    · subst hb; rw [View.put_self] at e; cases e; exact hp
    · rw [View.put_ne hb] at e; exact f.cx.good.sub _ _ e
  refine ⟨g.put L _, ⟨le, fun _ _ _ e => e, fun b hb e => by rw [View.put_ne (by rintro rfl; exact h7 hb)]; exact e⟩, ⟨f.cx.room, ⟨fun b o e => le _ _ (f.cx.good.stat b o e), sub'⟩, ?_⟩, ⟨fun b o e => le _ _ (f.st.view _ _ e), fun b o e => ?_, sub', f.st.keep, f.st.rest⟩, f.loc, f.cel, fun _ _ e => (by cases e), f.offL, f.offC, f.live⟩
  · refine ⟨f.cx.en.names, f.cx.en.kind, f.cx.en.globals, f.cx.en.builtins, by rw [View.put_ne hLl.symm]; exact f.cx.en.hidL, f.cx.en.cells, fun x a hx => by rw [View.put_ne (hLc x a hx).symm]; exact f.cx.en.hidC x a hx, f.cx.en.isC, f.cx.en.apart, ?_, fun x d hl hk => ?_⟩
    · obtain ⟨m', h8, h9⟩ := f.cx.en.loc
      have := Ns.ext h3 h8
      subst this
      refine ⟨m, h3, fun x d hl hk => ?_⟩
      rw [List.lookup_cons] at hl
      by_cases hxy : x = y
      · subst hxy; simp at hl; subst hl
        exact ⟨_, h4, rep_list.mpr ⟨L, ys, k, rfl, View.put_self, hr.mono le⟩⟩
      · have : (x == y) = false := by simpa using hxy
        rw [this] at hl
        obtain ⟨v, r1, r2⟩ := h9 x d hl hk
        exact ⟨v, r1, r2.mono le⟩
    · rw [List.lookup_cons] at hl
      have hxy : x ≠ y := by rintro rfl; rw [h1] at hk; rcases hk with hk | hk <;> cases hk
      have : (x == y) = false := by simpa using hxy
      rw [this] at hl
      obtain ⟨cc, v, e1, e2, e3⟩ := f.cx.en.cv x d hl hk
      exact ⟨cc, v, e1, e2, e3.mono le⟩
  · by_cases hb : b = L
    · subst hb; exact .inr h6
    · rw [View.put_ne hb] at e; exact f.st.fresh _ _ e
theorem TriSS.freeze {y : PySem.Str} {xs : List D} {sts : List Stmt} {o : Out} (h : TriSS W n ns ((y, .list xs) :: ρ) none sts o) : TriSS W n ns ρ (some (y, xs)) sts o := fun A env g₀ s₀ F g s Q E f hq => by
  obtain ⟨g', sf, f'⟩ := f.freeze
  exact h A env g₀ s₀ F g' s Q E f' fun fl g'' s'' sf' ok => hq fl g'' s'' (sf.trans sf') ok
noncomputable def LoopOk (P : D → Rho → Mu → Out → Prop) (El : Rho → Mu → Out → Prop) : List D → Rho → Mu → Out → Prop
  | [], ρ, μ, o => El ρ μ o
  | d :: ds, ρ, μ, o => ∃ o₁, P d ρ μ o₁ ∧ (match o₁ with
    | .next ρ₁ μ₁ => ∃ ρ₂, SubR ρ₂ ρ₁ ∧ LoopOk P El ds ρ₂ μ₁ o
    | .cont ρ₁ μ₁ => ∃ ρ₂, SubR ρ₂ ρ₁ ∧ LoopOk P El ds ρ₂ μ₁ o
    | .brk ρ₁ μ₁ => o = .next ρ₁ μ₁
    | .ret v => o = .ret v)
theorem Fra.lessF {A env g₀ s₀ F F' g s} (f : Fra W n A env ns ρ μ g₀ s₀ F' g s) (h : ∀ b ∈ F, b ∈ F') : Fra W n A env ns ρ μ g₀ s₀ F g s := { f with
  own := fun y xs e => let ⟨h1, h2, L, m, h3, h4, h5, h6, h7⟩ := f.own y xs e; ⟨h1, h2, L, m, h3, h4, h5, h6, fun q => h7 (h _ q)⟩
  offL := fun q => f.offL (h _ q)
  offC := fun x a hx q => f.offC x a hx (h _ q)
  live := fun b hb => f.live b (h _ hb) }
theorem Fra.moveX {A env g₀ s₀ F g s g' s'} {X : Addr → Prop} (f : Fra W n A env ns ρ μ g₀ s₀ F g s) (a : StepX X g s g' s') (hX : ∀ b, X b → b ∈ F) (hc : ∀ b, X b → s₀.heap.get? b = none) : Fra W n A env ns ρ μ g₀ s₀ F g' s' :=
  have hl : ¬ X env.locals := fun h => f.offL (hX _ h)
  { cx := f.cx.stepX a hl fun x b hx h => f.offC x b hx (hX _ h)
    st := StepX.strict f.st a hc
    loc := f.loc
    cel := f.cel
    own := fun y ys e => let ⟨h1, h2, L, m, h3, h4, h5, h6, h7⟩ := f.own y ys e; ⟨h1, h2, L, m, h3.at' fun o e => a.keep _ _ hl e, h4, h5.stepX a fun h => h7 (hX _ h), h6, h7⟩
    offL := f.offL
    offC := f.offC
    live := fun b hb => let ⟨o, ho⟩ := f.live b hb; a.live _ _ ho }
theorem forRule {M : Model} {A : Around} {s : Shared} {target it body orelse env} {R : Result → Shared → Prop} (hM : ∃ prog w, M = model prog w) (I : Nat → Shared → Prop)
    (turn : ∀ n s (QQ : Option Value → Shared → Prop) (QB : Flow → Shared → Prop) (EN : Value → Shared → Prop), (∀ s₁, wpAny M A (execs orelse env) (fun f s₃ => R (.ok f) s₃) EN s₁ → QQ none s₁) →
      (∀ v s₁, wpAny M A (letOwnedTupleGo target it v) (fun _ s₁' => wpAny M A (assign target env v) (fun _ s₂ => wpAny M A (execs body env) QB EN s₂) EN s₁') EN s₁ → QQ (some v) s₁) →
      (∀ m s', m < n → I m s' → QB .next s' ∧ QB .cont s') → (∀ s', R (.ok .next) s' → QB .brk s') → (∀ v s', R (.ok (.ret v)) s' → QB (.ret v) s') → I n s → wpAny M A (pyNext it) QQ EN s)
    (n : Nat) (h : I n s) : codeAny M A (.forLoop target it body orelse env) R s := by
  obtain ⟨prog, w, rfl⟩ := hM
  exact codeAny_forLoop_any I (fun n s h => turn n s _ _ _ (fun _ h => h) (fun _ _ h => h) (fun m s' hm hi => ⟨⟨m, hm, hi⟩, m, hm, hi⟩) (fun _ h => h) (fun _ _ h => h) h) n h
theorem lose_fold : ∀ (bs : Rho) (μ₁ : Mu) y ys, (bs.foldr (fun p m => lose m p.1) μ₁) = some (y, ys) → μ₁ = some (y, ys) ∧ y ∉ bs.map (·.1)
  | [], _, _, _, h => ⟨h, List.not_mem_nil⟩
  | p :: r, μ₁, y, ys, h => by
    obtain ⟨h1, h2⟩ := lose_ok (d := p.2) y ys h
    obtain ⟨h3, h4⟩ := lose_fold r μ₁ y ys h1
    exact ⟨h3, fun h => (List.mem_cons.mp h).elim (fun e => h2 (List.mem_singleton.mpr e)) h4⟩
noncomputable def BodyP (W : Wo) (n : Nat) (ns : Names) (tgt : Expr) (body : List Stmt) (d : D) (ρ : Rho) (μ : Mu) (o₁ : Out) : Prop := ∃ bs, BindT ns tgt d bs ∧ TriSS W n ns (bs ++ ρ) (bs.foldr (fun p m => lose m p.1) μ) body o₁
noncomputable def ElseP (W : Wo) (n : Nat) (ns : Names) (orelse : List Stmt) (ρ : Rho) (μ : Mu) (o : Out) : Prop := TriSS W n ns ρ μ orelse o ∧ ∀ ρ' μ', o ≠ .brk ρ' μ' ∧ o ≠ .cont ρ' μ'
theorem forLoop {A env g₀ s₀ F g s} {tgt : Expr} {body orelse : List Stmt} {I : Addr} {fp wr : List Addr} {xs : List D} {St : Nat → Heap → Prop} {R : Result → Shared → Prop} {o : Out}
    (f : Fra W n A env ns ρ μ g₀ s₀ (fp ++ F) g s) (src : SrcAt W A tgt I fp wr xs St g s) (hwr : ∀ b ∈ wr, s₀.heap.get? b = none) (hwF : ∀ b ∈ wr, b ∉ F)
    (hbody : LoopOk (fun d ρ μ o₁ => ∃ bs, BindT ns tgt d bs ∧ TriSS W n ns (bs ++ ρ) (bs.foldr (fun p m => lose m p.1) μ) body o₁) (fun ρ μ o => TriSS W n ns ρ μ orelse o ∧ ∀ ρ' μ', o ≠ .brk ρ' μ' ∧ o ≠ .cont ρ' μ') xs ρ μ o)
    (hQ : ∀ fl g' s', SafeF F g s g' s' → OutOk W n A env ns g₀ s₀ F g' s' fl o → R (.ok fl) s') : codeAny W.M A (.forLoop tgt (.ref I) body orelse env) R s := by
  have hFm : ∀ b ∈ F, b ∈ fp ++ F := fun b hb => List.mem_append_right _ hb
  have hfm : ∀ b ∈ fp, b ∈ fp ++ F := fun b hb => List.mem_append_left _ hb
  have hwm : ∀ b ∈ wr, b ∈ fp ++ F := fun b hb => hfm b (src.src.sub b hb)
  refine forRule ⟨_, _, rfl⟩ (fun m s' => ∃ i g' ρ' μ', m = xs.length + 1 - i ∧ SafeF F g s g' s' ∧ Fra W n A env ns ρ' μ' g₀ s₀ (fp ++ F) g' s' ∧ St i s'.heap ∧ (∀ b ∈ wr, g' b = none) ∧ i ≤ xs.length ∧ LoopOk (BodyP W n ns tgt body) (ElseP W n ns orelse) (xs.drop i) ρ' μ' o) ?_ (xs.length + 1)
    ⟨0, g, ρ, μ, rfl, SafeF.refl, f, src.st, src.hid, Nat.zero_le _, hbody⟩
  intro m s₁ QQ QB EN h0 h1 hn hb hr ⟨i, g₁, ρ₁, μ₁, hm, sf₁, f₁, hst₁, hh₁, hi, lo⟩
  have hlw : env.locals ∉ wr := fun h => f₁.offL (hwm _ h)
  have hcw : ∀ x a, env.cells.lookup x = some a → a ∉ wr := fun x a hx h => f₁.offC x a hx (hwm _ h)
  cases hx : xs[i]? with
  | none =>
    have hie : xs.length = i := Nat.le_antisymm (List.getElem?_eq_none_iff.mp hx) hi
    rw [← hie, List.drop_length] at lo
    rw [← hie] at hst₁
    refine src.src.done s₁ _ _ hst₁ fun h' tk kk => h0 _ ?_
    have f₂ : Fra W n A env ns ρ₁ μ₁ g₀ s₀ F g₁ { s₁ with heap := h', toks := tk } := {
      cx := f₁.cx.but hlw hcw hh₁ kk
      st := Step.drop f₁.cx.good f₁.st hwr hh₁ kk
      loc := f₁.loc
      cel := f₁.cel
      own := fun y ys e => let ⟨h1, h2, L, m, h3, h4, ⟨zs, ⟨k, hp⟩, hr⟩, h6, h7⟩ := f₁.own y ys e
        ⟨h1, h2, L, m, h3.at' fun o e => kk _ _ hlw e, h4, ⟨zs, ⟨k, kk _ _ (fun h => h7 (hwm _ h)) hp⟩, hr⟩, h6, fun h => h7 (hFm _ h)⟩
      offL := fun h => f₁.offL (hFm _ h)
      offC := fun x a hx h => f₁.offC x a hx (hFm _ h)
      live := fun b hb => let ⟨o, ho⟩ := f₁.live b (hFm b hb); ⟨o, kk _ _ (fun h => hwF b h hb) ho⟩ }
    exact lo.1 A env g₀ s₀ F g₁ _ _ _ f₂ fun fl g₃ s₃ sf₃ ok => hQ fl g₃ s₃ ((sf₁.trans ⟨fun _ _ e => e, fun b hb o e => kk b o (fun h => hwF b h hb) e, fun _ _ e => e⟩).trans sf₃) ok
  | some d =>
    have hlt : i < xs.length := (List.getElem?_eq_some_iff.mp hx).1
    rw [List.drop_eq_getElem_cons hlt, (List.getElem?_eq_some_iff.mp hx).2] at lo
    obtain ⟨o₁, ⟨bs, hb', htr⟩, hnx⟩ := lo
    refine src.src.next i d s₁ g₁ _ _ hx hst₁ f₁.cx.good sf₁.view hh₁ fun v g₂ s₂ r₂ st₂ hgo => h1 _ _ (hgo _ _ fun s₃ st₃ hst₃ => ?_)
    have f₂ := f₁.moveX st₂ hwm hwr
    have f₃ := f₂.moveX st₃ hwm hwr
    have sf₃ : SafeF F g s g₂ s₃ := (sf₁.trans (SafeF.of_stepX st₂ (fun b hb => f₁.live b (hFm b hb)) fun b hb h => hwF b h hb)).trans (SafeF.of_stepX st₃ (fun b hb => f₂.live b (hFm b hb)) fun b hb h => hwF b h hb)
    have hh₃ : ∀ b ∈ wr, g₂ b = none := fun b hb => let ⟨o, ho⟩ := f₁.live b (hwm _ hb); st₂.hid (hh₁ b hb) ho
    refine assignR hb' f₃.cx r₂ fun s₄ st₄ k₄ c₄ => ?_
    obtain ⟨f₄, sf₄⟩ := f₃.bound (μ' := bs.foldr (fun p m => lose m p.1) μ₁) st₄ k₄ c₄ (lose_fold bs μ₁)
    refine htr A env g₀ s₀ (fp ++ F) g₂ s₄ _ _ f₄ fun fl g₅ s₅ sf₅ ok => ?_
    have sf05 : SafeF F g s g₅ s₅ := (sf₃.trans (sf₄.sub hFm)).trans (sf₅.sub hFm)
    have hst₅ : St (i + 1) s₅.heap := src.src.frame _ _ _ hst₃ fun b hb o e => sf₅.keep b (hfm b hb) o (sf₄.keep b (hfm b hb) o e)
    have hh₅ : ∀ b ∈ wr, g₅ b = none := fun b hb => sf₅.hid b (hwm _ hb) (hh₃ b hb)
    clear f₁ f₂ f₃ f₄ sf₁ sf₃ sf₄ sf₅ st₂ st₃ st₄ hst₁ hst₃ hh₁ hh₃ k₄ c₄ hgo r₂ htr hb' h0 h1 hlw hcw
    have hlt' : xs.length + 1 - (i + 1) < m := by rw [hm]; exact Nat.sub_lt_sub_left (Nat.lt_succ_of_lt hlt) (Nat.lt_succ_self i)
    have goOn : ∀ ρ' μ', Fra W n A env ns ρ' μ' g₀ s₀ (fp ++ F) g₅ s₅ → (∃ ρ₂, SubR ρ₂ ρ' ∧ LoopOk (BodyP W n ns tgt body) (ElseP W n ns orelse) (xs.drop (i + 1)) ρ₂ μ' o) → QB .next s₅ ∧ QB .cont s₅ := fun ρ' μ' f₅ ⟨ρ₂, hsub, lo'⟩ =>
      hn _ s₅ hlt' ⟨i + 1, g₅, ρ₂, μ', rfl, sf05, f₅.sub hsub, hst₅, hh₅, hlt, lo'⟩
    cases o₁ with
    | next ρ' μ' => rw [ok.1]; exact (goOn ρ' μ' ok.2 hnx).1
    | cont ρ' μ' => rw [ok.1]; exact (goOn ρ' μ' ok.2 hnx).2
    | brk ρ' μ' => rw [ok.1]; exact hb _ (hQ _ g₅ s₅ sf05 (by rw [hnx]; exact ⟨rfl, ok.2.lessF hFm⟩))
    | ret v =>
      obtain ⟨v', e, r, f₅⟩ := ok
      rw [e]
      exact hr _ _ (hQ _ g₅ s₅ sf05 (by rw [hnx]; exact ⟨v', rfl, r, f₅.lessF hFm⟩))
theorem TriS.for_ {tgt iter : Expr} {body orelse : List Stmt} {pos : Pos} {xs : List D} {o : Out} {ρ' : Rho} (hI : TriI W n ns ρ tgt iter xs) (hsub : SubR ρ' ρ)
    (hbody : LoopOk (fun d ρ μ o₁ => ∃ bs, BindT ns tgt d bs ∧ TriSS W n ns (bs ++ ρ) (bs.foldr (fun p m => lose m p.1) μ) body o₁) (fun ρ μ o => TriSS W n ns ρ μ orelse o ∧ ∀ ρ' μ', o ≠ .brk ρ' μ' ∧ o ≠ .cont ρ' μ') xs ρ' μ o)
    (hs : ∀ env x, foldedSetIterable iter env x = pure x := by intro _ _; rfl) : TriS W n ns ρ μ (.For tgt iter body orelse pos) o := fun A env g₀ s₀ F g s Q E f hq => by
  refine wpAny_For (hI A env g s _ E f.cx fun I fp wr St g₁ s₁ st₁ src hfr => ?_) (hs env)
  have f₁ := f.step st₁
  have wrF : ∀ b ∈ wr, s.heap.get? b = none := hfr.2
  have notF : ∀ b ∈ wr, b ∉ F := fun b hb h => by obtain ⟨o, ho⟩ := f.live b h; rw [wrF b hb] at ho; cases ho
  have offf : ∀ b ∈ fp, b ≠ env.locals ∧ ∀ x a, env.cells.lookup x = some a → b ≠ a := fun b hb => by
    refine ⟨?_, ?_⟩
    · rintro rfl
      obtain ⟨m, ⟨o', es, ep, ho, _⟩, _⟩ := f.cx.en.loc
      rcases hfr.1 _ hb with q | ⟨q, hq⟩
      · rw [ho] at q; cases q
      · rw [f₁.cx.en.hidL] at hq; cases hq
    · rintro x a hx rfl
      obtain ⟨v, o', ho', _⟩ := f.cx.en.isC x b hx
      rcases hfr.1 b hb with q | ⟨q, hq⟩
      · rw [ho'] at q; cases q
      · rw [f₁.cx.en.hidC x b hx] at hq; cases hq
  have f₂ : Fra W n A env ns ρ μ g₀ s₀ (fp ++ F) g₁ s₁ := { f₁ with
    own := fun y ys e => by
      obtain ⟨h1, h2, L, m, h3, h4, h5, h6, h7⟩ := f.own y ys e
      obtain ⟨k1, k2, L', m', k3, k4, k5, k6, k7⟩ := f₁.own y ys e
      refine ⟨k1, k2, L', m', k3, k4, k5, k6, fun h => ?_⟩
      rcases List.mem_append.mp h with h | h
      · have e1 := Ns.ext (h3.keeps st₁.keep) k3
        subst e1
        rw [h4] at k4
        cases k4
        obtain ⟨ys', ⟨k, hp⟩, _, hn⟩ := h5
        obtain ⟨_, _, _, hn'⟩ := k5
        rcases hfr.1 _ h with q | ⟨q, hq⟩
        · rw [hp] at q; cases q
        · rw [hn'] at hq; cases hq
      · exact k7 h
    offL := fun h => by
      rcases List.mem_append.mp h with h | h
      · exact (offf _ h).1 rfl
      · exact f.offL h
    offC := fun x a hx h => by
      rcases List.mem_append.mp h with h | h
      · exact (offf _ h).2 x a hx rfl
      · exact f.offC x a hx h
    live := fun b hb => by
      rcases List.mem_append.mp hb with h | h
      · exact src.live b h
      · exact f₁.live b h }
  have wr0 : ∀ b ∈ wr, s₀.heap.get? b = none := fun b hb => by
    cases q : s₀.heap.get? b with
    | none => rfl
    | some o => have := f.st.keep _ _ q; rw [wrF b hb] at this; cases this
  exact forLoop (f₂.sub hsub) src wr0 notF hbody fun fl g' s' sf ok => hq fl g' s' ((f.safe st₁).trans sf) ok
end
end Mine
end
section
namespace Mine
theorem bindL_not {k : PySem.Str → Option NameKind} {x : PySem.Str} : ∀ {bs : List (PySem.Str × Value)} {m}, (∀ v, (x, v) ∉ bs) → bindL k bs m x = m x
  | [], _, _ => rfl
  | (y, v) :: r, m, h => by
    unfold bindL
    rw [bindL_not fun v hv => h v (List.mem_cons_of_mem _ hv)]
    split
    · have : x ≠ y := by rintro rfl; exact h v List.mem_cons_self
      simp [this]
    · rfl
theorem bindC_not {k : PySem.Str → Option NameKind} {x : PySem.Str} : ∀ {bs : List (PySem.Str × Value)} {m}, (∀ v, (x, v) ∉ bs) → bindC k bs m x = m x
  | [], _, _ => rfl
  | (y, v) :: r, m, h => by
    unfold bindC
    rw [bindC_not fun v hv => h v (List.mem_cons_of_mem _ hv)]
    split
    · rfl
    · have : x ≠ y := by rintro rfl; exact h v List.mem_cons_self
      simp [this]
theorem bindL_has {k : PySem.Str → Option NameKind} {x : PySem.Str} {v : Value} (hk : k x = some .local) : ∀ {bs : List (PySem.Str × Value)} {m}, (bs.map (·.1)).Nodup → (x, v) ∈ bs → bindL k bs m x = some v
  | (y, u) :: r, m, hn, h => by
    rw [List.map_cons, List.nodup_cons] at hn
    unfold bindL
    rcases List.mem_cons.mp h with e | h
    · cases e
      rw [bindL_not fun v hv => hn.1 (List.mem_map.mpr ⟨_, hv, rfl⟩)]
      simp [hk]
    · exact bindL_has hk hn.2 h
theorem bindC_has {k : PySem.Str → Option NameKind} {x : PySem.Str} {v : Value} (hk : k x = some .cell) : ∀ {bs : List (PySem.Str × Value)} {m}, (bs.map (·.1)).Nodup → (x, v) ∈ bs → bindC k bs m x = some v
  | (y, u) :: r, m, hn, h => by
    rw [List.map_cons, List.nodup_cons] at hn
    unfold bindC
    rcases List.mem_cons.mp h with e | h
    · cases e
      rw [bindC_not fun v hv => hn.1 (List.mem_map.mpr ⟨_, hv, rfl⟩)]
      simp [hk]
    · exact bindC_has hk hn.2 h
theorem zip_rep {g : View} {x : PySem.Str} {d : D} : ∀ {xs : List PySem.Str} {ds : List D} {vs : List Value}, RepL g vs ds → (xs.zip ds).lookup x = some d → ∃ v, (x, v) ∈ xs.zip vs ∧ Rep g v d
  | [], _, _, _, h => by cases h
  | y :: ys, [], _, r, h => by cases h
  | y :: ys, e :: es, vs, r, h => by
    obtain ⟨v, r', rfl, h1, h2⟩ := repL_cons.mp r
    rw [List.zip_cons_cons, List.lookup_cons] at h
    cases hb : x == y with
    | true =>
      rw [hb] at h
      cases h
      have : x = y := by simpa using hb
      subst this
      exact ⟨v, by simp, h1⟩
    | false =>
      rw [hb] at h
      obtain ⟨u, hu, hr⟩ := zip_rep h2 h
      exact ⟨u, List.mem_cons_of_mem _ hu, hr⟩
section
variable {W : Wo} {n : Nat} {ns : Names} {ρ : Rho} {μ : Mu}
theorem FnE.def_ {a : Addr} {o : Obj} {fd : FuncData} {body : List Stmt} {xs : List PySem.Str} {ds : List D} {d : D} (O : W.Ok) (ho : W.hs.get? a = some o) (hdata : o.data = .func fd) (hcd : W.hs.CodeRec fd.code fd.qualname)
    (hbody : fd.body = .stmts body) (hbind : ∀ vs, vs.length = xs.length → bindArgs fd ⟨vs, []⟩ = pure (xs.zip vs)) (hlen : ds.length = xs.length) (hclo : fd.closure = []) (hg : fd.globals = mainGlobals) (hb : fd.builtins = builtinsNs)
    (hnd : xs.Nodup) (hkinds : ∀ x ∈ xs, fd.scope.names.lookup x = some .local ∨ fd.scope.names.lookup x = some .cell) (hfree : ∀ p ∈ fd.scope.names, p.2 ≠ NameKind.free)
    (hco : fd.scope.isCoroutine = false) (hgen : fd.scope.isGenerator = false) (hk : fd.scope.kind = .function)
    (hT : TriSS W n fd.scope.names (xs.zip ds) none body (.ret d)) : FnE W n (.ref a) ds d := fun A g s E vs R G r => by
  have k₀ : ∀ b o, W.hs.get? b = some o → s.heap.get? b = some o := fun b o q => G.sub _ _ (G.stat _ _ q)
  have hlv : vs.length = xs.length := r.length.trans hlen
  have hkind : ∀ x ∈ xs.zip vs, fd.scope.names.lookup x.1 = some .local ∨ (fd.scope.names.lookup x.1 = some .cell ∧ ((cellsFrom (s.heap.objs.size + 1) fd.scope.names []).lookup x.1).isSome = true) := fun x hx => by
    have hx1 : x.1 ∈ xs := (List.of_mem_zip hx).1
    rcases hkinds x.1 hx1 with h | h
    · exact .inl h
    · refine .inr ⟨h, ?_⟩
      obtain ⟨c, hc⟩ := @cellsFrom_has x.1 fd.scope.names (s.heap.objs.size + 1) [] (mem_of_lookup h)
      obtain ⟨c', hc'⟩ := lookup_some_of_mem hc
      rw [hc']; rfl
  have hdep := R.depth
  refine wpAny_call (codeAny_call_cells (R := fun r s' => match r with | .ok (.ret v) => Res g s d v s' | .ok _ => False | .error e => E e s') (by have : recursionLimit = 1000 := rfl; lia) (k₀ _ _ ho) hdata (O.lim.keeps k₀) (hcd.keeps k₀) hbody (hbind vs hlv) hclo hkind (fun s₁ x => ?_) hco hgen hk)
  have hnn : ((xs.zip vs).map (·.1)).Nodup := by rw [List.map_fst_zip (by lia)]; exact hnd
  have keep := x.toInCall.keep
  have hLf : s.heap.get? (callEnvC fd s.heap.objs.size a).locals = none := Heap.get?_none_of_le x.toInCall.fresh
  have hcf : ∀ y c, (callEnvC fd s.heap.objs.size a).cells.lookup y = some c → s.heap.get? c = none := fun y c h => Heap.get?_none_of_le (Nat.le_of_lt (Nat.lt_of_le_of_lt x.toInCall.fresh (x.above y c (mem_of_lookup h))))
  have st : Step g s g s₁ := by
    obtain ⟨h', tk, e⟩ := x.toInCall.same
    subst e
    exact Step.keeps G keep
  have hkof : ∀ y, (callEnvC fd s.heap.objs.size a).kindOf y = fd.scope.names.lookup y := fun y => rfl
  have nfree : ∀ y, fd.scope.names.lookup y ≠ some .free := fun y h => hfree _ (mem_of_lookup h) rfl
  have cx : Cx W n (A.deeper (callEnvC fd s.heap.objs.size a)) (callEnvC fd s.heap.objs.size a) fd.scope.names (xs.zip ds) g s₁ := by
    refine ⟨R.deeper, st.good G, rfl, hk, hg, hb, G.fresh hLf, fun y hy => ?_, fun y c hy => G.fresh (hcf y c hy), fun y c hy => ⟨_, x.cell y c hy⟩, fun y z c hy hz => name_of_addr x.apart (mem_of_lookup hy) (mem_of_lookup hz), ⟨_, x.toInCall.ns, fun y e he hy => ?_⟩, fun y e he hy => ?_⟩
    · rcases hy with hy | hy
      · obtain ⟨c, hc⟩ := @cellsFrom_has y fd.scope.names (s.heap.objs.size + 1) [] (mem_of_lookup hy)
        obtain ⟨c', hc'⟩ := lookup_some_of_mem hc
        exact ⟨c', _, hc', x.cell y c' hc'⟩
      · exact absurd hy (nfree y)
    · obtain ⟨v, hv, hr⟩ := zip_rep r he
      exact ⟨v, bindL_has ((hkof y).trans hy) hnn hv, hr⟩
    · rcases hy with hy | hy
      · obtain ⟨c, hc⟩ := @cellsFrom_has y fd.scope.names (s.heap.objs.size + 1) [] (mem_of_lookup hy)
        obtain ⟨c', hc'⟩ := lookup_some_of_mem hc
        obtain ⟨v, hv, hr⟩ := zip_rep r he
        refine ⟨c', v, hc', ?_, hr⟩
        have := x.cell y c' hc'
        rw [bindC_has ((hkof y).trans hy) hnn hv] at this
        exact this
      · exact absurd hy (nfree y)
  refine hT _ _ g s [] g s₁ _ _ ⟨cx, st, hLf, hcf, fun _ _ e => (by cases e), by simp, fun _ _ _ h => by simp at h, fun _ h => by simp at h⟩ fun fl g' s' sf ⟨v, e, rr, f'⟩ => ?_
  subst e
  exact ⟨g', f'.st, rr⟩
end
end Mine
end
section
namespace Mine
section
variable {W : Wo} {n : Nat} {ns : Names} {ρ : Rho} {μ : Mu}
structure OwnAt (env : Env) (ns : Names) (s₀ : Shared) (F : List Addr) (g : View) (s : Shared) (y : PySem.Str) (L : Addr) (xs : List D) : Prop where
  kind : ns.lookup y = some .local
  at_ : ∃ m, s.heap.Ns env.locals m ∧ m y = some (.ref L)
  acc : AccAt g s L xs
  new : s₀.heap.get? L = none
  offF : L ∉ F
theorem Fra.ownAt {A env g₀ s₀ F g s y xs} (f : Fra W n A env ns ρ (some (y, xs)) g₀ s₀ F g s) : ρ.lookup y = none ∧ ∃ L, OwnAt env ns s₀ F g s y L xs := by
  obtain ⟨h1, h2, L, m, h3, h4, h5, h6, h7⟩ := f.own y xs rfl
  exact ⟨h2, L, h1, ⟨m, h3, h4⟩, h5, h6, h7⟩
theorem OwnAt.step {env s₀ F g s y L xs g' s'} (o : OwnAt env ns s₀ F g s y L xs) (a : Step g s g' s') : OwnAt env ns s₀ F g' s' y L xs :=
  ⟨o.kind, let ⟨m, h1, h2⟩ := o.at_; ⟨m, h1.keeps a.keep, h2⟩, o.acc.stepX (a.toX (X := fun _ => False)) fun h => h, o.new, o.offF⟩
theorem OwnAt.name {A env s₀ F g s y L xs} {E : Value → Shared → Prop} {p : Pos} {Q : Value → Shared → Prop} (o : OwnAt env ns s₀ F g s y L xs) (c : Cx W n A env ns ρ g s) (hd : (y == ("__debug__" : PySem.Str)) = false) (h : Q (.ref L) s) : wpAny W.M A (eval (.Name y p) env) Q E s := by
  obtain ⟨m, h1, h2⟩ := o.at_
  exact wpAny_Name (wpAny_loadName_local c.en.kind ((c.en.kindOf y).trans o.kind) h1 h2 h) hd
theorem Fra.noown {A env g₀ s₀ F g s} (f : Fra W n A env ns ρ μ g₀ s₀ F g s) : Fra W n A env ns ρ none g₀ s₀ F g s := { f with own := fun _ _ e => (by cases e) }
theorem Fra.again {A env g₀ s₀ F g s y L xs} (f : Fra W n A env ns ρ none g₀ s₀ F g s) (hy : ρ.lookup y = none) (o : OwnAt env ns s₀ F g s y L xs) : Fra W n A env ns ρ (some (y, xs)) g₀ s₀ F g s := by
  obtain ⟨m, h1, h2⟩ := o.at_
  exact f.take o.kind hy h1 h2 o.acc o.new o.offF
theorem Fra.write {A env g₀ s₀ F g s y L xs ys' xs'} {h' : Heap} {tk : Nat} (f : Fra W n A env ns ρ none g₀ s₀ F g s) (hy : ρ.lookup y = none) (o : OwnAt env ns s₀ F g s y L xs) (hs : Heap.SameBut L s.heap h') (hp : h'.PlainList L ys') (hr : RepL g ys'.toList xs') :
    Fra W n A env ns ρ (some (y, xs')) g₀ s₀ F g { s with heap := h', toks := tk } ∧ SafeF F g s g { s with heap := h', toks := tk } := by
  obtain ⟨m, h1, h2⟩ := o.at_
  obtain ⟨_, _, _, hLn⟩ := id o.acc
  have lw : ∀ b ∈ [L], g b = none := fun b hb => List.mem_singleton.mp hb ▸ hLn
  have kk : ∀ b o, b ∉ [L] → s.heap.get? b = some o → h'.get? b = some o := fun b o hb e => (hs.2 b fun e' => hb (by simp [e'])).trans e
  have hLl : env.locals ∉ [L] := by simpa using (o.acc.neL h1).symm
  have hLc : ∀ x a, env.cells.lookup x = some a → a ∉ [L] := fun x a hx => by
    obtain ⟨v, hv⟩ := f.cx.en.isC x a hx
    simpa using (o.acc.neC hv).symm
  have wf : ∀ b ∈ [L], s₀.heap.get? b = none := fun b hb => List.mem_singleton.mp hb ▸ o.new
  have live' : ∀ b ∈ F, ∃ o, h'.get? b = some o := fun b hb => let ⟨q, hq⟩ := f.live b hb; ⟨q, kk b q (fun h => o.offF (by rw [List.mem_singleton] at h; exact h ▸ hb)) hq⟩
  refine ⟨{ cx := f.cx.but hLl hLc lw kk, st := Step.drop f.cx.good f.st wf lw kk, loc := f.loc, cel := f.cel, offL := f.offL, offC := f.offC, live := live', own := fun z zs e => ?_ }, ⟨fun _ _ e => e, fun b hb o' e => kk b o' (fun h => o.offF (by rw [List.mem_singleton] at h; exact h ▸ hb)) e, fun _ _ e => e⟩⟩
  cases e
  exact ⟨o.kind, hy, L, m, h1.at' fun o e => kk _ _ hLl e, h2, ⟨ys', hp, hr, hLn⟩, o.new, o.offF⟩
theorem TriS.append {y : PySem.Str} {p ap pos spos : Pos} {e : Expr} {xs : List D} {d : D} (he : TriE W (n + 1) ns ρ e d) (hz : xs.length ≤ sizeLine) (hd : (y == ("__debug__" : PySem.Str)) = false)
    (hs : ∀ env, starEach [e] env = [(false, eval e env)] := by intro _; rfl) (hb : ∀ env, attributeBase (.Name y p) "append" env (eval (.Name y p) env) = eval (.Name y p) env := by intro _; rfl) (hline : (ap.endLine == pos.line) = true := by rfl) :
    TriS W (n + 1) ns ρ (some (y, xs)) (.Expr (.Call (.Attribute (.Name y p) "append" ap) [e] [] pos) spos) (.next ρ (some (y, xs ++ [d]))) := fun A env g₀ s₀ F g s Q E f hq => by
  obtain ⟨hy, L, o⟩ := f.ownAt
  have f := f.noown
  refine wpAny_Expr ?_ (not_inter f.cx.envIs) (by rfl)
  rw [arm_eval_Call, hb]
  refine wpAny_bind (o.name f.cx hd (wpAny_bind (wpAny_standAt ?_)))
  have hform : methodCallForm ([e].length + ([] : List Keyword).length) (backTo pos (starEach [e] env)) (backToKw pos (keywordEach [] env)) = true := by
    rw [hs env]; rfl
  have hpos : methodCallPos true (.Name y p) env ap pos = pure pos := by unfold methodCallPos; simp [hline]
  unfold methodCall
  rw [hform]
  obtain ⟨zs, ⟨k, hp⟩, hr, hn⟩ := id o.acc
  refine wpAny_bind (wpAny_holding (getMethod_builtin (s := s) ⟨_, hp, rfl⟩ PySem.F.plainAttrs_list slot_list_append (by show builtinType _ = _; rw [builtinType_eq_fast]; kernel_rfl) (fun _ e => by cases e; exact ⟨_, hp, rfl⟩) ?_))
  refine wpAny_bind (wpAny_of_eq hpos ?_)
  refine callWith_of (P := fun h => ∀ b o, W.hs.get? b = some o → h.get? b = some o) (by rw [backTo_any, hs env]; rfl) KeepOk.builtin ?_
  refine wp_mono' (evalArgsR f.cx (TriL.cons he TriL.nil (by intro env; rw [hs env]; rfl)) (by rw [hs env]; rfl)) fun a s₁ ⟨ea, g₁, st₁, r₁⟩ => ?_
  have f₁ := f.step st₁
  have G := f₁.cx.good
  refine ⟨fun b o q => G.sub _ _ (G.stat _ _ q), ?_⟩
  obtain ⟨v, r', e1, r2, r3⟩ := repL_cons.mp r₁
  rw [repL_nil.mp r3] at e1
  rw [ea, e1]
  have o₁ := o.step st₁
  obtain ⟨zs₁, hp₁, hr₁, hn₁⟩ := id o₁.acc
  refine wpAny_list_append_plain (hsz := by rw [← Array.length_toList, hr₁.length]; exact hz) hp₁ fun h' hp' hs' => ?_
  obtain ⟨f₂, sf₂⟩ := f₁.write hy o₁ hs' hp' (xs' := xs ++ [d]) (tk := s₁.toks) (by rw [Array.toList_push]; exact hr₁.append (RepL.cons r2 RepL.nil))
  exact hq _ g₁ _ ((f.safe st₁).trans sf₂) ⟨rfl, f₂⟩
theorem mapSeq_plain {f : Array Value → Array Value} {ys : Array Value} {k : Nat} : ∃ k', Obj.mapSeq f { cls := .type "list", data := .seq ys k } = { cls := .type "list", data := .seq (f ys) k' } := ⟨_, rfl⟩
noncomputable def eqInt : D → D → Option Bool
  | .int a, .int b => some (a == b)
  | _, _ => none
theorem inplaceList {A : Around} {E : Value → Shared → Prop} {s : Shared} {L b : Addr} {ys zs : Array Value} {k l : Nat} {Q : Value → Shared → Prop}
    (hp : s.heap.get? L = some { cls := .type "list", data := .seq ys k }) (hb : s.heap.get? b = some { cls := .type "list", data := .seq zs l }) (hz : ys.size + zs.size ≤ sizeLine)
    (h : ∀ h', h'.PlainList L (ys ++ zs) → Heap.SameBut L s.heap h' → Q (.ref L) { s with heap := h' }) : wpAny W.M A (inplaceOp .Add (.ref L) (.ref b)) Q E s := by
  have hz1 : ys.size ≤ sizeLine := by lia
  have hT : s.TypeIs (.ref L) "list" := ⟨_, hp, rfl⟩
  have hT2 : s.TypeIs (.ref b) "list" := ⟨_, hb, rfl⟩
  unfold inplaceOp
  refine wpAny_holding ?_
  have hlk : typeLookup (.type "list") (dunderI "add") = pure (some (.builtin "list.__iadd__")) := F.slot_list_iadd.lookup
  have hseq : isSeqSlot (some (.builtin "list.__iadd__")) = true := by decide +kernel
  have hfi : fillsInplaceSlot (.type "list") "add" (Operator.Add == .Add) = pure false := by
    unfold fillsInplaceSlot
    show (typeLookup (.type "list") (dunderI "add") >>= fun fi => pure (fi.isSome && !isSeqSlot fi)) = pure false
    rw [hlk, pure_bind, hseq]; rfl
  have hsi : seqSlot? (.type "list") (dunderI "add") = pure (some (.builtin "list.__iadd__")) := by
    unfold seqSlot?
    rw [hlk, pure_bind, hseq]; rfl
  refine wpAny_bind (wpAny_typeOf hT (wpAny_bind (wpAny_of_eq hfi ?_)))
  show wpAny _ A (if false = true then _ else _) Q E s
  rw [if_neg Bool.false_ne_true]
  refine wpAny_bind (wpAny_binaryOp1_none (nm := "add") hT hT2 noFill_list_add ?_)
  refine wpAny_bind (wpAny_of_eq hsi ?_)
  refine wpAny_bind (wpAny_rule ?_)
  refine call_meets F.slot_list_iadd hT F.entry_list_iadd (F.args_list_iadd_2 _ _) (PySem.AutoSeq1.list___iadd___list_list_0 L ys k b zs l ?_ hz1 (by lia)) ⟨hp, hb, ?_⟩
  · simp [Builtin.List.listTooLong, sizeLine] at hz ⊢
    lia
  · obtain ⟨k', e⟩ := mapSeq_plain (f := fun x => x ++ zs) (ys := ys) (k := k)
    refine h _ ⟨k', ?_⟩ (Heap.SameBut.update ..)
    rw [Heap.get?_update_self _ hp (by rw [e]; rfl), e]
theorem TriS.iadd {y : PySem.Str} {p pos : Pos} {e : Expr} {xs zs : List D} (he : TriE W (n + 1) ns ρ e (.list zs)) (hz : xs.length + zs.length ≤ sizeLine) :
    TriS W (n + 1) ns ρ (some (y, xs)) (.AugAssign (.Name y p) .Add e pos) (.next (dropN y ρ) (some (y, xs ++ zs))) := fun A env g₀ s₀ F g s Q E f hq => by
  obtain ⟨hy, L, o⟩ := f.ownAt
  have f := f.noown
  obtain ⟨m, h1, h2⟩ := o.at_
  refine wpAny_AugAssign_Name (wpAny_loadName_local f.cx.en.kind ((f.cx.en.kindOf y).trans o.kind) h1 h2 ?_)
  refine wp_mono' (he A env g s E f.cx) fun v s₁ ⟨g₁, st₁, r₁⟩ => ?_
  have f₁ := f.step st₁
  have o₁ := o.step st₁
  obtain ⟨b, us, l, rfl, hb, hr⟩ := rep_list.mp r₁
  obtain ⟨ys, ⟨k, hp⟩, hr₁, hn₁⟩ := id o₁.acc
  have e1 := hr.length
  have e2 := hr₁.length
  rw [Array.length_toList] at e1 e2
  refine inplaceList (k := k) (l := l) hp (f₁.cx.good.sub _ _ hb) (by lia) fun h' hp' hs' => ?_
  obtain ⟨f₂, sf₂⟩ := f₁.write hy o₁ hs' hp' (xs' := xs ++ zs) (tk := s₁.toks) (by rw [Array.toList_append]; exact hr₁.append hr)
  obtain ⟨_, L₂, o₂⟩ := f₂.ownAt
  have hL : L₂ = L := by
    obtain ⟨m₁, k1, k2⟩ := o₁.at_
    obtain ⟨m₂, k3, k4⟩ := o₂.at_
    have hne := o₁.acc.neL k1
    have : m₂ = m₁ := Ns.ext k3 (k1.at' fun q e => (hs'.2 _ hne.symm).trans e)
    rw [this, k2] at k4
    exact (Value.ref.inj (Option.some.inj k4)).symm
  subst hL
  refine storeNew f₂.noown o₂.kind o₂.acc o₂.new o₂.offF fun s₃ sf₃ f₃ => ?_
  exact hq _ g₁ s₃ (((f.safe st₁).trans sf₂).trans sf₃) ⟨rfl, f₃⟩
theorem setItemPlain {A : Around} {E : Value → Shared → Prop} {s : Shared} {l : Addr} {items : Array Value} {k : Int} {t : Tok} {v : Value} {Q : Unit → Shared → Prop} (hl : s.heap.PlainList l items)
    (h0 : 0 ≤ k) (hfit : k < 2 ^ 63) (hn : k < items.size)
    (hQ : ∀ h', h'.PlainList l (items.setIfInBounds k.toNat v) → Heap.SameBut l s.heap h' → Q () { s with heap := h' }) :
    wpAny W.M A (setItem (.ref l) (.int k t) v) Q E s := by
  obtain ⟨ne, ho⟩ := id hl
  have hl' := hl.isList
  unfold setItem
  try with_reducible refine wpAny_holding ?_
  first | refine wpAny_bind (wpAny_pure ?_) | skip
  refine wpAny_bind (wpAny_sequenceKey hl'.typeIs (by decide) ?_)
  refine wpAny_bind (wpAny_callSpecial?_slot (name := Str.ofString "__setitem__") hl'.typeIs slot_list_setitem
    (wpAny_call_entry slot_list_setitem hl'.typeIs entry_list_setitem ?_ (args_list_setitem _ _ _)))
  show wpAny _ _ (Builtin.List.listSubscript? (.int k t) >>= _) _ _ s
  refine wpAny_bind (wpAny_listSubscript_int (fitsIndex_of h0 hfit) ?_)
  clear hfit
  obtain ⟨j, rfl⟩ := Int.eq_ofNat_of_zero_le h0
  have hj : j < items.size := by lia
  have hx' : items[j]? = some items[j] := Array.getElem?_eq_getElem hj
  show wpAny _ _ ((seqItemAt l j >>= fun r => pure (r.map (j, ·))) >>= _) _ _ s
  refine wpAny_bind (wpAny_bind (wpAny_seqItemAt ho rfl (wpAny_pure ?_)))
  rw [hx']
  show wpAny _ _ (setSeqItemAt l j v >>= _) _ _ s
  obtain ⟨k', e⟩ := mapSeq_plain (f := (·.setIfInBounds j v)) (ys := items) (k := ne)
  have hfin : (s.heap.update l (Obj.mapSeq (·.setIfInBounds j v))).PlainList l (items.setIfInBounds j v) := ⟨k', by rw [Heap.get?_update_self _ ho (by rw [e]; rfl), e]⟩
  refine wpAny_bind (wpAny_setSeqItemAt ho rfl ?_)
  first
    | exact wpAny_bind (wpAny_pure (wpAny_pure ⟨.none, rfl, wpAny_pure (hQ _ hfin (Heap.SameBut.update ..))⟩))
    | exact wpAny_pure ⟨.none, rfl, wpAny_pure (hQ _ hfin (Heap.SameBut.update ..))⟩
theorem repL_set {g : View} : ∀ {vs : List Value} {ds : List D} {i : Nat} {v : Value} {d : D}, RepL g vs ds → Rep g v d → RepL g (vs.set i v) (ds.set i d)
  | vs, [], i, v, d, h, _ => by rw [repL_nil.mp h]; simpa using RepL.nil
  | vs, e :: es, i, v, d, h, r => by
    obtain ⟨u, w, rfl, h1, h2⟩ := repL_cons.mp h
    cases i with
    | zero => exact RepL.cons r h2
    | succ i => exact RepL.cons h1 (repL_set h2 r)
theorem TriS.augItem {y : PySem.Str} {p spos pos : Pos} {op : Operator} {ie e : Expr} {xs : List D} {i : Int} {a b d : D} (hi : TriE W (n + 1) ns ρ ie (.int i)) (h0 : 0 ≤ i) (hl : i < xs.length) (hz : xs.length ≤ sizeLine) (ha : xs[i.toNat]? = some a) (he : TriE W (n + 1) ns ρ e b) (hd : (y == ("__debug__" : PySem.Str)) = false)
    (hop : ∀ A g s (E : Value → Shared → Prop) u v, Room (n + 1) A → Good W.hs g s → Rep g u a → Rep g v b → wpAny W.M A (inplaceOp op u v) (Res g s d) E s)
    (hns : ∀ ov iv new, augStore ie ov iv new = (do holding [new, ov, iv] (setItem ov iv new); release [new, ov, iv] []; pure .next) := by intro _ _ _; rfl) :
    TriS W (n + 1) ns ρ (some (y, xs)) (.AugAssign (.Subscript (.Name y p) ie spos) op e pos) (.next ρ (some (y, xs.set i.toNat d))) := fun A env g₀ s₀ F g s Q E f hq => by
  obtain ⟨hy, L, o⟩ := f.ownAt
  have f := f.noown
  have ex : exec (.AugAssign (.Subscript (.Name y p) ie spos) op e pos) env = (do
      standAt pos
      let ov ← eval (.Name y p) env
      let iv ← holding [ov] (eval ie env)
      let new ← holding [ov, iv] do
        standAt spos
        let old ← getItem ov iv
        let v ← holding [old] (eval e env)
        standAt pos
        operate [old, v] (inplaceOp op old v)
      standAt spos
      augStore ie ov iv new) := rfl
  rw [ex]
  refine wpAny_bind (wpAny_standAt (wpAny_bind (o.name f.cx hd ?_)))
  refine wpAny_bind (wpAny_holding (wp_mono' (hi A env g s E f.cx) fun iv s₁ ⟨g₁, st₁, r₁⟩ => ?_))
  obtain ⟨t, rfl⟩ := rep_int.mp r₁
  have f₁ := f.step st₁
  have o₁ := o.step st₁
  obtain ⟨ys, hp, hr, hn⟩ := id o₁.acc
  obtain ⟨u, hu, hru⟩ := hr.get ha
  rw [Array.getElem?_toList] at hu
  have hsz : ys.size = xs.length := by rw [← hr.length, Array.length_toList]
  have hsl : sizeLine = 2 ^ 24 := rfl
  refine wpAny_bind (wpAny_holding (wpAny_bind (wpAny_standAt (wpAny_bind (wpAny_getItem_list hp.isList h0 (by lia) hu ?_)))))
  refine wpAny_bind (wpAny_holding (wp_mono' (he A env g₁ s₁ E f₁.cx) fun v s₂ ⟨g₂, st₂, r₂⟩ => ?_))
  have f₂ := f₁.step st₂
  refine wpAny_bind (wpAny_standAt ?_)
  refine wpAny_operateT (wp_mono' (hop A g₂ s₂ E u v f.cx.room f₂.cx.good (hru.mono st₂.view) r₂) fun w s₃ ⟨g₃, st₃, r₃⟩ => ?_)
  have f₃ := f₂.step st₃
  have o₃ := (o₁.step st₂).step st₃
  obtain ⟨ys₃, hp₃, hr₃, hn₃⟩ := id o₃.acc
  have hsz₃ : ys₃.size = xs.length := by rw [← hr₃.length, Array.length_toList]
  rw [hns]
  refine wpAny_bind (wpAny_standAt (wpAny_bind (wpAny_holding (setItemPlain hp₃ h0 (by lia) (by lia) fun h' hp' hs' => ?_))))
  obtain ⟨f₄, sf₄⟩ := f₃.write hy o₃ hs' hp' (xs' := xs.set i.toNat d) (tk := s₃.toks) (by rw [Array.toList_setIfInBounds]; exact repL_set hr₃ r₃)
  refine wpAny_bind (wpAny_release ?_)
  exact wpAny_pure (hq _ g₃ _ ((((f.safe st₁).trans (f₁.safe st₂)).trans (f₂.safe st₃)).trans sf₄) ⟨rfl, f₄⟩)
end
end Mine
end
section
namespace Mine
section
variable {W : Wo} {n : Nat} {ns : Names} {ρ : Rho} {μ : Mu}
noncomputable def AndB (W : Wo) (n : Nat) (ns : Names) (ρ : Rho) (op : BoolOp) (es : List Expr) (b : Bool) : Prop :=
  ∀ A env g s (E : Value → Shared → Prop), Cx W n A env ns ρ g s → wpAny W.M A (allTrue op es env) (ResB g s b) E s
theorem TriB.boolOp {op : BoolOp} {es : List Expr} {pos : Pos} {b : Bool} (h : AndB W n ns ρ op es b) : TriB W n ns ρ (.BoolOp op es pos) b := fun A env g s E c => wpAny_isTrue_BoolOp (h A env g s E c)
theorem AndB.nil : AndB W n ns ρ .And [] true := fun A env g s E c => wpAny_allTrue_And_nil ⟨rfl, g, Step.refl c.good⟩
theorem OrB.nil : AndB W n ns ρ .Or [] false := fun A env g s E c => wpAny_allTrue_Or_nil ⟨rfl, g, Step.refl c.good⟩
theorem AndB.cons {e : Expr} {es : List Expr} {a b : Bool} (h : TriB W n ns ρ e a) (t : a = true → AndB W n ns ρ .And es b) : AndB W n ns ρ .And (e :: es) (a && b) := fun A env g s E c =>
  wpAny_allTrue_And_cons (wp_mono' (h A env g s E c) fun x s₁ ⟨hx, g₁, st₁⟩ => by
    subst hx
    cases x with
    | true => exact wp_mono' (t rfl A env g₁ s₁ E (c.step st₁)) fun y s₂ ⟨hy, g₂, st₂⟩ => ⟨by simp [hy], g₂, st₁.trans st₂⟩
    | false => exact ⟨rfl, g₁, st₁⟩)
theorem OrB.cons {e : Expr} {es : List Expr} {a b : Bool} (h : TriB W n ns ρ e a) (t : a = false → AndB W n ns ρ .Or es b) : AndB W n ns ρ .Or (e :: es) (a || b) := fun A env g s E c =>
  wpAny_allTrue_Or_cons (wp_mono' (h A env g s E c) fun x s₁ ⟨hx, g₁, st₁⟩ => by
    subst hx
    cases x with
    | false => exact wp_mono' (t rfl A env g₁ s₁ E (c.step st₁)) fun y s₂ ⟨hy, g₂, st₂⟩ => ⟨by simp [hy], g₂, st₁.trans st₂⟩
    | true => exact ⟨rfl, g₁, st₁⟩)
theorem TriE.and2 {x y : Expr} {pos : Pos} {a b : D} {t : Bool} (hx : TriE W (n + 1) ns ρ x a) (ht : TruE W a t) (hy : t = true → TriE W (n + 1) ns ρ y b) : TriE W (n + 1) ns ρ (.BoolOp .And [x, y] pos) (if t then b else a) := fun A env g s E c =>
  BoolOp_and (wp_mono' (hx A env g s E c) fun u s₁ ⟨g₁, st₁, r₁⟩ => wp_mono' (ht n A g₁ s₁ E u c.room (c.step st₁).good r₁) fun q s₂ ⟨hq, g₂, st₂⟩ => by
    subst hq
    cases q with
    | true => exact BoolOp_one (wp_mono' (hy rfl A env g₂ s₂ E ((c.step st₁).step st₂)) fun v s₃ ⟨g₃, st₃, r₃⟩ => ⟨g₃, (st₁.trans st₂).trans st₃, r₃⟩)
    | false => exact ⟨g₂, st₁.trans st₂, r₁.mono st₂.view⟩)
theorem TriE.or2 {x y : Expr} {pos : Pos} {a b : D} {t : Bool} (hx : TriE W (n + 1) ns ρ x a) (ht : TruE W a t) (hy : t = false → TriE W (n + 1) ns ρ y b) : TriE W (n + 1) ns ρ (.BoolOp .Or [x, y] pos) (if t then a else b) := fun A env g s E c =>
  BoolOp_or (wp_mono' (hx A env g s E c) fun u s₁ ⟨g₁, st₁, r₁⟩ => wp_mono' (ht n A g₁ s₁ E u c.room (c.step st₁).good r₁) fun q s₂ ⟨hq, g₂, st₂⟩ => by
    subst hq
    cases q with
    | false => exact BoolOp_one (wp_mono' (hy rfl A env g₂ s₂ E ((c.step st₁).step st₂)) fun v s₃ ⟨g₃, st₃, r₃⟩ => ⟨g₃, (st₁.trans st₂).trans st₃, r₃⟩)
    | true => exact ⟨g₂, st₁.trans st₂, r₁.mono st₂.view⟩)
theorem TriE.neg {i : Int} {k p pos} : TriE W (n + 1) ns ρ (.UnaryOp .USub (.Constant (.int i) k p) pos) (.int (-i)) := by
  refine TriE.un TriE.int ?_
  intro n A g s E u R G r
  obtain ⟨t, rfl⟩ := rep_int.mp r
  exact PyProof.Rows.neg_int ⟨g, Step.toks G, rep_int.mpr ⟨_, rfl⟩⟩
theorem TriE.cmp2 {op₁ op₂ : CmpOp} {l m r : Expr} {pos : Pos} {a b c : D} {d₁ d₂ : Bool} (hl : TriE W (n + 1) ns ρ l a) (hm : TriE W (n + 1) ns ρ m b) (hr : TriE W (n + 1) ns ρ r c) (h₁ : CmpE W op₁ a b d₁) (h₂ : CmpE W op₂ b c d₂)
    (hk : lastMarks [op₁, op₂] [m, r] = false := by with_unfolding_all rfl) : TriB W (n + 1) ns ρ (.Compare l [op₁, op₂] [m, r] pos) (d₁ && d₂) := fun A env g s E cx => by
  refine isTrue_chain (wp_mono' (hl A env g s E cx) fun u s₁ ⟨g₁, st₁, r₁⟩ => ?_) hk
  show wpAny _ A (do
    let rv ← holding [u] (eval m env)
    standAt pos
    let c ← holding [u, rv] (compareOp op₁ u rv)
    release [u, rv] [c]
    if ← holding [c, rv] (truthy c) then testChain pos rv [op₂] [eval r env] else pure false) _ E s₁
  have c₁ := cx.step st₁
  refine wpAny_bind (wpAny_holding (wp_mono' (hm A env g₁ s₁ E c₁) fun v s₂ ⟨g₂, st₂, r₂⟩ => ?_))
  have c₂ := c₁.step st₂
  refine wpAny_bind (wpAny_standAt (wpAny_bind (wpAny_holding (wp_mono' (h₁ n A g₂ s₂ E u v cx.room c₂.good (r₁.mono st₂.view) r₂) fun w s₃ ⟨g₃, st₃, r₃⟩ => ?_))))
  have c₃ := c₂.step st₃
  rw [rep_bool.mp r₃]
  refine wpAny_bind (wpAny_release (wpAny_bind (wpAny_holding (wpAny_truthy_bool ?_))))
  cases d₁ with
  | false => exact wpAny_pure ⟨rfl, g₃, (st₁.trans st₂).trans st₃⟩
  | true =>
    show wpAny _ A (do
      let rv ← holding [v] (eval r env)
      standAt pos
      let c ← operate [v, rv] (compareOp op₂ v rv)
      holding [c] (truthy c)) _ E s₃
    refine wpAny_bind (wpAny_holding (wp_mono' (hr A env g₃ s₃ E c₃) fun x s₄ ⟨g₄, st₄, r₄⟩ => ?_))
    have c₄ := c₃.step st₄
    refine wpAny_bind (wpAny_standAt (wpAny_bind (wpAny_operateT (wp_mono' (h₂ n A g₄ s₄ E v x cx.room c₄.good ((r₂.mono st₃.view).mono st₄.view) r₄) fun y s₅ ⟨g₅, st₅, r₅⟩ => ?_))))
    rw [rep_bool.mp r₅]
    exact wpAny_holding (wpAny_truthy_bool ⟨rfl, g₅, (((st₁.trans st₂).trans st₃).trans st₄).trans st₅⟩)
theorem Fra.butNs {A env g₀ s₀ F g s} {C : Addr} {m} {h' : Heap} {tk : Nat} (f : Fra W n A env ns ρ μ g₀ s₀ F g s) (hm : s.heap.Ns C m) (hl : C ≠ env.locals) (hc : s₀.heap.get? C = none) (hF : C ∉ F) (hg : g C = none) (hs : Heap.SameBut C s.heap h') :
    Fra W n A env ns ρ μ g₀ s₀ F g { s with heap := h', toks := tk } ∧ SafeF F g s g { s with heap := h', toks := tk } := by
  have lw : ∀ b ∈ [C], g b = none := fun b hb => List.mem_singleton.mp hb ▸ hg
  have kk : ∀ b o, b ∉ [C] → s.heap.get? b = some o → h'.get? b = some o := fun b o hb e => (hs.2 b fun e' => hb (by simp [e'])).trans e
  have hLl : env.locals ∉ [C] := by simpa using hl.symm
  have hLc : ∀ x a, env.cells.lookup x = some a → a ∉ [C] := fun x a hx => by
    obtain ⟨v, hv⟩ := f.cx.en.isC x a hx
    simpa using (ns_ne_cell hm hv).symm
  have wf : ∀ b ∈ [C], s₀.heap.get? b = none := fun b hb => List.mem_singleton.mp hb ▸ hc
  have nF : ∀ b ∈ F, b ∉ [C] := fun b hb h => hF (by rw [List.mem_singleton] at h; exact h ▸ hb)
  refine ⟨{ cx := f.cx.but hLl hLc lw kk, st := Step.drop f.cx.good f.st wf lw kk, loc := f.loc, cel := f.cel, offL := f.offL, offC := f.offC, live := fun b hb => let ⟨q, hq⟩ := f.live b hb; ⟨q, kk b q (nF b hb) hq⟩, own := fun z zs e => ?_ }, ⟨fun _ _ e => e, fun b hb o' e => kk b o' (nF b hb) e, fun _ _ e => e⟩⟩
  obtain ⟨h1, h2, L, m', h3, h4, h5, h6, h7⟩ := f.own z zs e
  have hLC : L ∉ [C] := by simpa using h5.neL hm
  obtain ⟨ys, ⟨k, hp⟩, hr, hn⟩ := h5
  exact ⟨h1, h2, L, m', h3.at' fun o e => kk _ _ hLl e, h4, ⟨ys, ⟨k, kk _ _ hLC hp⟩, hr, hn⟩, h6, h7⟩
theorem TriS.assignComp {y : PySem.Str} {py : Pos} {elt tgt iter : Expr} {ifs : List Expr} {rest : List Comprehension} {scope : Scope} {pos spos : Pos} {T : List PySem.Str} {xs outs : List D}
    (hsw : ∀ env, EnvIs ns env → swapsWith (.ListComp elt (⟨tgt, iter, ifs, 0⟩ :: rest) scope pos) (some (.Name y py)) spos.line env = pure true) (hk : ns.lookup y = some .local)
    (hsc : CompScope ns scope T) (hI : TriI W n ns ρ tgt iter xs)
    (hC : CompOk W n (relN ns scope.names) T (capt scope.names ρ) tgt (.ListComp elt (⟨tgt, iter, ifs, 0⟩ :: rest) scope pos) 0 xs outs) (hz : outs.length ≤ sizeLine)
    (hs : ∀ env x, foldedSetIterable iter env x = pure x := by intro _ _; rfl) :
    TriS W n ns ρ μ (.Assign [.Name y py] (.ListComp elt (⟨tgt, iter, ifs, 0⟩ :: rest) scope pos) spos) (.next ((y, .list outs) :: ρ) (lose μ y)) := fun A env g₀ s₀ F g s Q E f hq => by
  rw [exec_Assign_Name_used _ _ _ _ (hsw env f.cx.envIs)]
  refine wpAny_bind (wpAny_standAt (wpAny_bind ?_))
  show wpAny _ A (do let _ ← comprehension (.ListComp elt (⟨tgt, iter, ifs, 0⟩ :: rest) scope pos) scope env _ (newList []) false (eval iter env) (some (PySem.assign (.Name y py) env))) _ _ s
  refine wpAny_bind (wp_mono' (wpAny_comprehension_free (use := some (PySem.assign (.Name y py) env)) (Q := fun _ s' => Q .next s') rfl (hs env) (hsc.closure f.cx) hsc.kind (fun x hx hl => by rw [hsc.uniq x hx, hl])
    (compBlock (RR := fun acc C => compPost W.M A E (some (PySem.assign (.Name y py) env)) (fun _ s' => Q .next s') acc C) f.cx hsc hI hC hz ?_)) fun _ s' hq' => wpAny_pure (wpAny_pure hq'))
  intro L C g' s' hL hCf hCn hne st acc ⟨m, hm⟩
  show wpAny _ A (PySem.assign (.Name y py) env (.ref L)) _ _ _
  obtain ⟨ys, ⟨k, hp⟩, hr, hn⟩ := id acc
  have le : g'.le (g'.put L { cls := .type "list", data := .seq ys k }) := View.le_put hn
  have st' : Step g s (g'.put L { cls := .type "list", data := .seq ys k }) s' := ⟨fun b o e => le _ _ (st.view _ _ e), fun b o e => by
      by_cases hb : b = L
      · subst hb; exact .inr hL
      · rw [View.put_ne hb] at e; exact st.fresh _ _ e, fun b o e => by
      by_cases hb : b = L
      · subst hb; rw [View.put_self] at e; cases e; exact hp
      · rw [View.put_ne hb] at e; exact st.sub _ _ e, st.keep, st.rest⟩
  have f' := f.step st'
  have hCl : C ≠ env.locals := by
    rintro rfl
    obtain ⟨m', ⟨o', es, ep, ho, _⟩, _⟩ := f.cx.en.loc
    rw [hCf] at ho; cases ho
  refine wpAny_assign_Name (storeR (d := .list outs) f'.cx (rep_list.mpr ⟨L, ys, k, rfl, View.put_self, hr.mono le⟩) (.inl hk) fun s₂ st₂ k₂ c₂ => ?_)
  obtain ⟨f₂, sf₂⟩ := f'.bound (bs := [(y, .list outs)]) (μ' := lose μ y) (st₂.mono fun b hb => ⟨y, by simp, hb⟩) k₂ c₂ lose_ok
  have hm₂ : s₂.heap.Ns C m := hm.at' fun o e => st₂.keep _ _ (by rintro (⟨_, q⟩ | ⟨q, _⟩); exact hCl q; rw [hk] at q; cases q) e
  refine ⟨m, hm₂, fun h' hs' => ?_⟩
  have hCF : C ∉ F := fun h => by obtain ⟨o, ho⟩ := f.live C h; rw [hCf] at ho; cases ho
  have hC0 : s₀.heap.get? C = none := by
    cases q : s₀.heap.get? C with
    | none => rfl
    | some o => rw [f.st.keep _ _ q] at hCf; cases hCf
  obtain ⟨f₃, sf₃⟩ := f₂.butNs (tk := s₂.toks) hm₂ hCl hC0 hCF (by rw [View.put_ne hne.symm]; exact hCn) hs'
  exact hq _ _ _ (((f.safe st').trans sf₂).trans sf₃) ⟨rfl, f₃⟩
theorem TriS.assignTup {es : List Expr} {k : Nat} {e : Expr} {tp pos : Pos} {ds : List D} {bs : Rho} (h : TriE W n ns ρ e (.tup ds)) (hb : BindT ns (.Tuple es k tp) (.tup ds) bs)
    (hs : ∀ env, EnvIs ns env → swapsWithSole [.Tuple es k tp] e pos.line env = pure false) (hw : ∀ env, EnvIs ns env → swappedStores [.Tuple es k tp] e env = pure none) :
    TriS W n ns ρ none (.Assign [.Tuple es k tp] e pos) (.next (bs ++ ρ) none) := fun A env g₀ s₀ F g s Q E f hq => by
  refine Assign_Tuple (wp_mono' (h A env g s E f.cx) fun v s₁ ⟨g₁, st₁, r₁⟩ => ?_) (hs env f.cx.envIs) (hw env f.cx.envIs)
  refine assignR hb (f.step st₁).cx r₁ fun s₂ st₂ k₂ c₂ => ?_
  obtain ⟨f₂, sf₂⟩ := (f.step st₁).bound (μ' := none) st₂ k₂ c₂ (fun _ _ e => by cases e)
  exact hq _ g₁ s₂ ((f.safe st₁).trans sf₂) ⟨rfl, f₂⟩
theorem TriS.assignSwap2 {x y : PySem.Str} {px py : Pos} {k : Nat} {e : Expr} {tp pos : Pos} {a b : D} (h : TriE W n ns ρ e (.tup [a, b])) (hx : OwnK ns x) (hy : OwnK ns y)
    (hs : ∀ env, EnvIs ns env → swapsWithSole [.Tuple [.Name x px, .Name y py] k tp] e pos.line env = pure false) (hw : ∀ env, EnvIs ns env → swappedStores [.Tuple [.Name x px, .Name y py] k tp] e env = pure (some [x, y])) :
    TriS W n ns ρ none (.Assign [.Tuple [.Name x px, .Name y py] k tp] e pos) (.next ((x, a) :: (y, b) :: ρ) none) := fun A env g₀ s₀ F g s Q E f hq => by
  refine Assign_Tuple_swapped (names := [x, y]) (wp_mono' (h A env g s E f.cx) fun v s₁ ⟨g₁, st₁, r₁⟩ => ?_) (hs env f.cx.envIs) (hw env f.cx.envIs)
  obtain ⟨t, vs, q, rfl, h1, h2⟩ := rep_tup.mp r₁
  have f₁ := f.step st₁
  have e1 := h2.length
  rw [Array.length_toList] at e1
  have hn : [x, y].length = vs.size := by rw [e1]; rfl
  rw [hn]
  refine unpackItems_tuple (s := s₁) f.cx.room.handled ⟨_, f₁.cx.good.sub _ _ h1, rfl, _, rfl⟩ fun h' he => ?_
  have st₂ : Step g₁ s₁ g₁ { s₁ with heap := h', toks := s₁.toks } := Step.keeps f₁.cx.good fun b o e => he b o (Nat.ne_of_lt (Heap.lt_size e)) e
  have f₂ := f₁.step st₂
  obtain ⟨v1, r1, e2, k1, k2⟩ := repL_cons.mp h2
  obtain ⟨v2, r2, e3, k3, k4⟩ := repL_cons.mp k2
  rw [repL_nil.mp k4] at e3
  subst e3
  rw [e2]
  show wpAny _ A (do holding [v1] (bindName env y v2); assignInOrder [bindName env x] [v1]) _ E _
  refine wpAny_bind (wpAny_holding (wpAny_bindName (storeR f₂.cx k3 hy fun s₃ st₃ kn₃ c₃ => ?_)))
  obtain ⟨f₃, sf₃⟩ := f₂.bound (bs := [(y, b)]) (μ' := none) (st₃.mono fun b hb => ⟨y, by simp, hb⟩) kn₃ c₃ (fun _ _ e => by cases e)
  show wpAny _ A (do holding [] (bindName env x v1); assignInOrder [] []) _ E _
  refine wpAny_bind (wpAny_holding (wpAny_bindName (storeR f₃.cx k1 hx fun s₄ st₄ kn₄ c₄ => ?_)))
  obtain ⟨f₄, sf₄⟩ := f₃.bound (bs := [(x, a)]) (μ' := none) (st₄.mono fun b hb => ⟨x, by simp, hb⟩) kn₄ c₄ (fun _ _ e => by cases e)
  exact wpAny_pure (hq _ g₁ s₄ ((((f.safe st₁).trans (f₁.safe st₂)).trans sf₃).trans sf₄) ⟨rfl, f₄⟩)
end
end Mine
end
section
namespace Mine
theorem SubR.nil {ρ : Rho} : SubR [] ρ := fun _ _ h => by cases h
theorem SubR.cons {ρ r : Rho} {k : PySem.Str} {d : D} (h : ρ.lookup k = some d) (t : SubR r ρ) : SubR ((k, d) :: r) ρ := fun x e hx => by
  rw [List.lookup_cons] at hx
  cases hb : x == k with
  | true =>
    have : x = k := by simpa using hb
    subst this
    rw [hb] at hx; cases hx; exact h
  | false => rw [hb] at hx; exact t x e hx
theorem SubR.of : ∀ {ρ' ρ : Rho}, (ρ'.map fun p => ρ.lookup p.1) = ρ'.map (fun p => some p.2) → SubR ρ' ρ
  | [], _, _ => SubR.nil
  | (k, d) :: r, ρ, h => SubR.cons (List.cons.inj h).1 (SubR.of (List.cons.inj h).2)
theorem SubR.refl {ρ : Rho} : SubR ρ ρ := fun _ _ h => h
noncomputable def enumA {α : Type} (inj : α → D) (p : α × Nat) : D := .tup [.int p.2, inj p.1]
theorem enumL_map {α : Type} (inj : α → D) (xs : List α) : enumL (xs.map inj) = xs.zipIdx.map (enumA inj) := by
  unfold enumL
  rw [List.length_map]
  refine List.ext_getElem? fun i => ?_
  rw [List.getElem?_map, List.getElem?_map, List.getElem?_zipIdx]
  by_cases h : i < xs.length
  · rw [List.getElem?_range h, List.getElem?_eq_getElem h]
    simp [enumA, h]
  · have h' : xs.length ≤ i := by lia
    rw [List.getElem?_eq_none (by simpa using h'), List.getElem?_eq_none h']
    rfl
theorem rangeL_map (a b : Int) : rangeL a b = (List.range (b - a).toNat).map fun (i : Nat) => D.int (a + (i : Int)) := rfl
section
variable {W : Wo} {n : Nat} {ns : Names} {ρ : Rho} {μ : Mu}
theorem LoopOk.fold {α σ : Type} {P : D → Rho → Mu → Out → Prop} {El : Rho → Mu → Out → Prop} (item : α → D) (step : σ → α → σ) (ρs : σ → Rho) (μs : σ → Mu) (Inv : σ → Prop) (o : σ → Out) :
    ∀ (xs : List α) (s : σ), Inv s → (∀ s a, a ∈ xs → Inv s → Inv (step s a)) → (∀ s a, a ∈ xs → Inv s → ∃ ρ', P (item a) (ρs s) (μs s) (.next ρ' (μs (step s a))) ∧ SubR (ρs (step s a)) ρ') → (∀ s, Inv s → El (ρs s) (μs s) (o s)) →
      LoopOk P El (xs.map item) (ρs s) (μs s) (o (xs.foldl step s))
  | [], s, hs, _, _, hE => hE s hs
  | a :: xs, s, hs, hI, hP, hE => by
    obtain ⟨ρ', h1, h2⟩ := hP s a List.mem_cons_self hs
    exact ⟨_, h1, _, h2, LoopOk.fold item step ρs μs Inv o xs (step s a) (hI s a List.mem_cons_self hs) (fun s a h => hI s a (List.mem_cons_of_mem _ h)) (fun s a h => hP s a (List.mem_cons_of_mem _ h)) hE⟩
theorem foldInv {α σ : Type} (step : σ → α → σ) (Inv : σ → Prop) : ∀ (xs : List α) (s : σ), Inv s → (∀ s a, a ∈ xs → Inv s → Inv (step s a)) → Inv (xs.foldl step s)
  | [], s, hs, _ => hs
  | a :: xs, s, hs, hI => foldInv step Inv xs (step s a) (hI s a List.mem_cons_self hs) fun s a h => hI s a (List.mem_cons_of_mem _ h)
theorem TriS.forFold {α σ : Type} {tgt iter : Expr} {body : List Stmt} {pos : Pos} (xs : List α) (item : α → D) (step : σ → α → σ) (bs : α → Rho) (ρs : σ → Rho) (μs : σ → Mu) (Inv : σ → Prop) (s₀ : σ) {ds : List D}
    (hρ : SubR (ρs s₀) ρ) (hμ : μ = μs s₀) (hI : TriI W n ns ρ tgt iter ds) (hx : ds = xs.map item) (h0 : Inv s₀) (hstep : ∀ s a, a ∈ xs → Inv s → Inv (step s a)) (hb : ∀ a ∈ xs, BindT ns tgt (item a) (bs a))
    (hbody : ∀ s a, a ∈ xs → Inv s → ∃ ρ', TriSS W n ns (bs a ++ ρs s) ((bs a).foldr (fun p m => lose m p.1) (μs s)) body (.next ρ' (μs (step s a))) ∧ SubR (ρs (step s a)) ρ')
    (hs : ∀ env x, foldedSetIterable iter env x = pure x := by intro _ _; rfl) : TriS W n ns ρ μ (.For tgt iter body [] pos) (.next (ρs (xs.foldl step s₀)) (μs (xs.foldl step s₀))) := by
  subst hx hμ
  refine TriS.for_ hI hρ (LoopOk.fold item step ρs μs Inv (fun s => .next (ρs s) (μs s)) xs s₀ h0 hstep (fun s a ha hs => ?_) fun s _ => ⟨TriSS.nil, fun _ _ => ⟨by simp, by simp⟩⟩) hs
  obtain ⟨ρ', h1, h2⟩ := hbody s a ha hs
  exact ⟨ρ', ⟨bs a, hb a ha, h1⟩, h2⟩
theorem get_map {α : Type} (inj : α → D) {xs : List α} {i : Nat} {a : α} (h : xs[i]? = some a) : (xs.map inj)[i]? = some (inj a) := by rw [List.getElem?_map, h]; rfl
theorem TriE.eq {e : Expr} {d d' : D} (h : TriE W n ns ρ e d) (hd : d = d') : TriE W n ns ρ e d' := hd ▸ h
theorem TriN.eq {e : Expr} {d d' : List D} (h : TriN W n ns ρ e d) (hd : d = d') : TriN W n ns ρ e d' := hd ▸ h
theorem TriB.eq {e : Expr} {d d' : Bool} (h : TriB W n ns ρ e d) (hd : d = d') : TriB W n ns ρ e d' := hd ▸ h
theorem TriSS.eq {e : List Stmt} {d d' : Out} (h : TriSS W n ns ρ μ e d) (hd : d = d') : TriSS W n ns ρ μ e d' := hd ▸ h
theorem seqItem_at {xs : List D} {k : Int} {d : D} (h0 : 0 ≤ k) (hz : xs.length ≤ sizeLine) (h : xs[k.toNat]? = some d) : seqItem xs k = some d := by
  have hlt : k.toNat < xs.length := (List.getElem?_eq_some_iff.mp h).1
  have hs : sizeLine = 2 ^ 24 := rfl
  have h2 : k < xs.length := by rw [← Int.toNat_of_nonneg h0]; exact Int.ofNat_lt.mpr hlt
  have : seqIndex? k xs.length = some k.toNat := by
    unfold seqIndex?
    dsimp only
    rw [if_neg (Int.not_lt.mpr h0), if_pos (by rw [decide_eq_true h0, decide_eq_true h2]; rfl)]
  unfold seqItem
  rw [if_pos ⟨by lia, by lia⟩, this]
  exact h
theorem itemD_list {xs : List D} {k : Int} {d : D} (h0 : 0 ≤ k) (hz : xs.length ≤ sizeLine) (h : xs[k.toNat]? = some d) : itemD (.list xs) (.int k) = some d := seqItem_at h0 hz h
theorem itemD_tup {xs : List D} {k : Int} {d : D} (h0 : 0 ≤ k) (hz : xs.length ≤ sizeLine) (h : xs[k.toNat]? = some d) : itemD (.tup xs) (.int k) = some d := seqItem_at h0 hz h
noncomputable def iopD (op : Operator) (a b : Int) : Option Int := match op with
  | .Add => some (a + b)
  | .Sub => some (a - b)
  | .BitOr => some (Builtin.bitOr a b)
  | .BitXor => some (Builtin.bitXor a b)
  | .BitAnd => some (Builtin.bitAnd a b)
  | .LShift => if 0 ≤ b ∧ b ≤ 1000000 ∧ a.natAbs < 2 ^ 64 then some (a * 2 ^ b.toNat) else none
  | _ => none
theorem iopD_sound {op : Operator} {a b d : Int} (h : iopD op a b = some d) : ∀ A g s (E : Value → Shared → Prop) u v, Room (n + 1) A → Good W.hs g s → Rep g u (.int a) → Rep g v (.int b) → wpAny W.M A (inplaceOp op u v) (Res g s (.int d)) E s := by
  intro A g s E u v R G ru rv
  obtain ⟨t, rfl⟩ := rep_int.mp ru
  obtain ⟨t', rfl⟩ := rep_int.mp rv
  cases op with
  | Add => cases h; exact iadd_int (Res.int G)
  | Sub => cases h; exact isub_int (Res.int G)
  | BitOr => cases h; exact ior_int (Res.int G)
  | BitXor => cases h; exact ixor_int (Res.int G)
  | BitAnd => cases h; exact iand_int (Res.int G)
  | LShift =>
    have h : (if 0 ≤ b ∧ b ≤ 1000000 ∧ a.natAbs < 2 ^ 64 then some (a * 2 ^ b.toNat) else none) = some d := h
    by_cases q : 0 ≤ b ∧ b ≤ 1000000 ∧ a.natAbs < 2 ^ 64
    · rw [if_pos q] at h
      cases h
      have hb := intBits_small (a := a) (by unfold smallI; exact decide_eq_true q.2.2)
      refine ilshift_int q.1 ?_ (Res.int G)
      have : (Builtin.Int.intBits a : Int) ≤ 64 := by exact_mod_cast hb
      lia
    · rw [if_neg q] at h; cases h
  | _ => cases h
end
end Mine
end
section
namespace Mine
noncomputable def stAt (i : Nat) : Stmt := PySem.Challenge.pw_kl0449_01.main.body.getD i (.Pass ⟨0, 0, 0, 0⟩)
noncomputable def inAt (j : Nat) : Stmt → Stmt
  | .ClassDef _ _ _ b _ _ _ _ _ _ _ => b.getD j (.Pass ⟨0, 0, 0, 0⟩)
  | s => s
noncomputable def parOf : Stmt → Arguments
  | .FunctionDef _ a _ _ _ _ _ _ _ _ => a
  | _ => ⟨[], [], none, [], [], none, []⟩
noncomputable def bodOf : Stmt → List Stmt
  | .FunctionDef _ _ b _ _ _ _ _ _ _ => b
  | _ => []
noncomputable def scoOf : Stmt → Scope
  | .FunctionDef _ _ _ _ _ _ s _ _ _ => s
  | _ => { kind := .function, names := [], isGenerator := false, isCoroutine := false, more := [] }
noncomputable def KM (P : Params) : Frag := [
  (3, {cls := Value.type "dict", data := Data.dict #[{hash := PyData.keyHash P "__name__", key := Value.str "__name__" 165, val := Value.str "law_kl0449_01" 800}, {hash := PyData.keyHash P "__doc__", key := Value.str "__doc__" 166, val := Value.none}, {hash := PyData.keyHash P "__package__", key := Value.str "__package__" 167, val := Value.none}, {hash := PyData.keyHash P "__loader__", key := Value.str "__loader__" 168, val := Value.builtin "__main__.__loader__#opaque"}, {hash := PyData.keyHash P "__spec__", key := Value.str "__spec__" 169, val := Value.none}, {hash := PyData.keyHash P "__annotations__", key := Value.str "__annotations__" 170, val := Value.ref 6}, {hash := PyData.keyHash P "__builtins__", key := Value.str "__builtins__" 171, val := Value.ref 4}, {hash := PyData.keyHash P "__file__", key := Value.str "__file__" 173, val := Value.str "/claim/cut.py" 172}, {hash := PyData.keyHash P "__cached__", key := Value.str "__cached__" 174, val := Value.none}, {hash := PyData.keyHash P "_sre", key := Value.str "_sre" 275, val := Value.ref 12}, {hash := PyData.keyHash P "_wall", key := Value.str "_wall" 288, val := Value.ref 38}, {hash := PyData.keyHash P "_tuplegetter", key := Value.str "_tuplegetter" 347, val := Value.ref 77}, {hash := PyData.keyHash P "COMPILER_FLAG_NAMES", key := Value.str "COMPILER_FLAG_NAMES" 378, val := Value.ref 82}, {hash := PyData.keyHash P "pretty_flags", key := Value.str "pretty_flags" 389, val := Value.ref 89}, {hash := PyData.keyHash P "_ExceptionTableEntryBase", key := Value.str "_ExceptionTableEntryBase" 543, val := Value.ref 166}, {hash := PyData.keyHash P "_ExceptionTableEntry", key := Value.str "_ExceptionTableEntry" 561, val := Value.ref 179}, {hash := PyData.keyHash P "_parse_varint", key := Value.str "_parse_varint" 570, val := Value.ref 189}, {hash := PyData.keyHash P "_parse_exception_table", key := Value.str "_parse_exception_table" 586, val := Value.ref 196}, {hash := PyData.keyHash P "ELLIPSIS_MARKER", key := Value.str "ELLIPSIS_MARKER" 590, val := Value.str "..." 589}, {hash := PyData.keyHash P "_ellipsis_match", key := Value.str "_ellipsis_match" 603, val := Value.ref 203}, {hash := PyData.keyHash P "_twin_re_1", key := Value.str "_twin_re_1" 621, val := Value.ref 208}, {hash := PyData.keyHash P "_twin_re_2", key := Value.str "_twin_re_2" 637, val := Value.ref 213}, {hash := PyData.keyHash P "_twin_re_3", key := Value.str "_twin_re_3" 679, val := Value.ref 218}, {hash := PyData.keyHash P "CRLF", key := Value.str "CRLF" 681, val := Value.str "\x0d\n" 680}, {hash := PyData.keyHash P "quotedata", key := Value.str "quotedata" 689, val := Value.ref 225}, {hash := PyData.keyHash P "_quote_periods", key := Value.str "_quote_periods" 696, val := Value.ref 232}, {hash := PyData.keyHash P "_fix_eols", key := Value.str "_fix_eols" 703, val := Value.ref 239}, {hash := PyData.keyHash P "Whitespace", key := Value.str "Whitespace" 799, val := Value.ref 301}, {hash := PyData.keyHash P "_law_cells", key := Value.str "_law_cells" 811, val := Value.ref 312}, {hash := PyData.keyHash P "_law_orders", key := Value.str "_law_orders" 817, val := Value.ref 317}, {hash := PyData.keyHash P "_law_says", key := Value.str "_law_says" 823, val := Value.ref 322}, {hash := PyData.keyHash P "_law_laid", key := Value.str "_law_laid" 829, val := Value.ref 327}, {hash := PyData.keyHash P "_law_whole", key := Value.str "_law_whole" 835, val := Value.ref 332}, {hash := PyData.keyHash P "_law_octets", key := Value.str "_law_octets" 841, val := Value.ref 337}, {hash := PyData.keyHash P "_law_table", key := Value.str "_law_table" 847, val := Value.ref 342}, {hash := PyData.keyHash P "_law_words", key := Value.str "_law_words" 853, val := Value.ref 347}, {hash := PyData.keyHash P "_law_linked", key := Value.str "_law_linked" 859, val := Value.ref 352}, {hash := PyData.keyHash P "_law_three", key := Value.str "_law_three" 865, val := Value.ref 357}, {hash := PyData.keyHash P "law", key := Value.str "law" 871, val := Value.ref 362}] 39}),
  (53, {cls := Value.type "tuple", data := Data.seq #[Value.none]}),
  (59, {cls := Value.type "code", data := Data.fields #[Value.str "__get__" 312, Value.str "_tuplegetter.__get__" 313, Value.str "/claim/cut.py" 314, Value.int 12 0, Value.int 3 0, Value.int 0 0, Value.int 0 0, Value.int 3 0, Value.ref 54, Value.bool true, Value.int 276 0, Value.ref 55, Value.none, Value.ref 56, Value.ref 57, Value.ref 58, Value.int 318 0, Value.int 12 0, Value.str "/claim/cut.py" 319]}),
  (60, {cls := Value.type "function", data := Data.func {name := "__get__", qualname := "_tuplegetter.__get__", params := parOf (inAt 1 (stAt 3)), body := FuncBody.stmts (bodOf (inAt 1 (stAt 3))), scope := scoOf (inAt 1 (stAt 3)), globals := 3, closure := [], defaults := Value.ref 53, kwdefaults := Value.none, pyModule := Value.str "cpy313.dis" 289, code := Value.ref 59}}),
  (76, {cls := Value.type "dict", data := Data.dict #[{hash := PyData.keyHash P "__module__", key := Value.str "__module__" 298, val := Value.str "cpy313.dis" 289}, {hash := PyData.keyHash P "__firstlineno__", key := Value.str "__firstlineno__" 302, val := Value.int 6 301}, {hash := PyData.keyHash P "__init__", key := Value.str "__init__" 311, val := Value.ref 52}, {hash := PyData.keyHash P "__get__", key := Value.str "__get__" 320, val := Value.ref 60}, {hash := PyData.keyHash P "__set__", key := Value.str "__set__" 329, val := Value.ref 67}, {hash := PyData.keyHash P "__delete__", key := Value.str "__delete__" 337, val := Value.ref 74}, {hash := PyData.keyHash P "__static_attributes__", key := Value.str "__static_attributes__" 340, val := Value.ref 75}, {hash := PyData.keyHash P "__dict__", key := Value.str "__dict__" 342, val := Value.ref 78}, {hash := PyData.keyHash P "__weakref__", key := Value.str "__weakref__" 344, val := Value.ref 79}, {hash := PyData.keyHash P "__doc__", key := Value.str "__doc__" 345, val := Value.none}] 4}),
  (77, {cls := Value.type "type", data := Data.cls {name := "_tuplegetter", bases := [Value.type "object"], mro := [Value.ref 77, Value.type "object"], ns := 76, qualname := "_tuplegetter"}, slots := #[none, none, some (Value.str "_tuplegetter" 291), some (Value.str "_tuplegetter" 299), some (Value.builtin "object.__new__"), some (Value.bool true)]}),
  (78, {cls := Value.type "getset_descriptor", data := Data.fields #[Value.str "__dict__" 341, Value.ref 77, Value.builtin "function.__dict__", Value.builtin "function.__dict__#set"]}),
  (79, {cls := Value.type "getset_descriptor", data := Data.fields #[Value.str "__weakref__" 343, Value.ref 77, Value.builtin "ExceptionGroup.__weakref__", Value.none]}),
  (82, {cls := Value.type "dict", data := Data.dict #[{hash := 1, key := Value.int 1 348, val := Value.str "OPTIMIZED" 349}, {hash := 2, key := Value.int 2 350, val := Value.str "NEWLOCALS" 351}, {hash := 4, key := Value.int 4 352, val := Value.str "VARARGS" 353}, {hash := 8, key := Value.int 8 354, val := Value.str "VARKEYWORDS" 355}, {hash := 16, key := Value.int 16 356, val := Value.str "NESTED" 357}, {hash := 32, key := Value.int 32 358, val := Value.str "GENERATOR" 359}, {hash := 64, key := Value.int 64 360, val := Value.str "NOFREE" 361}, {hash := 128, key := Value.int 128 362, val := Value.str "COROUTINE" 363}, {hash := 256, key := Value.int 256 364, val := Value.str "ITERABLE_COROUTINE" 365}, {hash := 512, key := Value.int 512 366, val := Value.str "ASYNC_GENERATOR" 367}] 10}),
  (88, {cls := Value.type "code", data := Data.fields #[Value.str "pretty_flags" 379, Value.str "pretty_flags" 380, Value.str "/claim/cut.py" 381, Value.int 25 0, Value.int 1 0, Value.int 0 0, Value.int 0 0, Value.int 3 0, Value.ref 83, Value.bool true, Value.int 276 0, Value.ref 84, Value.none, Value.ref 85, Value.ref 86, Value.ref 87, Value.int 386 0, Value.int 25 0, Value.str "/claim/cut.py" 387]}),
  (89, {cls := Value.type "function", data := Data.func {name := "pretty_flags", qualname := "pretty_flags", params := parOf (stAt 5), body := FuncBody.stmts (bodOf (stAt 5)), scope := scoOf (stAt 5), globals := 3, closure := [], defaults := Value.none, kwdefaults := Value.none, doc := Value.str ((docOf (bodOf (stAt 5))).getD "") 388, pyModule := Value.str "cpy313.dis" 289, code := Value.ref 88}}),
  (90, {cls := Value.type "tuple", data := Data.seq #[Value.type "tuple"]}),
  (106, {cls := Value.type "code", data := Data.fields #[Value.str "__new__" 413, Value.str "_ExceptionTableEntryBase.__new__" 414, Value.str "/claim/cut.py" 415, Value.int 44 0, Value.int 6 0, Value.int 0 0, Value.int 0 0, Value.int 3 0, Value.ref 101, Value.bool true, Value.int 276 0, Value.ref 102, Value.none, Value.ref 103, Value.ref 104, Value.ref 105, Value.int 422 0, Value.int 44 0, Value.str "/claim/cut.py" 423]}),
  (107, {cls := Value.type "function", data := Data.func {name := "__new__", qualname := "_ExceptionTableEntryBase.__new__", params := parOf (inAt 4 (stAt 6)), body := FuncBody.stmts (bodOf (inAt 4 (stAt 6))), scope := scoOf (inAt 4 (stAt 6)), globals := 3, closure := [], defaults := Value.none, kwdefaults := Value.none, doc := Value.str ((docOf (bodOf (inAt 4 (stAt 6)))).getD "") 424, pyModule := Value.str "cpy313.dis" 289, code := Value.ref 106}}),
  (148, {cls := Value.type "dict", data := Data.dict #[{hash := PyData.keyHash P "index", key := Value.str "index" 495, val := Value.int 0 489}, {hash := PyData.keyHash P "__doc__", key := Value.str "__doc__" 497, val := Value.str "Alias for field number 0" 490}] 2}),
  (149, {cls := Value.ref 77, dict := some 148}),
  (151, {cls := Value.type "dict", data := Data.dict #[{hash := PyData.keyHash P "index", key := Value.str "index" 505, val := Value.int 1 499}, {hash := PyData.keyHash P "__doc__", key := Value.str "__doc__" 507, val := Value.str "Alias for field number 1" 500}] 2}),
  (152, {cls := Value.ref 77, dict := some 151}),
  (154, {cls := Value.type "dict", data := Data.dict #[{hash := PyData.keyHash P "index", key := Value.str "index" 515, val := Value.int 2 509}, {hash := PyData.keyHash P "__doc__", key := Value.str "__doc__" 517, val := Value.str "Alias for field number 2" 510}] 2}),
  (155, {cls := Value.ref 77, dict := some 154}),
  (157, {cls := Value.type "dict", data := Data.dict #[{hash := PyData.keyHash P "index", key := Value.str "index" 525, val := Value.int 3 519}, {hash := PyData.keyHash P "__doc__", key := Value.str "__doc__" 527, val := Value.str "Alias for field number 3" 520}] 2}),
  (158, {cls := Value.ref 77, dict := some 157}),
  (160, {cls := Value.type "dict", data := Data.dict #[{hash := PyData.keyHash P "index", key := Value.str "index" 535, val := Value.int 4 529}, {hash := PyData.keyHash P "__doc__", key := Value.str "__doc__" 537, val := Value.str "Alias for field number 4" 530}] 2}),
  (161, {cls := Value.ref 77, dict := some 160}),
  (165, {cls := Value.type "dict", data := Data.dict #[{hash := PyData.keyHash P "__module__", key := Value.str "__module__" 397, val := Value.str "cpy313.dis" 289}, {hash := PyData.keyHash P "__firstlineno__", key := Value.str "__firstlineno__" 401, val := Value.int 38 400}, {hash := PyData.keyHash P "__doc__", key := Value.str "__doc__" 403, val := Value.str "_ExceptionTableEntryBase(start, end, target, depth, lasti)" 402}, {hash := PyData.keyHash P "__slots__", key := Value.str "__slots__" 405, val := Value.ref 98}, {hash := PyData.keyHash P "_fields", key := Value.str "_fields" 411, val := Value.ref 99}, {hash := PyData.keyHash P "_field_defaults", key := Value.str "_field_defaults" 412, val := Value.ref 100}, {hash := PyData.keyHash P "__new__", key := Value.str "__new__" 425, val := Value.ref 167}, {hash := PyData.keyHash P "_make", key := Value.str "_make" 447, val := Value.ref 116}, {hash := PyData.keyHash P "_replace", key := Value.str "_replace" 458, val := Value.ref 125}, {hash := PyData.keyHash P "__replace__", key := Value.str "__replace__" 459, val := Value.ref 125}, {hash := PyData.keyHash P "__repr__", key := Value.str "__repr__" 467, val := Value.ref 132}, {hash := PyData.keyHash P "_asdict", key := Value.str "_asdict" 474, val := Value.ref 139}, {hash := PyData.keyHash P "__getnewargs__", key := Value.str "__getnewargs__" 482, val := Value.ref 146}, {hash := PyData.keyHash P "__match_args__", key := Value.str "__match_args__" 488, val := Value.ref 147}, {hash := PyData.keyHash P "start", key := Value.str "start" 498, val := Value.ref 149}, {hash := PyData.keyHash P "end", key := Value.str "end" 508, val := Value.ref 152}, {hash := PyData.keyHash P "target", key := Value.str "target" 518, val := Value.ref 155}, {hash := PyData.keyHash P "depth", key := Value.str "depth" 528, val := Value.ref 158}, {hash := PyData.keyHash P "lasti", key := Value.str "lasti" 538, val := Value.ref 161}, {hash := PyData.keyHash P "__static_attributes__", key := Value.str "__static_attributes__" 539, val := Value.ref 163}] 2}),
  (166, {cls := Value.type "type", data := Data.cls {name := "_ExceptionTableEntryBase", bases := [Value.type "tuple"], mro := [Value.ref 166, Value.type "tuple", Value.type "object"], ns := 165, qualname := "_ExceptionTableEntryBase", hasDict := false, subclasses := [Value.ref 179]}, slots := #[some (Value.ref 90), none, some (Value.str "_ExceptionTableEntryBase" 390), some (Value.str "_ExceptionTableEntryBase" 398), some Value.none, some (Value.bool false)]}),
  (167, {cls := Value.type "staticmethod", data := Data.fields #[Value.ref 107]}),
  (170, {cls := Value.type "tuple", data := Data.seq #[Value.ref 166]}),
  (178, {cls := Value.type "dict", data := Data.dict #[{hash := PyData.keyHash P "__module__", key := Value.str "__module__" 551, val := Value.str "cpy313.dis" 289}, {hash := PyData.keyHash P "__firstlineno__", key := Value.str "__firstlineno__" 555, val := Value.int 83 554}, {hash := PyData.keyHash P "__static_attributes__", key := Value.str "__static_attributes__" 556, val := Value.ref 177}, {hash := PyData.keyHash P "__dict__", key := Value.str "__dict__" 558, val := Value.ref 180}, {hash := PyData.keyHash P "__doc__", key := Value.str "__doc__" 559, val := Value.none}] 3}),
  (179, {cls := Value.type "type", data := Data.cls {name := "_ExceptionTableEntry", bases := [Value.ref 166], mro := [Value.ref 179, Value.ref 166, Value.type "tuple", Value.type "object"], ns := 178, qualname := "_ExceptionTableEntry"}, slots := #[some (Value.ref 170), none, some (Value.str "_ExceptionTableEntry" 544), some (Value.str "_ExceptionTableEntry" 552), some Value.none, some (Value.bool false)]}),
  (180, {cls := Value.type "getset_descriptor", data := Data.fields #[Value.str "__dict__" 557, Value.ref 179, Value.builtin "function.__dict__", Value.builtin "function.__dict__#set"]}),
  (188, {cls := Value.type "code", data := Data.fields #[Value.str "_parse_varint" 562, Value.str "_parse_varint" 563, Value.str "/claim/cut.py" 564, Value.int 85 0, Value.int 1 0, Value.int 0 0, Value.int 0 0, Value.int 3 0, Value.ref 183, Value.bool true, Value.int 276 0, Value.ref 184, Value.none, Value.ref 185, Value.ref 186, Value.ref 187, Value.int 568 0, Value.int 85 0, Value.str "/claim/cut.py" 569]}),
  (189, {cls := Value.type "function", data := Data.func {name := "_parse_varint", qualname := "_parse_varint", params := parOf (stAt 8), body := FuncBody.stmts (bodOf (stAt 8)), scope := scoOf (stAt 8), globals := 3, closure := [], defaults := Value.none, kwdefaults := Value.none, pyModule := Value.str "cpy313.dis" 289, code := Value.ref 188}}),
  (195, {cls := Value.type "code", data := Data.fields #[Value.str "_parse_exception_table" 571, Value.str "_parse_exception_table" 572, Value.str "/claim/cut.py" 573, Value.int 93 0, Value.int 1 0, Value.int 0 0, Value.int 0 0, Value.int 3 0, Value.ref 190, Value.bool true, Value.int 276 0, Value.ref 191, Value.none, Value.ref 192, Value.ref 193, Value.ref 194, Value.int 584 0, Value.int 93 0, Value.str "/claim/cut.py" 585]}),
  (196, {cls := Value.type "function", data := Data.func {name := "_parse_exception_table", qualname := "_parse_exception_table", params := parOf (stAt 9), body := FuncBody.stmts (bodOf (stAt 9)), scope := scoOf (stAt 9), globals := 3, closure := [], defaults := Value.none, kwdefaults := Value.none, pyModule := Value.str "cpy313.dis" 289, code := Value.ref 195}}),
  (202, {cls := Value.type "code", data := Data.fields #[Value.str "_ellipsis_match" 591, Value.str "_ellipsis_match" 592, Value.str "/claim/cut.py" 593, Value.int 110 0, Value.int 2 0, Value.int 0 0, Value.int 0 0, Value.int 3 0, Value.ref 197, Value.bool true, Value.int 276 0, Value.ref 198, Value.none, Value.ref 199, Value.ref 200, Value.ref 201, Value.int 600 0, Value.int 110 0, Value.str "/claim/cut.py" 601]}),
  (203, {cls := Value.type "function", data := Data.func {name := "_ellipsis_match", qualname := "_ellipsis_match", params := parOf (stAt 12), body := FuncBody.stmts (bodOf (stAt 12)), scope := scoOf (stAt 12), globals := 3, closure := [], defaults := Value.none, kwdefaults := Value.none, doc := Value.str ((docOf (bodOf (stAt 12))).getD "") 602, pyModule := Value.str "cpy313.doctest" 587, code := Value.ref 202}}),
  (207, {cls := Value.type "tuple", data := Data.seq #[Value.int 14 0, Value.int 4 0, Value.int 0 0, Value.int 1 0, Value.int 1 0, Value.int 6 0, Value.int 1 0, Value.int 16 0, Value.int 46 0, Value.int 1 0]}),
  (208, {cls := Value.type "re.Pattern", data := Data.fields #[Value.str "(?m)^\\." 607, Value.int 40 620, Value.int 0 0, Value.none, Value.none, Value.ref 207, Value.int 0 0]}),
  (212, {cls := Value.type "tuple", data := Data.seq #[Value.int 14 0, Value.int 4 0, Value.int 0 0, Value.int 1 0, Value.int 1 0, Value.int 6 0, Value.int 1 0, Value.int 16 0, Value.int 46 0, Value.int 1 0]}),
  (213, {cls := Value.type "re.Pattern", data := Data.fields #[Value.bytes #[40, 63, 109, 41, 94, 92, 46] 623, Value.int 8 636, Value.int 0 0, Value.none, Value.none, Value.ref 212, Value.int 1 0]}),
  (217, {cls := Value.type "tuple", data := Data.seq #[Value.int 14 0, Value.int 9 0, Value.int 4 0, Value.int 1 0, Value.int 2 0, Value.int 16 0, Value.int 10 0, Value.int 16 0, Value.int 13 0, Value.int 0 0, Value.int 7 0, Value.int 7 0, Value.int 16 0, Value.int 13 0, Value.int 16 0, Value.int 10 0, Value.int 15 0, Value.int 18 0, Value.int 5 0, Value.int 16 0, Value.int 10 0, Value.int 15 0, Value.int 13 0, Value.int 11 0, Value.int 16 0, Value.int 13 0, Value.int 5 0, Value.int 5 0, Value.int 0 0, Value.int 16 0, Value.int 10 0, Value.int 1 0, Value.int 15 0, Value.int 2 0, Value.int 0 0, Value.int 1 0]}),
  (218, {cls := Value.type "re.Pattern", data := Data.fields #[Value.str "(?:\\r\\n|\\n|\\r(?!\\n))" 639, Value.int 32 678, Value.int 0 0, Value.none, Value.none, Value.ref 217, Value.int 0 0]}),
  (224, {cls := Value.type "code", data := Data.fields #[Value.str "quotedata" 682, Value.str "quotedata" 683, Value.str "/claim/cut.py" 684, Value.int 148 0, Value.int 1 0, Value.int 0 0, Value.int 0 0, Value.int 3 0, Value.ref 219, Value.bool true, Value.int 276 0, Value.ref 220, Value.none, Value.ref 221, Value.ref 222, Value.ref 223, Value.int 686 0, Value.int 148 0, Value.str "/claim/cut.py" 687]}),
  (225, {cls := Value.type "function", data := Data.func {name := "quotedata", qualname := "quotedata", params := parOf (stAt 18), body := FuncBody.stmts (bodOf (stAt 18)), scope := scoOf (stAt 18), globals := 3, closure := [], defaults := Value.none, kwdefaults := Value.none, doc := Value.str ((docOf (bodOf (stAt 18))).getD "") 688, pyModule := Value.str "cpy313.smtplib" 604, code := Value.ref 224}}),
  (231, {cls := Value.type "code", data := Data.fields #[Value.str "_quote_periods" 690, Value.str "_quote_periods" 691, Value.str "/claim/cut.py" 692, Value.int 155 0, Value.int 1 0, Value.int 0 0, Value.int 0 0, Value.int 3 0, Value.ref 226, Value.bool true, Value.int 276 0, Value.ref 227, Value.none, Value.ref 228, Value.ref 229, Value.ref 230, Value.int 694 0, Value.int 155 0, Value.str "/claim/cut.py" 695]}),
  (232, {cls := Value.type "function", data := Data.func {name := "_quote_periods", qualname := "_quote_periods", params := parOf (stAt 19), body := FuncBody.stmts (bodOf (stAt 19)), scope := scoOf (stAt 19), globals := 3, closure := [], defaults := Value.none, kwdefaults := Value.none, pyModule := Value.str "cpy313.smtplib" 604, code := Value.ref 231}}),
  (238, {cls := Value.type "code", data := Data.fields #[Value.str "_fix_eols" 697, Value.str "_fix_eols" 698, Value.str "/claim/cut.py" 699, Value.int 157 0, Value.int 1 0, Value.int 0 0, Value.int 0 0, Value.int 3 0, Value.ref 233, Value.bool true, Value.int 276 0, Value.ref 234, Value.none, Value.ref 235, Value.ref 236, Value.ref 237, Value.int 701 0, Value.int 157 0, Value.str "/claim/cut.py" 702]}),
  (239, {cls := Value.type "function", data := Data.func {name := "_fix_eols", qualname := "_fix_eols", params := parOf (stAt 20), body := FuncBody.stmts (bodOf (stAt 20)), scope := scoOf (stAt 20), globals := 3, closure := [], defaults := Value.none, kwdefaults := Value.none, pyModule := Value.str "cpy313.smtplib" 604, code := Value.ref 238}}),
  (255, {cls := Value.type "code", data := Data.fields #[Value.str "__init__" 723, Value.str "Whitespace.__init__" 724, Value.str "/claim/cut.py" 725, Value.int 163 0, Value.int 2 0, Value.int 0 0, Value.int 0 0, Value.int 3 0, Value.ref 250, Value.bool true, Value.int 276 0, Value.ref 251, Value.none, Value.ref 252, Value.ref 253, Value.ref 254, Value.int 735 0, Value.int 163 0, Value.str "/claim/cut.py" 736]}),
  (256, {cls := Value.type "function", data := Data.func {name := "__init__", qualname := "Whitespace.__init__", params := parOf (inAt 1 (stAt 22)), body := FuncBody.stmts (bodOf (inAt 1 (stAt 22))), scope := scoOf (inAt 1 (stAt 22)), globals := 3, closure := [], defaults := Value.none, kwdefaults := Value.none, pyModule := Value.str "cpy313.tabnanny" 704, code := Value.ref 255}}),
  (262, {cls := Value.type "code", data := Data.fields #[Value.str "longest_run_of_spaces" 738, Value.str "Whitespace.longest_run_of_spaces" 739, Value.str "/claim/cut.py" 740, Value.int 186 0, Value.int 1 0, Value.int 0 0, Value.int 0 0, Value.int 3 0, Value.ref 257, Value.bool true, Value.int 276 0, Value.ref 258, Value.none, Value.ref 259, Value.ref 260, Value.ref 261, Value.int 744 0, Value.int 186 0, Value.str "/claim/cut.py" 745]}),
  (263, {cls := Value.type "function", data := Data.func {name := "longest_run_of_spaces", qualname := "Whitespace.longest_run_of_spaces", params := parOf (inAt 2 (stAt 22)), body := FuncBody.stmts (bodOf (inAt 2 (stAt 22))), scope := scoOf (inAt 2 (stAt 22)), globals := 3, closure := [], defaults := Value.none, kwdefaults := Value.none, pyModule := Value.str "cpy313.tabnanny" 704, code := Value.ref 262}}),
  (300, {cls := Value.type "dict", data := Data.dict #[{hash := PyData.keyHash P "__module__", key := Value.str "__module__" 713, val := Value.str "cpy313.tabnanny" 704}, {hash := PyData.keyHash P "__firstlineno__", key := Value.str "__firstlineno__" 717, val := Value.int 160 716}, {hash := PyData.keyHash P "S", key := Value.str "S" 721, val := Value.str " " 719}, {hash := PyData.keyHash P "T", key := Value.str "T" 722, val := Value.str "\t" 720}, {hash := PyData.keyHash P "__init__", key := Value.str "__init__" 737, val := Value.ref 256}, {hash := PyData.keyHash P "longest_run_of_spaces", key := Value.str "longest_run_of_spaces" 746, val := Value.ref 263}, {hash := PyData.keyHash P "indent_level", key := Value.str "indent_level" 754, val := Value.ref 270}, {hash := PyData.keyHash P "equal", key := Value.str "equal" 762, val := Value.ref 277}, {hash := PyData.keyHash P "not_equal_witness", key := Value.str "not_equal_witness" 770, val := Value.ref 284}, {hash := PyData.keyHash P "less", key := Value.str "less" 778, val := Value.ref 291}, {hash := PyData.keyHash P "not_less_witness", key := Value.str "not_less_witness" 786, val := Value.ref 298}, {hash := PyData.keyHash P "__static_attributes__", key := Value.str "__static_attributes__" 792, val := Value.ref 299}, {hash := PyData.keyHash P "__dict__", key := Value.str "__dict__" 794, val := Value.ref 302}, {hash := PyData.keyHash P "__weakref__", key := Value.str "__weakref__" 796, val := Value.ref 303}, {hash := PyData.keyHash P "__doc__", key := Value.str "__doc__" 797, val := Value.none}] 4}),
  (301, {cls := Value.type "type", data := Data.cls {name := "Whitespace", bases := [Value.type "object"], mro := [Value.ref 301, Value.type "object"], ns := 300, qualname := "Whitespace"}, slots := #[none, none, some (Value.str "Whitespace" 706), some (Value.str "Whitespace" 714), some (Value.builtin "object.__new__"), some (Value.bool true)]}),
  (302, {cls := Value.type "getset_descriptor", data := Data.fields #[Value.str "__dict__" 793, Value.ref 301, Value.builtin "function.__dict__", Value.builtin "function.__dict__#set"]}),
  (303, {cls := Value.type "getset_descriptor", data := Data.fields #[Value.str "__weakref__" 795, Value.ref 301, Value.builtin "ExceptionGroup.__weakref__", Value.none]}),
  (311, {cls := Value.type "code", data := Data.fields #[Value.str "_law_cells" 802, Value.str "_law_cells" 803, Value.str "/claim/cut.py" 804, Value.int 205 0, Value.int 1 0, Value.int 0 0, Value.int 0 0, Value.int 3 0, Value.ref 306, Value.bool true, Value.int 276 0, Value.ref 307, Value.none, Value.ref 308, Value.ref 309, Value.ref 310, Value.int 809 0, Value.int 205 0, Value.str "/claim/cut.py" 810]}),
  (312, {cls := Value.type "function", data := Data.func {name := "_law_cells", qualname := "_law_cells", params := parOf (stAt 24), body := FuncBody.stmts (bodOf (stAt 24)), scope := scoOf (stAt 24), globals := 3, closure := [], defaults := Value.none, kwdefaults := Value.none, pyModule := Value.str "law_kl0449_01" 800, code := Value.ref 311}}),
  (316, {cls := Value.type "code", data := Data.fields #[Value.str "_law_orders" 812, Value.str "_law_orders" 813, Value.str "/claim/cut.py" 814, Value.int 210 0, Value.int 0 0, Value.int 0 0, Value.int 0 0, Value.int 3 0, Value.ref 313, Value.bool true, Value.int 276 0, Value.ref 314, Value.none, Value.none, Value.none, Value.ref 315, Value.int 815 0, Value.int 210 0, Value.str "/claim/cut.py" 816]}),
  (317, {cls := Value.type "function", data := Data.func {name := "_law_orders", qualname := "_law_orders", params := parOf (stAt 25), body := FuncBody.stmts (bodOf (stAt 25)), scope := scoOf (stAt 25), globals := 3, closure := [], defaults := Value.none, kwdefaults := Value.none, pyModule := Value.str "law_kl0449_01" 800, code := Value.ref 316}}),
  (321, {cls := Value.type "code", data := Data.fields #[Value.str "_law_says" 818, Value.str "_law_says" 819, Value.str "/claim/cut.py" 820, Value.int 215 0, Value.int 2 0, Value.int 0 0, Value.int 0 0, Value.int 3 0, Value.ref 318, Value.bool true, Value.int 276 0, Value.ref 319, Value.none, Value.none, Value.none, Value.ref 320, Value.int 821 0, Value.int 215 0, Value.str "/claim/cut.py" 822]}),
  (322, {cls := Value.type "function", data := Data.func {name := "_law_says", qualname := "_law_says", params := parOf (stAt 26), body := FuncBody.stmts (bodOf (stAt 26)), scope := scoOf (stAt 26), globals := 3, closure := [], defaults := Value.none, kwdefaults := Value.none, pyModule := Value.str "law_kl0449_01" 800, code := Value.ref 321}}),
  (326, {cls := Value.type "code", data := Data.fields #[Value.str "_law_laid" 824, Value.str "_law_laid" 825, Value.str "/claim/cut.py" 826, Value.int 223 0, Value.int 3 0, Value.int 0 0, Value.int 0 0, Value.int 3 0, Value.ref 323, Value.bool true, Value.int 276 0, Value.ref 324, Value.none, Value.none, Value.none, Value.ref 325, Value.int 827 0, Value.int 223 0, Value.str "/claim/cut.py" 828]}),
  (327, {cls := Value.type "function", data := Data.func {name := "_law_laid", qualname := "_law_laid", params := parOf (stAt 27), body := FuncBody.stmts (bodOf (stAt 27)), scope := scoOf (stAt 27), globals := 3, closure := [], defaults := Value.none, kwdefaults := Value.none, pyModule := Value.str "law_kl0449_01" 800, code := Value.ref 326}}),
  (331, {cls := Value.type "code", data := Data.fields #[Value.str "_law_whole" 830, Value.str "_law_whole" 831, Value.str "/claim/cut.py" 832, Value.int 236 0, Value.int 2 0, Value.int 0 0, Value.int 0 0, Value.int 3 0, Value.ref 328, Value.bool true, Value.int 276 0, Value.ref 329, Value.none, Value.none, Value.none, Value.ref 330, Value.int 833 0, Value.int 236 0, Value.str "/claim/cut.py" 834]}),
  (332, {cls := Value.type "function", data := Data.func {name := "_law_whole", qualname := "_law_whole", params := parOf (stAt 28), body := FuncBody.stmts (bodOf (stAt 28)), scope := scoOf (stAt 28), globals := 3, closure := [], defaults := Value.none, kwdefaults := Value.none, pyModule := Value.str "law_kl0449_01" 800, code := Value.ref 331}}),
  (336, {cls := Value.type "code", data := Data.fields #[Value.str "_law_octets" 836, Value.str "_law_octets" 837, Value.str "/claim/cut.py" 838, Value.int 244 0, Value.int 1 0, Value.int 0 0, Value.int 0 0, Value.int 3 0, Value.ref 333, Value.bool true, Value.int 276 0, Value.ref 334, Value.none, Value.none, Value.none, Value.ref 335, Value.int 839 0, Value.int 244 0, Value.str "/claim/cut.py" 840]}),
  (337, {cls := Value.type "function", data := Data.func {name := "_law_octets", qualname := "_law_octets", params := parOf (stAt 29), body := FuncBody.stmts (bodOf (stAt 29)), scope := scoOf (stAt 29), globals := 3, closure := [], defaults := Value.none, kwdefaults := Value.none, pyModule := Value.str "law_kl0449_01" 800, code := Value.ref 336}}),
  (341, {cls := Value.type "code", data := Data.fields #[Value.str "_law_table" 842, Value.str "_law_table" 843, Value.str "/claim/cut.py" 844, Value.int 246 0, Value.int 4 0, Value.int 0 0, Value.int 0 0, Value.int 3 0, Value.ref 338, Value.bool true, Value.int 276 0, Value.ref 339, Value.none, Value.none, Value.none, Value.ref 340, Value.int 845 0, Value.int 246 0, Value.str "/claim/cut.py" 846]}),
  (342, {cls := Value.type "function", data := Data.func {name := "_law_table", qualname := "_law_table", params := parOf (stAt 30), body := FuncBody.stmts (bodOf (stAt 30)), scope := scoOf (stAt 30), globals := 3, closure := [], defaults := Value.none, kwdefaults := Value.none, pyModule := Value.str "law_kl0449_01" 800, code := Value.ref 341}}),
  (346, {cls := Value.type "code", data := Data.fields #[Value.str "_law_words" 848, Value.str "_law_words" 849, Value.str "/claim/cut.py" 850, Value.int 262 0, Value.int 2 0, Value.int 0 0, Value.int 0 0, Value.int 3 0, Value.ref 343, Value.bool true, Value.int 276 0, Value.ref 344, Value.none, Value.none, Value.none, Value.ref 345, Value.int 851 0, Value.int 262 0, Value.str "/claim/cut.py" 852]}),
  (347, {cls := Value.type "function", data := Data.func {name := "_law_words", qualname := "_law_words", params := parOf (stAt 31), body := FuncBody.stmts (bodOf (stAt 31)), scope := scoOf (stAt 31), globals := 3, closure := [], defaults := Value.none, kwdefaults := Value.none, pyModule := Value.str "law_kl0449_01" 800, code := Value.ref 346}}),
  (351, {cls := Value.type "code", data := Data.fields #[Value.str "_law_linked" 854, Value.str "_law_linked" 855, Value.str "/claim/cut.py" 856, Value.int 267 0, Value.int 2 0, Value.int 0 0, Value.int 0 0, Value.int 3 0, Value.ref 348, Value.bool true, Value.int 276 0, Value.ref 349, Value.none, Value.none, Value.none, Value.ref 350, Value.int 857 0, Value.int 267 0, Value.str "/claim/cut.py" 858]}),
  (352, {cls := Value.type "function", data := Data.func {name := "_law_linked", qualname := "_law_linked", params := parOf (stAt 32), body := FuncBody.stmts (bodOf (stAt 32)), scope := scoOf (stAt 32), globals := 3, closure := [], defaults := Value.none, kwdefaults := Value.none, pyModule := Value.str "law_kl0449_01" 800, code := Value.ref 351}}),
  (356, {cls := Value.type "code", data := Data.fields #[Value.str "_law_three" 860, Value.str "_law_three" 861, Value.str "/claim/cut.py" 862, Value.int 276 0, Value.int 1 0, Value.int 0 0, Value.int 0 0, Value.int 3 0, Value.ref 353, Value.bool true, Value.int 276 0, Value.ref 354, Value.none, Value.none, Value.none, Value.ref 355, Value.int 863 0, Value.int 276 0, Value.str "/claim/cut.py" 864]}),
  (357, {cls := Value.type "function", data := Data.func {name := "_law_three", qualname := "_law_three", params := parOf (stAt 33), body := FuncBody.stmts (bodOf (stAt 33)), scope := scoOf (stAt 33), globals := 3, closure := [], defaults := Value.none, kwdefaults := Value.none, pyModule := Value.str "law_kl0449_01" 800, code := Value.ref 356}}),
  (361, {cls := Value.type "code", data := Data.fields #[Value.str "law" 866, Value.str "law" 867, Value.str "/claim/cut.py" 868, Value.int 283 0, Value.int 1 0, Value.int 0 0, Value.int 0 0, Value.int 3 0, Value.ref 358, Value.bool true, Value.int 276 0, Value.ref 359, Value.none, Value.none, Value.none, Value.ref 360, Value.int 869 0, Value.int 283 0, Value.str "/claim/cut.py" 870]}),
  (362, {cls := Value.type "function", data := Data.func {name := "law", qualname := "law", params := parOf (stAt 34), body := FuncBody.stmts (bodOf (stAt 34)), scope := scoOf (stAt 34), globals := 3, closure := [], defaults := Value.none, kwdefaults := Value.none, pyModule := Value.str "law_kl0449_01" 800, code := Value.ref 361}})]
noncomputable def NoThird (h : Heap) : Prop := ∃ o, h.get? cStatics = some o ∧ nsIn [(cStatics, o)] cStatics "thirdparty.any" = some none
theorem NoThird.of {K : Frag} {h : Heap} (e : nsIn K cStatics "thirdparty.any" = some none) (X : K.In h) : NoThird h := by
  delta nsIn at e
  cases q : K.lookup cStatics with
  | none => rw [q] at e; cases (show (none : Option (Option Value)) = some none from e)
  | some o => rw [q] at e; exact ⟨o, X _ _ q, e⟩
noncomputable def SubK (L K : Frag) : Prop := L.map (fun p => K.lookup p.1) = L.map fun p => some p.2
theorem frag_mem : ∀ {L : Frag} {a : Addr} {o : Obj}, L.lookup a = some o → (a, o) ∈ L
  | [], _, _, e => nomatch e
  | (b, q) :: r, a, o, e => by
    rw [List.lookup_cons] at e
    by_cases c : a = b
    · rw [c, beq_self_eq_true] at e; cases e; rw [c]; exact .head _
    · rw [beq_eq_false_iff_ne.mpr c] at e; exact .tail _ (frag_mem e)
theorem SubK.in {L K : Frag} {h : Heap} (s : SubK L K) (X : K.In h) : L.In h := fun a o e => X a o (List.map_inj_left.mp s _ (frag_mem e))
end Mine
end
section
namespace Mine
noncomputable abbrev KK (W : Wo) : Frag := KM W.w.params
structure Kit (W : Wo) : Prop where
  ok : W.Ok
  K : (KK W).In W.hs
  st : NoThird W.hs
noncomputable abbrev KS (W : Wo) (o : Obj) : Frag := (cStatics, o) :: KK W
theorem Kit.stat (k : Kit W) : ∃ o, (KS W o).In W.hs ∧ nsIn (KS W o) cStatics "thirdparty.any" = some none := by
  obtain ⟨o, h, e⟩ := k.st
  refine ⟨o, fun a q z => ?_, e⟩
  rw [List.lookup_cons] at z
  by_cases c : a = cStatics
  · rw [c, beq_self_eq_true] at z; cases z; rw [c]; exact h
  · rw [beq_eq_false_iff_ne.mpr c] at z; exact k.K _ _ z
theorem reads_of {K : Frag} {C : Addr} {mc : Value} (e : nsIn K cStatics "thirdparty.any" = some none) (t : typeIn K (.ref C) = some mc) (f : findIn K mc "__getattribute__" = some (some (.builtin "type.__getattribute__")))
    (g : (if onTheHeap mc then findIn K mc "__getattr__" else some none).isSome = true) (h : subIn K mc (.type "type") = some true) : readsIn K C mc = true := by
  delta readsIn
  rw [e, t, f, g, h, beq_self_eq_true, beq_self_eq_true, beq_self_eq_true, beq_self_eq_true]
  rfl
theorem ns_some_of {K : Frag} {h : Heap} {N : Addr} {mg : PySem.Str → Option Value} {n : PySem.Str} {r : Option Value} (X : K.In h) (G : h.Ns N mg) (e : nsIn K N n = some r) : mg n = r := by
  obtain ⟨o, es, ep, ho, hd, _, hf⟩ := G
  unfold nsIn at e
  split at e
  · rename_i c d es' n' sl q
    have := X _ _ q
    rw [ho] at this
    cases this
    cases hd
    rw [← hf]
    unfold nsFind findBy
    rw [← Array.find?_toList]
    split at e
    · rename_i en he
      rw [he]; cases e; rfl
    · rename_i he
      rw [he]
      split at e
      · cases e
      · cases e; rfl
  · cases e
section
variable {W : Wo} {n : Nat} {ns : Names} {ρ : Rho} {μ : Mu}
theorem Kit.callee (k : Kit W) {x : PySem.Str} {a : Addr} {o : Obj} {fd : FuncData} (hk : ns.lookup x = some .globalImplicit) (e : nsIn (KK W) mainGlobals x = some (some (.ref a))) (ho : (KK W).lookup a = some o) (hd : o.data = .func fd) (hp : (x == ("__debug__" : PySem.Str)) = false) : Callee W ns x (.ref a) :=
  ⟨hk, .inl (ns_some_of k.K k.ok.g e), KeepOk.func (k.K _ _ ho) hd, hp⟩
theorem Kit.builtin (k : Kit W) {x : PySem.Str} {v : Value} (hk : ns.lookup x = some .globalImplicit) (e : nsIn (KK W) mainGlobals x = some none) (hb : bootBuiltins x = some v) (hn : x ≠ "__name__") (hp : (x == ("__debug__" : PySem.Str)) = false) (hkeep : KeepOk W v) : Callee W ns x v :=
  ⟨hk, .inr ⟨ns_some_of k.K k.ok.g e, (k.ok.bi x hn).trans hb⟩, hkeep, hp⟩
noncomputable def okNames (names : Names) (xs : List PySem.Str) : Bool := xs.all (fun x => names.lookup x == some .local || names.lookup x == some .cell) && names.all (fun p => p.2 != .free) && decide xs.Nodup
theorem FnE.ofK (k : Kit W) {a : Addr} {o : Obj} {fd : FuncData} {body : List Stmt} {xs : List PySem.Str} {ds : List D} {d : D} (ho : (KK W).lookup a = some o) (hdata : o.data = .func fd)
    (hcd : ∃ c oc vs t, fd.code = .ref c ∧ (KK W).lookup c = some oc ∧ oc.data = .fields vs ∧ vs[1]? = some (.str fd.qualname t))
    (hbody : fd.body = .stmts body) (hbind : ∀ vs, vs.length = xs.length → bindArgs fd ⟨vs, []⟩ = pure (xs.zip vs)) (hlen : ds.length = xs.length)
    (hsh : fd.closure = [] ∧ fd.globals = mainGlobals ∧ fd.builtins = builtinsNs ∧ fd.scope.isCoroutine = false ∧ fd.scope.isGenerator = false ∧ fd.scope.kind = .function)
    (hok : okNames fd.scope.names xs = true) (hT : TriSS W n fd.scope.names (xs.zip ds) none body (.ret d)) : FnE W n (.ref a) ds d := by
  obtain ⟨c, oc, vs, t, h1, h2, h3, h4⟩ := hcd
  obtain ⟨s1, s2, s3, s4, s5, s6⟩ := hsh
  unfold okNames at hok
  rw [Bool.and_eq_true, Bool.and_eq_true] at hok
  obtain ⟨⟨k1, k2⟩, k3⟩ := hok
  refine FnE.def_ k.ok (k.K _ _ ho) hdata ⟨c, oc, vs, t, h1, k.K _ _ h2, h3, h4⟩ hbody hbind hlen s1 s2 s3 (of_decide_eq_true k3) (fun x hx => ?_) (fun p hp => ?_) s4 s5 s6 hT
  · have := List.all_eq_true.mp k1 x hx
    simpa using this
  · have := List.all_eq_true.mp k2 p hp
    simpa using this
end
noncomputable def cellStep (cs : List Int) (p : Int × Nat) : List Int := cs.set (p.2 % 7) (cs.getD (p.2 % 7) 0 + p.1.fmod 1000000)
noncomputable def cellsOf (script : List Int) : List Int := (script.take 60).zipIdx.foldl cellStep [18822, 31626, 497944, 4465, 95022, 143, 254]
theorem fmodN (i k : Nat) : ((i : Int)).fmod (k : Int) = ((i % k : Nat) : Int) := by
  rw [Int.fmod_eq_emod_of_nonneg _ (Int.natCast_nonneg k)]; rfl
theorem sliceL_take {α : Type} (xs : List α) (k : Nat) : sliceL xs none (some (k : Int)) = xs.take k := by
  unfold sliceL kms_lo kms_hi
  have h : ¬ ((k : Int) < 0) := by lia
  simp only [h, if_false, List.drop_zero, Nat.sub_zero, Int.toNat_natCast]
  rw [← List.take_take, List.take_length]
set_option maxHeartbeats 1000000 in
theorem fn_law_cells {W : Wo} {n : Nat} (k : Kit W) (script : List Int) (hl : script.length ≤ 63) : FnE W (n + 2) (.ref 312) [.list (script.map .int)] (.list ((cellsOf script).map .int)) := by
  refine FnE.ofK k (xs := ["script"]) rfl rfl ⟨_, _, _, _, rfl, rfl, rfl, rfl⟩ rfl ?_ rfl ⟨rfl, rfl, rfl, rfl, rfl, rfl⟩ (by decide +kernel) ?_
  · exact len1 (fun _ => rfl)
  · refine TriSS.cons (TriS.assignNew (TriN.list (ds := [.int 18822, .int 31626, .int 497944, .int 4465, .int 95022, .int 143, .int 254]) ?_ (by decide)) rfl fun _ _ => rfl) ?_
    · exact TriL.cons TriE.int (TriL.cons TriE.int (TriL.cons TriE.int (TriL.cons TriE.int (TriL.cons TriE.int (TriL.cons TriE.int (TriL.cons TriE.int TriL.nil))))))
    · refine TriSS.cons (TriS.forFold (script.take 60).zipIdx (enumA .int) cellStep (fun a => [("number", .int a.1), ("place", .int a.2)]) (fun _ => []) (fun cs => some ("cells", cs.map .int)) (fun cs => cs.length = 7) [18822, 31626, 497944, 4465, 95022, 143, 254] SubR.nil rfl
        (TriI.enumerate (xs := (script.take 60).map .int) k.ok (k.builtin rfl rfl rfl (by decide) rfl KeepOk.type) ?_) (enumL_map _ _) rfl (fun s a _ h => ?_) (fun a _ => ?_) (fun s a ha h => ?_)) ?_
      · refine TriE.eq (TriE.sliceList (xs := script.map .int) (lo := none) (hi := some 60) (.nm rfl rfl) TriP.none (TriP.some TriE.int) ?_) ?_
        · rw [List.length_map]; exact Nat.le_trans hl (by decide)
        · rw [show (60 : Int) = ((60 : Nat) : Int) from rfl, sliceL_take, List.map_take]
      · simp [cellStep, h]
      · exact .consT (.inl rfl) (.consT (.inl rfl) .nilT)
      · obtain ⟨x, i⟩ := a
        have hg : (s.map D.int)[((i % 7 : Nat) : Int).toNat]? = some (.int (s.getD (i % 7) 0)) := by
          have : i % 7 < s.length := by lia
          rw [Int.toNat_natCast, List.getElem?_map, List.getElem?_eq_getElem this]
          simp [List.getD_eq_getElem?_getD, List.getElem?_eq_getElem this]
        refine ⟨[("number", .int x), ("place", .int i)], TriSS.eq (TriSS.cons (TriS.augItem (i := ((i % 7 : Nat) : Int)) (a := .int (s.getD (i % 7) 0)) (b := .int (x.fmod 1000000)) (d := .int (s.getD (i % 7) 0 + x.fmod 1000000)) ?_ (by lia) ?_ ?_ hg ?_ rfl (iopD_sound (op := .Add) (a := s.getD (i % 7) 0) (b := x.fmod 1000000) (d := s.getD (i % 7) 0 + x.fmod 1000000) rfl)) TriSS.nil) ?_, SubR.nil⟩
        · refine TriE.eq (TriE.bin (TriE.nm rfl rfl) TriE.int (binD_sound rfl)) ?_
          exact congrArg D.int (fmodN i 7)
        · rw [List.length_map, h]; lia
        · rw [List.length_map, h]; decide
        · exact TriE.bin (TriE.nm rfl rfl) (TriE.bin TriE.int TriE.int (binD_sound rfl)) (binD_sound rfl)
        · rw [Int.toNat_natCast, ← List.map_set]; rfl
      · refine TriSS.freeze (TriSS.stop (TriS.ret ?_))
        exact TriE.nm rfl rfl
end Mine
end
section
open Builtin Builtin.Re
namespace Mine
theorem re_slot : Slot "re.Pattern" "sub" "re.Pattern.sub" :=
  .of (owner := "re.Pattern") (n := "sub") (by rw [typeLookup_type, builtinLookup_eq_fast]; kernel_rfl) (by decide +kernel) (by decide +kernel) (by decide +kernel)
    (by first | exact .inl (by decide +kernel) | exact .inr (by decide +kernel)) (by rw [isSubtype_type]; kernel_rfl)
theorem re_type : typeOf (.builtin "re.Pattern.sub") = pure (.type "method_descriptor") := by show builtinType _ = _; rw [builtinType_eq_fast]; kernel_rfl
theorem re_entry : entryFor table "re.Pattern.sub" = some Builtin.«re.Pattern.sub» := entryFor_of_tree (by kernel_rfl)
theorem re_entry_loop : entryFor table "re.Pattern.sub.loop" = some Builtin.«re.Pattern.sub.loop» := entryFor_of_tree (by kernel_rfl)
theorem re_plain : plainId "re.Pattern.sub.loop" = true := by decide +kernel
theorem re_attrs : PlainAttrs "re.Pattern" :=
  ⟨⟨"object.__getattribute__", by rw [typeLookup_type, builtinLookup_eq_fast]; kernel_rfl, by decide +kernel⟩, by rw [typeLookup_type, builtinLookup_eq_fast]; kernel_rfl⟩
theorem re_owner : Manifest.owners.lookup (String.ofList ['n', 'r', 'e', 't', 't', 'a', 'P', '.', 'e', 'r'].reverse) = some Manifest.sig_re_Pattern := by kernel_rfl
theorem re_args (a b c : Value) : argsOk "re.Pattern.sub" ⟨[a, b, c], []⟩ := by
  unfold argsOk; rw [signature?_of (id := "re.Pattern.sub") (n := ['b', 'u', 's']) (o := ['n', 'r', 'e', 't', 't', 'a', 'P', '.', 'e', 'r']) (by kernel_rfl) re_owner]; kernel_rfl
noncomputable def driveN : Nat → Sre.M → Option Sre.M
  | 0, _ => none
  | k + 1, m => if (m.runFor 4).outcome.isSome then some (m.runFor 4) else driveN k (m.runFor 4)
theorem reDrive_wp {M : Model} {A : Around} {E : Value → Shared → Prop} {s : Shared} {Q : Sre.M → Shared → Prop} : ∀ (k t : Nat) (m m' : Sre.M), driveN k m = some m' → k ≤ t → Q m' s → wpAny M A (reDrive t m) Q E s
  | 0, _, _, _, h, _, _ => by cases h
  | k + 1, t, m, m', h, hk, q => by
    obtain ⟨t', rfl⟩ : ∃ t', t = t' + 1 := ⟨t - 1, by lia⟩
    unfold reDrive
    unfold driveN at h
    show wpAny M A (if (m.runFor 4).outcome.isSome then pure (m.runFor 4) else do rule "sre.turn"; reDrive t' (m.runFor 4)) Q E s
    split at h
    · rename_i hc
      cases h
      rw [if_pos hc]
      exact wpAny_pure q
    · rename_i hc
      rw [if_neg hc]
      exact wpAny_bind (wpAny_rule (reDrive_wp k t' _ m' h (by lia) q))
theorem rules_wp {M : Model} {A : Around} {E : Value → Shared → Prop} {s : Shared} {c : Nat → Bool} {tag : Nat → String} {Q : PUnit → Shared → Prop} (h : Q ⟨⟩ s) : ∀ l : List Nat, wpAny M A (forIn l PUnit.unit fun i _ => if c i = true then (do rule (tag i); pure (ForInStep.yield PUnit.unit)) else pure (ForInStep.yield PUnit.unit)) Q E s
  | [] => by rw [List.forIn_nil]; exact wpAny_pure h
  | i :: l => by
    rw [List.forIn_cons]
    cases hc : c i with
    | true =>
      simp only [if_true]
      exact wpAny_bind (wpAny_bind (wpAny_rule (wpAny_pure (rules_wp h l))))
    | false =>
      simp only [Bool.false_eq_true, if_false]
      exact wpAny_bind (wpAny_pure (rules_wp h l))
noncomputable def reEnd (m : Sre.M) : Option (Option Sre.M) := match m.outcome with
  | some .matched => some (some m)
  | some .failed => some none
  | _ => none
theorem reRunToEnd_wp {M : Model} {A : Around} {E : Value → Shared → Prop} {s : Shared} {Q : Option Sre.M → Shared → Prop} {k : Nat} {m m' : Sre.M} {r : Option Sre.M} (h : driveN k m = some m') (hk : k ≤ 2 ^ 64) (hr : reEnd m' = some r) (q : Q r s) : wpAny M A (reRunToEnd m) Q E s := by
  unfold reRunToEnd
  refine wpAny_bind (reDrive_wp k _ m m' h hk ?_)
  refine wpAny_bind (rules_wp (c := fun i => m'.seen.has i) (tag := fun i => Sre.names.getD i "") ?_ _)
  unfold reEnd at hr
  split at hr
  · rename_i e; rw [e]; cases hr; exact wpAny_pure q
  · rename_i e; rw [e]; cases hr; exact wpAny_pure q
  · cases hr
noncomputable def sliceD (text : Array Nat) (kind b e : Nat) : D := if kind == 0 then .str ⟨text.extract b e⟩ else .bytes ((text.extract b e).map (·.toUInt8))
theorem reSlice_wp {hs : Heap} {M : Model} {A : Around} {E : Value → Shared → Prop} {g : View} {s : Shared} {text : Array Nat} {kind b e : Nat} (G : Good hs g s) (hz : text.size ≤ sizeLine) : wpAny M A (reSlice text kind b e) (fun v s' => Rep g v (sliceD text kind b e) ∧ s' = { s with toks := s.toks + 1 }) E s := by
  unfold reSlice sliceD
  have h1 : (text.extract b e).size ≤ sizeLine := by rw [Array.size_extract]; exact Nat.le_trans (Nat.sub_le _ _) (Nat.le_trans (Nat.min_le_right _ _) hz)
  cases hk : (kind == 0) with
  | true =>
    simp only [if_true]
    exact wpAny_mkStr ⟨rep_str.mpr ⟨_, rfl⟩, rfl⟩ h1
  | false =>
    simp only [Bool.false_eq_true, if_false]
    unfold mkBytes
    have : ¬ (((text.extract b e).map (·.toUInt8)).size > sizeLine) := by rw [Array.size_map]; lia
    rw [if_neg this]
    exact wpAny_bind (wpAny_fresh (wpAny_pure ⟨rep_bytes.mpr ⟨_, rfl⟩, rfl⟩))
noncomputable def subGo (code text : Array Nat) (kind : Nat) (repl : D) (k : Nat) : Nat → Nat → Nat → Bool → List D → Option (List D)
  | 0, _, _, _, _ => none
  | f + 1, done, start, must, acc =>
    (driveN k (Sre.forSearch code text 0 start text.size must)).bind fun m => (reEnd m).bind fun r => match r with
      | some m => subGo code text kind repl k f m.handed m.handed (m.handed == m.start) (acc ++ (if done < m.start then [sliceD text kind done m.start] else []) ++ [repl])
      | none => some (acc ++ if done < text.size then [sliceD text kind done text.size] else [])
end Mine
end
section
open Builtin Builtin.Re
namespace Mine
theorem updateSeqR {M : Model} {A : Around} {E : Value → Shared → Prop} {s : Shared} {L : Addr} {ys : Array Value} {v : Value} {Q : Unit → Shared → Prop} (hp : s.heap.PlainList L ys) (hz : ys.size ≤ sizeLine)
    (h : ∀ h', h'.PlainList L (ys.push v) → Heap.SameBut L s.heap h' → Q () { s with heap := h' }) : wpAny M A (updateSeq L (·.push v)) Q E s := by
  obtain ⟨k, ho⟩ := hp
  refine wpAny_updateSeq ho rfl (h _ ?_ (Heap.SameBut.update ..))
  obtain ⟨k', e⟩ := mapSeq_plain (f := (·.push v)) (ys := ys) (k := k)
  exact ⟨k', by rw [Heap.get?_update_self _ ho (by rw [e]; rfl), e]⟩
theorem AccAt.pushed {hs : Heap} {g₀ s₀ g s L ds} {v : Value} {d : D} {h' : Heap} {tk : Nat} (G : Good hs g s) (st : Step g₀ s₀ g s) (hL : s₀.heap.get? L = none) {ys : Array Value} (hr : RepL g ys.toList ds) (hn : g L = none) (hp' : h'.PlainList L (ys.push v)) (hs' : Heap.SameBut L s.heap h') (r : Rep g v d) :
    Step g₀ s₀ g { s with heap := h', toks := tk } ∧ AccAt g { s with heap := h', toks := tk } L (ds ++ [d]) := by
  have lw : ∀ b ∈ [L], g b = none := fun b hb => List.mem_singleton.mp hb ▸ hn
  have kk : ∀ b o, b ∉ [L] → s.heap.get? b = some o → h'.get? b = some o := fun b o hb e => (hs'.2 b fun e' => hb (by simp [e'])).trans e
  exact ⟨Step.drop G st (fun b hb => List.mem_singleton.mp hb ▸ hL) lw kk, ys.push v, hp', by rw [Array.toList_push]; exact hr.append (RepL.cons r RepL.nil), hn⟩
theorem subGo_len {code text : Array Nat} {kind : Nat} {repl : D} {k : Nat} : ∀ {f done start must acc out}, subGo code text kind repl k f done start must acc = some out → acc.length ≤ out.length
  | 0, _, _, _, _, _, h => by cases h
  | f + 1, done, start, must, acc, out, h => by
    obtain ⟨m, hm, h⟩ := Option.bind_eq_some_iff.mp h
    obtain ⟨r, hr, h⟩ := Option.bind_eq_some_iff.mp h
    cases r with
    | some m' =>
      have := subGo_len h
      rw [List.length_append, List.length_append] at this
      exact Nat.le_trans (Nat.le_trans (Nat.le_add_right _ _) (Nat.le_add_right _ _)) this
    | none => cases h; rw [List.length_append]; exact Nat.le_add_right _ _
section
variable {W : Wo} {n : Nat}
theorem isEmpty_iff {g : View} {ys : Array Value} {out : List D} (hr : RepL g ys.toList out) : ys.isEmpty = true ↔ out = [] := by
  have e : ys.size = out.length := (Array.length_toList (xs := ys)).symm.trans hr.length
  exact ⟨fun h => List.eq_nil_of_length_eq_zero (e.symm.trans (of_decide_eq_true h)), fun h => decide_eq_true (e.trans (by rw [h]; rfl))⟩
theorem subFin {A : Around} {text : Array Nat} {kind : Nat} {g₀ : View} {s₀ : Shared} {L : Addr} {out : List D} {dj : D} {nn : Int} {QQ : Fin → Shared → Prop} {EE : Value → Shared → Prop}
    (hA : Room (n + 1) A) (hz : text.size + 100 ≤ sizeLine) (hL : s₀.heap.get? L = none)
    (hj0 : out = [] → dj = sliceD text kind 0 0) (hj1 : out ≠ [] → FnE W n (.builtin (if kind == 0 then "str.join" else "bytes.join")) [sliceD text kind 0 0, .list out] dj)
    (hfin : ∀ v s', Res g₀ s₀ dj v s' → QQ (.done (.ret v)) s') {g : View} {s : Shared} (G : Good W.hs g s) (st : Step g₀ s₀ g s) (hacc : AccAt g s L out) :
    wpAny W.M A (do
      let joiner ← reSlice text kind 0 0
      let __do_lift ← seqItems? (Value.ref L)
      if (__do_lift.getD #[]).isEmpty = true then do
        let text ← pure joiner
        if false = true then do
          let __do_lift ← holding [text] do
            let __do_lift ← mkInt nn
            newTuple [text, __do_lift]
          ret __do_lift
        else ret text
      else do
        let text ← call (Value.builtin (if (kind == 0) = true then "str.join" else "bytes.join")) [joiner, Value.ref L]
        if false = true then do
          let __do_lift ← holding [text] do
            let __do_lift ← mkInt nn
            newTuple [text, __do_lift]
          ret __do_lift
        else ret text) QQ EE s := by
  refine wpAny_bind (wp_mono' (reSlice_wp G (by lia)) fun v s₁ ⟨hv, e₁⟩ => ?_)
  have T : Step g s g s₁ := e₁ ▸ Step.toks G
  have G₁ := T.good G
  have hacc₁ := hacc.stepX (X := fun _ => False) T.toX id
  obtain ⟨ys, ⟨q, hp⟩, hr, hn⟩ := id hacc₁
  unfold seqItems?
  refine wpAny_bind (wpAny_bind (wpAny_load (s := s₁) hp (wpAny_pure ?_)))
  dsimp only [Option.getD]
  by_cases hy : ys.isEmpty = true
  · rw [if_pos hy]
    refine wpAny_bind (wpAny_pure ?_)
    rw [if_neg Bool.false_ne_true]
    refine wpAny_pure (hfin _ _ ⟨g, st.trans T, ?_⟩)
    rw [hj0 ((isEmpty_iff hr).mp hy)]; exact hv
  · rw [if_neg hy]
    obtain ⟨g', st₂, le, rl⟩ := hacc₁.frozen (st.trans T) hL
    refine wpAny_bind (wp_mono' (hj1 (fun h => hy ((isEmpty_iff hr).mpr h)) A g' s₁ _ _ hA ⟨fun b o e => le _ _ (G₁.stat _ _ e), st₂.sub⟩ (RepL.cons (hv.mono le) (RepL.cons rl RepL.nil))) fun v₂ s₂ ⟨g₂, st₃, r₂⟩ => ?_)
    rw [if_neg Bool.false_ne_true]
    exact wpAny_pure (hfin _ _ ⟨g₂, st₂.trans st₃, r₂⟩)
theorem putItem {A : Around} {g₀ : View} {s₀ : Shared} {L : Addr} {acc : List D} {Q : Unit → Shared → Prop} {E : Value → Shared → Prop} {g : View} {s : Shared} {v : Value} {d : D}
    (hL : s₀.heap.get? L = none) (hz : acc.length ≤ sizeLine) (G : Good W.hs g s) (st : Step g₀ s₀ g s) (hacc : AccAt g s L acc) (r : Rep g v d)
    (hQ : ∀ s', Good W.hs g s' → Step g₀ s₀ g s' → AccAt g s' L (acc ++ [d]) → Q () s') : wpAny W.M A (updateSeq L (·.push v)) Q E s := by
  obtain ⟨ys, hp, hr, hn⟩ := hacc
  refine updateSeqR hp (by rw [← Array.length_toList, hr.length]; exact hz) fun h' hp' hs' => ?_
  obtain ⟨st', hacc'⟩ := AccAt.pushed (tk := s.toks) G st hL hr hn hp' hs' r
  exact hQ _ ⟨G.stat, st'.sub⟩ st' hacc'
theorem putRun {A : Around} {text : Array Nat} {kind : Nat} {g₀ : View} {s₀ : Shared} {L : Addr} {acc : List D} {E : Value → Shared → Prop} {lo hi : Nat} {g : View} {s : Shared} {α : Type} {k : Unit → Sem α} {Q : α → Shared → Prop}
    (hL : s₀.heap.get? L = none) (hz : text.size ≤ sizeLine) (hz : acc.length ≤ sizeLine) (G : Good W.hs g s) (st : Step g₀ s₀ g s) (hacc : AccAt g s L acc)
    (hQ : ∀ s', Good W.hs g s' → Step g₀ s₀ g s' → AccAt g s' L (acc ++ [sliceD text kind lo hi]) → wpAny W.M A (k ()) Q E s') :
    wpAny W.M A (reSlice text kind lo hi >>= fun v => updateSeq L (·.push v) >>= k) Q E s := by
  refine wpAny_bind (wp_mono' (reSlice_wp G ‹_›) fun v s₁ ⟨hv, e₁⟩ => ?_)
  have T : Step g s g s₁ := e₁ ▸ Step.toks G
  exact wpAny_bind (putItem hL hz (T.good G) (st.trans T) (hacc.stepX (X := fun _ => False) T.toX id) hv hQ)
theorem subLoop {A : Around} {pat str repl : Value} {tgt : ReTarget} {k : Nat} {rd : D} {g₀ : View} {s₀ : Shared} {L : Addr} {R : Result → Shared → Prop} {out : List D} {dj : D}
    (hA : Room (n + 2) A) (hW : Looks W.M W.hs (reWholeTarget pat str) tgt) (hR : Looks W.M W.hs (reLiteralCannotBeTurned repl) ()) (hg : tgt.groups = 0) (hl : tgt.lim = tgt.text.size) (hz : tgt.text.size + 100 ≤ sizeLine) (hk : k ≤ 2 ^ 64)
    (hrd : ∀ g, Rep g repl rd) (hrn : (repl != .none) = true) (hL : s₀.heap.get? L = none) (hz2 : out.length ≤ sizeLine)
    (hj0 : out = [] → dj = sliceD tgt.text tgt.kind 0 0) (hj1 : out ≠ [] → FnE W n (.builtin (if tgt.kind == 0 then "str.join" else "bytes.join")) [sliceD tgt.text tgt.kind 0 0, .list out] dj)
    (hfin : ∀ v s', Res g₀ s₀ dj v s' → R (.ok (.ret v)) s') :
    ∀ (f nn done start : Nat) (must : Bool) (acc : List D) (g : View) (s : Shared), subGo tgt.code tgt.text tgt.kind rd k f done start must acc = some out → Good W.hs g s → Step g₀ s₀ g s → AccAt g s L acc →
      codeAny W.M A (.builtin "re.Pattern.sub.loop" ⟨[pat, str, repl, rawInt 0, rawInt 0, rawInt nn, rawInt done, rawInt start, .bool must, .ref L, .bool false], []⟩) R s := by
  intro f
  induction f with
  | zero => intro _ _ _ _ _ _ _ h; cases h
  | succ f ih =>
    intro nn done start must acc g s h G st hacc
    obtain ⟨m, hm, h⟩ := Option.bind_eq_some_iff.mp h
    obtain ⟨r, hr, h⟩ := Option.bind_eq_some_iff.mp h
    have k₀ : ∀ b o, W.hs.get? b = some o → s.heap.get? b = some o := fun b o q => G.sub _ _ (G.stat _ _ q)
    have hf : reNextFound tgt start must = reRunToEnd (Sre.forSearch tgt.code tgt.text 0 start tgt.text.size must) := by unfold reNextFound; rw [hg, hl]
    refine codeAny_builtin re_entry_loop ?_
    rw [Around.under_plainId re_plain _]
    refine opaqueQE fun QQ EE hQQ hEE => ?_
    show wpAny _ _ (reWholeTarget pat str >>= _) _ _ s
    refine wpAny_bind (hW _ _ _ _ k₀ ?_)
    show wpAny _ _ (reLiteralCannotBeTurned repl >>= _) _ _ s
    refine wpAny_bind (hR _ _ _ _ k₀ ?_)
    show wpAny _ _ (reNextFound tgt start must >>= _) _ _ s
    rw [hf]
    refine wpAny_bind (reRunToEnd_wp hm hk hr ?_)
    clear k₀ hf hm hr hW hR
    cases r with
    | some m' =>
      have hlen := subGo_len h
      rw [List.length_append, List.length_append] at hlen
      have hlen := Nat.le_trans (Nat.le_trans (Nat.le_add_right _ _) hlen) hz2
      have tail : ∀ (s : Shared) (acc' : List D), acc'.length ≤ sizeLine → Good W.hs g s → Step g₀ s₀ g s → AccAt g s L acc' → subGo tgt.code tgt.text tgt.kind rd k f m'.handed m'.handed (m'.handed == m'.start) (acc' ++ [rd]) = some out →
          wpAny W.M A.in1 (do
            let item ← pure repl
            if (item != Value.none) = true then do
              updateSeq L fun x => x.push item
              again (.builtin "re.Pattern.sub.loop" ⟨[pat, str, repl, rawInt 0, rawInt 0, rawInt ((nn : Int) + 1), rawInt m'.handed, rawInt m'.handed, .bool (m'.handed == m'.start), .ref L, .bool false], []⟩)
            else again (.builtin "re.Pattern.sub.loop" ⟨[pat, str, repl, rawInt 0, rawInt 0, rawInt ((nn : Int) + 1), rawInt m'.handed, rawInt m'.handed, .bool (m'.handed == m'.start), .ref L, .bool false], []⟩)) QQ EE s := fun s acc' hl' G st hacc h => by
        refine wpAny_bind (wpAny_pure ?_)
        rw [if_pos hrn]
        exact wpAny_bind (putItem hL hl' G st hacc (hrd g) fun s' G' st' hacc' => wpAny_pure (hQQ _ _ ⟨plainId_quiet re_plain _, ih (nn + 1) m'.handed m'.handed (m'.handed == m'.start) _ g _ h G' st' hacc'⟩))
      dsimp only at h hlen ⊢
      by_cases hc : done < m'.start
      · rw [if_pos hc] at h hlen
        rw [if_pos (show (Int.toNat ((done : Nat) : Int)) < m'.start from hc)]
        refine putRun hL (Nat.le_trans (Nat.le_add_right _ _) hz) (Nat.le_trans (Nat.le_add_right _ _) hlen) G st hacc fun s' G' st' hacc' => ?_
        rw [if_pos (show ((0 : Int) == 0) = true from rfl)]
        exact tail s' _ (by rw [List.length_append]; exact hlen) G' st' hacc' h
      · rw [if_neg hc] at h hlen
        rw [if_neg (show ¬ (Int.toNat ((done : Nat) : Int)) < m'.start from hc), if_pos (show ((0 : Int) == 0) = true from rfl)]
        exact tail s acc hlen G st hacc (by rwa [List.append_nil] at h)
    | none =>
      dsimp only at h ⊢
      have h := Option.some.inj h
      by_cases hc : done < tgt.text.size
      · rw [if_pos hc] at h
        rw [if_pos (show (Int.toNat ((done : Nat) : Int)) < tgt.lim by rw [hl]; exact hc), hl]
        refine putRun hL (Nat.le_trans (Nat.le_add_right _ _) hz) (by rw [← h, List.length_append] at hz2; exact Nat.le_trans (Nat.le_add_right _ _) hz2) G st hacc fun s' G' st' hacc' => ?_
        exact subFin hA.in1 hz hL hj0 hj1 (fun v s' q => hQQ _ _ (hfin v s' q)) G' st' (h ▸ hacc')
      · rw [if_neg hc, List.append_nil] at h
        rw [if_neg (show ¬ (Int.toNat ((done : Nat) : Int)) < tgt.lim by rw [hl]; exact hc)]
        exact subFin hA.in1 hz hL hj0 hj1 (fun v s' q => hQQ _ _ (hfin v s' q)) G st (h ▸ hacc)
end
end Mine
end
section
open Builtin Builtin.Re
namespace Mine
section
variable {W : Wo} {n : Nat} {ns : Names} {ρ : Rho}
noncomputable def FnA (W : Wo) (n : Nat) (f : Value) (first : List Value) (ds : List D) (d : D) : Prop :=
  ∀ A g s (E : Value → Shared → Prop) vs, Room (n + 1) A → Good W.hs g s → RepL g vs ds → wpAny W.M A (call f (first ++ vs)) (Res g s d) E s
theorem callWithA {A env g s} {E : Value → Shared → Prop} {f : Value} {first : List Value} {pos : Pos} {es : List Expr} {ds : List D} {d : D} (c : Cx W (n + 1) A env ns ρ g s) (h : TriL W (n + 1) ns ρ es ds) (hs : (starEach es env).any (·.1) = false)
    (hk : KeepOk W f) (hf : FnA W n f first ds d) :
    wpAny W.M A (callWith pos f first (backTo pos (starEach es env)) []) (Res g s d) E s := by
  refine callWith_of (P := fun h => ∀ b o, W.hs.get? b = some o → h.get? b = some o) (by rw [backTo_any, hs]; rfl) hk ?_
  refine wp_mono' (evalArgsR c h hs) fun a s₁ ⟨e, g₁, st₁, r₁⟩ => ?_
  have G := (c.step st₁).good
  refine ⟨fun b o q => G.sub _ _ (G.stat _ _ q), ?_⟩
  rw [e]
  exact wp_mono' (hf A g₁ s₁ E _ c.room G r₁) fun v s₂ ⟨g₂, st₂, r₂⟩ => ⟨g₂, st₁.trans st₂, r₂⟩
theorem TriE.methA {x name : PySem.Str} {id T : String} {p apos pos : Pos} {a : Addr} {o : Obj} {es : List Expr} {ds : List D} {d : D} (O : W.Ok) (hkx : ns.lookup x = some .globalImplicit) (hv : W.mg x = some (.ref a)) (hp : (x == ("__debug__" : PySem.Str)) = false)
    (ho : W.hs.get? a = some o) (hT : o.cls = .type T) (slot : Slot T name id) (hty : typeOf (.builtin id) = pure (.type "method_descriptor")) (pa : PlainAttrs T) (hnseq : ∀ t, o.cls = .type t → t = T)
    (hl : TriL W (n + 1) ns ρ es ds) (hf : FnA W n (.builtin id) [.ref a] ds d) (hdict : o.dict = none)
    (hs : ∀ env, (starEach es env).any (·.1) = false) (hz : es.length < 29) (hb : ∀ env, attributeBase (.Name x p) name env (eval (.Name x p) env) = eval (.Name x p) env) (hline : (apos.endLine == pos.line) = true) :
    TriE W (n + 1) ns ρ (.Call (.Attribute (.Name x p) name apos) es [] pos) d := fun A env g s E c => by
  have k : ∀ b o, W.hs.get? b = some o → s.heap.get? b = some o := fun b o q => c.good.sub _ _ (c.good.stat _ _ q)
  rw [arm_eval_Call, hb]
  refine wpAny_bind (PySem.Calls.Name_function_global c.en.kind ((c.en.kindOf x).trans hkx) (PySem.Calls.loadGlobal_global (mg := W.mg) (by rw [c.en.globals]; exact O.g.keeps k) hv ?_) hp)
  refine wpAny_bind (wpAny_standAt ?_)
  have hform : methodCallForm (es.length + ([] : List Keyword).length) (backTo pos (starEach es env)) (backToKw pos (keywordEach [] env)) = true := by
    unfold methodCallForm
    have h1 : (backTo pos (starEach es env)).all (fun x => !x.1) = true := by
      have := hs env
      rw [← backTo_any (pos := pos)] at this
      rw [List.all_eq_not_any_not, Bool.not_eq_true']
      simpa using this
    simp only [h1, Bool.true_and, keywordEach, backToKw, List.map_nil, List.all_nil, List.isEmpty_nil, if_true, List.length_nil, Nat.add_zero, decide_eq_true_eq]
    lia
  have hpos : methodCallPos true (.Name x p) env apos pos = pure pos := by unfold methodCallPos; simp [hline]
  unfold methodCall
  rw [hform]
  refine wpAny_bind (wpAny_holding (getMethod_builtin (s := s) ⟨_, k _ _ ho, hT⟩ pa slot hty (fun b e => by cases e; exact ⟨_, k _ _ ho, hdict⟩) ?_))
  refine wpAny_bind (wpAny_of_eq hpos ?_)
  exact callWithA c hl (hs env) KeepOk.builtin hf
noncomputable def reSpec (W : Wo) (n : Nat) (d : D) : PySem.Spec := fun A R s => Room (n + 3) A ∧ ∃ g, Good W.hs g s ∧ (∀ v s', Res g s d v s' → R (.ok (.ret v)) s')
noncomputable def LitOk (W : Wo) (repl : Value) : Prop :=
  (∃ x, Looks W.M W.hs (asStr? repl) (some x) ∧ x.cps.contains 92 = false) ∨ (∃ b, Looks W.M W.hs (asStr? repl) none ∧ Looks W.M W.hs (Bytes.bufferQuiet? "re.Pattern.sub" repl) (some b) ∧ b.contains 92 = false)
theorem reSub_meets {pat repl str : Value} {rd : D} {tgt : ReTarget} {k f : Nat} {out : List D} {dj : D} (hW : Looks W.M W.hs (reWholeTarget pat str) tgt) (hR : Looks W.M W.hs (reLiteralCannotBeTurned repl) ()) (hg : tgt.groups = 0) (hl : tgt.lim = tgt.text.size) (hz : tgt.text.size + 100 ≤ sizeLine) (hk : k ≤ 2 ^ 64)
    (hrd : ∀ g, Rep g repl rd) (hrn : (repl != .none) = true) (hcall : Looks W.M W.hs (specialOf repl "__call__") none) (hlit : LitOk W repl)
    (hgo : subGo tgt.code tgt.text tgt.kind rd k f 0 0 false [] = some out) (hz2 : out.length ≤ sizeLine)
    (hj0 : out = [] → dj = sliceD tgt.text tgt.kind 0 0) (hj1 : out ≠ [] → FnE W n (.builtin (if tgt.kind == 0 then "str.join" else "bytes.join")) [sliceD tgt.text tgt.kind 0 0, .list out] dj) :
    MeetsIn W.prog W.w (Builtin.«re.Pattern.sub» ⟨[pat, repl, str], []⟩) (reSpec W n dj) := by
  intro A R s ⟨hA, g, G, hfin⟩
  have k₀ : ∀ b o, W.hs.get? b = some o → s.heap.get? b = some o := fun b o q => G.sub _ _ (G.stat _ _ q)
  unfold Builtin.«re.Pattern.sub» reSubstitute
  have e1 : reNamed "re.Pattern.sub" "sub" ["repl", "string", "count"] 2 [repl, str] [] = pure [some repl, some str, none] := by rfl
  dsimp only
  rw [e1]
  refine wpAny_bind (wpAny_pure ?_)
  dsimp only
  show wpAny _ _ (pure 0 >>= _) _ _ s
  refine wpAny_bind (wpAny_pure ?_)
  refine wpAny_bind (hcall _ _ _ _ k₀ ?_)
  rw [if_neg (show ¬ ((none : Option Value).isSome = true) from Bool.false_ne_true)]
  have fin : wpAny W.M A.in1 (do
      let _ ← holding [repl] (reWholeTarget pat str)
      let l ← newList []
      again (.builtin "re.Pattern.sub.loop" ⟨[pat, str, repl, rawInt 0, rawInt 0, rawInt 0, rawInt 0, rawInt 0, .bool false, l, .bool false], []⟩))
      (fun fin s' => match fin with | .done f => R (.ok f) s' | .again c' => c'.quiet = true ∧ codeAny W.M A c' R s') (fun e s' => R (.error e) s') s := by
    refine wpAny_bind (wpAny_holding (hW _ _ _ _ k₀ ?_))
    refine wpAny_bind (wpAny_newObj_type (wpAny_pure ⟨plainId_quiet re_plain _, ?_⟩))
    have st : Step g s g { s with heap := s.heap.push { cls := .type "list", dict := none, data := .seq ([] : List Value).toArray } } := Step.keeps G fun b o e => Heap.get?_push_of_some _ e
    refine subLoop (k := k) (g₀ := g) (s₀ := s) (out := out) (dj := dj) (hA.le (by lia)) hW hR hg hl hz hk hrd hrn (size_free _) hz2 hj0 hj1 hfin f 0 0 0 false [] g _ hgo (st.good G) st ⟨#[], ⟨0, Heap.get?_push_size _ rfl⟩, RepL.nil, G.fresh (size_free _)⟩
  rcases hlit with ⟨x, h1, h2⟩ | ⟨b, h1, h2, h3⟩
  · refine wpAny_bind (h1 _ _ _ _ k₀ ?_)
    dsimp only
    rw [h2]
    refine wpAny_bind (wpAny_pure ?_)
    rw [if_neg (show ¬ ((none : Option Value).isSome = true) from Bool.false_ne_true), if_pos (show (!false) = true from rfl)]
    refine wpAny_bind (wpAny_pure ?_)
    exact fin
  · refine wpAny_bind (h1 _ _ _ _ k₀ ?_)
    dsimp only
    refine wpAny_bind (h2 _ _ _ _ k₀ ?_)
    dsimp only
    rw [h3]
    refine wpAny_bind (wpAny_pure ?_)
    rw [if_neg (show ¬ ((none : Option Value).isSome = true) from Bool.false_ne_true), if_pos (show (!false) = true from rfl)]
    refine wpAny_bind (wpAny_pure ?_)
    exact fin
end
end Mine
end
section
open Builtin Builtin.Re
open Builtin.Str (glued)
namespace Mine
section
variable {W : Wo} {n : Nat} {ns : Names} {ρ : Rho}
theorem glued_nil {sep : PySem.Str} : glued sep [] = ⟨#[]⟩ := rfl
theorem sliceD_empty {text : Array Nat} : sliceD text 0 0 0 = .str ⟨#[]⟩ := by
  unfold sliceD
  rw [if_pos (by rfl)]
  congr 2
  simp
theorem fn_reStr (k : Kit W) {a : Addr} {o : Obj} {r x : PySem.Str} {code : Array Nat} {kk f : Nat} {outs : List PySem.Str} (ho : (KK W).lookup a = some o) (hc : o.cls = .type "re.Pattern")
    (hW : ∀ u, peek (KK W) ⟨W.prog, W.w.params⟩ (reWholeTarget (.ref a) (.str x u)) = some { pattern := .ref a, string := .str x u, code := code, text := x.cps, kind := 0, groups := 0, pos := 0, lim := x.cps.size })
    (hlit : r.cps.contains 92 = false) (hz : x.cps.size + 100 ≤ sizeLine) (hk : kk ≤ 2 ^ 64) (hgo : subGo code x.cps 0 (.str r) kk f 0 0 false [] = some (outs.map .str)) (hz2 : outs.length ≤ sizeLine)
    (hj : joinSize ⟨#[]⟩ outs ≤ sizeLine) (hg : (glued ⟨#[]⟩ outs).length ≤ sizeLine) :
    FnA W (n + 2) (.builtin "re.Pattern.sub") [.ref a] [.str r, .str x] (.str (glued ⟨#[]⟩ outs)) := by
  intro A g s E vs R G rr
  obtain ⟨v, r', rfl, h1, h2⟩ := repL_cons.mp rr
  obtain ⟨v', r'', rfl, h3, h4⟩ := repL_cons.mp h2
  cases repL_nil.mp h4
  obtain ⟨t, rfl⟩ := rep_str.mp h1
  obtain ⟨u, rfl⟩ := rep_str.mp h3
  have hT : s.TypeIs (.ref a) "re.Pattern" := ⟨_, G.sub _ _ (G.stat _ _ (k.K _ _ ho)), hc⟩
  refine call_meetsIn re_slot hT re_entry (re_args _ _ _) (reSub_meets (n := n) (tgt := { pattern := .ref a, string := .str x u, code := code, text := x.cps, kind := 0, groups := 0, pos := 0, lim := x.cps.size }) (rd := .str r) (k := kk) (f := f) (out := outs.map .str) (dj := .str (glued ⟨#[]⟩ outs))
    (Looks.of_peek (M := W.M) k.K (hW u)) (Looks.of_peek (M := W.M) k.K rfl) rfl rfl hz hk (fun g => rep_str.mpr ⟨_, rfl⟩) rfl (Looks.of_peek (M := W.M) k.K rfl) (.inl ⟨r, Looks.of_peek (M := W.M) k.K rfl, hlit⟩) hgo (by simpa using hz2) (fun e => ?_) (fun _ => ?_)) ⟨R, g, G, fun v s' h => h⟩
  · have : outs = [] := by simpa using e
    subst this
    rw [sliceD_empty]; rfl
  · show FnE W n (.builtin "str.join") [sliceD x.cps 0 0 0, .list (outs.map .str)] _
    rw [sliceD_empty]
    exact fn_join hj hg
theorem bytes_slot_join : Slot "bytes" "join" "bytes.join" :=
  .of (owner := "bytes") (n := "join") (by rw [typeLookup_type, builtinLookup_eq_fast]; kernel_rfl) (by decide +kernel) (by decide +kernel) (by decide +kernel)
    (by first | exact .inl (by decide +kernel) | exact .inr (by decide +kernel)) (by rw [isSubtype_type]; kernel_rfl)
theorem bytes_entry_join : entryFor table "bytes.join" = some Builtin.«bytes.join» := entryFor_of_tree (by kernel_rfl)
theorem bytes_owner : Manifest.owners.lookup (String.ofList ['s', 'e', 't', 'y', 'b'].reverse) = some Manifest.sig_bytes := by kernel_rfl
theorem bytes_args_join (a b : Value) : argsOk "bytes.join" ⟨[a, b], []⟩ := by
  unfold argsOk; rw [signature?_of (id := "bytes.join") (n := ['n', 'i', 'o', 'j']) (o := ['s', 'e', 't', 'y', 'b']) (by kernel_rfl) bytes_owner]; kernel_rfl
theorem take_eq {id : String} {b : Array UInt8} {t : Tok} : Bytes.takeBufferQuiet? id (.bytes b t) 0 = pure (some (b, none)) := by
  unfold Bytes.takeBufferQuiet? Bytes.takeBuffer?
  rw [KBy.special_eq KBy.look_buffer, KBy.own_buffer, show ((0 : Int) == Bytes.fullReadOnly) = false from rfl, KBy.buffer_eq]
  rfl
theorem KFB_range_list {β : Type} (n : Nat) (b : β) (f : Nat → β → Sem (ForInStep β)) : forIn [:n] b f = forIn (List.range' 0 n 1) b f := by
  rw [Std.Legacy.Range.forIn_eq_forIn_range']
  have hsz : ([:n] : Std.Legacy.Range).size = n := by simp [Std.Legacy.Range.size]
  show forIn (List.range' 0 ([:n] : Std.Legacy.Range).size 1) b f = _
  rw [hsz]
noncomputable def bytesOf (vs : List Value) : Option (List (Array UInt8)) := vs.mapM fun v => match v with | .bytes b _ => some b | _ => none
theorem RepL.bytesItems {g : View} : ∀ {bs : List (Array UInt8)} {vs : List Value}, RepL g vs (bs.map D.bytes) → ∃ xs : List (Array UInt8 × Tok), vs = xs.map (fun p => .bytes p.1 p.2) ∧ xs.map (·.1) = bs
  | [], vs, h => ⟨[], repL_nil.mp h, rfl⟩
  | b :: bs, vs, h => by
    obtain ⟨v, r, rfl, h1, h2⟩ := repL_cons.mp h
    obtain ⟨t, rfl⟩ := rep_bytes.mp h1
    obtain ⟨xs, rfl, rfl⟩ := RepL.bytesItems h2
    exact ⟨(b, t) :: xs, rfl, rfl⟩
theorem match_skip {β : Type} {us : Array Value} {X : Value → Sem β} {Y : Sem β} (h : us.size ≠ 1) : (match (generalizing := false) us with | #[x] => X x | _ => Y) = Y := by
  obtain ⟨l⟩ := us
  match l, h with
  | [], _ => rfl
  | [x], h => exact absurd rfl h
  | a :: b :: c, _ => rfl
theorem forIn_up {β : Type} {M : Model} {A : Around} {E : Value → Shared → Prop} {s : Shared} {f : Nat → β → Sem (ForInStep β)} {Q : β → Shared → Prop} (acc : Nat → β) : ∀ (k i : Nat),
    (∀ x, i ≤ x → x < i + k → ∀ Q' : ForInStep β → Shared → Prop, Q' (.yield (acc (x + 1))) s → wpAny M A (f x (acc x)) Q' E s) → Q (acc (i + k)) s → wpAny M A (forIn (List.range' i k 1) (acc i) f) Q E s
  | 0, i, _, fin => by rw [List.range'_zero, List.forIn_nil]; exact wpAny_pure fin
  | k + 1, i, turn, fin => by
    rw [List.range'_succ, List.forIn_cons]
    refine wpAny_bind (turn i (Nat.le_refl i) (Nat.lt_add_of_pos_right (Nat.succ_pos k)) _ ?_)
    exact forIn_up acc k (i + 1) (fun x h1 h2 => turn x (Nat.le_of_succ_le h1) (by rw [Nat.add_comm k 1, ← Nat.add_assoc]; exact h2)) (by rw [Nat.add_assoc, Nat.add_comm 1 k]; exact fin)
theorem joinLet {M : Model} {A : Around} {E : Value → Shared → Prop} {s : Shared} {Q : Unit → Shared → Prop} : ∀ (l : List (Value × Option Value)) (keep : List Value), (∀ q ∈ l, q.2 = none) → Q () s → wpAny M A (Bytes.joinLetGo l keep) Q E s
  | [], _, _, h => wpAny_pure h
  | (x, w) :: l, keep, hq, h => by
    cases hq _ List.mem_cons_self
    show wpAny _ _ (do letGo _ _; Bytes.joinLetGo l keep) _ _ _
    exact wpAny_bind (wpAny_letGo (joinLet l keep (fun q hq' => hq q (List.mem_cons_of_mem _ hq')) h))
theorem joinSeq {M : Model} {A : Around} {E : Value → Shared → Prop} {s : Shared} {l : Addr} {us : Array Value} {q : Nat} {Q : Option (Array Value) → Shared → Prop} (hG : s.heap.get? l = some { cls := .type "list", data := .seq us q }) (h : Q (some us) s) : wpAny M A (seqItems? (.ref l)) Q E s := by
  unfold seqItems?
  exact wpAny_bind (wpAny_load hG (wpAny_pure h))
theorem joinList {A : Around} {E : Value → Shared → Prop} {s : Shared} {l : Addr} {Q : Value → Shared → Prop} (hT : s.TypeIs (.ref l) "list") (h : Q (.ref l) s) : wpAny W.M A (Bytes.joinItems (.ref l)) Q E s := by
  unfold Bytes.joinItems
  refine wpAny_bind (wpAny_typeOf hT ?_)
  rw [if_pos (by rfl)]
  exact wpAny_pure h
noncomputable def takenAt (ps : List (Array UInt8 × Tok)) (i : Nat) : Array (Array UInt8) × List (Value × Option Value) := (((ps.take i).map (·.1)).toArray, (ps.take i).map fun p => (Value.bytes p.1 p.2, (none : Option Value)))
theorem taken_low (ps : List (Array UInt8 × Tok)) (i : Nat) : (takenAt ps i).2.any (fun x => x.fst.onHeap) = false := by
  unfold takenAt
  rw [List.any_map]
  exact List.any_eq_false.mpr fun q _ => by rintro ⟨⟩
theorem taken_succ (ps : List (Array UInt8 × Tok)) {i : Nat} (h : i < ps.length) : takenAt ps (i + 1) = ((takenAt ps i).1.push ps[i].1, (takenAt ps i).2 ++ [(Value.bytes ps[i].1 ps[i].2, none)]) := by
  unfold takenAt
  rw [List.take_add_one, List.getElem?_eq_getElem h, List.map_append, List.map_append, Option.toList_some, List.map_singleton, List.map_singleton, List.push_toArray]
theorem taken_all (ps : List (Array UInt8 × Tok)) : takenAt ps ps.length = ((ps.map (·.1)).toArray, ps.map fun p => (Value.bytes p.1 p.2, none)) := by
  unfold takenAt
  rw [List.take_length]
theorem fn_bjoin {bs : List (Array UInt8)} (h2 : 2 ≤ bs.length) (hz : bs.length ≤ sizeLine) (hl : Bytes.tooLong (bs.foldl (· + ·.size) 0) = false) (hl2 : (Bytes.joined #[] bs).size ≤ sizeLine) : FnE W n (.builtin "bytes.join") [.bytes #[], .list (bs.map .bytes)] (.bytes (Bytes.joined #[] bs)) := by
  intro A g s E vs R G r
  obtain ⟨v, r', rfl, h1, h2'⟩ := repL_cons.mp r
  obtain ⟨v', r'', rfl, h3, h4⟩ := repL_cons.mp h2'
  cases repL_nil.mp h4
  obtain ⟨t, rfl⟩ := rep_bytes.mp h1
  obtain ⟨l, us, q, rfl, hl', hu⟩ := rep_list.mp h3
  obtain ⟨ps, e, rfl⟩ := hu.bytesItems
  have hG := G.sub _ _ hl'
  have hus : us.size = ps.length := by rw [← Array.length_toList, e, List.length_map]
  rw [List.length_map] at h2
  have hget : ∀ i (hi : i < ps.length), us.getD i .none = .bytes ps[i].1 ps[i].2 := fun i hi => by
    have h1 : us.toList[i]? = some (.bytes ps[i].1 ps[i].2) := by rw [e, List.getElem?_map, List.getElem?_eq_getElem hi]; rfl
    rw [Array.getElem?_toList] at h1
    rw [Array.getD_eq_getD_getElem?, h1]; rfl
  refine wpAny_call_entry bytes_slot_join (typeIs_bytes s #[] t) bytes_entry_join ?_ (bytes_args_join _ _)
  refine opaqueQE fun QJ EJ hQJ _ => ?_
  show wpAny _ _ (Bytes.joinM .bytes ⟨[.bytes #[] t, .ref l], []⟩) _ _ s
  unfold Bytes.joinM
  refine wpAny_bind (wpAny_of_eq (show selfAndOne (toString Bytes.Kind.bytes.name ++ toString ".join") ⟨[.bytes #[] t, .ref l], []⟩ = pure (.bytes #[] t, .ref l) from rfl) ?_)
  dsimp only
  rw [if_pos (show (Bytes.Kind.bytes == Bytes.Kind.bytes) = true from rfl)]
  refine wpAny_bind (joinList ⟨_, hG, rfl⟩ (wpAny_bind (joinSeq hG ?_)))
  dsimp only
  rw [if_pos (show (Bytes.Kind.bytes == Bytes.Kind.bytes) = true from rfl)]
  refine Eq.mpr (congrArg (fun t => wpAny (model W.prog W.w) A.in1 t _ _ s) (match_skip (us := us) (fun h => by rw [← hus, h] at h2; exact absurd h2 (by decide)))) ?_
  refine wpAny_bind ?_
  rw [KFB_range_list]
  refine forIn_up (takenAt ps) us.size 0 (fun x _ hx Q' hQ' => ?_) ?_
  · rw [Nat.zero_add, hus] at hx
    refine wpAny_bind (joinSeq hG ?_)
    dsimp only
    rw [if_neg (by rw [taken_low]; decide), hget x hx, take_eq]
    refine wpAny_bind (wpAny_holding (wpAny_pure ?_))
    dsimp only
    refine wpAny_bind (joinSeq hG ?_)
    dsimp only
    rw [if_neg (by rw [bne_self_eq_false]; exact Bool.false_ne_true)]
    rw [taken_succ ps hx] at hQ'
    exact wpAny_pure hQ'
  · rw [Nat.zero_add, hus, taken_all]
    refine wpAny_bind (wpAny_pure ?_)
    rw [if_neg (by
      rw [← Array.foldl_toList]
      simp only [List.size_toArray]
      show ¬ Bytes.tooLong (List.foldl (fun (x1 : Nat) (x2 : Array UInt8) => x1 + x2.size) (0 * _) _) = true
      rw [Nat.zero_mul, hl]
      decide)]
    show wpAny _ _ (mkBytes _ >>= _) _ _ s
    unfold mkBytes
    rw [if_neg (Nat.not_lt.mpr hl2)]
    refine wpAny_bind (wpAny_bind (wpAny_fresh (wpAny_pure ?_)))
    refine wpAny_bind (wpAny_holding (wpAny_point ?_))
    exact wpAny_bind (joinLet _ _ (fun q hq => let ⟨p, _, e⟩ := List.mem_map.mp hq; e ▸ rfl) (wpAny_pure (hQJ _ _ ⟨_, rfl, g, Step.toks G, rep_bytes.mpr ⟨s.toks, rfl⟩⟩)))
theorem fn_bjoin1 {b : Array UInt8} : FnE W n (.builtin "bytes.join") [.bytes #[], .list [.bytes b]] (.bytes b) := by
  intro A g s E vs R G r
  obtain ⟨v, r', rfl, h1, h2'⟩ := repL_cons.mp r
  obtain ⟨v', r'', rfl, h3, h4⟩ := repL_cons.mp h2'
  cases repL_nil.mp h4
  obtain ⟨t, rfl⟩ := rep_bytes.mp h1
  obtain ⟨l, us, q, rfl, hl', hu⟩ := rep_list.mp h3
  obtain ⟨w, r3, e1, h5, h6⟩ := repL_cons.mp hu
  rw [repL_nil.mp h6] at e1
  obtain ⟨t2, rfl⟩ := rep_bytes.mp h5
  have hus : us = #[.bytes b t2] := by obtain ⟨ul⟩ := us; have : ul = [.bytes b t2] := e1; rw [this]
  subst hus
  have hG := G.sub _ _ hl'
  refine wpAny_call_entry bytes_slot_join (typeIs_bytes s #[] t) bytes_entry_join ?_ (bytes_args_join _ _)
  show wpAny _ _ (Bytes.joinM .bytes ⟨[.bytes #[] t, .ref l], []⟩) _ _ s
  unfold Bytes.joinM
  refine wpAny_bind (wpAny_of_eq (show selfAndOne (toString Bytes.Kind.bytes.name ++ toString ".join") ⟨[.bytes #[] t, .ref l], []⟩ = pure (.bytes #[] t, .ref l) from rfl) ?_)
  dsimp only
  rw [if_pos (show (Bytes.Kind.bytes == Bytes.Kind.bytes) = true from rfl)]
  have hT : s.TypeIs (.ref l) "list" := ⟨_, hG, rfl⟩
  have hji : ∀ (Q : Value → Shared → Prop) (E : Value → Shared → Prop), Q (.ref l) s → wpAny W.M A.in1 (Bytes.joinItems (.ref l)) Q E s := fun Q E h => by
    unfold Bytes.joinItems
    refine wpAny_bind (wpAny_typeOf hT ?_)
    rw [if_pos (by rfl)]
    exact wpAny_pure h
  refine wpAny_bind (hji _ _ ?_)
  refine wpAny_bind ?_
  unfold seqItems?
  refine wpAny_bind (wpAny_load hG (wpAny_pure ?_))
  dsimp only
  rw [if_pos (show (Bytes.Kind.bytes == Bytes.Kind.bytes) = true from rfl)]
  refine wpAny_bind (wpAny_typeOf (typeIs_bytes s b t2) ?_)
  rw [if_pos (by rfl)]
  exact wpAny_bind (wpAny_rule (wpAny_pure ⟨_, rfl, g, Step.refl G, rep_bytes.mpr ⟨_, rfl⟩⟩))
end
end Mine
end
section
open Builtin Builtin.Re
open Builtin.Str (glued)
namespace Mine
theorem Looks.bind' {α β : Type} {M : Model} {h : Heap} {t : Sem α} {f : α → Sem β} {r : α} {r' : β} (a : Looks M h t r) (b : Looks M h (f r) r') : Looks M h (t >>= f) r' := fun A Q E s k q => wpAny_bind (a A _ E s k (b A Q E s k q))
inductive PC where | rep | lit (b e : Nat)
  deriving DecidableEq
noncomputable def subPlain (code text : Array Nat) (k : Nat) : Nat → Nat → Nat → Bool → List PC → Option (List PC)
  | 0, _, _, _, _ => none
  | f + 1, done, start, must, acc =>
    (driveN k (Sre.forSearch code text 0 start text.size must)).bind fun m => (reEnd m).bind fun r => match r with
      | some m => subPlain code text k f m.handed m.handed (m.handed == m.start) (acc ++ (if done < m.start then [.lit done m.start] else []) ++ [.rep])
      | none => some (acc ++ if done < text.size then [.lit done text.size] else [])
noncomputable def PC.toD (text : Array Nat) (kind : Nat) (repl : D) : PC → D
  | .rep => repl
  | .lit b e => sliceD text kind b e
theorem subGo_plain {code text : Array Nat} {kind : Nat} {repl : D} {k : Nat} : ∀ {f done start must acc}, subGo code text kind repl k f done start must (acc.map (PC.toD text kind repl)) = (subPlain code text k f done start must acc).map (List.map (PC.toD text kind repl))
  | 0, _, _, _, _ => rfl
  | f + 1, done, start, must, acc => by
    unfold subGo subPlain
    cases driveN k (Sre.forSearch code text 0 start text.size must) with
    | none => rfl
    | some m =>
      simp only [Option.bind_some]
      cases reEnd m with
      | none => rfl
      | some r =>
        simp only [Option.bind_some]
        cases r with
        | some m' =>
          dsimp only
          rw [← subGo_plain]
          congr 1
          by_cases h : done < m'.start <;> simp [h, PC.toD]
        | none =>
          by_cases h : done < text.size <;> simp [h, PC.toD]
noncomputable def pieceS (r x : PySem.Str) : PC → PySem.Str
  | .rep => r
  | .lit b e => ⟨x.cps.extract b e⟩
noncomputable def pieceB (r x : Array UInt8) : PC → Array UInt8
  | .rep => r
  | .lit b e => ((x.map (·.toNat)).extract b e).map (·.toUInt8)
noncomputable def reSubS (code : Array Nat) (r x : PySem.Str) : Option PySem.Str :=
  if x.cps.size ≤ 1000 ∧ r.cps.contains 92 = false then (subPlain code x.cps 200 40 0 0 false []).bind fun ps =>
    if ps.length ≤ 1000 ∧ joinSize ⟨#[]⟩ (ps.map (pieceS r x)) ≤ 1000 ∧ (glued ⟨#[]⟩ (ps.map (pieceS r x))).length ≤ 1000 then some (glued ⟨#[]⟩ (ps.map (pieceS r x))) else none
  else none
noncomputable def reSubB (code : Array Nat) (r x : Array UInt8) : Option (Array UInt8) :=
  if x.size ≤ 1000 ∧ r.contains 92 = false then (subPlain code (x.map (·.toNat)) 200 40 0 0 false []).bind fun ps =>
    match ps with
    | [] => some #[]
    | [p] => some (pieceB r x p)
    | ps => if ps.length ≤ 1000 ∧ Bytes.tooLong ((ps.map (pieceB r x)).foldl (· + ·.size) 0) = false ∧ (Bytes.joined #[] (ps.map (pieceB r x))).size ≤ 1000 then some (Bytes.joined #[] (ps.map (pieceB r x))) else none
  else none
section
variable {W : Wo} {n : Nat}
theorem fn_reS (k : Kit W) {a : Addr} {o : Obj} {r x y : PySem.Str} {code code' : Array Nat} (ho : (KK W).lookup a = some o) (hc : o.cls = .type "re.Pattern")
    (hW : ∀ u, peek (KK W) ⟨W.prog, W.w.params⟩ (reWholeTarget (.ref a) (.str x u)) = some { pattern := .ref a, string := .str x u, code := code', text := x.cps, kind := 0, groups := 0, pos := 0, lim := x.cps.size }) (hcode : code' = code)
    (h : reSubS code r x = some y) : FnA W (n + 2) (.builtin "re.Pattern.sub") [.ref a] [.str r, .str x] (.str y) := by
  subst hcode
  unfold reSubS at h
  split at h
  · rename_i hh
    obtain ⟨ps, hps, h⟩ := Option.bind_eq_some_iff.mp h
    split at h
    · rename_i h3
      cases h
      have hs : sizeLine = 2 ^ 24 := rfl
      have hmap : ps.map (PC.toD x.cps 0 (.str r)) = (ps.map (pieceS r x)).map D.str := by
        rw [List.map_map]
        refine List.map_congr_left fun p _ => ?_
        cases p <;> rfl
      refine fn_reStr k ho hc hW hh.2 (by lia) (kk := 200) (f := 40) (by decide) ?_ (by rw [List.length_map]; lia) (by lia) (by lia)
      have := @subGo_plain code' x.cps 0 (.str r) 200 40 0 0 false []
      rw [hps] at this
      rw [← hmap]
      exact this
    · cases h
  · cases h
theorem looks_bytes (k : Kit W) {x : Array UInt8} {u : Tok} : Looks W.M W.hs (reWholeTarget (.ref 213) (.bytes x u)) { pattern := .ref 213, string := .bytes x u, code := #[14, 4, 0, 1, 1, 6, 1, 16, 46, 1], text := x.map (·.toNat), kind := 1, groups := 0, pos := 0, lim := (x.map (·.toNat)).size } := by
  have hc : Array.map (fun x : Int => x.toNat) (Array.map reRawOf ((some #[Value.int 14 0, Value.int 4 0, Value.int 0 0, Value.int 1 0, Value.int 1 0, Value.int 6 0, Value.int 1 0, Value.int 16 0, Value.int 46 0, Value.int 1 0]).getD #[])) = #[14, 4, 0, 1, 1, 6, 1, 16, 46, 1] := by decide +kernel
  unfold reWholeTarget
  refine Looks.bind' (Looks.of_peek (M := W.M) k.K rfl) ?_
  refine Looks.bind' (r := (x.map (·.toNat), 1)) ?_ ?_
  · unfold reTextOf
    refine Looks.bind' (Looks.of_peek (M := W.M) k.K rfl) ?_
    dsimp only
    rw [KBy.quiet_eq]
    exact Looks.of_pure rfl
  · dsimp only
    rw [if_neg (by decide), if_neg (by decide)]
    refine Looks.bind' (r := ()) (Looks.of_peek (M := W.M) k.K rfl) ?_
    refine Looks.bind' (Looks.of_peek (M := W.M) k.K rfl) ?_
    rw [hc]
    exact Looks.of_pure rfl
theorem fn_reB (k : Kit W) {r x y : Array UInt8} (h : reSubB #[14, 4, 0, 1, 1, 6, 1, 16, 46, 1] r x = some y) : FnA W (n + 2) (.builtin "re.Pattern.sub") [.ref 213] [.bytes r, .bytes x] (.bytes y) := by
  unfold reSubB at h
  split at h
  · rename_i hh
    obtain ⟨ps, hps, h⟩ := Option.bind_eq_some_iff.mp h
    have hs : sizeLine = 2 ^ 24 := rfl
    intro A g s E vs R G rr
    obtain ⟨v, r', rfl, h1, h2⟩ := repL_cons.mp rr
    obtain ⟨v', r'', rfl, h3, h4⟩ := repL_cons.mp h2
    cases repL_nil.mp h4
    obtain ⟨t, rfl⟩ := rep_bytes.mp h1
    obtain ⟨u, rfl⟩ := rep_bytes.mp h3
    have hT : s.TypeIs (.ref 213) "re.Pattern" := ⟨_, G.sub _ _ (G.stat _ _ (k.K _ _ rfl)), rfl⟩
    have hmap : ps.map (PC.toD (x.map (·.toNat)) 1 (.bytes r)) = (ps.map (pieceB r x)).map D.bytes := by
      rw [List.map_map]
      refine List.map_congr_left fun p _ => ?_
      cases p <;> rfl
    have hgo : subGo #[14, 4, 0, 1, 1, 6, 1, 16, 46, 1] (x.map (·.toNat)) 1 (.bytes r) 200 40 0 0 false [] = some ((ps.map (pieceB r x)).map D.bytes) := by
      have := @subGo_plain #[14, 4, 0, 1, 1, 6, 1, 16, 46, 1] (x.map (·.toNat)) 1 (.bytes r) 200 40 0 0 false []
      rw [hps] at this
      rw [← hmap]
      exact this
    have hse : sliceD (x.map (·.toNat)) 1 0 0 = .bytes #[] := by
      unfold sliceD
      rw [if_neg (by decide)]
      congr 1
      simp
    have fin : ∀ (dj : D), ((ps.map (pieceB r x)).map D.bytes = [] → dj = sliceD (x.map (·.toNat)) 1 0 0) → ((ps.map (pieceB r x)).map D.bytes ≠ [] → FnE W n (.builtin "bytes.join") [.bytes #[], .list ((ps.map (pieceB r x)).map D.bytes)] dj) → ((ps.map (pieceB r x)).map D.bytes).length ≤ sizeLine → dj = .bytes y →
        wpAny W.M A (call (.builtin "re.Pattern.sub") (.ref 213 :: [.bytes r t, .bytes x u])) (Res g s (.bytes y)) E s := fun dj h0 h1 hz hd => by
      subst hd
      refine call_meetsIn re_slot hT re_entry (re_args _ _ _) (reSub_meets (n := n) (rd := .bytes r) (k := 200) (f := 40) (out := (ps.map (pieceB r x)).map D.bytes) (dj := .bytes y)
        (looks_bytes k) (Looks.of_peek (M := W.M) k.K rfl) rfl rfl (by simp; lia) (by decide) (fun g => rep_bytes.mpr ⟨_, rfl⟩) rfl (Looks.of_peek (M := W.M) k.K rfl)
        (.inr ⟨r, Looks.of_peek (M := W.M) k.K rfl, by rw [KBy.quiet_eq]; exact Looks.of_pure rfl, hh.2⟩) hgo hz h0 (fun hne => ?_)) ⟨R, g, G, fun v s' h => h⟩
      show FnE W n (.builtin "bytes.join") [sliceD (x.map (·.toNat)) 1 0 0, _] _
      rw [hse]
      exact h1 hne
    split at h
    · cases h
      exact fin _ (fun _ => hse.symm) (fun h => absurd rfl h) (by simp) rfl
    · rename_i p
      cases h
      exact fin _ (fun h => by simp at h) (fun _ => fn_bjoin1) (by simp [hs]) rfl
    · rename_i hn1 hn2
      split at h
      · rename_i h3
        cases h
        have h2l : 2 ≤ ps.length := by
          match ps, hn1, hn2 with
          | [], h, _ => exact absurd rfl h
          | [p], _, h => exact absurd rfl (h p)
          | _ :: _ :: _, _, _ => simp
        exact fin _ (fun h => by simp at h; exact absurd h hn1) (fun _ => fn_bjoin (by rw [List.length_map]; exact h2l) (by rw [List.length_map]; lia) h3.2.1 (by lia)) (by simp; lia) rfl
      · cases h
  · cases h
noncomputable def code1 : Array Nat := #[14, 4, 0, 1, 1, 6, 1, 16, 46, 1]
noncomputable def code3 : Array Nat := #[14, 9, 4, 1, 2, 16, 10, 16, 13, 0, 7, 7, 16, 13, 16, 10, 15, 18, 5, 16, 10, 15, 13, 11, 16, 13, 5, 5, 0, 16, 10, 1, 15, 2, 0, 1]
theorem fn_re1 (k : Kit W) {r x y : PySem.Str} (h : reSubS code1 r x = some y) : FnA W (n + 2) (.builtin "re.Pattern.sub") [.ref 208] [.str r, .str x] (.str y) :=
  fn_reS (code := code1) k rfl rfl (fun u => rfl) (by decide +kernel) h
theorem fn_re3 (k : Kit W) {r x y : PySem.Str} (h : reSubS code3 r x = some y) : FnA W (n + 2) (.builtin "re.Pattern.sub") [.ref 218] [.str r, .str x] (.str y) :=
  fn_reS (code := code3) k rfl rfl (fun u => rfl) (by decide +kernel) h
theorem TriS.doc {ns : Names} {ρ : Rho} {μ : Mu} {x : PySem.Str} {q : Nat} {p pos : Pos} :
    TriS W n ns ρ μ (.Expr (.Constant (.str x) q p) pos) (.next ρ μ) := fun A env g₀ s₀ F g s Q E f hq => by
  refine wpAny_Expr ?_ (not_inter f.cx.envIs) (by rfl)
  refine wpAny_Constant_str ?_
  have st : Step g s g { s with toks := s.toks + 1 } := Step.toks f.cx.good
  exact hq _ g _ (f.safe st) ⟨rfl, f.step st⟩
noncomputable def crlf : PySem.Str := ⟨#[13, 10]⟩
noncomputable def dots : PySem.Str := ⟨#[46, 46]⟩
theorem fn_quotedata (k : Kit W) {x y z : PySem.Str} (h : reSubS code3 crlf x = some y) (h' : reSubS code1 dots y = some z) : FnE W (n + 4) (.ref 225) [.str x] (.str z) := by
  refine FnE.ofK k (xs := ["data"]) rfl rfl ⟨_, _, _, _, rfl, rfl, rfl, rfl⟩ rfl ?_ rfl ⟨rfl, rfl, rfl, rfl, rfl, rfl⟩ (by decide +kernel) ?_
  · exact len1 (fun _ => rfl)
  · refine TriSS.cons TriS.doc (TriSS.stop (TriS.ret ?_))
    refine TriE.methA (n := n + 3) k.ok rfl (ns_some_of k.K k.ok.g rfl) rfl (k.K _ _ rfl) rfl re_slot re_type re_attrs (fun t e => by cases e; rfl) (TriL.cons (TriE.eq TriE.str ?_) (TriL.cons ?_ TriL.nil)) (fn_re1 (n := n + 1) k h') rfl (fun _ => rfl) (by decide) (fun _ => rfl) rfl
    · exact congrArg D.str (by decide +kernel : ("..": PySem.Str) = dots)
    · refine TriE.methA (n := n + 3) k.ok rfl (ns_some_of k.K k.ok.g rfl) rfl (k.K _ _ rfl) rfl re_slot re_type re_attrs (fun t e => by cases e; rfl) (TriL.cons ?_ (TriL.cons ?_ TriL.nil)) (fn_re3 (n := n + 1) k h) rfl (fun _ => rfl) (by decide) (fun _ => rfl) rfl
      · exact TriE.global k.ok rfl (.inl (ns_some_of k.K k.ok.g rfl)) rfl fun g _ => rep_str.mpr ⟨_, rfl⟩
      · exact TriE.nm rfl rfl
theorem fn_fix_eols (k : Kit W) {x y : PySem.Str} (h : reSubS code3 crlf x = some y) : FnE W (n + 4) (.ref 239) [.str x] (.str y) := by
  refine FnE.ofK k (xs := ["data"]) rfl rfl ⟨_, _, _, _, rfl, rfl, rfl, rfl⟩ rfl ?_ rfl ⟨rfl, rfl, rfl, rfl, rfl, rfl⟩ (by decide +kernel) ?_
  · exact len1 (fun _ => rfl)
  · refine TriSS.stop (TriS.ret ?_)
    refine TriE.methA (n := n + 3) k.ok rfl (ns_some_of k.K k.ok.g rfl) rfl (k.K _ _ rfl) rfl re_slot re_type re_attrs (fun t e => by cases e; rfl) (TriL.cons ?_ (TriL.cons ?_ TriL.nil)) (fn_re3 (n := n + 1) k h) rfl (fun _ => rfl) (by decide) (fun _ => rfl) rfl
    · exact TriE.global k.ok rfl (.inl (ns_some_of k.K k.ok.g rfl)) rfl fun g _ => rep_str.mpr ⟨_, rfl⟩
    · exact TriE.nm rfl rfl
theorem TriE.bytesC {ns : Names} {ρ : Rho} {x : List UInt8} {k pos} : TriE W n ns ρ (.Constant (.bytes x) k pos) (.bytes x.toArray) := fun A env g s E c => by
  have h : Res g s (.bytes x.toArray) (.bytes x.toArray s.toks) { s with toks := s.toks + 1 } := ⟨g, Step.toks c.good, rep_bytes.mpr ⟨_, rfl⟩⟩
  exact fun _ _ _ => h
theorem fn_quote_periods (k : Kit W) {x y : Array UInt8} (h : reSubB #[14, 4, 0, 1, 1, 6, 1, 16, 46, 1] #[46, 46] x = some y) : FnE W (n + 4) (.ref 232) [.bytes x] (.bytes y) := by
  refine FnE.ofK k (xs := ["bindata"]) rfl rfl ⟨_, _, _, _, rfl, rfl, rfl, rfl⟩ rfl ?_ rfl ⟨rfl, rfl, rfl, rfl, rfl, rfl⟩ (by decide +kernel) ?_
  · exact len1 (fun _ => rfl)
  · refine TriSS.stop (TriS.ret ?_)
    refine TriE.methA (n := n + 3) k.ok rfl (ns_some_of k.K k.ok.g rfl) rfl (k.K _ _ rfl) rfl re_slot re_type re_attrs (fun t e => by cases e; rfl) (TriL.cons TriE.bytesC (TriL.cons ?_ TriL.nil)) (fn_reB (n := n + 1) k h) rfl (fun _ => rfl) (by decide) (fun _ => rfl) rfl
    exact TriE.nm rfl rfl
end
end Mine
end
section
namespace Mine
section
variable {W : Wo} {n : Nat} {ns : Names} {ρ : Rho} {μ : Mu}
inductive Go (σ : Type) where
  | on (s : σ)
  | brk (s : σ)
  | ret (d : D)
noncomputable def goFold {α σ : Type} (step : σ → α → Go σ) : List α → σ → Go σ
  | [], s => .on s
  | a :: xs, s => match step s a with
    | .on s' => goFold step xs s'
    | .brk s' => .brk s'
    | .ret d => .ret d
theorem LoopOk.go {α σ : Type} {P : D → Rho → Mu → Out → Prop} {El : Rho → Mu → Out → Prop} (item : α → D) (step : σ → α → Go σ) (ρs : σ → Rho) (μs : σ → Mu) (ρb : σ → Rho) (μb : σ → Mu) (Inv : σ → Prop) (o : σ → Out) :
    ∀ (xs : List α) (s : σ), Inv s → (∀ s a s', a ∈ xs → Inv s → step s a = .on s' → Inv s') →
      (∀ s a s', a ∈ xs → Inv s → step s a = .on s' → ∃ ρ', (P (item a) (ρs s) (μs s) (.next ρ' (μs s')) ∨ P (item a) (ρs s) (μs s) (.cont ρ' (μs s'))) ∧ SubR (ρs s') ρ') →
      (∀ s a s', a ∈ xs → Inv s → step s a = .brk s' → P (item a) (ρs s) (μs s) (.brk (ρb s') (μb s'))) →
      (∀ s a d, a ∈ xs → Inv s → step s a = .ret d → P (item a) (ρs s) (μs s) (.ret d)) → (∀ s, Inv s → El (ρs s) (μs s) (o s)) →
      LoopOk P El (xs.map item) (ρs s) (μs s) (match goFold step xs s with | .on s' => o s' | .brk s' => .next (ρb s') (μb s') | .ret d => .ret d)
  | [], s, hs, _, _, _, _, hE => hE s hs
  | a :: xs, s, hs, hI, h1, h2, h3, hE => by
    unfold goFold
    cases hst : step s a with
    | on s' =>
      dsimp only
      obtain ⟨ρ', hp, hsub⟩ := h1 s a s' List.mem_cons_self hs hst
      have rec_ := LoopOk.go item step ρs μs ρb μb Inv o xs s' (hI s a s' List.mem_cons_self hs hst) (fun s a s' h => hI s a s' (List.mem_cons_of_mem _ h)) (fun s a s' h => h1 s a s' (List.mem_cons_of_mem _ h))
        (fun s a s' h => h2 s a s' (List.mem_cons_of_mem _ h)) (fun s a d h => h3 s a d (List.mem_cons_of_mem _ h)) hE
      rcases hp with hp | hp
      · exact ⟨_, hp, _, hsub, rec_⟩
      · exact ⟨_, hp, _, hsub, rec_⟩
    | brk s' => exact ⟨_, h2 s a s' List.mem_cons_self hs hst, rfl⟩
    | ret d => exact ⟨_, h3 s a d List.mem_cons_self hs hst, rfl⟩
theorem goInv {α σ : Type} (step : σ → α → Go σ) (Inv : σ → Prop) : ∀ (xs : List α) (s : σ), Inv s → (∀ s a s', a ∈ xs → Inv s → step s a = .on s' → Inv s') → ∀ s', goFold step xs s = .on s' → Inv s'
  | [], s, hs, _, s', h => by cases h; exact hs
  | a :: xs, s, hs, hI, s', h => by
    unfold goFold at h
    cases hst : step s a with
    | on t => rw [hst] at h; exact goInv step Inv xs t (hI s a t List.mem_cons_self hs hst) (fun s a s' h => hI s a s' (List.mem_cons_of_mem _ h)) s' h
    | brk t => rw [hst] at h; cases h
    | ret d => rw [hst] at h; cases h
theorem TriS.forGo {α σ : Type} {tgt iter : Expr} {body : List Stmt} {pos : Pos} (xs : List α) (item : α → D) (step : σ → α → Go σ) (bs : α → Rho) (ρs : σ → Rho) (μs : σ → Mu) (ρb : σ → Rho) (μb : σ → Mu) (Inv : σ → Prop) (s₀ : σ) {ds : List D}
    (hρ : SubR (ρs s₀) ρ) (hμ : μ = μs s₀) (hI : TriI W n ns ρ tgt iter ds) (hx : ds = xs.map item) (h0 : Inv s₀) (hstep : ∀ s a s', a ∈ xs → Inv s → step s a = .on s' → Inv s') (hb : ∀ a ∈ xs, BindT ns tgt (item a) (bs a))
    (h1 : ∀ s a s', a ∈ xs → Inv s → step s a = .on s' → ∃ ρ', (TriSS W n ns (bs a ++ ρs s) ((bs a).foldr (fun p m => lose m p.1) (μs s)) body (.next ρ' (μs s')) ∨ TriSS W n ns (bs a ++ ρs s) ((bs a).foldr (fun p m => lose m p.1) (μs s)) body (.cont ρ' (μs s'))) ∧ SubR (ρs s') ρ')
    (h2 : ∀ s a s', a ∈ xs → Inv s → step s a = .brk s' → TriSS W n ns (bs a ++ ρs s) ((bs a).foldr (fun p m => lose m p.1) (μs s)) body (.brk (ρb s') (μb s')))
    (h3 : ∀ s a d, a ∈ xs → Inv s → step s a = .ret d → TriSS W n ns (bs a ++ ρs s) ((bs a).foldr (fun p m => lose m p.1) (μs s)) body (.ret d))
    (hs : ∀ env x, foldedSetIterable iter env x = pure x := by intro _ _; rfl) :
    TriS W n ns ρ μ (.For tgt iter body [] pos) (match goFold step xs s₀ with | .on s' => .next (ρs s') (μs s') | .brk s' => .next (ρb s') (μb s') | .ret d => .ret d) := by
  subst hx hμ
  refine TriS.for_ hI hρ (LoopOk.go item step ρs μs ρb μb Inv (fun s => .next (ρs s) (μs s)) xs s₀ h0 hstep (fun s a s' ha hs hst => ?_) (fun s a s' ha hs hst => ⟨_, hb a ha, h2 s a s' ha hs hst⟩) (fun s a d ha hs hst => ⟨_, hb a ha, h3 s a d ha hs hst⟩) fun s _ => ⟨TriSS.nil, fun _ _ => ⟨by simp, by simp⟩⟩) hs
  obtain ⟨ρ', h, hsub⟩ := h1 s a s' ha hs hst
  refine ⟨ρ', ?_, hsub⟩
  rcases h with h | h
  · exact .inl ⟨_, hb a ha, h⟩
  · exact .inr ⟨_, hb a ha, h⟩
theorem TriS.eq {st : Stmt} {o o' : Out} (h : TriS W n ns ρ μ st o) (e : o = o') : TriS W n ns ρ μ st o' := e ▸ h
theorem TriSS.forGo {α σ : Type} {tgt iter : Expr} {body rest : List Stmt} {pos : Pos} {o : Out} (xs : List α) (item : α → D) (step : σ → α → Go σ) (bs : α → Rho) (ρs : σ → Rho) (μs : σ → Mu) (ρb : σ → Rho) (μb : σ → Mu) (Inv : σ → Prop) (s₀ : σ) {ds : List D}
    (hρ : SubR (ρs s₀) ρ) (hμ : μ = μs s₀) (hI : TriI W n ns ρ tgt iter ds) (hx : ds = xs.map item) (h0 : Inv s₀) (hstep : ∀ s a s', a ∈ xs → Inv s → step s a = .on s' → Inv s') (hb : ∀ a ∈ xs, BindT ns tgt (item a) (bs a))
    (h1 : ∀ s a s', a ∈ xs → Inv s → step s a = .on s' → ∃ ρ', (TriSS W n ns (bs a ++ ρs s) ((bs a).foldr (fun p m => lose m p.1) (μs s)) body (.next ρ' (μs s')) ∨ TriSS W n ns (bs a ++ ρs s) ((bs a).foldr (fun p m => lose m p.1) (μs s)) body (.cont ρ' (μs s'))) ∧ SubR (ρs s') ρ')
    (h2 : ∀ s a s', a ∈ xs → Inv s → step s a = .brk s' → TriSS W n ns (bs a ++ ρs s) ((bs a).foldr (fun p m => lose m p.1) (μs s)) body (.brk (ρb s') (μb s')))
    (h3 : ∀ s a d, a ∈ xs → Inv s → step s a = .ret d → TriSS W n ns (bs a ++ ρs s) ((bs a).foldr (fun p m => lose m p.1) (μs s)) body (.ret d))
    (k1 : ∀ s', goFold step xs s₀ = .on s' → Inv s' → TriSS W n ns (ρs s') (μs s') rest o) (k2 : ∀ s', goFold step xs s₀ = .brk s' → TriSS W n ns (ρb s') (μb s') rest o) (k3 : ∀ d, goFold step xs s₀ = .ret d → o = .ret d)
    (hs : ∀ env x, foldedSetIterable iter env x = pure x := by intro _ _; rfl) : TriSS W n ns ρ μ (.For tgt iter body [] pos :: rest) o := by
  have main := TriS.forGo (pos := pos) xs item step bs ρs μs ρb μb Inv s₀ hρ hμ hI hx h0 hstep hb h1 h2 h3 hs
  cases hg : goFold step xs s₀ with
  | on s' => rw [hg] at main; exact TriSS.cons main (k1 s' hg (goInv step Inv xs s₀ h0 hstep s' hg))
  | brk s' => rw [hg] at main; exact TriSS.cons main (k2 s' hg)
  | ret d => rw [hg] at main; rw [k3 d hg]; exact TriSS.stop main
theorem TriS.assert_ {t : Expr} {m : Option Expr} {pos : Pos} (ht : TriB W n ns ρ t true) : TriS W n ns ρ μ (.Assert t m pos) (.next ρ μ) := fun A env g₀ s₀ F g s Q E f hq => by
  show wpAny _ A (do standAt pos; if ← isTrue t env (eval t env) then pure .next else assertFails t.pos (evalOpt m env)) Q E s
  refine wpAny_bind (wpAny_standAt (wpAny_bind (wp_mono' (ht A env g s E f.cx) fun b s₁ ⟨e, g₁, st₁⟩ => ?_)))
  subst e
  exact wpAny_pure (hq _ g₁ _ (f.safe st₁) ⟨rfl, f.step st₁⟩)
theorem TriS.skipIf {t : Expr} {b : List Stmt} {pos : Pos} (ht : TriB W n ns ρ t false) : TriS W n ns ρ μ (.If t b [] pos) (.next ρ μ) := TriS.ite ht (fun h => by cases h) (fun _ => TriSS.nil)
theorem TriS.takeIf {t : Expr} {b o : List Stmt} {pos : Pos} {r : Out} (ht : TriB W n ns ρ t true) (hb : TriSS W n ns ρ μ b r) : TriS W n ns ρ μ (.If t b o pos) r := TriS.ite ht (fun _ => hb) (fun h => by cases h)
noncomputable def goOut {σ : Type} (ρs : σ → Rho) (μs : σ → Mu) (ρb : σ → Rho) (μb : σ → Mu) : Go σ → Out
  | .on s' => .next (ρs s') (μs s')
  | .brk s' => .next (ρb s') (μb s')
  | .ret d => .ret d
noncomputable def GoOk {σ : Type} (W : Wo) (n : Nat) (ns : Names) (ρs : σ → Rho) (μs : σ → Mu) (ρb : σ → Rho) (μb : σ → Mu) (ρ : Rho) (μ : Mu) (body : List Stmt) : Go σ → Prop
  | .on s' => ∃ ρ', (TriSS W n ns ρ μ body (.next ρ' (μs s')) ∨ TriSS W n ns ρ μ body (.cont ρ' (μs s'))) ∧ SubR (ρs s') ρ'
  | .brk s' => TriSS W n ns ρ μ body (.brk (ρb s') (μb s'))
  | .ret d => TriSS W n ns ρ μ body (.ret d)
section
variable {σ : Type} {ρs ρb : σ → Rho} {μs μb : σ → Mu} {r : Go σ}
theorem GoOk.map {ρ' : Rho} {μ' : Mu} {body body' : List Stmt} (t : GoOk W n ns ρs μs ρb μb ρ μ body r) (h : ∀ out, TriSS W n ns ρ μ body out → TriSS W n ns ρ' μ' body' out) : GoOk W n ns ρs μs ρb μb ρ' μ' body' r := by
  cases r with
  | on s' => exact let ⟨ρ', h1, h2⟩ := t; ⟨ρ', h1.imp (h _) (h _), h2⟩
  | brk s' => exact h _ t
  | ret d => exact h _ t
theorem GoOk.cons {st : Stmt} {rest : List Stmt} {ρ₁ : Rho} {μ₁ : Mu} (h : TriS W n ns ρ μ st (.next ρ₁ μ₁)) (t : GoOk W n ns ρs μs ρb μb ρ₁ μ₁ rest r) : GoOk W n ns ρs μs ρb μb ρ μ (st :: rest) r := t.map fun _ => TriSS.cons h
theorem TriSS.one {st : Stmt} {o : Out} (h : TriS W n ns ρ μ st o) : TriSS W n ns ρ μ [st] o := by
  cases o with
  | next ρ' μ' => exact TriSS.cons h TriSS.nil
  | _ => exact TriSS.stop h
theorem GoOk.ite {t : Expr} {b o : List Stmt} {pos : Pos} {c : Bool} (ht : TriB W n ns ρ t c) (hT : c = true → GoOk W n ns ρs μs ρb μb ρ μ b r) (hF : c = false → GoOk W n ns ρs μs ρb μb ρ μ o r) : GoOk W n ns ρs μs ρb μb ρ μ [.If t b o pos] r := by
  cases c with
  | true => exact (hT rfl).map fun _ q => TriSS.one (TriS.ite ht (fun _ => q) fun h => by cases h)
  | false => exact (hF rfl).map fun _ q => TriSS.one (TriS.ite ht (fun h => by cases h) fun _ => q)
theorem GoOk.eq {body : List Stmt} {r' : Go σ} (h : GoOk W n ns ρs μs ρb μb ρ μ body r') (e : r = r') : GoOk W n ns ρs μs ρb μb ρ μ body r := e ▸ h
theorem GoOk.nil {s' : σ} (h : SubR (ρs s') ρ) : GoOk W n ns ρs μs ρb μb ρ (μs s') [] (.on s') := ⟨ρ, .inl TriSS.nil, h⟩
end
theorem TriS.forGoU {α σ : Type} {tgt iter : Expr} {body : List Stmt} {pos : Pos} (xs : List α) (item : α → D) (step : σ → α → Go σ) (bs : α → Rho) (ρs : σ → Rho) (μs : σ → Mu) (ρb : σ → Rho) (μb : σ → Mu) (Inv : σ → Prop) (s₀ : σ) {ds : List D}
    (hρ : SubR (ρs s₀) ρ) (hμ : μ = μs s₀) (hI : TriI W n ns ρ tgt iter ds) (hx : ds = xs.map item) (h0 : Inv s₀) (hstep : ∀ s a s', a ∈ xs → Inv s → step s a = .on s' → Inv s') (hb : ∀ a ∈ xs, BindT ns tgt (item a) (bs a))
    (h : ∀ s a, a ∈ xs → Inv s → GoOk W n ns ρs μs ρb μb (bs a ++ ρs s) ((bs a).foldr (fun p m => lose m p.1) (μs s)) body (step s a))
    (hs : ∀ env x, foldedSetIterable iter env x = pure x := by intro _ _; rfl) :
    TriS W n ns ρ μ (.For tgt iter body [] pos) (goOut ρs μs ρb μb (goFold step xs s₀)) :=
  TriS.forGo xs item step bs ρs μs ρb μb Inv s₀ hρ hμ hI hx h0 hstep hb (fun s a s' ha hi e => by have := h s a ha hi; rw [e] at this; exact this) (fun s a s' ha hi e => by have := h s a ha hi; rw [e] at this; exact this) (fun s a d ha hi e => by have := h s a ha hi; rw [e] at this; exact this) hs
theorem TriSS.retU {st : Stmt} {rest : List Stmt} {o : Out} {d : D} {ρ' : Rho} {P : Prop} (h : TriS W n ns ρ μ st o) (ho : o = .ret d ∨ o = .next ρ' none ∧ P) (hk : P → TriSS W n ns ρ' none rest (.ret d)) : TriSS W n ns ρ μ (st :: rest) (.ret d) :=
  ho.elim (fun e => TriSS.stop (e ▸ h)) fun e => TriSS.cons (e.1 ▸ h) (hk e.2)
theorem TriB.ofE {e : Expr} {d : D} {b : Bool} (h : TriE W (n + 1) ns ρ e d) (ht : truD d = some b) (he : ∀ env whole, isTrue e env whole = (do let v ← whole; standAt e.pos; holding [v] (truthy v)) := by intro _ _; rfl) : TriB W (n + 1) ns ρ e b := TriB.value h (truD_sound ht) he
theorem TriE.callK (k : Kit W) {x : PySem.Str} {p pos : Pos} {a : Addr} {o : Obj} {fd : FuncData} {es : List Expr} {ds : List D} {d : D} (hk : ns.lookup x = some .globalImplicit) (e : nsIn (KK W) mainGlobals x = some (some (.ref a))) (ho : (KK W).lookup a = some o) (hd : o.data = .func fd) (hp : (x == ("__debug__" : PySem.Str)) = false)
    (hl : TriL W (n + 1) ns ρ es ds) (hf : FnE W n (.ref a) ds d) (hs : ∀ env, (starEach es env).any (·.1) = false := by intro _; rfl) : TriE W (n + 1) ns ρ (.Call (.Name x p) es [] pos) d := TriE.call k.ok (k.callee hk e ho hd hp) hl hf hs
theorem TriE.callB (k : Kit W) {x : PySem.Str} {p pos : Pos} {v : Value} {es : List Expr} {ds : List D} {d : D} (hk : ns.lookup x = some .globalImplicit) (e : nsIn (KK W) mainGlobals x = some none) (hb : bootBuiltins x = some v) (hn : x ≠ "__name__") (hp : (x == ("__debug__" : PySem.Str)) = false) (hkeep : KeepOk W v)
    (hl : TriL W (n + 1) ns ρ es ds) (hf : FnE W n v ds d) (hs : ∀ env, (starEach es env).any (·.1) = false := by intro _; rfl) : TriE W (n + 1) ns ρ (.Call (.Name x p) es [] pos) d := TriE.call k.ok (k.builtin hk e hb hn hp hkeep) hl hf hs
theorem TriE.meth' {o : Expr} {name : PySem.Str} {apos pos : Pos} {f : String} {od : D} {es : List Expr} {ds : List D} {d : D} (ho : TriE W (n + 1) ns ρ o od) (hl : TriL W (n + 1) ns ρ es ds) (hg : GetM W od name (.builtin f)) (hf : FnE W n (.builtin f) (od :: ds) d)
    (hz : es.length < 29 := by decide) (hline : (apos.endLine == pos.line) = true := by rfl) (hs : ∀ env, (starEach es env).any (·.1) = false := by intro _; rfl) (hb : ∀ env, attributeBase o name env (eval o env) = eval o env := by intro _; rfl) :
    TriE W (n + 1) ns ρ (.Call (.Attribute o name apos) es [] pos) d := TriE.meth ho hl hg KeepOk.builtin hf hs hz hb hline
theorem TriE.item' {value slice : Expr} {pos : Pos} {o i d : D} (hv : TriE W (n + 1) ns ρ value o) (hi : TriE W (n + 1) ns ρ slice i) (h : itemD o i = some d)
    (hs : ∀ o i, subscripted slice false o i = operate [o, i] (getItem o i) := by intro _ _; rfl) : TriE W (n + 1) ns ρ (.Subscript value slice pos) d := TriE.item hv hi (itemD_sound h) hs
theorem TriE.cmp' {op : CmpOp} {l r : Expr} {pos : Pos} {a b : D} {d : Bool} (hl : TriE W (n + 1) ns ρ l a) (hr : TriE W (n + 1) ns ρ r b) (h : cmpD op a b = some d) (hm : behindInMarks op r = false := by rfl) : TriE W (n + 1) ns ρ (.Compare l [op] [r] pos) (.bool d) := TriE.cmp hl hr (cmpD_sound h) hm
theorem TriB.cmp' {op : CmpOp} {l r : Expr} {pos : Pos} {a b : D} {d : Bool} (hl : TriE W (n + 1) ns ρ l a) (hr : TriE W (n + 1) ns ρ r b) (h : cmpD op a b = some d) (hm : behindInMarks op r = false := by rfl) : TriB W (n + 1) ns ρ (.Compare l [op] [r] pos) d := TriB.cmp hl hr (cmpD_sound h) hm
theorem TriE.bin' {op : Operator} {l r : Expr} {pos : Pos} {a b d : D} (hl : TriE W (n + 1) ns ρ l a) (hr : TriE W (n + 1) ns ρ r b) (h : binD op a b = some d) : TriE W (n + 1) ns ρ (.BinOp l op r pos) d := TriE.bin hl hr (binD_sound h)
end
end Mine
end
section
namespace Mine
noncomputable def ellWant : PySem.Str := "...x...-...x..."
noncomputable def ellParts : List PySem.Str := ["", "x", "-", "x", ""]
noncomputable def ellStep (got : PySem.Str) (p : Int) (w : PySem.Str) : Go Int := if findS got w p got.length < 0 then .ret (.bool false) else .on (findS got w p got.length + w.length)
noncomputable def ellOk (got : PySem.Str) : Bool := match goFold (ellStep got) ellParts 0 with | .on _ => true | _ => false
theorem goRet {α σ : Type} (step : σ → α → Go σ) (d : D) (h : ∀ s a d', step s a = .ret d' → d' = d) (hb : ∀ s a s', step s a ≠ .brk s') : ∀ xs s, (∃ s', goFold step xs s = .on s') ∨ goFold step xs s = .ret d
  | [], s => .inl ⟨s, rfl⟩
  | a :: xs, s => by
    unfold goFold
    cases hst : step s a with
    | on t => exact goRet step d h hb xs t
    | brk t => exact absurd hst (hb s a t)
    | ret d' => exact .inr (by rw [h s a d' hst])
section
variable {W : Wo} {n : Nat} {ns : Names} {ρ : Rho} {μ : Mu}
set_option maxHeartbeats 1000000 in
theorem fn_ellipsis (k : Kit W) {got : PySem.Str} (hz : got.length ≤ 1000) : FnE W (n + 4) (.ref 203) [.str ellWant, .str got] (.bool (ellOk got)) := by
  refine FnE.ofK k (xs := ["want", "got"]) rfl rfl ⟨_, _, _, _, rfl, rfl, rfl, rfl⟩ rfl ?_ rfl ⟨rfl, rfl, rfl, rfl, rfl, rfl⟩ (by decide +kernel) ?_
  · exact len2 (fun _ _ => rfl)
  have hsl : sizeLine = 2 ^ 24 := rfl
  have hm : ∀ {ns ρ}, ns.lookup ("ELLIPSIS_MARKER" : PySem.Str) = some .globalImplicit → ∀ {p}, TriE W (n + 4) ns ρ (.Name "ELLIPSIS_MARKER" p) (.str ⟨#[46, 46, 46]⟩) := by
    intro ns ρ h p
    exact TriE.global k.ok h (.inl (ns_some_of k.K k.ok.g rfl)) rfl fun g _ => rep_str.mpr ⟨_, rfl⟩
  refine TriSS.cons TriS.doc ?_
  refine TriSS.cons (TriS.skipIf (TriB.cmp' (a := .str ⟨#[46, 46, 46]⟩) (b := .str ellWant) (d := false) (hm rfl) (by exact .nm rfl rfl) (by decide +kernel))) ?_
  refine TriSS.cons (TriS.assign (d := .list (ellParts.map .str)) (TriE.meth' (od := .str ellWant) (ds := [.str ⟨#[46, 46, 46]⟩]) (by exact .nm rfl rfl) (TriL.cons (hm rfl) TriL.nil) getm_split (fn_split (by decide +kernel))) (.inl rfl) fun _ _ => rfl) ?_
  refine TriSS.cons (TriS.assert_ (TriB.cmp' (a := .int 5) (b := .int 2) (TriE.callB k rfl rfl rfl (by decide) rfl KeepOk.builtin (TriL.cons (by exact .nm rfl rfl) TriL.nil) (fn_len_list (xs := ellParts.map .str) (by decide))) TriE.int rfl)) ?_
  refine TriSS.cons (TriS.assignSwap2 (a := .int 0) (b := .int got.length) (TriE.tuple (TriL.cons TriE.int (TriL.cons (TriE.callB k rfl rfl rfl (by decide) rfl KeepOk.builtin (TriL.cons (by exact .nm rfl rfl) TriL.nil) (fn_len_str (by lia))) TriL.nil)) (by show 2 ≤ sizeLine; decide)) (.inl rfl) (.inl rfl) (fun _ _ => rfl) ?_) ?_
  · exact envEq fun _ _ => by rfl
  refine TriSS.cons (TriS.assign (d := .str "") (TriE.item' (by exact .nm rfl rfl) TriE.int rfl) (.inl rfl) fun _ _ => rfl) ?_
  refine TriSS.cons (TriS.skipIf (TriB.ofE (d := .str "") (by exact .nm rfl rfl) (by decide +kernel))) ?_
  refine TriSS.cons (TriS.assign (d := .str "") (TriE.item' (by exact .nm rfl rfl) TriE.neg rfl) (.inl rfl) fun _ _ => rfl) ?_
  refine TriSS.cons (TriS.skipIf (TriB.ofE (d := .str "") (by exact .nm rfl rfl) (by decide +kernel))) ?_
  refine TriSS.cons (TriS.skipIf (TriB.cmp' (a := .int 0) (b := .int got.length) (by exact .nm rfl rfl) (by exact .nm rfl rfl) (by
    show some (decide ((0 : Int) > got.length)) = some false
    rw [decide_eq_false (by lia : ¬ ((0 : Int) > got.length))]))) ?_
  refine TriSS.forGo ellParts D.str (ellStep got) (fun w => [("w", .str w)]) (fun p => [("got", .str got), ("startpos", .int p), ("endpos", .int got.length)]) (fun _ => none) (fun _ => []) (fun _ => none) (fun _ => True) 0
    (SubR.of rfl) rfl (TriI.of (d := .list (ellParts.map .str)) (by exact .nm rfl rfl) rfl) rfl trivial (fun _ _ _ _ _ _ => trivial) (fun a _ => .name (.inl rfl)) (fun p w p' hmem _ h => ?_) (fun p w p' _ _ h => ?_) (fun p w d _ _ h => ?_) (fun s' h _ => ?_) (fun s' h => ?_) (fun d h => ?_)
  · unfold ellStep at h
    split at h
    · cases h
    · rename_i hc
      cases h
      refine ⟨_, .inl (TriSS.cons (TriS.assign (d := .int (findS got w p got.length)) (TriE.meth' (by exact .nm rfl rfl) (TriL.cons (by exact .nm rfl rfl) (TriL.cons (by exact .nm rfl rfl) (TriL.cons (by exact .nm rfl rfl) TriL.nil))) getm_find fn_find) (.inl rfl) fun _ _ => rfl)
        (TriSS.cons (TriS.skipIf (TriB.cmp' (a := .int (findS got w p got.length)) (b := .int 0) (by exact .nm rfl rfl) TriE.int (congrArg some (decide_eq_false hc))))
        (TriSS.cons (TriS.augName (op := .Add) (a := .int (findS got w p got.length)) (b := .int w.length) (d := .int (findS got w p got.length + w.length)) rfl (.inl rfl) (TriE.callB k rfl rfl rfl (by decide) rfl KeepOk.builtin (TriL.cons (by exact .nm rfl rfl) TriL.nil) (fn_len_str ?_)) (iopD_sound (op := .Add) rfl)) TriSS.nil))), SubR.of rfl⟩
      simp only [ellParts, List.mem_cons, List.not_mem_nil, or_false] at hmem
      rcases hmem with rfl | rfl | rfl | rfl | rfl <;> decide +kernel
  · unfold ellStep at h
    split at h <;> cases h
  · unfold ellStep at h
    split at h
    · rename_i hc
      cases h
      exact TriSS.cons (TriS.assign (d := .int (findS got w p got.length)) (TriE.meth' (by exact .nm rfl rfl) (TriL.cons (by exact .nm rfl rfl) (TriL.cons (by exact .nm rfl rfl) (TriL.cons (by exact .nm rfl rfl) TriL.nil))) getm_find fn_find) (.inl rfl) fun _ _ => rfl)
        (TriSS.stop (TriS.takeIf (TriB.cmp' (a := .int (findS got w p got.length)) (b := .int 0) (by exact .nm rfl rfl) TriE.int (congrArg some (decide_eq_true hc))) (TriSS.stop (TriS.ret TriE.boolC))))
    · cases h
  · have : ellOk got = true := by unfold ellOk; rw [h]
    rw [this]
    exact TriSS.stop (TriS.ret TriE.boolC)
  · exfalso
    rcases goRet (ellStep got) (.bool false) (fun s a d' h => by unfold ellStep at h; split at h <;> cases h; rfl) (fun s a s' h => by unfold ellStep at h; split at h <;> cases h) ellParts 0 with ⟨t, e⟩ | e <;> (rw [e] at h; cases h)
  · rcases goRet (ellStep got) (.bool false) (fun s a d' h => by unfold ellStep at h; split at h <;> cases h; rfl) (fun s a s' h => by unfold ellStep at h; split at h <;> cases h) ellParts 0 with ⟨t, e⟩ | e
    · rw [e] at h; cases h
    · rw [e] at h
      cases h
      have : ellOk got = false := by unfold ellOk; rw [e]
      rw [this]
end
end Mine
end
section
namespace Mine
noncomputable def D.scalar : D → Bool
  | .none | .bool _ | .int _ | .str _ | .bytes _ | .ty _ => true
  | _ => false
theorem Rep.scalar {g g' : View} {v : Value} {d : D} (h : Rep g v d) (hd : d.scalar = true) : Rep g' v d := by
  cases d <;> first | (cases hd; done) | exact h
theorem RepL.scalars {g g' : View} : ∀ {vs : List Value} {ds : List D}, RepL g vs ds → (∀ d ∈ ds, d.scalar = true) → RepL g' vs ds
  | _, [], h, _ => repL_nil.mpr (repL_nil.mp h)
  | _, _ :: _, h, hd => by
    obtain ⟨v, r, rfl, h1, h2⟩ := repL_cons.mp h
    exact RepL.cons (h1.scalar (hd _ List.mem_cons_self)) (h2.scalars fun d hm => hd d (List.mem_cons_of_mem _ hm))
noncomputable def View.del (g : View) (L : Addr) : View := fun b => if b = L then none else g b
theorem View.del_ne {g : View} {L b : Addr} (h : b ≠ L) : g.del L b = g b := by simp [View.del, h]
theorem View.del_self {g : View} {L : Addr} : g.del L L = none := by simp [View.del]
section
variable {W : Wo} {n : Nat} {ns : Names} {ρ : Rho} {μ : Mu}
theorem OwnAt.open_ {A env g₀ s₀ F g s y L xs} (f : Fra W n A env ns ρ none g₀ s₀ F g s) (hy : ρ.lookup y = none) (o : OwnAt env ns s₀ F g s y L xs) : ∃ ys k, s.heap.get? L = some { cls := .type "list", data := .seq ys k } ∧ RepL g ys.toList xs ∧ g L = none ∧
    Cx W n A env ns ((y, .list xs) :: ρ) (g.put L { cls := .type "list", data := .seq ys k }) s := by
  obtain ⟨ys, ⟨k, hp⟩, hr, hn⟩ := id o.acc
  obtain ⟨m, h3, h4⟩ := o.at_
  have hLl : L ≠ env.locals := o.acc.neL h3
  have hLc : ∀ x a, env.cells.lookup x = some a → L ≠ a := fun x a hx => let ⟨v, hv⟩ := f.cx.en.isC x a hx; o.acc.neC hv
  have le : g.le (g.put L { cls := .type "list", data := .seq ys k }) := View.le_put hn
  refine ⟨ys, k, hp, hr, hn, f.cx.room, ⟨fun b o e => le _ _ (f.cx.good.stat b o e), fun b o e => ?_⟩, f.cx.en.names, f.cx.en.kind, f.cx.en.globals, f.cx.en.builtins, by rw [View.put_ne hLl.symm]; exact f.cx.en.hidL, f.cx.en.cells, fun x a hx => by rw [View.put_ne (hLc x a hx).symm]; exact f.cx.en.hidC x a hx, f.cx.en.isC, f.cx.en.apart, ?_, fun x d hl hk => ?_⟩
  · by_cases hb : b = L
    · subst hb; rw [View.put_self] at e; cases e; exact hp
    · rw [View.put_ne hb] at e; exact f.cx.good.sub _ _ e
  · obtain ⟨m', h8, h9⟩ := f.cx.en.loc
    have := Ns.ext h3 h8
    subst this
    refine ⟨m, h3, fun x d hl hk => ?_⟩
    rw [List.lookup_cons] at hl
    by_cases hxy : x = y
    · subst hxy; simp at hl; subst hl
      exact ⟨_, h4, rep_list.mpr ⟨L, ys, k, rfl, View.put_self, hr.mono le⟩⟩
    · have : (x == y) = false := by simpa using hxy
      rw [this] at hl
      obtain ⟨v, r1, r2⟩ := h9 x d hl hk
      exact ⟨v, r1, r2.mono le⟩
  · rw [List.lookup_cons] at hl
    have hxy : x ≠ y := by rintro rfl; rw [o.kind] at hk; rcases hk with hk | hk <;> cases hk
    have : (x == y) = false := by simpa using hxy
    rw [this] at hl
    obtain ⟨cc, v, e1, e2, e3⟩ := f.cx.en.cv x d hl hk
    exact ⟨cc, v, e1, e2, e3.mono le⟩
theorem Step.close {g g₂ : View} {s s' : Shared} {L : Addr} {o : Obj} (hn : g L = none) (a : Step (g.put L o) s g₂ s') : Step g s (g₂.del L) s' := by
  refine ⟨fun b o' e => ?_, fun b o' e => ?_, fun b o' e => ?_, a.keep, a.rest⟩
  · have hb : b ≠ L := by rintro rfl; rw [hn] at e; cases e
    rw [View.del_ne hb]
    exact a.view _ _ (by rw [View.put_ne hb]; exact e)
  · by_cases hb : b = L
    · subst hb; rw [View.del_self] at e; cases e
    · rw [View.del_ne hb] at e
      rcases a.fresh _ _ e with q | q
      · rw [View.put_ne hb] at q; exact .inl q
      · exact .inr q
  · by_cases hb : b = L
    · subst hb; rw [View.del_self] at e; cases e
    · rw [View.del_ne hb] at e; exact a.sub _ _ e
noncomputable def TriM (W : Wo) (n : Nat) (ns : Names) (ρ : Rho) (μ : Mu) (e : Expr) (d : D) : Prop :=
  ∀ A env g₀ s₀ F g s (E : Value → Shared → Prop), Fra W n A env ns ρ μ g₀ s₀ F g s → wpAny W.M A (eval e env) (Res g s d) E s
noncomputable def TriMB (W : Wo) (n : Nat) (ns : Names) (ρ : Rho) (μ : Mu) (e : Expr) (b : Bool) : Prop :=
  ∀ A env g₀ s₀ F g s (E : Value → Shared → Prop), Fra W n A env ns ρ μ g₀ s₀ F g s → wpAny W.M A (isTrue e env (eval e env)) (ResB g s b) E s
theorem TriM.of {e : Expr} {d : D} (h : TriE W n ns ρ e d) : TriM W n ns ρ μ e d := fun A env g₀ s₀ F g s E f => h A env g s E f.cx
theorem TriMB.of {e : Expr} {d : Bool} (h : TriB W n ns ρ e d) : TriMB W n ns ρ μ e d := fun A env g₀ s₀ F g s E f => h A env g s E f.cx
theorem TriM.open_ {e : Expr} {d : D} {y : PySem.Str} {xs : List D} (h : TriE W n ns ((y, .list xs) :: ρ) e d) (hd : d.scalar = true) : TriM W n ns ρ (some (y, xs)) e d := fun A env g₀ s₀ F g s E f => by
  obtain ⟨hy, L, o⟩ := f.ownAt
  obtain ⟨ys, k, hp, hr, hn, c⟩ := o.open_ f.noown hy
  exact wp_mono' (h A env _ s E c) fun v s' ⟨g₂, st, r⟩ => ⟨g₂.del L, st.close hn, r.scalar hd⟩
theorem TriMB.open_ {e : Expr} {d : Bool} {y : PySem.Str} {xs : List D} (h : TriB W n ns ((y, .list xs) :: ρ) e d) : TriMB W n ns ρ (some (y, xs)) e d := fun A env g₀ s₀ F g s E f => by
  obtain ⟨hy, L, o⟩ := f.ownAt
  obtain ⟨ys, k, hp, hr, hn, c⟩ := o.open_ f.noown hy
  exact wp_mono' (h A env _ s E c) fun v s' ⟨e, g₂, st⟩ => ⟨e, g₂.del L, st.close hn⟩
theorem TriS.assignM {x : PySem.Str} {e : Expr} {p pos : Pos} {d : D} (h : TriM W n ns ρ μ e d) (hk : OwnK ns x) (hs : ∀ env, EnvIs ns env → swapsWith e (some (.Name x p)) pos.line env = pure false) :
    TriS W n ns ρ μ (.Assign [.Name x p] e pos) (.next ((x, d) :: ρ) (lose μ x)) := fun A env g₀ s₀ F g s Q E f hq => by
  refine wpAny_Assign_Name (wp_mono' (h A env g₀ s₀ F g s E f) fun v s₁ ⟨g₁, st₁, r₁⟩ => ?_) (hs env f.cx.envIs)
  refine storeR (f.step st₁).cx r₁ hk fun s₂ st₂ k₂ c₂ => ?_
  obtain ⟨f₂, sf₂⟩ := (f.step st₁).bound (bs := [(x, d)]) (μ' := lose μ x) (st₂.mono fun b hb => ⟨x, by simp, hb⟩) k₂ c₂ lose_ok
  exact hq _ g₁ s₂ ((f.safe st₁).trans sf₂) ⟨rfl, f₂⟩
theorem TriS.iteM {t : Expr} {b o : List Stmt} {pos : Pos} {c : Bool} {r : Out} (ht : TriMB W n ns ρ μ t c) (hb : c = true → TriSS W n ns ρ μ b r) (ho : c = false → TriSS W n ns ρ μ o r) : TriS W n ns ρ μ (.If t b o pos) r := fun A env g₀ s₀ F g s Q E f hq =>
  wpAny_If (wp_mono' (ht A env g₀ s₀ F g s E f) fun x s' ⟨e, g', st⟩ => by
    subst e
    cases x with
    | true => exact hb rfl A env g₀ s₀ F g' s' Q E (f.step st) fun fl g'' s'' sf ok => hq fl g'' s'' ((f.safe st).trans sf) ok
    | false => exact ho rfl A env g₀ s₀ F g' s' Q E (f.step st) fun fl g'' s'' sf ok => hq fl g'' s'' ((f.safe st).trans sf) ok)
theorem TriS.setItem {y : PySem.Str} {p spos pos : Pos} {ie e : Expr} {xs : List D} {i : Int} {d : D} (he : TriM W (n + 1) ns ρ (some (y, xs)) e d) (hi : TriM W (n + 1) ns ρ (some (y, xs)) ie (.int i)) (h0 : 0 ≤ i) (hl : i < xs.length) (hz : xs.length ≤ sizeLine) (hd : (y == ("__debug__" : PySem.Str)) = false)
    (hs : ∀ env, swapsWith e (some (.Subscript (.Name y p) ie spos)) pos.line env = pure false := by intro _; rfl) :
    TriS W (n + 1) ns ρ (some (y, xs)) (.Assign [.Subscript (.Name y p) ie spos] e pos) (.next ρ (some (y, xs.set i.toNat d))) := fun A env g₀ s₀ F g s Q E f hq => by
  refine wpAny_Assign_Subscript (wp_mono' (he A env g₀ s₀ F g s E f) fun v s₁ ⟨g₁, st₁, r₁⟩ => ?_) (hs env)
  have f₁ := f.step st₁
  obtain ⟨hy, L, o₁⟩ := f₁.ownAt
  refine o₁.name f₁.cx hd (wp_mono' (hi A env g₀ s₀ F g₁ s₁ E f₁) fun iv s₂ ⟨g₂, st₂, r₂⟩ => ?_)
  obtain ⟨t, rfl⟩ := rep_int.mp r₂
  have f₂ := f₁.step st₂
  have o₂ := o₁.step st₂
  obtain ⟨ys, hp, hr, hn⟩ := id o₂.acc
  have hsz : ys.size = xs.length := by rw [← hr.length, Array.length_toList]
  have hsl : sizeLine = 2 ^ 24 := rfl
  refine setItemPlain hp h0 (by lia) (by lia) fun h' hp' hs' => ?_
  obtain ⟨f₃, sf₃⟩ := f₂.noown.write hy o₂ hs' hp' (xs' := xs.set i.toNat d) (tk := s₂.toks) (by rw [Array.toList_setIfInBounds]; exact repL_set hr (r₁.mono st₂.view))
  exact hq _ g₂ _ (((f.safe st₁).trans (f₁.safe st₂)).trans sf₃) ⟨rfl, f₃⟩
theorem TriN.add {l r : Expr} {pos : Pos} {xs ys : List D} (hl : TriE W (n + 1) ns ρ l (.list xs)) (hr : TriE W (n + 1) ns ρ r (.list ys)) (hz : xs.length + ys.length ≤ sizeLine) : TriN W (n + 1) ns ρ (.BinOp l .Add r pos) (xs ++ ys) := fun A env g s E c =>
  wpAny_BinOp (wp_mono' (hl A env g s E c) fun u s₁ ⟨g₁, st₁, r₁⟩ => wp_mono' (hr A env g₁ s₁ E (c.step st₁)) fun v s₂ ⟨g₂, st₂, r₂⟩ => by
    have c₂ := (c.step st₁).step st₂
    obtain ⟨a, us, k, rfl, ha, hu⟩ := rep_list.mp (r₁.mono st₂.view)
    obtain ⟨b, vs, k', rfl, hb, hv⟩ := rep_list.mp r₂
    have e1 := hu.length
    have e2 := hv.length
    rw [Array.length_toList] at e1 e2
    have hsz : us.size + vs.size ≤ sizeLine := by lia
    have hs2 : sizeLine = 2 ^ 24 := rfl
    refine PySem.P.add_list (items := us) (items2 := vs) (c₂.good.sub _ _ ha) (c₂.good.sub _ _ hb) ?_ hsz
    have st12 := st₁.trans st₂
    refine ⟨s₂.heap.objs.size, g₂, rfl, ?_, st12.trans (Step.keeps c₂.good fun b o e => Heap.get?_push_of_some _ e), us ++ vs, ⟨0, Heap.get?_push_size _ rfl⟩, by rw [Array.toList_append]; exact hu.append hv, c₂.good.fresh (size_free _)⟩
    cases q : s.heap.get? s₂.heap.objs.size with
    | none => rfl
    | some o => have := st12.keep _ _ q; rw [size_free] at this; cases this)
theorem TriS.reassign {y : PySem.Str} {e : Expr} {p pos : Pos} {xs zs : List D} (h : TriN W n ns ((y, .list xs) :: ρ) e zs) (hsc : ∀ d ∈ zs, d.scalar = true) (hs : ∀ env, EnvIs ns env → swapsWith e (some (.Name y p)) pos.line env = pure false) :
    TriS W n ns ρ (some (y, xs)) (.Assign [.Name y p] e pos) (.next (dropN y ρ) (some (y, zs))) := fun A env g₀ s₀ F g s Q E f hq => by
  obtain ⟨hy, L, o⟩ := f.ownAt
  obtain ⟨ys, k, hp, hr, hn, c⟩ := o.open_ f.noown hy
  refine wpAny_Assign_Name (wp_mono' (h A env _ s E c) fun v s₁ hv => ?_) (hs env f.cx.envIs)
  obtain ⟨L', g₁, rfl, hf, st₁, ⟨us, hp', hr', hn'⟩⟩ := hv
  have st : Step g s (g₁.del L) s₁ := st₁.close hn
  have f₁ := f.noown.step st
  have hf0 : s₀.heap.get? L' = none := by
    cases q : s₀.heap.get? L' with
    | none => rfl
    | some o => rw [f.st.keep _ _ q] at hf; cases hf
  have hF : L' ∉ F := fun hF => by
    obtain ⟨o, ho⟩ := f.live L' hF
    rw [hf] at ho; cases ho
  refine storeNew f₁ o.kind ⟨us, hp', hr'.scalars hsc, by
    by_cases e : L' = L
    · subst e; exact View.del_self
    · rw [View.del_ne e]; exact hn'⟩ hf0 hF fun s₂ sf₂ f₂ => hq _ _ s₂ ((f.safe st).trans sf₂) ⟨rfl, f₂⟩
end
end Mine
end
section
namespace Mine
theorem repF_cons {g : View} {es : List DictEntry} {p : PySem.Str × D} {fs : List (PySem.Str × D)} : RepF g es (p :: fs) ↔ ∃ e r t, es = e :: r ∧ e.key = .str p.1 t ∧ Rep g e.val p.2 ∧ RepF g r fs := by
  cases p with
  | mk a b => exact repF_conP
theorem RepF.keys {g : View} : ∀ {es : List DictEntry} {fs : List (PySem.Str × D)}, RepF g es fs → ∀ e ∈ es, ∃ x t, e.key = .str x t
  | _, [], h => by rw [repF_nil.mp h]; intro e he; cases he
  | _, p :: fs, h => by
    obtain ⟨e, r, t, rfl, h1, h2, h3⟩ := repF_cons.mp h
    intro e' he'
    rcases List.mem_cons.mp he' with rfl | he'
    · exact ⟨_, t, h1⟩
    · exact RepF.keys h3 e' he'
theorem getL_some {g : View} {name : PySem.Str} {d : D} : ∀ {es : List DictEntry} {fs : List (PySem.Str × D)}, RepF g es fs → fs.lookup name = some d → ∃ v, getL name es = some (some v) ∧ Rep g v d
  | _, [], _, h => by cases h
  | _, p :: fs, hr, h => by
    obtain ⟨e, r, t, rfl, h1, h2, h3⟩ := repF_cons.mp hr
    obtain ⟨x, d'⟩ := p
    rw [List.lookup_cons] at h
    cases hb : name == x with
    | true =>
      rw [hb] at h; cases h
      have : name = x := by simpa using hb
      subst this
      refine ⟨e.val, ?_, h2⟩
      unfold getL
      rw [List.find?_cons_of_pos (by rw [h1]; simp [Value.isStr])]
    | false =>
      rw [hb] at h
      obtain ⟨v, hv, hd⟩ := getL_some h3 h
      refine ⟨v, ?_, hd⟩
      have hne : ¬ (e.key.isStr name = true) := by
        rw [h1]
        have : name ≠ x := by simpa using hb
        simp [Value.isStr, this.symm]
      have href : DictEntry.refKey e = false := by unfold DictEntry.refKey; rw [h1]
      unfold getL at hv ⊢
      rw [List.find?_cons_of_neg (p := fun x : DictEntry => x.key.isStr name) hne, List.any_cons, href, Bool.false_or]
      exact hv
theorem getL_none {g : View} {name : PySem.Str} : ∀ {es : List DictEntry} {fs : List (PySem.Str × D)}, RepF g es fs → fs.lookup name = none → getL name es = some none
  | _, [], h, _ => by rw [repF_nil.mp h]; rfl
  | _, p :: fs, hr, h => by
    obtain ⟨e, r, t, rfl, h1, h2, h3⟩ := repF_cons.mp hr
    obtain ⟨x, d'⟩ := p
    rw [List.lookup_cons] at h
    cases hb : name == x with
    | true => rw [hb] at h; cases h
    | false =>
      rw [hb] at h
      have hv := getL_none h3 h
      have hne : ¬ (e.key.isStr name = true) := by
        rw [h1]
        have : name ≠ x := by simpa using hb
        simp [Value.isStr, this.symm]
      have href : DictEntry.refKey e = false := by unfold DictEntry.refKey; rw [h1]
      unfold getL at hv ⊢
      rw [List.find?_cons_of_neg (p := fun x : DictEntry => x.key.isStr name) hne, List.any_cons, href, Bool.false_or]
      exact hv
theorem Rep.handed {g : View} {v : Value} {d : D} (h : Rep g v d) : handedIn v = true := by
  cases d
  case none => rw [rep_none.mp h]; rfl
  case bool => rw [rep_bool.mp h]; rfl
  case int => obtain ⟨t, rfl⟩ := rep_int.mp h; rfl
  case str => obtain ⟨t, rfl⟩ := rep_str.mp h; rfl
  case bytes => obtain ⟨t, rfl⟩ := rep_bytes.mp h; rfl
  case ty => rw [rep_ty.mp h]; rfl
  case list => obtain ⟨a, vs, n, rfl, _⟩ := rep_list.mp h; rfl
  case tup => obtain ⟨a, vs, n, rfl, _⟩ := rep_tup.mp h; rfl
  case ent => obtain ⟨a, vs, n, dd, rfl, _⟩ := rep_ent.mp h; rfl
  case inst => obtain ⟨a, dx, es, n, rfl, _⟩ := rep_inst.mp h; rfl
  case ptr => rw [rep_ptr.mp h]; rfl
section
variable {W : Wo} {n : Nat} {ns : Names} {ρ : Rho} {μ : Mu}
theorem Kit.here (k : Kit W) {g s} (G : Good W.hs g s) : (KK W).In s.heap := k.K.keeps fun b o e => G.sub _ _ (G.stat _ _ e)
theorem TriE.attrInst (k : Kit W) {x name : PySem.Str} {p pos : Pos} {io : Option Addr} {C : Addr} {fs : List (PySem.Str × D)} {d : D} {attr : Option Value} (he : TriE W (n + 1) ns ρ (.Name x p) (.inst io C fs)) (hd : fs.lookup name = some d) (hg : plainGet (KK W) C name = true) (hh : hasDictIn (KK W) C = true) (ha : findIn (KK W) (.ref C) name = some attr) (hn : noGet (KK W) attr = true) :
    TriE W (n + 1) ns ρ (.Attribute (.Name x p) name pos) d := fun A env g s E c =>
  Attribute_Name_ (wp_mono' (he A env g s E c) fun v s₁ ⟨g₁, st₁, r₁⟩ => by
    obtain ⟨a, dx, es, q, rfl, _, h1, h2, h3⟩ := rep_inst.mp r₁
    have G := (c.step st₁).good
    obtain ⟨v, hv, hr⟩ := getL_some h3 hd
    have I : InstAt s₁.heap a (instObj C dx) C (some (dictOf es q)) := ⟨G.sub _ _ h1, rfl, rfl, G.sub _ _ h2⟩
    exact get_value (k.here G) I (plainGet_of hg).1 (findObj_own hh ha hn hv) hr.handed ⟨g₁, st₁.trans (Step.toks G), hr⟩)
theorem GetM.inst (k : Kit W) {io : Option Addr} {C f : Addr} {fs : List (PySem.Str × D)} {name : PySem.Str} (hd : fs.lookup name = none) (hg : plainGet (KK W) C name = true) (hf : findIn (KK W) (.ref C) name = some (some (.ref f))) (ht : isFn (KK W) (.ref f) = true) : GetM W (.inst io C fs) name (.ref f) := fun A g s E u pl Q G r h => by
  obtain ⟨a, dx, es, q, rfl, _, h1, h2, h3⟩ := rep_inst.mp r
  have I : InstAt s.heap a (instObj C dx) C (some (dictOf es q)) := ⟨G.sub _ _ h1, rfl, rfl, G.sub _ _ h2⟩
  exact method_fn (k.here G) I (plainGet_of hg).1 (plainGet_of hg).2 hf (beq_iff_eq.mp ht) (by show (lookIn name (dictOf es q)).map _ = _; rw [lookIn_dict, getL_none h3 hd]; rfl) h
theorem TriE.attrCls (k : Kit W) {x name : PySem.Str} {p pos : Pos} {C : Addr} {mc a : Value} {d : D} (hkx : ns.lookup x = some .globalImplicit) (hv : nsIn (KK W) mainGlobals x = some (some (.ref C))) (hp : (x == ("__debug__" : PySem.Str)) = false)
    (hr : ∀ o, nsIn (KS W o) cStatics "thirdparty.any" = some none → readsIn (KS W o) C mc = true) (e : ∀ o, findCls (KS W o) (.ref C) mc name = some (.val a)) (hh : handedIn a = true) (hd : ∀ g, Rep g a d) : TriE W n ns ρ (.Attribute (.Name x p) name pos) d := fun A env g s E c => by
  have kk : ∀ b o, W.hs.get? b = some o → s.heap.get? b = some o := fun b o q => c.good.sub _ _ (c.good.stat _ _ q)
  refine Attribute_Name_ (PySem.Calls.Name_function_global c.en.kind ((c.en.kindOf x).trans hkx) (PySem.Calls.loadGlobal_global (mg := W.mg) (by rw [c.en.globals]; exact k.ok.g.keeps kk) (ns_some_of k.K k.ok.g hv) ?_) hp)
  obtain ⟨o, X, z⟩ := k.stat
  exact cls_value (X.keeps kk) (hr o z) (e o) hh ⟨g, Step.toks c.good, hd g⟩
theorem setAttrR (k : Kit W) {A : Around} {E : Value → Shared → Prop} {g : View} {s : Shared} {x C dx : Addr} {es : List DictEntry} {q : Nat} {name : PySem.Str} {v : Value} {Q : Unit → Shared → Prop} (G : Good W.hs g s) (hx : s.heap.get? x = some (instObj C dx)) (hdx : s.heap.get? dx = some (dictOf es q))
    (hs : findIn (KK W) (.ref C) "__setattr__" = some (some (.builtin "object.__setattr__"))) (hp : plainOver (KK W) C = true) (ht : takerIn (KK W) C name = some none) (hh : hasDictIn (KK W) C = true) (hl : (getL name es).isSome = true) (hz : es.length ≤ 900)
    (h : ∀ h' key, (∃ t, key = .str name t) → h'.get? dx = some (dictOf (putL name (PyData.keyHash W.w.params name) key v es) (putN name es q)) → Heap.SameBut dx s.heap h' → Q () { s with heap := h', toks := s.toks + 2 }) :
    wpAny W.M A (setAttr (.ref x) name v) Q E s := by
  have X := k.here G
  have I : InstAt s.heap x (instObj C dx) C (some (dictOf es q)) := ⟨hx, rfl, rfl, hdx⟩
  refine set_plain X I hs (osa_open (s := { s with toks := s.toks + 1 }) X I hp ht fun b => ?_)
  obtain ⟨cd, hc, hd'⟩ := any_some hh
  refine wpAny_bind (wpAny_pure (wpAny_bind (wpAny_bind (wpAny_loadPart (s := { s with toks := s.toks + 1 }) hx (wpAny_bind ((looks_clsIn (M := model W.prog W.w) X hc) _ _ _ _ (fun _ _ e => e) ?_))))))
  rw [hd']
  refine wpAny_pure (a := some dx) (wpAny_bind (wpAny_pure (wpAny_bind ?_)))
  unfold nsSet
  refine wpAny_bind (wpAny_bind (wpAny_askSetting (wpAny_pure (wpAny_bind (wpAny_mkText (wpAny_bind (wpAny_loadPart (s := { s with toks := s.toks + 1 + 1 }) hdx ?_)))))))
  have c : (!es.toArray.any (·.key.isStr name) && es.toArray.any (·.refKey)) = false := by
    rw [← Array.any_toList, ← Array.any_toList]
    have hl' := hl
    unfold getL at hl'
    split at hl'
    · rename_i en he
      show (!es.any _ && es.any _) = false
      rw [List.any_eq_true.mpr ⟨en, List.mem_of_find?_eq_some he, List.find?_some he⟩]; rfl
    · split at hl'
      · cases hl'
      · rename_i z
        show (!es.any _ && es.any _) = false
        rw [Bool.not_eq_true] at z; rw [z, Bool.and_false]
  dsimp only
  rw [aRefKeyMayBeTheName_at, c]
  have hput := putName_dict name (PyData.keyHash W.w.params name) (.str name (s.toks + 1)) v es q
  have hlen : (putL name (PyData.keyHash W.w.params name) (.str name (s.toks + 1)) v es).length ≤ 1000 := by
    have : ∀ es : List DictEntry, (putL name (PyData.keyHash W.w.params name) (.str name (s.toks + 1)) v es).length ≤ es.length + 1 := fun es => by
      induction es with
      | nil => simp [putL]
      | cons e r ih =>
        unfold putL
        split
        · simp
        · simp only [List.length_cons]; lia
    have := this es
    lia
  have hnf : (Obj.putName name (PyData.keyHash W.w.params name) (.str name (s.toks + 1)) v (dictOf es q)).isFreed = false := by rw [hput]; rfl
  have hget : (s.heap.update dx (Obj.putName name (PyData.keyHash W.w.params name) (.str name (s.toks + 1)) v)).get? dx = some (dictOf (putL name (PyData.keyHash W.w.params name) (.str name (s.toks + 1)) v es) (putN name es q)) := by
    rw [Heap.get?_update_self _ hdx hnf, hput]
  refine wpAny_updatePart (s := { s with toks := s.toks + 1 + 1 }) hdx ?_
  refine wpAny_bind (wpAny_lookBehind (s := { s with heap := s.heap.update dx (Obj.putName name (PyData.keyHash W.w.params name) (.str name (s.toks + 1)) v), toks := s.toks + 1 + 1 }) hget (pastItsLine_dict (by rw [List.size_toArray, sizeLine_eq]; lia)) ?_)
  exact wpAny_pure (h _ _ ⟨_, rfl⟩ hget (Heap.SameBut.update ..))
end
end Mine
end
section
namespace Mine
section
variable {W : Wo} {n : Nat} {ns : Names} {ρ : Rho} {μ : Mu}
theorem defEnter (k : Kit W) {A : Around} {g g₀ : View} {s s₀ : Shared} {a : Addr} {o : Obj} {fd : FuncData} {body : List Stmt} {xs : List PySem.Str} {vs : List Value} {R : Result → Shared → Prop} {ρ : Rho} (hA : Room (n + 1) A) (G : Good W.hs g s) (st0 : Step g₀ s₀ g s)
    (ho : (KK W).lookup a = some o) (hdata : o.data = .func fd)
    (hcd : ∃ c oc vs t, fd.code = .ref c ∧ (KK W).lookup c = some oc ∧ oc.data = .fields vs ∧ vs[1]? = some (.str fd.qualname t))
    (hbody : fd.body = .stmts body) (hbind : ∀ vs, vs.length = xs.length → bindArgs fd ⟨vs, []⟩ = pure (xs.zip vs)) (hlv : vs.length = xs.length)
    (hsh : fd.closure = [] ∧ fd.globals = mainGlobals ∧ fd.builtins = builtinsNs ∧ fd.scope.isCoroutine = false ∧ fd.scope.isGenerator = false ∧ fd.scope.kind = .function)
    (hok : okNames fd.scope.names xs = true) (hρ : ∀ x d, ρ.lookup x = some d → ∃ v, (x, v) ∈ xs.zip vs ∧ Rep g v d)
    (h : ∀ env s₁ (E : Value → Shared → Prop), Fra W n (A.deeper env) env fd.scope.names ρ none g₀ s₀ [] g s₁ → Step g s g s₁ → (∃ m, s₁.heap.Ns env.locals m ∧ ∀ x v, (x, v) ∈ xs.zip vs → fd.scope.names.lookup x = some .local → m x = some v) → s.heap.get? env.locals = none →
      wpAny W.M (A.deeper env) (execs body env) (fun f s' => R (.ok (.ret (match f with | .ret v => v | _ => .none))) s') E s₁) :
    codeAny W.M A (.call (.ref a) ⟨vs, []⟩) R s := by
  obtain ⟨c, oc, vs', t, h1, h2, h3, h4⟩ := hcd
  obtain ⟨hclo, hg, hb, hco, hgen, hk⟩ := hsh
  unfold okNames at hok
  rw [Bool.and_eq_true, Bool.and_eq_true] at hok
  obtain ⟨⟨k1, k2⟩, k3⟩ := hok
  have hkinds : ∀ x ∈ xs, fd.scope.names.lookup x = some .local ∨ fd.scope.names.lookup x = some .cell := fun x hx => by simpa using List.all_eq_true.mp k1 x hx
  have hfree : ∀ p ∈ fd.scope.names, p.2 ≠ NameKind.free := fun p hp => by simpa using List.all_eq_true.mp k2 p hp
  have hnd : xs.Nodup := of_decide_eq_true k3
  have O := k.ok
  have k₀ : ∀ b o, W.hs.get? b = some o → s.heap.get? b = some o := fun b o q => G.sub _ _ (G.stat _ _ q)
  have hkind : ∀ x ∈ xs.zip vs, fd.scope.names.lookup x.1 = some .local ∨ (fd.scope.names.lookup x.1 = some .cell ∧ ((cellsFrom (s.heap.objs.size + 1) fd.scope.names []).lookup x.1).isSome = true) := fun x hx => by
    have hx1 : x.1 ∈ xs := (List.of_mem_zip hx).1
    rcases hkinds x.1 hx1 with h | h
    · exact .inl h
    · refine .inr ⟨h, ?_⟩
      obtain ⟨c, hc⟩ := @cellsFrom_has x.1 fd.scope.names (s.heap.objs.size + 1) [] (mem_of_lookup h)
      obtain ⟨c', hc'⟩ := lookup_some_of_mem hc
      rw [hc']; rfl
  have hdep := hA.depth
  refine codeAny_call_cells (by have : recursionLimit = 1000 := rfl; omega) (k₀ _ _ (k.K _ _ ho)) hdata (O.lim.keeps k₀) (Heap.CodeRec.keeps ⟨c, oc, vs', t, h1, k.K _ _ h2, h3, h4⟩ k₀) hbody (hbind vs hlv) hclo hkind (fun s₁ x => ?_) hco hgen hk
  have hnn : ((xs.zip vs).map (·.1)).Nodup := by rw [List.map_fst_zip (by omega)]; exact hnd
  have keep := x.toInCall.keep
  have hLf : s.heap.get? (callEnvC fd s.heap.objs.size a).locals = none := Heap.get?_none_of_le x.toInCall.fresh
  have hcf : ∀ y c, (callEnvC fd s.heap.objs.size a).cells.lookup y = some c → s.heap.get? c = none := fun y c h => Heap.get?_none_of_le (Nat.le_of_lt (Nat.lt_of_le_of_lt x.toInCall.fresh (x.above y c (mem_of_lookup h))))
  have back : ∀ b, s.heap.get? b = none → s₀.heap.get? b = none := fun b hb => by
    cases q : s₀.heap.get? b with
    | none => rfl
    | some o => rw [st0.keep _ _ q] at hb; cases hb
  have st : Step g s g s₁ := by
    obtain ⟨h', tk, e⟩ := x.toInCall.same
    subst e
    exact Step.keeps G keep
  have hkof : ∀ y, (callEnvC fd s.heap.objs.size a).kindOf y = fd.scope.names.lookup y := fun y => rfl
  have nfree : ∀ y, fd.scope.names.lookup y ≠ some .free := fun y h => hfree _ (mem_of_lookup h) rfl
  have cx : Cx W n (A.deeper (callEnvC fd s.heap.objs.size a)) (callEnvC fd s.heap.objs.size a) fd.scope.names ρ g s₁ := by
    refine ⟨hA.deeper, st.good G, rfl, hk, hg, hb, G.fresh hLf, fun y hy => ?_, fun y c hy => G.fresh (hcf y c hy), fun y c hy => ⟨_, x.cell y c hy⟩, fun y z c hy hz => name_of_addr x.apart (mem_of_lookup hy) (mem_of_lookup hz), ⟨_, x.toInCall.ns, fun y e he hy => ?_⟩, fun y e he hy => ?_⟩
    · rcases hy with hy | hy
      · obtain ⟨c, hc⟩ := @cellsFrom_has y fd.scope.names (s.heap.objs.size + 1) [] (mem_of_lookup hy)
        obtain ⟨c', hc'⟩ := lookup_some_of_mem hc
        exact ⟨c', _, hc', x.cell y c' hc'⟩
      · exact absurd hy (nfree y)
    · obtain ⟨v, hv, hr⟩ := hρ y e he
      exact ⟨v, bindL_has ((hkof y).trans hy) hnn hv, hr⟩
    · rcases hy with hy | hy
      · obtain ⟨c, hc⟩ := @cellsFrom_has y fd.scope.names (s.heap.objs.size + 1) [] (mem_of_lookup hy)
        obtain ⟨c', hc'⟩ := lookup_some_of_mem hc
        obtain ⟨v, hv, hr⟩ := hρ y e he
        refine ⟨c', v, hc', ?_, hr⟩
        have := x.cell y c' hc'
        rw [bindC_has ((hkof y).trans hy) hnn hv] at this
        exact this
      · exact absurd hy (nfree y)
  exact h _ s₁ _ ⟨cx, st0.trans st, back _ hLf, fun y c hy => back _ (hcf y c hy), fun _ _ e => (by cases e), by simp, fun _ _ _ h => by simp at h, fun _ h => by simp at h⟩ st ⟨_, x.toInCall.ns, fun y v hv hy => bindL_has ((hkof y).trans hy) hnn hv⟩ hLf
theorem Fra.butDict {A env g₀ s₀ F g s} {C : Addr} {es : List DictEntry} {q : Nat} {h' : Heap} {tk : Nat} (f : Fra W n A env ns ρ none g₀ s₀ F g s) (hm : s.heap.get? C = some (dictOf es q)) (hl : C ≠ env.locals) (hc : s₀.heap.get? C = none) (hF : C ∉ F) (hg : g C = none) (hs : Heap.SameBut C s.heap h') :
    Fra W n A env ns ρ none g₀ s₀ F g { s with heap := h', toks := tk } := by
  have lw : ∀ b ∈ [C], g b = none := fun b hb => List.mem_singleton.mp hb ▸ hg
  have kk : ∀ b o, b ∉ [C] → s.heap.get? b = some o → h'.get? b = some o := fun b o hb e => (hs.2 b fun e' => hb (by simp [e'])).trans e
  have hLl : env.locals ∉ [C] := by simpa using hl.symm
  have hLc : ∀ x a, env.cells.lookup x = some a → a ∉ [C] := fun x a hx => by
    obtain ⟨v, o, ho, hd⟩ := f.cx.en.isC x a hx
    rw [List.mem_singleton]
    rintro rfl
    rw [hm] at ho; cases ho; cases hd
  have wf : ∀ b ∈ [C], s₀.heap.get? b = none := fun b hb => List.mem_singleton.mp hb ▸ hc
  have nF : ∀ b ∈ F, b ∉ [C] := fun b hb h => hF (by rw [List.mem_singleton] at h; exact h ▸ hb)
  exact { cx := f.cx.but hLl hLc lw kk, st := Step.drop f.cx.good f.st wf lw kk, loc := f.loc, cel := f.cel, offL := f.offL, offC := f.offC, live := fun b hb => let ⟨q, hq⟩ := f.live b hb; ⟨q, kk b q (nF b hb) hq⟩, own := fun z zs e => (by cases e) }
theorem Fra.review {A env g₀ s₀ F g g' s} {ρ' : Rho} (f : Fra W n A env ns ρ none g₀ s₀ F g s) (G' : Good W.hs g' s) (st' : Step g₀ s₀ g' s) (hl : g' env.locals = none) (hc : ∀ x a, env.cells.lookup x = some a → g' a = none) (hr : ∀ x d v, ρ'.lookup x = some d → (∃ m, s.heap.Ns env.locals m ∧ m x = some v) → (∃ d', ρ.lookup x = some d' ∧ Rep g v d') → Rep g' v d)
    (hin : ∀ x d, ρ'.lookup x = some d → (∃ d', ρ.lookup x = some d') ∧ ns.lookup x = some .local) : Fra W n A env ns ρ' none g₀ s₀ F g' s :=
  { cx := ⟨f.cx.room, G', f.cx.en.names, f.cx.en.kind, f.cx.en.globals, f.cx.en.builtins, hl, f.cx.en.cells, hc, f.cx.en.isC, f.cx.en.apart, (by
      obtain ⟨m, h1, h2⟩ := f.cx.en.loc
      refine ⟨m, h1, fun x d hx hk => ?_⟩
      obtain ⟨⟨d', hd'⟩, _⟩ := hin x d hx
      obtain ⟨v, hv, hrv⟩ := h2 x d' hd' hk
      exact ⟨v, hv, hr x d v hx ⟨m, h1, hv⟩ ⟨d', hd', hrv⟩⟩), fun x d hx hk => by
      obtain ⟨_, h⟩ := hin x d hx
      rw [h] at hk; rcases hk with hk | hk <;> cases hk⟩
    st := st', loc := f.loc, cel := f.cel, own := fun _ _ e => (by cases e), offL := f.offL, offC := f.offC, live := f.live }
end
end Mine
end
section
namespace Mine
section
variable {W : Wo} {n : Nat} {ns : Names} {ρ : Rho} {μ : Mu}
theorem LoopOk.goR {α σ : Type} {P : D → Rho → Mu → Out → Prop} {El : Rho → Mu → Out → Prop} (item : α → D) (step : σ → α → Go σ) (ρs : σ → Rho) (μs : σ → Mu) (ρb : σ → Rho) (μb : σ → Mu) (Inv : List α → σ → Prop) (o : σ → Out)
    (hI : ∀ xs s a s', Inv (a :: xs) s → step s a = .on s' → Inv xs s')
    (h1 : ∀ xs s a s', Inv (a :: xs) s → step s a = .on s' → ∃ ρ', (P (item a) (ρs s) (μs s) (.next ρ' (μs s')) ∨ P (item a) (ρs s) (μs s) (.cont ρ' (μs s'))) ∧ SubR (ρs s') ρ')
    (h2 : ∀ xs s a s', Inv (a :: xs) s → step s a = .brk s' → P (item a) (ρs s) (μs s) (.brk (ρb s') (μb s')))
    (h3 : ∀ xs s a d, Inv (a :: xs) s → step s a = .ret d → P (item a) (ρs s) (μs s) (.ret d)) (hE : ∀ s, Inv [] s → El (ρs s) (μs s) (o s)) :
    ∀ (xs : List α) (s : σ), Inv xs s → LoopOk P El (xs.map item) (ρs s) (μs s) (match goFold step xs s with | .on s' => o s' | .brk s' => .next (ρb s') (μb s') | .ret d => .ret d)
  | [], s, hs => hE s hs
  | a :: xs, s, hs => by
    unfold goFold
    cases hst : step s a with
    | on s' =>
      dsimp only
      obtain ⟨ρ', hp, hsub⟩ := h1 xs s a s' hs hst
      have rec_ := LoopOk.goR item step ρs μs ρb μb Inv o hI h1 h2 h3 hE xs s' (hI xs s a s' hs hst)
      rcases hp with hp | hp
      · exact ⟨_, hp, _, hsub, rec_⟩
      · exact ⟨_, hp, _, hsub, rec_⟩
    | brk s' => exact ⟨_, h2 xs s a s' hs hst, rfl⟩
    | ret d => exact ⟨_, h3 xs s a d hs hst, rfl⟩
theorem goInvR {α σ : Type} (step : σ → α → Go σ) (Inv : List α → σ → Prop) (hI : ∀ xs s a s', Inv (a :: xs) s → step s a = .on s' → Inv xs s') : ∀ (xs : List α) (s : σ), Inv xs s →
    (∀ s', goFold step xs s = .on s' → Inv [] s') ∧ (∀ s', goFold step xs s = .brk s' → ∃ a ys t, Inv (a :: ys) t ∧ step t a = .brk s')
  | [], s, hs => ⟨fun s' h => (by cases h; exact hs), fun s' h => (by cases h)⟩
  | a :: xs, s, hs => by
    unfold goFold
    cases hst : step s a with
    | on t => exact goInvR step Inv hI xs t (hI xs s a t hs hst)
    | brk t => exact ⟨fun s' h => (by cases h), fun s' h => (by cases h; exact ⟨a, xs, s, hs, hst⟩)⟩
    | ret d => exact ⟨fun s' h => (by cases h), fun s' h => (by cases h)⟩
theorem TriS.forR {α σ : Type} {tgt iter : Expr} {body orelse : List Stmt} {pos : Pos} (xs : List α) (item : α → D) (step : σ → α → Go σ) (bs : α → Rho) (ρs : σ → Rho) (μs : σ → Mu) (ρb : σ → Rho) (μb : σ → Mu) (Inv : List α → σ → Prop) (o : σ → Out) (s₀ : σ) {ds : List D}
    (hρ : SubR (ρs s₀) ρ) (hμ : μ = μs s₀) (hI : TriI W n ns ρ tgt iter ds) (hx : ds = xs.map item) (h0 : Inv xs s₀) (hstep : ∀ xs s a s', Inv (a :: xs) s → step s a = .on s' → Inv xs s') (hb : ∀ a, BindT ns tgt (item a) (bs a))
    (h1 : ∀ xs s a s', Inv (a :: xs) s → step s a = .on s' → ∃ ρ', (TriSS W n ns (bs a ++ ρs s) ((bs a).foldr (fun p m => lose m p.1) (μs s)) body (.next ρ' (μs s')) ∨ TriSS W n ns (bs a ++ ρs s) ((bs a).foldr (fun p m => lose m p.1) (μs s)) body (.cont ρ' (μs s'))) ∧ SubR (ρs s') ρ')
    (h2 : ∀ xs s a s', Inv (a :: xs) s → step s a = .brk s' → TriSS W n ns (bs a ++ ρs s) ((bs a).foldr (fun p m => lose m p.1) (μs s)) body (.brk (ρb s') (μb s')))
    (h3 : ∀ xs s a d, Inv (a :: xs) s → step s a = .ret d → TriSS W n ns (bs a ++ ρs s) ((bs a).foldr (fun p m => lose m p.1) (μs s)) body (.ret d))
    (hE : ∀ s, Inv [] s → TriSS W n ns (ρs s) (μs s) orelse (o s) ∧ ∀ ρ' μ', o s ≠ .brk ρ' μ' ∧ o s ≠ .cont ρ' μ')
    (hs : ∀ env x, foldedSetIterable iter env x = pure x := by intro _ _; rfl) :
    TriS W n ns ρ μ (.For tgt iter body orelse pos) (match goFold step xs s₀ with | .on s' => o s' | .brk s' => .next (ρb s') (μb s') | .ret d => .ret d) := by
  subst hx hμ
  refine TriS.for_ hI hρ (LoopOk.goR item step ρs μs ρb μb Inv o hstep (fun xs s a s' hs hst => ?_) (fun xs s a s' hs hst => ⟨_, hb a, h2 xs s a s' hs hst⟩) (fun xs s a d hs hst => ⟨_, hb a, h3 xs s a d hs hst⟩) (fun s hs => ?_) xs s₀ h0) hs
  · obtain ⟨ρ', h, hsub⟩ := h1 xs s a s' hs hst
    refine ⟨ρ', ?_, hsub⟩
    rcases h with h | h
    · exact .inl ⟨_, hb a, h⟩
    · exact .inr ⟨_, hb a, h⟩
  · -- the else clause may not break
    have := hE s hs
    cases ho : o s with
    | next ρ μ => rw [ho] at this; exact ⟨this.1, this.2⟩
    | brk ρ μ => exact absurd ho (this.2 ρ μ).1
    | cont ρ μ => exact absurd ho (this.2 ρ μ).2
    | ret d => rw [ho] at this; exact ⟨this.1, this.2⟩
theorem TriS.assign3 {x y z : PySem.Str} {px py pz pos : Pos} {e : Expr} {d : D} (h : TriM W n ns ρ μ e d) (hx : OwnK ns x) (hy : OwnK ns y) (hz : OwnK ns z) (hμ : ∀ m, μ = some m → m.1 ≠ x ∧ m.1 ≠ y ∧ m.1 ≠ z)
    (hw : ∀ env, EnvIs ns env → swappedStores [.Name x px, .Name y py, .Name z pz] e env = pure none := by intro _ _; rfl) :
    TriS W n ns ρ μ (.Assign [.Name x px, .Name y py, .Name z pz] e pos) (.next ((z, d) :: (y, d) :: (x, d) :: ρ) μ) := fun A env g₀ s₀ F g s Q E f hq => by
  have hm : ∀ w, (∀ m, μ = some m → m.1 ≠ w) → ∀ y' xs', μ = some (y', xs') → μ = some (y', xs') ∧ y' ∉ [(w, d)].map (·.1) := fun w hw y' xs' e => ⟨e, by simpa using hw _ e⟩
  refine wpAny_Assign_three (wp_mono' (h A env g₀ s₀ F g s E f) fun v s₁ ⟨g₁, st₁, r₁⟩ => ?_) rfl (hw env f.cx.envIs)
  have f₁ := f.step st₁
  refine wpAny_assign_Name (storeR f₁.cx r₁ hx fun s₂ st₂ k₂ c₂ => ?_)
  obtain ⟨f₂, sf₂⟩ := f₁.bound (bs := [(x, d)]) (μ' := μ) (st₂.mono fun b hb => ⟨x, by simp, hb⟩) k₂ c₂ (hm x fun m e => (hμ m e).1)
  refine wpAny_assign_Name (storeR f₂.cx r₁ hy fun s₃ st₃ k₃ c₃ => ?_)
  obtain ⟨f₃, sf₃⟩ := f₂.bound (bs := [(y, d)]) (μ' := μ) (st₃.mono fun b hb => ⟨y, by simp, hb⟩) k₃ c₃ (hm y fun m e => (hμ m e).2.1)
  refine wpAny_assign_Name (storeR f₃.cx r₁ hz fun s₄ st₄ k₄ c₄ => ?_)
  obtain ⟨f₄, sf₄⟩ := f₃.bound (bs := [(z, d)]) (μ' := μ) (st₄.mono fun b hb => ⟨z, by simp, hb⟩) k₄ c₄ (hm z fun m e => (hμ m e).2.2)
  exact hq _ g₁ s₄ ((((f.safe st₁).trans sf₂).trans sf₃).trans sf₄) ⟨rfl, f₄⟩
end
structure WsS where
  n : Int
  nt : Int
  b : Int
  count : List Int
noncomputable def wsBump (cs : List Int) (b : Int) : List Int :=
  if b ≥ cs.length then (cs ++ List.replicate (b - cs.length + 1).toNat 0).set b.toNat ((cs ++ List.replicate (b - cs.length + 1).toNat 0).getD b.toNat 0 + 1)
  else cs.set b.toNat (cs.getD b.toNat 0 + 1)
noncomputable def wsStep (s : WsS) (c : Nat) : Go WsS :=
  if c = 32 then .on { s with n := s.n + 1, b := s.b + 1 } else if c = 9 then .on { n := s.n + 1, nt := s.nt + 1, b := 0, count := wsBump s.count s.b } else .brk s
noncomputable def wsScan (x : PySem.Str) : WsS := match goFold wsStep x.cps.toList ⟨0, 0, 0, []⟩ with | .on s => s | .brk s => s | .ret _ => ⟨0, 0, 0, []⟩
noncomputable def wsD (x : PySem.Str) : D := .inst none 301 [("raw", .str x), ("n", .int (wsScan x).n), ("nt", .int (wsScan x).nt), ("norm", .tup [.tup ((wsScan x).count.map .int), .int (wsScan x).b]), ("is_simple", .bool (decide (((wsScan x).count.length : Int) ≤ 1)))]
theorem wsBump_len (cs : List Int) (b : Int) (h0 : 0 ≤ b) : (wsBump cs b).length ≤ max cs.length (b.toNat + 1) := by
  obtain ⟨m, rfl⟩ := Int.eq_ofNat_of_zero_le h0
  unfold wsBump
  split
  · rename_i h
    have h := Int.ofNat_le.mp h
    have e : ((m : Int) - (cs.length : Int) + 1).toNat = m - cs.length + 1 := by rw [← Int.ofNat_sub h]; rfl
    rw [List.length_set, List.length_append, List.length_replicate, e, ← Nat.add_assoc, Nat.add_sub_cancel' h]
    exact Nat.le_max_right _ _
  · rw [List.length_set]; exact Nat.le_max_left _ _
end Mine
end
section
namespace Mine
section
variable {W : Wo} {n : Nat} {ns : Names} {ρ : Rho} {μ : Mu}
theorem Room.made {A : Around} {C : Addr} {vals : List Value} (R : Room (n + 1) A) : Room n (A.under (.builtin "type.__call__" ⟨.ref C :: vals, []⟩)) :=
  ⟨R.handled, by have := R.depth; show A.depth + 1 + _ ≤ _; lia, by have := R.units; show A.units + 1 + _ ≤ _; lia⟩
theorem RepF.mono' {g g' : View} (k : g.le g') {es fs} (h : RepF g es fs) : RepF g' es fs := RepF.mono k h
theorem RepF.snoc {g : View} {e : DictEntry} {name : PySem.Str} {d : D} : ∀ {es : List DictEntry} {fs : List (PySem.Str × D)}, RepF g es fs → (∃ t, e.key = .str name t) → Rep g e.val d → RepF g (es ++ [e]) (fs ++ [(name, d)])
  | _, [], h, ⟨t, ht⟩, hd => by rw [repF_nil.mp h]; exact repF_cons.mpr ⟨e, [], t, rfl, ht, hd, repF_nil.mpr rfl⟩
  | _, p :: fs, h, ht, hd => by
    obtain ⟨e', r, t', rfl, h1, h2, h3⟩ := repF_cons.mp h
    exact repF_cons.mpr ⟨e', r ++ [e], t', rfl, h1, h2, RepF.snoc h3 ht hd⟩
theorem putL_new {g : View} {name : PySem.Str} {hsh : Int} {key v : Value} : ∀ {es : List DictEntry} {fs : List (PySem.Str × D)}, RepF g es fs → fs.lookup name = none → putL name hsh key v es = es ++ [⟨hsh, key, v⟩]
  | _, [], h, _ => by rw [repF_nil.mp h]; rfl
  | _, p :: fs, h, hn => by
    obtain ⟨e', r, t', rfl, h1, h2, h3⟩ := repF_cons.mp h
    obtain ⟨y, d⟩ := p
    rw [List.lookup_cons] at hn
    cases hb : name == y with
    | true => rw [hb] at hn; cases hn
    | false =>
      rw [hb] at hn
      have hne : e'.key.isStr name = false := by
        rw [h1]
        have : name ≠ y := by simpa using hb
        simp [Value.isStr, this.symm]
      unfold putL
      rw [hne]
      simp only [Bool.false_eq_true, if_false, List.cons_append]
      rw [putL_new h3 hn]
theorem RepF.length {g : View} : ∀ {fs : List (PySem.Str × D)} {es : List DictEntry}, RepF g es fs → es.length = fs.length
  | [], _, h => by rw [repF_nil.mp h]; rfl
  | p :: fs, _, h => by obtain ⟨e', r, t', rfl, h1, h2, h3⟩ := repF_cons.mp h; simp [RepF.length h3]
structure SelfAt (env : Env) (s₀ : Shared) (g : View) (s : Shared) (C x dx : Addr) (fs : List (PySem.Str × D)) : Prop where
  at_ : ∃ m, s.heap.Ns env.locals m ∧ m "self" = some (.ref x)
  obj : s.heap.get? x = some (instObj C dx)
  dict : ∃ es q, s.heap.get? dx = some (dictOf es q) ∧ RepF g es fs ∧ es.length ≤ 50
  hidX : g x = none
  hidD : g dx = none
  newX : s₀.heap.get? x = none
  newD : s₀.heap.get? dx = none
  neX : x ≠ env.locals
  neD : dx ≠ env.locals
theorem SelfAt.step {env s₀ g s C x dx fs g' s'} (o : SelfAt env s₀ g s C x dx fs) (a : Step g s g' s') : SelfAt env s₀ g' s' C x dx fs := by
  obtain ⟨es, q, h1, h2, h3⟩ := o.dict
  exact ⟨let ⟨m, h1, h2⟩ := o.at_; ⟨m, h1.keeps a.keep, h2⟩, a.keep _ _ o.obj, ⟨es, q, a.keep _ _ h1, h2.mono' a.view, h3⟩, (a.toX (X := fun _ => False)).hid o.hidX o.obj, (a.toX (X := fun _ => False)).hid o.hidD h1, o.newX, o.newD, o.neX, o.neD⟩
theorem selfStore (k : Kit W) {A env g₀ s₀ g s} {E : Value → Shared → Prop} {C x dx : Addr} {fs : List (PySem.Str × D)} {name : PySem.Str} {e : Expr} {d : D} {p ap pos : Pos} {Q : Flow → Shared → Prop} (f : Fra W n A env ns ρ none g₀ s₀ [] g s) (o : SelfAt env s₀ g s C x dx fs) (he : TriE W n ns ρ e d)
    (hself : ns.lookup ("self" : PySem.Str) = some .local) (hs : findIn (KK W) (.ref C) "__setattr__" = some (some (.builtin "object.__setattr__"))) (hp : plainOver (KK W) C = true) (ht : takerIn (KK W) C name = some none) (hh : hasDictIn (KK W) C = true) (hn : fs.lookup name = none) (hl : fs.length ≤ 40)
    (hsw : ∀ env, swapsWith e (some (.Attribute (.Name "self" p) name ap)) pos.line env = pure false)
    (hQ : ∀ g' s', Fra W n A env ns ρ none g₀ s₀ [] g' s' → SelfAt env s₀ g' s' C x dx (fs ++ [(name, d)]) → Q .next s') : wpAny W.M A (exec (.Assign [.Attribute (.Name "self" p) name ap] e pos) env) Q E s := by
  refine plainObj_wpAny_Assign_Attribute (wp_mono' (he A env g s E f.cx) fun v s₁ ⟨g₁, st₁, r₁⟩ => ?_) (hsw env)
  have f₁ := f.step st₁
  have o₁ := o.step st₁
  obtain ⟨m, h1, h2⟩ := o₁.at_
  refine wpAny_Name (wpAny_loadName_local f₁.cx.en.kind ((f₁.cx.en.kindOf _).trans hself) h1 h2 ?_) rfl
  obtain ⟨es, q, h3, h4, h5⟩ := o₁.dict
  have hlen := h4.length
  refine setAttrR k f₁.cx.good o₁.obj h3 hs hp ht hh (by rw [getL_none h4 hn]; rfl) (by lia) fun h' key ⟨t, hkey⟩ hget hsame => ?_
  have hxd : x ≠ dx := by
    intro e
    have := o₁.obj
    rw [e, h3] at this
    cases this
  have f₂ := f₁.butDict (tk := s₁.toks + 2) h3 o₁.neD o₁.newD (by simp) o₁.hidD hsame
  have hput := putL_new (hsh := PyData.keyHash W.w.params name) (key := key) (v := v) h4 hn
  rw [hput] at hget
  refine hQ g₁ _ f₂ ⟨⟨m, h1.at' fun o' e => (hsame.2 _ o₁.neD.symm).trans e, h2⟩, (hsame.2 _ hxd).trans o₁.obj, ⟨_, _, hget, h4.snoc ⟨t, hkey⟩ r₁, by rw [List.length_append, List.length_singleton]; lia⟩, o₁.hidX, o₁.hidD, o₁.newX, o₁.newD, o₁.neX, o₁.neD⟩
theorem SelfAt.open_ {A env g₀ s₀ g s} {C x dx : Addr} {fs : List (PySem.Str × D)} (f : Fra W n A env ns ρ none g₀ s₀ [] g s) (o : SelfAt env s₀ g s C x dx fs) (hself : ns.lookup ("self" : PySem.Str) = some .local) :
    ∃ g' es q, Fra W n A env ns (("self", .inst (some x) C fs) :: ρ) none g₀ s₀ [] g' s ∧ Step g₀ s₀ g' s ∧ g' x = some (instObj C dx) ∧ g' dx = some (dictOf es q) ∧ RepF g es fs ∧ RepF g' es fs ∧ es.length ≤ 50 := by
  obtain ⟨es, q, h1, h2, h3⟩ := o.dict
  have hxd : x ≠ dx := by
    intro e
    have := o.obj
    rw [e, h1] at this
    cases this
  have le : g.le ((g.put x (instObj C dx)).put dx (dictOf es q)) := fun b o' e => View.le_put (by rw [View.put_ne hxd.symm]; exact o.hidD) _ _ (View.le_put o.hidX _ _ e)
  have ex : ((g.put x (instObj C dx)).put dx (dictOf es q)) x = some (instObj C dx) := by rw [View.put_ne hxd, View.put_self]
  have sub' : ∀ b o', ((g.put x (instObj C dx)).put dx (dictOf es q)) b = some o' → s.heap.get? b = some o' := fun b o' e => by
    by_cases hb : b = dx
    · subst hb; rw [View.put_self] at e; cases e; exact h1
    · rw [View.put_ne hb] at e
      by_cases hb' : b = x
      · subst hb'; rw [View.put_self] at e; cases e; exact o.obj
      · rw [View.put_ne hb'] at e; exact f.cx.good.sub _ _ e
  have off : ∀ b, b ≠ x → b ≠ dx → ((g.put x (instObj C dx)).put dx (dictOf es q)) b = g b := fun b e1 e2 => by rw [View.put_ne e2, View.put_ne e1]
  have st' : Step g₀ s₀ ((g.put x (instObj C dx)).put dx (dictOf es q)) s := ⟨fun b o' e => le _ _ (f.st.view _ _ e), fun b o' e => by
    by_cases hb : b = dx
    · subst hb; exact .inr o.newD
    · by_cases hb' : b = x
      · subst hb'; exact .inr o.newX
      · rw [off b hb' hb] at e; exact f.st.fresh _ _ e, sub', f.st.keep, f.st.rest⟩
  have cel : ∀ y a, env.cells.lookup y = some a → a ≠ x ∧ a ≠ dx := fun y a hy => by
    obtain ⟨v, o', ho, hd⟩ := f.cx.en.isC y a hy
    refine ⟨?_, ?_⟩
    · rintro rfl; rw [o.obj] at ho; cases ho; cases hd
    · rintro rfl; rw [h1] at ho; cases ho; cases hd
  refine ⟨_, es, q, { cx := ⟨f.cx.room, ⟨fun b o' e => le _ _ (f.cx.good.stat b o' e), sub'⟩, f.cx.en.names, f.cx.en.kind, f.cx.en.globals, f.cx.en.builtins, by rw [off _ o.neX.symm o.neD.symm]; exact f.cx.en.hidL, f.cx.en.cells, fun y a hy => by rw [off _ (cel y a hy).1 (cel y a hy).2]; exact f.cx.en.hidC y a hy, f.cx.en.isC, f.cx.en.apart, ?_, fun y d hl hk => ?_⟩, st := st', loc := f.loc, cel := f.cel, own := fun _ _ e => (by cases e), offL := f.offL, offC := f.offC, live := f.live }, st', ex, View.put_self, h2, h2.mono' le, h3⟩
  · obtain ⟨m, k1, k2⟩ := o.at_
    obtain ⟨m', k3, k4⟩ := f.cx.en.loc
    have := Ns.ext k1 k3
    subst this
    refine ⟨m, k1, fun y d hl hk => ?_⟩
    rw [List.lookup_cons] at hl
    cases hb : y == ("self" : PySem.Str) with
    | true =>
      have : y = "self" := by simpa using hb
      subst this
      rw [hb] at hl; cases hl
      exact ⟨_, k2, rep_inst.mpr ⟨x, dx, es, q, rfl, fun b e => by cases e; rfl, ex, View.put_self, h2.mono' le⟩⟩
    | false =>
      rw [hb] at hl
      obtain ⟨v, r1, r2⟩ := k4 y d hl hk
      exact ⟨v, r1, r2.mono le⟩
  · rw [List.lookup_cons] at hl
    cases hb : y == ("self" : PySem.Str) with
    | true =>
      have : y = "self" := by simpa using hb
      subst this
      rw [hself] at hk; rcases hk with hk | hk <;> cases hk
    | false =>
      rw [hb] at hl
      obtain ⟨cc, v, r1, r2, r3⟩ := f.cx.en.cv y d hl hk
      exact ⟨cc, v, r1, r2, r3.mono le⟩
theorem Fra.review2 {A env g₀ s₀ F g g' s} {ρ' : Rho} (f : Fra W n A env ns ρ none g₀ s₀ F g s) (G' : Good W.hs g' s) (st' : Step g₀ s₀ g' s) (hl : g' env.locals = none) (hc : ∀ x a, env.cells.lookup x = some a → g' a = none) (hsub : SubR ρ' ρ)
    (hd : ∀ p ∈ ρ', ns.lookup p.1 = some .local ∧ ∀ v, Rep g v p.2 → Rep g' v p.2) : Fra W n A env ns ρ' none g₀ s₀ F g' s :=
  f.review G' st' hl hc (fun x d v hx _ ⟨d', hd', r⟩ => by
    have := hsub x d hx
    rw [hd'] at this; cases this
    exact (hd (x, d) (mem_of_lookup hx)).2 v r) fun x d hx => ⟨⟨d, hsub x d hx⟩, (hd (x, d) (mem_of_lookup hx)).1⟩
theorem RepF.scalars {g g' : View} : ∀ {fs : List (PySem.Str × D)} {es : List DictEntry}, RepF g es fs → (∀ p ∈ fs, p.2.scalar = true) → RepF g' es fs
  | [], _, h, _ => repF_nil.mpr (repF_nil.mp h)
  | p :: fs, _, h, hp => by
    obtain ⟨e', r, t', rfl, h1, h2, h3⟩ := repF_cons.mp h
    exact repF_cons.mpr ⟨e', r, t', rfl, h1, h2.scalar (hp p List.mem_cons_self), h3.scalars fun q hq => hp q (List.mem_cons_of_mem _ hq)⟩
theorem ws_noret : ∀ (xs : List Nat) (s : WsS) (d : D), goFold wsStep xs s ≠ .ret d
  | [], s, d => by simp [goFold]
  | c :: xs, s, d => by
    unfold goFold
    cases hst : wsStep s c with
    | on t => exact ws_noret xs t d
    | brk t => simp
    | ret e =>
      unfold wsStep at hst
      split at hst
      · cases hst
      · split at hst <;> cases hst
theorem ws_bound : ∀ (xs : List Nat) (s : WsS), 0 ≤ s.b → s.b + xs.length ≤ 100 → s.count.length ≤ 101 → ∀ t, (goFold wsStep xs s = .on t ∨ goFold wsStep xs s = .brk t) → t.count.length ≤ 101
  | [], s, _, _, h3, t, h => by
    rcases h with h | h <;> cases h
    exact h3
  | c :: xs, s, h1, h2, h3, t, h => by
    unfold goFold at h
    rw [List.length_cons] at h2
    cases hst : wsStep s c with
    | on u =>
      rw [hst] at h
      dsimp only at h
      unfold wsStep at hst
      split at hst
      · cases hst
        exact ws_bound xs { s with n := s.n + 1, b := s.b + 1 } (by dsimp; lia) (by dsimp; lia) h3 t h
      · split at hst
        · cases hst
          have := wsBump_len s.count s.b h1
          exact ws_bound xs _ (Int.le_refl 0) (by dsimp; lia) (by dsimp; lia) t h
        · cases hst
    | brk u =>
      rw [hst] at h
      dsimp only at h
      unfold wsStep at hst
      split at hst
      · cases hst
      · split at hst
        · cases hst
        · cases hst
          rcases h with h | h <;> cases h
          exact h3
    | ret d => rw [hst] at h; rcases h with h | h <;> cases h
theorem TriS.elseIf {t : Expr} {b o : List Stmt} {pos : Pos} {r : Out} (ht : TriB W n ns ρ t false) (ho : TriSS W n ns ρ μ o r) : TriS W n ns ρ μ (.If t b o pos) r := TriS.ite ht (fun h => by cases h) (fun _ => ho)
theorem TriS.brkSub {pos : Pos} {ρ' : Rho} (h : SubR ρ' ρ) : TriS W n ns ρ μ (.Break pos) (.brk ρ' μ) := fun A env g₀ s₀ F g s Q E f hq => by
  show wpAny _ A (do standAt pos; pure .brk) Q E s
  exact wpAny_bind (wpAny_standAt (wpAny_pure (hq _ g s SafeF.refl ⟨rfl, f.sub h⟩)))
theorem binD_zeros {m : Int} (h0 : 0 ≤ m) (h1 : m ≤ 1000) : binD .Mult (.list [.int 0]) (.int m) = some (.list (List.replicate m.toNat (.int 0))) := by
  show (if true = true ∧ m < 2 ^ 24 ∧ -(2 ^ 24) < m ∧ 1 * m.toNat ≤ 2 ^ 24 then some (D.list (List.replicate m.toNat [D.int 0]).flatten) else none) = _
  rw [if_pos ⟨rfl, by lia, by lia, by lia⟩]
  congr 2
  generalize m.toNat = j
  induction j with
  | zero => rfl
  | succ j ih => rw [List.replicate_succ, List.flatten_cons, ih]; rfl
theorem getD_map_int {cs : List Int} {i : Nat} (h : i < cs.length) : (cs.map D.int)[i]? = some (.int (cs.getD i 0)) := by
  rw [List.getElem?_map, List.getElem?_eq_getElem h]
  simp [List.getD_eq_getElem?_getD, List.getElem?_eq_getElem h]
theorem TriS.run {A env g₀ s₀ F g s} {E : Value → Shared → Prop} {Q : Flow → Shared → Prop} {st : Stmt} {rest : List Stmt} {ρ' : Rho} {μ' : Mu} (h : TriS W n ns ρ μ st (.next ρ' μ')) (f : Fra W n A env ns ρ μ g₀ s₀ F g s)
    (hk : ∀ g' s', SafeF F g s g' s' → Fra W n A env ns ρ' μ' g₀ s₀ F g' s' → wpAny W.M A (execs rest env) Q E s') : wpAny W.M A (execs (st :: rest) env) Q E s :=
  wpAny_execs_cons (h A env g₀ s₀ F g s _ E f fun fl g' s' sf ⟨e, f'⟩ => by subst e; exact hk g' s' sf f')
theorem repL_off {g g' : View} {vs : List Value} {ds : List Int} (h : RepL g vs (ds.map .int)) : RepL g' vs (ds.map .int) := h.scalars fun d hd => by
  obtain ⟨i, _, rfl⟩ := List.mem_map.mp hd; rfl
theorem ws_len {x : PySem.Str} (hz : x.cps.size ≤ 100) : (wsScan x).count.length ≤ 200 := by
  unfold wsScan
  have hb := ws_bound x.cps.toList ⟨0, 0, 0, []⟩ (by decide) (by rw [Array.length_toList, Int.zero_add]; exact Int.ofNat_le.mpr hz) (by decide)
  cases hg : goFold wsStep x.cps.toList ⟨0, 0, 0, []⟩ with
  | on s' => exact Nat.le_trans (hb s' (.inl hg)) (by decide)
  | brk s' => exact Nat.le_trans (hb s' (.inr hg)) (by decide)
  | ret d => exact absurd hg (ws_noret _ _ _)
set_option maxHeartbeats 2000000 in
theorem fn_ws (k : Kit W) {x : PySem.Str} (hz : x.cps.size ≤ 100) (hch : ∀ c ∈ x.cps.toList, c = 32 ∨ c = 9 ∨ c = 46) : FnE W (n + 6) (.ref 301) [.str x] (wsD x) := by
  intro A g s E vs R G r
  obtain ⟨v, r', rfl, h1, h2⟩ := repL_cons.mp r
  cases repL_nil.mp h2
  obtain ⟨t, rfl⟩ := rep_str.mp h1
  obtain ⟨hh, gg, dd, tt, os⟩ := s
  have X := k.here G
  refine wpAny_call (make_core (makes_of X rfl) (looks_findIn X rfl) (fun self => bind_fn X self rfl) (.inl rfl) ?_)
  have st1 : Step g ⟨hh, gg, dd, tt, os⟩ g ⟨(hh.push emptyDict).push (instObj 301 hh.objs.size), gg, dd, tt, os⟩ := Step.keeps G fun b o e => Heap.get?_push_of_some _ (Heap.get?_push_of_some _ e)
  have G1 := st1.good G
  have hx0 : ((hh.push emptyDict).push (instObj 301 hh.objs.size)).get? (hh.objs.size + 1) = some (instObj 301 hh.objs.size) := by
    have := Heap.get?_push_size (hh.push emptyDict) (o := instObj 301 hh.objs.size) rfl
    rwa [Heap.size_push] at this
  have hdx0 : ((hh.push emptyDict).push (instObj 301 hh.objs.size)).get? hh.objs.size = some (dictOf [] 0) := Heap.get?_push_of_some _ (Heap.get?_push_size _ rfl)
  have fx : hh.get? (hh.objs.size + 1) = none := Heap.get?_none_of_le (Nat.le_succ _)
  have fdx : hh.get? hh.objs.size = none := Heap.get?_none_of_le (Nat.le_refl _)
  refine defEnter k (n := n + 5) (xs := ["self", "ws"]) (ρ := [("ws", .str x)]) (Room.made R) G1 st1 rfl rfl ⟨_, _, _, _, rfl, rfl, rfl, rfl⟩ rfl ?_ rfl ⟨rfl, rfl, rfl, rfl, rfl, rfl⟩ (by decide +kernel) ?_ ?_
  · exact len2 (fun _ _ => rfl)
  · exact fun y d hy => let ⟨v, hv, r⟩ := zip_rep (xs := ["ws"]) (ds := [.str x]) (RepL.cons h1 RepL.nil) hy; ⟨v, .tail _ hv, r⟩
  intro env s₂ E' f₂ st₂ ⟨m, hm, hself⟩ hfr
  refine opaqueQE fun QQ EE hQQ _ => ?_
  have hx2 := st₂.keep _ _ hx0
  have hdx2 := st₂.keep _ _ hdx0
  have gx : g (hh.objs.size + 1) = none := G.fresh fx
  have gdx : g hh.objs.size = none := G.fresh fdx
  have ndx : hh.objs.size ≠ env.locals := fun e => by rw [← e, hdx0] at hfr; cases hfr
  have nx : hh.objs.size + 1 ≠ env.locals := fun e => by rw [← e, hx0] at hfr; cases hfr
  have o₂ : SelfAt env ⟨hh, gg, dd, tt, os⟩ g s₂ 301 (hh.objs.size + 1) hh.objs.size [] := ⟨⟨m, hm, hself "self" _ (by simp) rfl⟩, hx2, ⟨[], 0, hdx2, repF_nil.mpr rfl, by simp⟩, gx, gdx, fx, fdx, nx, ndx⟩
  refine wpAny_execs_cons (selfStore k f₂ o₂ (by exact .nm rfl rfl : TriE W (n + 5) _ [("ws", .str x)] (.Name "ws" _) (.str x)) rfl rfl rfl rfl rfl rfl (by simp) (fun _ => rfl) fun g₃ s₃ f₃ o₃ => ?_)
  obtain ⟨g₄, es, q, f₄, st₄, e4x, e4d, rF, rF4, hes⟩ := o₃.open_ f₃ rfl
  have hrow : ∀ {σ : Rho}, (σ.lookup ("self" : PySem.Str) = some (.inst (some (hh.objs.size + 1)) 301 [("raw", .str x)])) → True := fun _ => trivial
  refine TriS.run (TriS.assignSwap2 (a := .str " ") (b := .str "\t") (TriE.tuple (TriL.cons (TriE.attrCls k (mc := .type "type") rfl rfl rfl (fun _ z => reads_of z rfl rfl rfl rfl) (fun _ => rfl) rfl fun g => rep_str.mpr ⟨_, rfl⟩) (TriL.cons (TriE.attrCls k (mc := .type "type") rfl rfl rfl (fun _ z => reads_of z rfl rfl rfl rfl) (fun _ => rfl) rfl fun g => rep_str.mpr ⟨_, rfl⟩) TriL.nil)) (by decide)) (.inl rfl) (.inl rfl) (fun _ _ => rfl) ?_) f₄ fun g₅ s₅ sf₅ f₅ => ?_
  · exact envEq fun _ _ => by rfl
  refine TriS.run (TriS.assignNew (xs := []) (TriN.list TriL.nil (by decide)) rfl fun _ _ => rfl) f₅ fun g₆ s₆ sf₆ f₆ => ?_
  refine TriS.run (TriS.assign3 (d := .int 0) (TriM.of TriE.int) (.inl rfl) (.inl rfl) (.inl rfl) (fun m e => by cases e; exact ⟨by decide +kernel, by decide +kernel, by decide +kernel⟩)) f₆ fun g₇ s₇ sf₇ f₇ => ?_
  refine TriS.run (TriS.eq (TriS.forR (μ := some ("count", [])) x.cps.toList (fun c => D.str ⟨#[c]⟩) wsStep (fun c => [("ch", .str ⟨#[c]⟩)])
    (fun s => [("S", .str " "), ("T", .str "\t"), ("n", .int s.n), ("nt", .int s.nt), ("b", .int s.b), ("self", .inst (some (hh.objs.size + 1)) 301 [("raw", .str x)])]) (fun s => some ("count", s.count.map D.int))
    (fun s => [("S", .str " "), ("T", .str "\t"), ("n", .int s.n), ("nt", .int s.nt), ("b", .int s.b), ("self", .inst (some (hh.objs.size + 1)) 301 [("raw", .str x)])]) (fun s => some ("count", s.count.map D.int))
    (fun xs s => (∀ c ∈ xs, c = 32 ∨ c = 9 ∨ c = 46) ∧ 0 ≤ s.b ∧ s.b + xs.length ≤ 100 ∧ s.count.length ≤ 101)
    (fun s => .next [("S", .str " "), ("T", .str "\t"), ("n", .int s.n), ("nt", .int s.nt), ("b", .int s.b), ("self", .inst (some (hh.objs.size + 1)) 301 [("raw", .str x)])] (some ("count", s.count.map D.int))) ⟨0, 0, 0, []⟩
    (SubR.of rfl) rfl (TriI.of (d := .str x) (TriE.attrInst k (fs := [("raw", .str x)]) (by exact .nm rfl rfl) rfl rfl rfl rfl rfl) rfl) rfl ⟨hch, by decide, by simp; lia, by simp⟩ ?_ (fun a => .name (.inl rfl)) ?_ ?_ ?_ (fun s _ => ⟨TriSS.nil, fun _ _ => ⟨by simp, by simp⟩⟩))
    (o' := .next [("S", .str " "), ("T", .str "\t"), ("n", .int (wsScan x).n), ("nt", .int (wsScan x).nt), ("b", .int (wsScan x).b), ("self", .inst (some (hh.objs.size + 1)) 301 [("raw", .str x)])] (some ("count", (wsScan x).count.map D.int))) ?_) f₇ fun g₈ s₈ sf₈ f₈ => ?_
  · rintro xs s c s' ⟨i1, i2, i3, i4⟩ hst
    unfold wsStep at hst
    simp only [List.length_cons] at i3
    split at hst
    · cases hst
      exact ⟨fun c hc => i1 c (List.mem_cons_of_mem _ hc), by dsimp; lia, by dsimp; lia, i4⟩
    · split at hst
      · cases hst
        refine ⟨fun c hc => i1 c (List.mem_cons_of_mem _ hc), Int.le_refl 0, by dsimp; lia, ?_⟩
        have := wsBump_len s.count s.b i2
        dsimp
        lia
      · cases hst
  · rintro xs s c s' ⟨i1, i2, i3, i4⟩ hst
    simp only [List.length_cons] at i3
    have hsl : sizeLine = 2 ^ 24 := rfl
    rcases i1 c List.mem_cons_self with rfl | rfl | rfl
    · cases hst
      exact ⟨_, .inl (TriSS.cons (TriS.takeIf (TriB.cmp' (a := .str ⟨#[32]⟩) (b := .str " ") (by exact .nm rfl rfl) (by exact .nm rfl rfl) (by decide +kernel)) (TriSS.cons (TriS.assign (d := .int (s.n + 1)) (TriE.bin' (by exact .nm rfl rfl) TriE.int rfl) (.inl rfl) fun _ _ => rfl) (TriSS.cons (TriS.assign (d := .int (s.b + 1)) (TriE.bin' (by exact .nm rfl rfl) TriE.int rfl) (.inl rfl) fun _ _ => rfl) TriSS.nil))) TriSS.nil),
        SubR.of rfl⟩
    · cases hst
      refine ⟨[("b", .int 0), ("nt", .int (s.nt + 1)), ("n", .int (s.n + 1)), ("S", .str " "), ("T", .str "\t"), ("self", .inst (some (hh.objs.size + 1)) 301 [("raw", .str x)])], .inl (TriSS.cons (TriS.elseIf (TriB.cmp' (a := .str ⟨#[9]⟩) (b := .str " ") (by exact .nm rfl rfl) (by exact .nm rfl rfl) (by decide +kernel)) (TriSS.cons (TriS.takeIf (TriB.cmp' (a := .str ⟨#[9]⟩) (b := .str "\t") (by exact .nm rfl rfl) (by exact .nm rfl rfl) (by decide +kernel)) ?_) TriSS.nil)) TriSS.nil), SubR.of rfl⟩
      refine TriSS.cons (TriS.assign (d := .int (s.n + 1)) (TriE.bin' (by exact .nm rfl rfl) TriE.int rfl) (.inl rfl) fun _ _ => rfl) ?_
      refine TriSS.cons (TriS.assign (d := .int (s.nt + 1)) (TriE.bin' (by exact .nm rfl rfl) TriE.int rfl) (.inl rfl) fun _ _ => rfl) ?_
      have hlenE : ∀ {ns ρ}, ns.lookup ("len" : PySem.Str) = some .globalImplicit → ns.lookup ("count" : PySem.Str) = some .local → ∀ {p q r}, TriE W (n + 5) ns (("count", .list (s.count.map .int)) :: ρ) (.Call (.Name "len" p) [.Name "count" q] [] r) (.int s.count.length) := by
        intro ns ρ h1 h2 p q r
        have := TriE.callB (W := W) (n := n + 4) (ns := ns) (ρ := ("count", .list (s.count.map .int)) :: ρ) (p := p) (pos := r) k h1 rfl rfl (by decide) rfl KeepOk.builtin (TriL.cons (TriE.name (pos := q) rfl (.inl h2) rfl rfl) TriL.nil) (fn_len_list (xs := s.count.map .int) (by rw [List.length_map]; lia))
        rwa [List.length_map] at this
      refine TriSS.cons (ρ' := [("nt", .int (s.nt + 1)), ("n", .int (s.n + 1)), ("S", .str " "), ("T", .str "\t"), ("b", .int s.b), ("self", .inst (some (hh.objs.size + 1)) 301 [("raw", .str x)])]) (μ' := some ("count", (if s.b ≥ s.count.length then s.count ++ List.replicate (s.b - s.count.length + 1).toNat 0 else s.count).map D.int))
        (TriS.iteM (c := decide (s.b ≥ s.count.length)) (TriMB.open_ (TriB.cmp' (a := .int s.b) (b := .int s.count.length) (by exact .nm rfl rfl) (hlenE rfl rfl) rfl)) (fun hc => ?_) (fun hc => ?_)) ?_
      · have hb : s.b ≥ s.count.length := of_decide_eq_true hc
        rw [if_pos hb, List.map_append, List.map_replicate]
        refine TriSS.cons (TriS.next_sub (TriS.reassign (zs := s.count.map .int ++ List.replicate (s.b - s.count.length + 1).toNat (.int 0)) (TriN.add (TriE.nm rfl rfl) (TriE.bin' (TriE.list (TriL.cons TriE.int TriL.nil) (by show 1 ≤ sizeLine; decide)) (TriE.bin' (a := .int (s.b - s.count.length)) (TriE.bin' (a := .int s.b) (b := .int s.count.length) (TriE.nm rfl rfl) (hlenE rfl rfl) rfl) TriE.int rfl) (binD_zeros (by lia) (by lia))) (by rw [List.length_map, List.length_replicate]; lia)) ?_ fun _ _ => rfl) ?_) TriSS.nil
        · intro d hd
          rcases List.mem_append.mp hd with hd | hd
          · obtain ⟨i, _, rfl⟩ := List.mem_map.mp hd; rfl
          · rw [List.eq_of_mem_replicate hd]; rfl
        · exact SubR.of rfl
      · have hb : ¬ (s.b ≥ s.count.length) := of_decide_eq_false hc
        rw [if_neg hb]
        exact TriSS.next_sub TriSS.nil (SubR.of rfl)
      · generalize hcs : (if s.b ≥ s.count.length then s.count ++ List.replicate (s.b - s.count.length + 1).toNat 0 else s.count) = cs
        have hbl : s.b.toNat < cs.length := by
          subst hcs
          split
          · rw [List.length_append, List.length_replicate]; lia
          · lia
        have hcl : cs.length ≤ 300 := by
          subst hcs
          split
          · rw [List.length_append, List.length_replicate]; lia
          · lia
        have hw : wsBump s.count s.b = cs.set s.b.toNat (cs.getD s.b.toNat 0 + 1) := by
          subst hcs
          unfold wsBump
          split <;> rfl
        refine TriSS.eq (TriSS.cons (TriS.setItem (i := s.b) (d := .int (cs.getD s.b.toNat 0 + 1)) (TriM.open_ (TriE.bin' (a := .int (cs.getD s.b.toNat 0)) (TriE.item' (o := .list (cs.map .int)) (i := .int s.b) (TriE.nm rfl rfl) (TriE.nm rfl rfl) (itemD_list i2 (by rw [List.length_map]; lia) (getD_map_int hbl))) TriE.int rfl) rfl) (TriM.of (by exact .nm rfl rfl)) i2 (by rw [List.length_map]; lia) (by rw [List.length_map]; lia) rfl)
          (TriSS.cons (TriS.assign (d := .int 0) TriE.int (.inl rfl) fun _ _ => rfl) (TriSS.next_sub TriSS.nil (ρ' := [("b", .int 0), ("nt", .int (s.nt + 1)), ("n", .int (s.n + 1)), ("S", .str " "), ("T", .str "\t"), ("self", .inst (some (hh.objs.size + 1)) 301 [("raw", .str x)])]) ?_))) ?_
        · exact SubR.of rfl
        show Out.next _ (some ("count", (cs.map D.int).set s.b.toNat (.int (cs.getD s.b.toNat 0 + 1)))) = Out.next _ (some ("count", (wsBump s.count s.b).map D.int))
        rw [hw, List.map_set]
    · cases hst
  · rintro xs s c s' ⟨i1, i2, i3, i4⟩ hst
    rcases i1 c List.mem_cons_self with rfl | rfl | rfl
    · cases hst
    · cases hst
    · cases hst
      exact TriSS.stop (TriS.elseIf (TriB.cmp' (a := .str ⟨#[46]⟩) (b := .str " ") (by exact .nm rfl rfl) (by exact .nm rfl rfl) (by decide +kernel)) (TriSS.stop (TriS.elseIf (TriB.cmp' (a := .str ⟨#[46]⟩) (b := .str "\t") (by exact .nm rfl rfl) (by exact .nm rfl rfl) (by decide +kernel)) (TriSS.stop (TriS.brkSub (SubR.of rfl))))))
  · rintro xs s c d ⟨i1, i2, i3, i4⟩ hst
    unfold wsStep at hst
    split at hst
    · cases hst
    · split at hst <;> cases hst
  · unfold wsScan
    cases hg : goFold wsStep x.cps.toList ⟨0, 0, 0, []⟩ with
    | on s' => rfl
    | brk s' => rfl
    | ret d => exact absurd hg (ws_noret _ _ _)
  obtain ⟨g₉, sf₉, f₉⟩ := f₈.freeze
  have up : g₄.le g₉ := fun b o e => sf₉.view _ _ (sf₈.view _ _ (sf₇.view _ _ (sf₆.view _ _ (sf₅.view _ _ e))))
  have e9x := up _ _ e4x
  have e9d := up _ _ e4d
  have hxd : hh.objs.size + 1 ≠ hh.objs.size := Nat.succ_ne_self _
  have offg : ∀ b, b ≠ hh.objs.size + 1 → b ≠ hh.objs.size → ((g₉.del (hh.objs.size + 1)).del hh.objs.size) b = g₉ b := fun b e1 e2 => by rw [View.del_ne e2, View.del_ne e1]
  have offx : ((g₉.del (hh.objs.size + 1)).del hh.objs.size) (hh.objs.size + 1) = none := by rw [View.del_ne hxd, View.del_self]
  have offd : ((g₉.del (hh.objs.size + 1)).del hh.objs.size) hh.objs.size = none := View.del_self
  have sub9 : ∀ b o, ((g₉.del (hh.objs.size + 1)).del hh.objs.size) b = some o → g₉ b = some o := fun b o e => by
    by_cases e1 : b = hh.objs.size + 1
    · rw [e1, offx] at e; cases e
    · by_cases e2 : b = hh.objs.size
      · rw [e2, offd] at e; cases e
      · rwa [offg b e1 e2] at e
  have not9 : ∀ b o, (hh.get? b = some o ∨ g b = some o) → b ≠ hh.objs.size + 1 ∧ b ≠ hh.objs.size := fun b o e =>
    ⟨fun h => by rw [h, fx, gx] at e; exact e.elim nofun nofun, fun h => by rw [h, fdx, gdx] at e; exact e.elim nofun nofun⟩
  have st9 : Step g ⟨hh, gg, dd, tt, os⟩ ((g₉.del (hh.objs.size + 1)).del hh.objs.size) s₈ := ⟨fun b o e => by
      rw [offg b (not9 b o (.inr e)).1 (not9 b o (.inr e)).2]; exact f₉.st.view _ _ e, fun b o e => f₉.st.fresh _ _ (sub9 b o e), fun b o e => f₉.st.sub _ _ (sub9 b o e), f₉.st.keep, f₉.st.rest⟩
  have hide : ∀ b, g₉ b = none → ((g₉.del (hh.objs.size + 1)).del hh.objs.size) b = none := fun b e => by
    cases q : ((g₉.del (hh.objs.size + 1)).del hh.objs.size) b with
    | none => rfl
    | some o => rw [sub9 b o q] at e; cases e
  have hlist : ∀ v, Rep g₉ v (.list ((wsScan x).count.map .int)) → Rep ((g₉.del (hh.objs.size + 1)).del hh.objs.size) v (.list ((wsScan x).count.map .int)) := fun v r => by
    obtain ⟨L, vs, q', rfl, hL, hr⟩ := rep_list.mp r
    refine rep_list.mpr ⟨L, vs, q', rfl, ?_, repL_off hr⟩
    rw [offg L (fun h => by rw [h, e9x] at hL; cases hL) fun h => by rw [h, e9d] at hL; exact absurd (congrArg PySem.Obj.cls (Option.some.inj hL)) (by simp)]
    exact hL
  have f10 := f₉.review2 (ρ' := [("count", .list ((wsScan x).count.map .int)), ("n", .int (wsScan x).n), ("nt", .int (wsScan x).nt), ("b", .int (wsScan x).b)]) (g' := (g₉.del (hh.objs.size + 1)).del hh.objs.size) (st9.good G) st9 (hide _ f₉.cx.en.hidL) (fun y a hy => hide _ (f₉.cx.en.hidC y a hy)) (SubR.of rfl) (List.forall_mem_cons.mpr ⟨⟨rfl, hlist⟩, List.forall_mem_cons.mpr ⟨⟨rfl, fun v r => r.scalar rfl⟩, List.forall_mem_cons.mpr ⟨⟨rfl, fun v r => r.scalar rfl⟩, List.forall_mem_cons.mpr ⟨⟨rfl, fun v r => r.scalar rfl⟩, fun _ h => nomatch h⟩⟩⟩⟩)
  have hat : ∃ m, s₈.heap.Ns env.locals m ∧ m "self" = some (.ref (hh.objs.size + 1)) := by
    obtain ⟨m, k1, k2⟩ := f₉.cx.en.loc
    obtain ⟨v, k3, k4⟩ := k2 "self" (.inst (some (hh.objs.size + 1)) 301 [("raw", .str x)]) rfl rfl
    have k4 := rep_inst.mp k4
    obtain ⟨a, _, _, _, rfl, ha, _⟩ := k4
    rw [ha _ rfl] at k3
    exact ⟨m, k1, k3⟩
  have o10 : SelfAt env ⟨hh, gg, dd, tt, os⟩ ((g₉.del (hh.objs.size + 1)).del hh.objs.size) s₈ 301 (hh.objs.size + 1) hh.objs.size [("raw", .str x)] :=
    ⟨hat, f₉.st.sub _ _ e9x, ⟨es, q, f₉.st.sub _ _ e9d, rF.scalars (fun p hp => by rw [List.mem_singleton.mp hp]; rfl), hes⟩, offx, offd, fx, fdx, nx, ndx⟩
  refine wpAny_execs_cons (selfStore k f10 o10 (d := .int (wsScan x).n) (by exact .nm rfl rfl) rfl rfl rfl rfl rfl rfl (by simp) (fun _ => rfl) fun g₁₁ s₁₁ f₁₁ o₁₁ => ?_)
  refine wpAny_execs_cons (selfStore k f₁₁ o₁₁ (d := .int (wsScan x).nt) (by exact .nm rfl rfl) rfl rfl rfl rfl rfl rfl (by simp) (fun _ => rfl) fun g₁₂ s₁₂ f₁₂ o₁₂ => ?_)
  have hcl := ws_len hz
  have hclz : (wsScan x).count.length ≤ sizeLine := szLe hcl (by decide)
  refine wpAny_execs_cons (selfStore k f₁₂ o₁₂ (d := .tup [.tup ((wsScan x).count.map .int), .int (wsScan x).b]) (TriE.tuple (TriL.cons (TriE.callB k rfl rfl rfl (by decide) rfl KeepOk.type (TriL.cons (by exact .nm rfl rfl) TriL.nil) (fn_tuple (xs := (wsScan x).count.map .int) (by rw [List.length_map]; exact hclz))) (TriL.cons (by exact .nm rfl rfl) TriL.nil)) (by show 2 ≤ sizeLine; decide)) rfl rfl rfl rfl rfl rfl (by simp) (fun _ => rfl) fun g₁₃ s₁₃ f₁₃ o₁₃ => ?_)
  refine wpAny_execs_cons (selfStore k f₁₃ o₁₃ (d := .bool (decide (((wsScan x).count.length : Int) ≤ 1))) (TriE.cmp' (a := .int (wsScan x).count.length) (b := .int 1) (TriE.eq (TriE.callB k rfl rfl rfl (by decide) rfl KeepOk.builtin (TriL.cons (by exact .nm rfl rfl) TriL.nil) (fn_len_list (xs := (wsScan x).count.map .int) (by rw [List.length_map]; exact hclz))) (by rw [List.length_map])) TriE.int rfl) rfl rfl rfl rfl rfl rfl (by simp) (fun _ => rfl) fun g₁₄ s₁₄ f₁₄ o₁₄ => ?_)
  refine wpAny_execs_nil ?_
  obtain ⟨gF, esF, qF, fF, stF, eFx, eFd, rFF, rFF4, _⟩ := o₁₄.open_ f₁₄ rfl
  exact hQQ _ _ ⟨rfl, gF, stF, by unfold wsD; exact rep_inst.mpr ⟨_, _, _, _, rfl, fun b e => (by cases e), eFx, eFd, rFF4⟩⟩
end
end Mine
end
section
namespace Mine
section
variable {W : Wo} {n : Nat} {ns : Names} {ρ : Rho} {μ : Mu}
noncomputable def wsLong (x : PySem.Str) : Int := max (((wsScan x).count.length : Int) - 1) (wsScan x).b
theorem fn_len_tup {xs : List D} (hz : xs.length ≤ sizeLine) : FnE W n (.builtin "len") [.tup xs] (.int xs.length) := by
  intro A g s E vs R G r
  obtain ⟨v, r', rfl, h1, h2⟩ := repL_cons.mp r
  cases repL_nil.mp h2
  obtain ⟨l, us, k, rfl, hl, hr⟩ := rep_tup.mp h1
  have e1 := hr.length
  rw [Array.length_toList] at e1
  refine PyProof.Rows.len_tuple (s := s) (items := us) ⟨_, G.sub _ _ hl, rfl, _, rfl⟩ (by have hs : sizeLine = 2 ^ 24 := rfl; lia) ?_
  rw [e1]
  exact ⟨g, Step.toks G, rep_int.mpr ⟨_, rfl⟩⟩
theorem fn_wsLong (k : Kit W) {x : PySem.Str} (hz : (wsScan x).count.length ≤ 200) : FnE W (n + 3) (.ref 263) [wsD x] (.int (wsLong x)) := by
  refine FnE.ofK k (xs := ["self"]) rfl rfl ⟨_, _, _, _, rfl, rfl, rfl, rfl⟩ rfl ?_ rfl ⟨rfl, rfl, rfl, rfl, rfl, rfl⟩ (by decide +kernel) ?_
  · exact len1 (fun _ => rfl)
  have hsl : sizeLine = 2 ^ 24 := rfl
  refine TriSS.cons (TriS.assignTup (ds := [.tup ((wsScan x).count.map .int), .int (wsScan x).b]) (TriE.attrInst k (fs := [("raw", .str x), ("n", .int (wsScan x).n), ("nt", .int (wsScan x).nt), ("norm", .tup [.tup ((wsScan x).count.map .int), .int (wsScan x).b]), ("is_simple", .bool (decide (((wsScan x).count.length : Int) ≤ 1)))]) (by exact .nm rfl rfl) rfl rfl rfl rfl rfl) (.consT (.inl rfl) (.consT (.inl rfl) .nilT)) (fun _ _ => rfl) (fun _ _ => rfl)) ?_
  have hlen : FnE W (n + 2) (.builtin "len") [.tup ((wsScan x).count.map .int)] (.int (wsScan x).count.length) := by
    have := fn_len_tup (W := W) (n := n + 2) (xs := (wsScan x).count.map .int) (by rw [List.length_map]; lia)
    rwa [List.length_map] at this
  refine TriSS.stop (TriS.ret (TriE.callB k rfl rfl rfl (by decide) rfl KeepOk.builtin (TriL.cons (TriE.bin' (a := .int (wsScan x).count.length) (b := .int 1) (d := .int (((wsScan x).count.length : Int) - 1)) (TriE.callB k rfl rfl rfl (by decide) rfl KeepOk.builtin (TriL.cons ?_ TriL.nil) hlen) TriE.int rfl) (TriL.cons ?_ TriL.nil)) fn_max_two))
  · exact TriE.nm rfl rfl
  · exact TriE.nm rfl rfl
end
end Mine
end
section
open Builtin.Str (glued)
namespace Mine
noncomputable def eolOf (k : Int) : PySem.Str := if k = 0 then "\n" else if k = 1 then "\r" else "\r\n"
noncomputable def mailL (m : List Int) (k : Int) : List PySem.Str := m.map fun b => if b != 0 then "." else eolOf k
noncomputable def leadL (m : List Int) : List PySem.Str := m.map fun b => if b != 0 then " " else "\t"
noncomputable def gotL (m : List Int) : List PySem.Str := m.map fun b => if b != 0 then "x" else "-"
noncomputable def mailOf (m : List Int) (k : Int) : PySem.Str := glued "" (mailL m k)
noncomputable def leadOf (m : List Int) : PySem.Str := glued "" (leadL m)
noncomputable def gotOf (m : List Int) : PySem.Str := glued "" (gotL m)
noncomputable def dotsIn (z : PySem.Str) : Int := (Builtin.Str.occurrences z "." 0 z.length (z.length + 1)).length
noncomputable def saysQ (m : List Int) (k : Int) : Option Bool := (reSubS code3 crlf (mailOf m k)).bind fun y => (reSubS code1 dots y).map fun z => decide (dotsIn z > m.sum + 1)
noncomputable def Small (m : List Int) : Prop := m.length = 5 ∧ ∀ b ∈ m, b = 0 ∨ b = 1
noncomputable def allMarks : List (List Int) := [0, 1].flatMap fun a => [0, 1].flatMap fun b => [0, 1].flatMap fun c => [0, 1].flatMap fun d => [0, 1].map fun e => [a, b, c, d, e]
theorem Small.all {m : List Int} (h : Small m) : m ∈ allMarks := by
  have key : ∀ x : Int, x = 0 ∨ x = 1 → x ∈ [(0 : Int), 1] := fun x h => by rcases h with rfl | rfl <;> decide
  refine len5 (P := fun m => (∀ b ∈ m, b = 0 ∨ b = 1) → m ∈ allMarks) (fun a b c d e h => ?_) m h.1 h.2
  exact List.mem_flatMap.mpr ⟨a, key a (h a (.head _)), List.mem_flatMap.mpr ⟨b, key b (h b (.tail _ (.head _))), List.mem_flatMap.mpr ⟨c, key c (h c (.tail _ (.tail _ (.head _)))), List.mem_flatMap.mpr ⟨d, key d (h d (.tail _ (.tail _ (.tail _ (.head _))))), List.mem_map.mpr ⟨e, key e (h e (.tail _ (.tail _ (.tail _ (.tail _ (.head _)))))), rfl⟩⟩⟩⟩⟩
theorem marks_small : ∀ m ∈ allMarks, joinSize "" (gotL m) ≤ 1000 ∧ (gotOf m).length ≤ 1000 ∧ joinSize "" (leadL m) ≤ 1000 ∧ (leadOf m).cps.size ≤ 100 ∧ (∀ c ∈ (leadOf m).cps.toList, c = 32 ∨ c = 9 ∨ c = 46) ∧ (wsScan (leadOf m)).count.length ≤ 200 := by decide +kernel
theorem mails_small : ∀ m ∈ allMarks, ∀ k ∈ [(0 : Int), 1, 2], joinSize "" (mailL m k) ≤ 1000 ∧ (mailOf m k).length ≤ 1000 := by decide +kernel
theorem fmodAt {P : Int → Prop} (a : Int) (m : Nat) (hm : 0 < m) (h : ∀ k ∈ List.range m, P (k : Int)) : P (a.fmod m) := by
  have h1 : 0 ≤ a.fmod m := Int.fmod_nonneg_of_pos a (Int.ofNat_lt.mpr hm)
  rw [← Int.toNat_of_nonneg h1]
  exact h _ (List.mem_range.mpr ((Int.toNat_lt h1).mpr (Int.fmod_lt_of_pos a (Int.ofNat_lt.mpr hm))))
theorem fmod3 (a : Int) : a.fmod 3 ∈ [(0 : Int), 1, 2] := fmodAt (P := fun x => x ∈ [(0 : Int), 1, 2]) a 3 (by decide) (by decide)
section
variable {W : Wo} {n : Nat} {ns : Names} {ρ : Rho} {μ : Mu}
theorem CompScope.ok {ns : Names} {scope : Scope} {T : List PySem.Str} (hk : scope.kind = .function)
    (h : (scope.names.all (fun p => scope.names.lookup p.1 == some p.2) && scope.names.all (fun p => p.2 != .free || (ns.lookup p.1 == some .cell || ns.lookup p.1 == some .free)) && T.all fun x => scope.names.contains (x, .local) || scope.names.contains (x, .cell)) = true) : CompScope ns scope T := by
  rw [Bool.and_eq_true, Bool.and_eq_true] at h
  obtain ⟨⟨h1, h2⟩, h3⟩ := h
  refine ⟨hk, fun p hp => by simpa using List.all_eq_true.mp h1 p hp, fun p hp hf => ?_, fun x hx => by simpa using List.all_eq_true.mp h3 x hx⟩
  have := List.all_eq_true.mp h2 p hp
  rw [hf] at this
  simpa using this
theorem TriN.compInts {α : Type} {elt iter : Expr} {ifs : List Expr} {x : PySem.Str} {px : Pos} {scope : Scope} {pos : Pos} {ds : List D} (l : List α) (inj : α → D) (p : α → Bool) (f : α → D) (hsc : CompScope ns scope [x]) (hk : (relN ns scope.names).lookup x = some .local ∨ (relN ns scope.names).lookup x = some .cell) (hI : TriI W n ns ρ (.Name x px) iter ds) (hx : ds = l.map inj)
    (hfree : (capt scope.names ρ).lookup x = none) (ht : ∀ a ∈ l, Tests W n (relN ns scope.names) ((x, inj a) :: capt scope.names ρ) ifs (p a)) (he : ∀ a ∈ l, p a = true → TriE W n (relN ns scope.names) ((x, inj a) :: capt scope.names ρ) elt (f a)) (hz : l.length ≤ sizeLine)
    (hs : ∀ env x, foldedSetIterable iter env x = pure x := by intro _ _; rfl) : TriN W n ns ρ (.ListComp elt [⟨.Name x px, iter, ifs, 0⟩] scope pos) ((l.filter p).map f) :=
  TriN.comp1 [x] l inj p f (fun a => [(x, inj a)]) hsc hI hx (fun a _ => .name hk) (fun a _ q hq => by rw [List.mem_singleton] at hq; subst hq; exact List.mem_singleton.mpr rfl) (fun y hy => by rw [List.mem_singleton] at hy; subst hy; exact hfree) ht he hz hs
theorem TriN.mapInts {α : Type} {elt iter : Expr} {x : PySem.Str} {px : Pos} {scope : Scope} {pos : Pos} {ds : List D} (l : List α) (inj : α → D) (f : α → D) (hsc : CompScope ns scope [x]) (hk : (relN ns scope.names).lookup x = some .local ∨ (relN ns scope.names).lookup x = some .cell) (hI : TriI W n ns ρ (.Name x px) iter ds) (hx : ds = l.map inj)
    (hfree : (capt scope.names ρ).lookup x = none) (he : ∀ a ∈ l, TriE W n (relN ns scope.names) ((x, inj a) :: capt scope.names ρ) elt (f a)) (hz : l.length ≤ sizeLine)
    (hs : ∀ env x, foldedSetIterable iter env x = pure x := by intro _ _; rfl) : TriN W n ns ρ (.ListComp elt [⟨.Name x px, iter, [], 0⟩] scope pos) (l.map f) := by
  have := TriN.compInts (W := W) (n := n) (ns := ns) (ρ := ρ) (pos := pos) l inj (fun _ => true) f hsc hk hI hx hfree (fun a _ => Tests.nil) (fun a ha _ => he a ha) hz hs
  have e : (l.filter fun _ => true).map f = l.map f := by rw [List.filter_eq_self.mpr (fun _ _ => rfl)]
  rwa [e] at this
theorem TriE.iteInt {t b o : Expr} {pos : Pos} {m : Int} {x y : PySem.Str} (ht : TriE W (n + 1) ns ρ t (.int m)) (hb : TriE W (n + 1) ns ρ b (.str x)) (ho : TriE W (n + 1) ns ρ o (.str y)) (he : ∀ env whole, isTrue t env whole = (do let v ← whole; standAt t.pos; holding [v] (truthy v)) := by intro _ _; rfl) : TriE W (n + 1) ns ρ (.IfExp t b o pos) (.str (if m != 0 then x else y)) :=
  TriE.ite (TriB.ofE ht rfl he) (fun h => by rw [if_pos h]; exact hb) (fun h => by rw [h]; exact ho)
theorem KeepOk.ofK (k : Kit W) {f : Value} (e : keepIn (KK W) f = true) : KeepOk W f := fun h hp => by
  obtain ⟨q, hq, l⟩ := looks_keep (M := W.M) e (k.K.keeps hp)
  exact ⟨q, by rcases hq with h | h; exact .inl h; exact .inr (.inl h), l⟩
theorem TriE.ws (k : Kit W) {p pos : Pos} {e : Expr} {x : PySem.Str} (hk : ns.lookup ("Whitespace" : PySem.Str) = some .globalImplicit) (he : TriL W (n + 7) ns ρ [e] [.str x]) (hz : x.cps.size ≤ 100) (hch : ∀ c ∈ x.cps.toList, c = 32 ∨ c = 9 ∨ c = 46) (hs : ∀ env, (starEach [e] env).any (·.1) = false := by intro _; rfl) :
    TriE W (n + 7) ns ρ (.Call (.Name "Whitespace" p) [e] [] pos) (wsD x) :=
  TriE.call k.ok ⟨hk, .inl (ns_some_of k.K k.ok.g rfl), KeepOk.ofK k rfl, rfl⟩ he (fn_ws k hz hch) hs
theorem KeepOk.fn (k : Kit W) {a : Addr} {o : Obj} {fd : FuncData} (ho : (KK W).lookup a = some o) (hd : o.data = .func fd) : KeepOk W (.ref a) := KeepOk.func (k.K _ _ ho) hd
set_option maxHeartbeats 2000000 in
theorem fn_says (k : Kit W) (j : Int) (m : List Int) (hm : Small m) {q : Bool} (hq : saysQ m ((j.fdiv 5).fmod 3) = some q) :
    FnE W (n + 12) (.ref 322) [.int j, .list (m.map .int)] (.bool (if j.fmod 5 = 0 then q else if j.fmod 2 ≠ 0 then decide (wsLong (leadOf m) < m.sum) else ellOk (gotOf m))) := by
  obtain ⟨s1, s2, s3, s4, s5, s6⟩ := marks_small m hm.all
  obtain ⟨t1, t2⟩ := mails_small m hm.all _ (fmod3 (j.fdiv 5))
  have hsl : sizeLine = 2 ^ 24 := rfl
  have hml : m.length = 5 := hm.1
  refine FnE.ofK k (xs := ["judge", "marks"]) rfl rfl ⟨_, _, _, _, rfl, rfl, rfl, rfl⟩ rfl ?_ rfl ⟨rfl, rfl, rfl, rfl, rfl, rfl⟩ (by decide +kernel) ?_
  · exact len2 (fun _ _ => rfl)
  have hsum : ∀ {ns ρ}, ns.lookup ("sum" : PySem.Str) = some .globalImplicit → ns.lookup ("marks" : PySem.Str) = some .local → ρ.lookup ("marks" : PySem.Str) = some (.list (m.map .int)) → ∀ {p q r}, TriE W (n + 12) ns ρ (.Call (.Name "sum" p) [.Name "marks" q] [] r) (.int m.sum) := by
    intro ns ρ h1 h2 h3 p q r
    exact TriE.callB k h1 rfl rfl (by decide) rfl KeepOk.builtin (TriL.cons (TriE.name h3 (.inl h2) rfl rfl) TriL.nil) fn_sum
  have hmark : ∀ {ns ρ}, ns.lookup ("marks" : PySem.Str) = some .local → ρ.lookup ("marks" : PySem.Str) = some (.list (m.map .int)) → ∀ {p t}, TriI W (n + 12) ns ρ t (.Name "marks" p) (m.map .int) := by
    intro ns ρ h2 h3 p t
    exact TriI.of (TriE.name h3 (.inl h2) rfl rfl) rfl
  by_cases h5 : j.fmod 5 = 0
  · rw [if_pos h5]
    unfold saysQ at hq
    obtain ⟨y, hy, hq⟩ := Option.bind_eq_some_iff.mp hq
    obtain ⟨z, hz, rfl⟩ := Option.map_eq_some_iff.mp hq
    refine TriSS.stop (TriS.takeIf (TriB.cmp' (a := .int (j.fmod 5)) (b := .int 0) (TriE.bin' (a := .int j) (b := .int 5) (by exact .nm rfl rfl) TriE.int rfl) TriE.int (congrArg some (by simpa using h5))) ?_)
    refine TriSS.cons (TriS.assign (d := .str (mailOf m ((j.fdiv 5).fmod 3))) (TriE.meth' (od := .str "") (ds := [.list ((mailL m ((j.fdiv 5).fmod 3)).map .str)]) TriE.str (TriL.cons (TriE.eq (TriN.toE (TriN.mapInts m .int (fun b => .str (if b != 0 then (".": PySem.Str) else eolOf ((j.fdiv 5).fmod 3))) (.ok rfl (by decide +kernel)) (.inl rfl) (hmark rfl rfl) rfl rfl (fun a ha => ?_) (by omega))) (by unfold mailL; rw [List.map_map]; rfl)) TriL.nil) getm_join (fn_join (Nat.le_trans t1 (by decide)) (Nat.le_trans t2 (by decide)))) (.inl rfl) fun _ _ => rfl) ?_
    · refine TriE.iteInt (TriE.nm rfl rfl) TriE.str ?_
      refine TriE.item' (o := .tup [.str "\n", .str "\r", .str "\r\n"]) (i := .int ((j.fdiv 5).fmod 3)) (TriE.tuple (TriL.cons TriE.str (TriL.cons TriE.str (TriL.cons TriE.str TriL.nil))) (by show 3 ≤ sizeLine; decide)) (TriE.bin' (a := .int (j.fdiv 5)) (b := .int 3) (TriE.bin' (a := .int j) (b := .int 5) (TriE.nm rfl rfl) TriE.int rfl) TriE.int rfl) ?_
      have := fmod3 (j.fdiv 5)
      generalize (j.fdiv 5).fmod 3 = e at this ⊢
      simp only [List.mem_cons, List.not_mem_nil, or_false] at this
      rcases this with rfl | rfl | rfl <;> rfl
    · refine TriSS.stop (TriS.ret (TriE.cmp' (a := .int (dotsIn z)) (b := .int (m.sum + 1)) (TriE.meth' (od := .str z) (ds := [.str "."]) (TriE.callK k rfl rfl rfl rfl rfl (TriL.cons (by exact .nm rfl rfl) TriL.nil) (fn_quotedata (n := n + 7) k hy hz)) (TriL.cons TriE.str TriL.nil) getm_count_str fn_count_str) (TriE.bin' (a := .int m.sum) (hsum rfl rfl rfl) TriE.int rfl) rfl))
  · rw [if_neg h5]
    refine TriSS.cons (TriS.skipIf (TriB.cmp' (a := .int (j.fmod 5)) (b := .int 0) (TriE.bin' (a := .int j) (b := .int 5) (by exact .nm rfl rfl) TriE.int rfl) TriE.int (congrArg some (by simpa using h5)))) ?_
    by_cases h2 : j.fmod 2 ≠ 0
    · rw [if_pos h2]
      refine TriSS.stop (TriS.takeIf (TriB.ofE (d := .int (j.fmod 2)) (TriE.bin' (a := .int j) (b := .int 2) (by exact .nm rfl rfl) TriE.int rfl) (congrArg some (by simpa using h2))) ?_)
      refine TriSS.cons (TriS.assign (d := .str (leadOf m)) (TriE.meth' (od := .str "") (ds := [.list ((leadL m).map .str)]) TriE.str (TriL.cons (TriE.eq (TriN.toE (TriN.mapInts m .int (fun b => .str (if b != 0 then (" ": PySem.Str) else "\t")) (.ok rfl (by decide +kernel)) (.inl rfl) (hmark rfl rfl) rfl rfl (fun a ha => TriE.iteInt (TriE.nm rfl rfl) TriE.str TriE.str) (by omega))) (by unfold leadL; rw [List.map_map]; rfl)) TriL.nil) getm_join (fn_join (Nat.le_trans s3 (by decide)) (by have : (leadOf m).length = (leadOf m).cps.size := rfl; show (leadOf m).length ≤ _; omega))) (.inl rfl) fun _ _ => rfl) ?_
      refine TriSS.stop (TriS.ret (TriE.cmp' (a := .int (wsLong (leadOf m))) (b := .int m.sum) (TriE.meth (od := wsD (leadOf m)) (ds := []) (TriE.ws (n := n + 5) k rfl (TriL.cons (by exact .nm rfl rfl) TriL.nil) s4 s5) TriL.nil (GetM.inst k rfl rfl rfl rfl) (KeepOk.fn k rfl rfl) (fn_wsLong (n := n + 8) k s6) (fun _ => rfl) (by decide) (fun _ => rfl) rfl) (hsum rfl rfl rfl) rfl))
    · rw [if_neg h2]
      have h2' : j.fmod 2 = 0 := by simpa using h2
      refine TriSS.cons (TriS.skipIf (TriB.ofE (d := .int (j.fmod 2)) (TriE.bin' (a := .int j) (b := .int 2) (by exact .nm rfl rfl) TriE.int rfl) (congrArg some (by simpa using h2')))) ?_
      refine TriSS.stop (TriS.ret (TriE.callK k rfl rfl rfl rfl rfl (TriL.cons TriE.str (TriL.cons ?_ TriL.nil)) (fn_ellipsis (n := n + 7) k (got := gotOf m) (by omega))))
      exact TriE.meth' (od := .str "") (ds := [.list ((gotL m).map .str)]) TriE.str (TriL.cons (TriE.eq (TriN.toE (TriN.mapInts m .int (fun b => .str (if b != 0 then ("x": PySem.Str) else "-")) (.ok rfl (by decide +kernel)) (.inl rfl) (hmark rfl rfl) rfl rfl (fun a ha => TriE.iteInt (TriE.nm rfl rfl) TriE.str TriE.str) (by omega))) (by unfold gotL; rw [List.map_map]; rfl)) TriL.nil) getm_join (fn_join (Nat.le_trans s1 (by decide)) (Nat.le_trans s2 (by decide)))
end
end Mine
end
section
namespace Mine
noncomputable abbrev dInts (l : List Int) : D := .list (l.map .int)
noncomputable def ordersStep (os : List (List Int)) (b : Int) : List (List Int) := os.flatMap fun o => (List.range (b + 1).toNat).map fun k => o.take k ++ [b] ++ o.drop k
noncomputable def allOrders : List (List Int) := ordersStep (ordersStep (ordersStep [[0, 1]] 2) 3) 4
section
variable {W : Wo} {n : Nat} {ns : Names} {ρ : Rho} {μ : Mu}
theorem sliceL_drop {α : Type} (xs : List α) (k : Nat) : sliceL xs (some (k : Int)) none = xs.drop k := by
  unfold sliceL kms_lo kms_hi
  have h : ¬ ((k : Int) < 0) := by lia
  simp only [h, if_false, Int.toNat_natCast]
  by_cases hk : k ≤ xs.length
  · rw [Nat.min_eq_left hk, List.take_of_length_le (by rw [List.length_drop]; lia)]
  · rw [Nat.min_eq_right (by lia), List.drop_of_length_le (Nat.le_refl _), List.drop_of_length_le (by lia)]; simp
theorem TriE.addL {l r : Expr} {pos : Pos} {xs ys : List Int} (hl : TriE W (n + 1) ns ρ l (dInts xs)) (hr : TriE W (n + 1) ns ρ r (dInts ys)) (hz : xs.length + ys.length ≤ sizeLine) : TriE W (n + 1) ns ρ (.BinOp l .Add r pos) (dInts (xs ++ ys)) := by
  refine TriE.bin' hl hr ?_
  show (if true = true ∧ (xs.map D.int).length + (ys.map D.int).length ≤ sizeLine then some (D.list (xs.map D.int ++ ys.map D.int)) else none) = _
  rw [if_pos ⟨rfl, by rw [List.length_map, List.length_map]; exact hz⟩, ← List.map_append]
theorem CompOk.eq {T tgt e k xs outs outs'} (h : CompOk W n ns T ρ tgt e k xs outs) (e' : outs = outs') : CompOk W n ns T ρ tgt e k xs outs' := e' ▸ h
theorem TriI.eq {tgt e xs xs'} (h : TriI W n ns ρ tgt e xs) (e' : xs = xs') : TriI W n ns ρ tgt e xs' := e' ▸ h
theorem rangeL_zero (b : Int) : rangeL 0 b = (List.range b.toNat).map fun (i : Nat) => D.int (i : Int) := by
  unfold rangeL
  rw [Int.sub_zero]
  exact List.map_congr_left fun i _ => by rw [Int.zero_add]
theorem TriE.prefix_ {e up : Expr} {p pos : Pos} {xs : List Int} {i : Nat} (h : TriE W n ns ρ e (dInts xs)) (hu : TriE W n ns ρ up (.int (i : Int))) (hz : xs.length ≤ sizeLine) (ht : ∀ o r, letTemporaryGo e o r = pure () := by intro _ _; rfl) : TriE W n ns ρ (.Subscript e (.Slice none (some up) Option.none p) pos) (dInts (xs.take i)) := by
  refine TriE.eq (TriE.sliceList (lo := none) (hi := some (i : Int)) h TriP.none (TriP.some hu) (by rw [List.length_map]; exact hz) ht) ?_
  rw [sliceL_take, ← List.map_take]
theorem TriE.suffix_ {e lo : Expr} {p pos : Pos} {xs : List Int} {i : Nat} (h : TriE W n ns ρ e (dInts xs)) (hu : TriE W n ns ρ lo (.int (i : Int))) (hz : xs.length ≤ sizeLine) (ht : ∀ o r, letTemporaryGo e o r = pure () := by intro _ _; rfl) : TriE W n ns ρ (.Subscript e (.Slice (some lo) none Option.none p) pos) (dInts (xs.drop i)) := by
  refine TriE.eq (TriE.sliceList (lo := some (i : Int)) (hi := none) h (TriP.some hu) TriP.none (by rw [List.length_map]; exact hz) ht) ?_
  rw [sliceL_drop, ← List.map_drop]
noncomputable def ordersAt : List (List Int × List (List Int)) := [([2, 3, 4], [[0, 1]]), ([3, 4], ordersStep [[0, 1]] 2), ([4], ordersStep (ordersStep [[0, 1]] 2) 3), ([], allOrders)]
noncomputable def ordersChk : List Int × List (List Int) → Bool
  | (a :: xs, s) => decide ((xs, ordersStep s a) ∈ ordersAt ∧ 0 ≤ a ∧ a ≤ 4 ∧ (ordersStep s a).length ≤ 60 ∧ ∀ o ∈ s, o.length ≤ 5)
  | _ => true
theorem orders_chk : ∀ p ∈ ordersAt, ordersChk p = true := by decide +kernel
theorem orders_next {a : Int} {xs : List Int} {s : List (List Int)} (h : (a :: xs, s) ∈ ordersAt) : (xs, ordersStep s a) ∈ ordersAt ∧ 0 ≤ a ∧ a ≤ 4 ∧ (ordersStep s a).length ≤ 60 ∧ ∀ o ∈ s, o.length ≤ 5 := of_decide_eq_true (orders_chk _ h)
theorem rng_small {a : Int} (h0 : 0 ≤ a) (h4 : a ≤ 4) : -2 ^ 62 ≤ a + 1 ∧ a + 1 < 2 ^ 62 := by lia
set_option maxHeartbeats 2000000 in
theorem fn_orders (k : Kit W) : FnE W (n + 4) (.ref 317) [] (.list (allOrders.map dInts)) := by
  have hsl : sizeLine = 2 ^ 24 := rfl
  refine FnE.ofK k (xs := []) rfl rfl ⟨_, _, _, _, rfl, rfl, rfl, rfl⟩ rfl ?_ rfl ⟨rfl, rfl, rfl, rfl, rfl, rfl⟩ (by decide +kernel) ?_
  · exact len0 (rfl)
  refine TriSS.cons (TriS.assign (d := .list ([[0, 1]].map dInts)) (TriE.list (TriL.cons (TriE.list (TriL.cons TriE.int (TriL.cons TriE.int TriL.nil)) (by show 2 ≤ sizeLine; decide)) TriL.nil) (by show 1 ≤ sizeLine; decide)) (.inl rfl) fun _ _ => rfl) ?_
  refine TriSS.cons (TriS.eq (TriS.forR (orelse := []) [2, 3, 4] D.int (fun s a => .on (ordersStep s a)) (fun a => [("block", .int a)]) (fun s => [("orders", .list (s.map dInts))]) (fun _ => none) (fun _ => []) (fun _ => none) (fun xs s => (xs, s) ∈ ordersAt) (fun s => .next [("orders", .list (s.map dInts))] none) [[0, 1]]
    (SubR.cons rfl SubR.nil) rfl (TriI.of (d := .tup [.int 2, .int 3, .int 4]) (TriE.tuple (TriL.cons TriE.int (TriL.cons TriE.int (TriL.cons TriE.int TriL.nil))) (by show 3 ≤ sizeLine; decide)) rfl) rfl ?_ ?_ (fun a => .name (.inr rfl)) ?_ (fun _ _ _ _ _ h => by cases h) (fun _ _ _ _ _ h => by cases h) (fun s _ => ⟨TriSS.nil, fun _ _ => ⟨by simp, by simp⟩⟩)) rfl) (TriSS.stop (TriS.ret (by exact .nm rfl rfl)))
  · exact List.mem_cons_self
  · intro xs s a s' h e
    cases e
    exact (orders_next h).1
  · intro xs s a s' h e
    cases e
    obtain ⟨_, a0, a4, al, ao⟩ := orders_next h
    obtain ⟨r1, r2⟩ := rng_small a0 a4
    refine ⟨_, .inl (TriSS.cons (TriS.assignComp (T := ["order", "k"]) (xs := s.map dInts) (outs := (ordersStep s a).map dInts) ?_ rfl (.ok rfl (by decide +kernel)) (TriI.of (d := .list (s.map dInts)) (by exact .nm rfl rfl) rfl) ?_ (by rw [List.length_map]; exact szLe al (by decide))) TriSS.nil), SubR.cons rfl SubR.nil⟩
    · exact envEq fun _ _ => by rfl
    · refine CompOk.eq (CompOk.mkB ["order"] s dInts (fun _ => true) (fun o => ((List.range (a + 1).toNat).filter fun _ => true).flatMap fun i => [dInts (o.take i ++ [a] ++ o.drop i)]) (fun o => [("order", dInts o)]) rfl (fun o _ => (BindT.name (.inl rfl)).assigns) (fun _ => rfl) rfl (fun o _ => Tests.nil) fun o ho _ => ?_) ?_
      · refine ⟨(List.range (a + 1).toNat).map fun (i : Nat) => D.int (i : Int), rfl, fun _ _ => rfl, TriI.eq (TriI.range1 (b := a + 1) k.ok (k.builtin rfl rfl rfl (by decide) rfl KeepOk.type) (TriE.bin' (a := .int a) (TriE.nm rfl rfl) TriE.int rfl) r1 r2) (rangeL_zero _), ?_⟩
        refine CompOk.mkB ["k"] (List.range (a + 1).toNat) (fun (i : Nat) => D.int (i : Int)) (fun _ => true) (fun i => [dInts (o.take i ++ [a] ++ o.drop i)]) (fun i => [("k", .int (i : Int))]) rfl (fun o _ => (BindT.name (.inl rfl)).assigns) (fun _ => rfl) rfl (fun o _ => Tests.nil) fun i hi _ => ?_
        have hol := ao o ho
        refine ⟨_, TriE.addL (TriE.addL (TriE.prefix_ (by exact .nm rfl rfl) (by exact .nm rfl rfl) (szLe hol (by decide))) (xs := o.take i) (ys := [a]) (TriE.list (TriL.cons (TriE.nm rfl rfl) TriL.nil) (by show 1 ≤ sizeLine; decide)) ?_) (TriE.suffix_ (by exact .nm rfl rfl) (by exact .nm rfl rfl) (szLe hol (by decide))) ?_, rfl⟩
        · exact szLe (Nat.add_le_add (Nat.le_trans (List.length_take_le' ..) hol) (Nat.le_refl 1)) (by decide)
        · rw [List.length_append, List.length_singleton, Nat.add_right_comm, ← List.length_append, List.take_append_drop]; exact szLe (Nat.succ_le_succ hol) (by decide)
      · rw [List.filter_eq_self.mpr (fun _ _ => rfl)]
        unfold ordersStep
        rw [List.map_flatMap]
        congr 1
        funext o
        first
          | (rw [List.map_map, ← List.map_eq_flatMap]; rfl)
          | (rw [List.filter_eq_self.mpr (fun _ _ => rfl), List.map_map, ← List.map_eq_flatMap]; rfl)
        exact List.filter_eq_self.mpr fun _ _ => rfl
end
end Mine
end
section
namespace Mine
noncomputable def octGo (num : Int) : List Int := ([4, 3, 2, 1, 0].filter fun k => k == 0 || decide (num ≥ 64 ^ k.toNat)).map fun (k : Int) => (num.fdiv (64 ^ k.toNat)).fmod 64 + (if k != 0 then 64 else 0)
noncomputable def octetsOf (e : List Int) : List Int := e.flatMap octGo
section
variable {W : Wo} {n : Nat} {ns : Names} {ρ : Rho} {μ : Mu}
theorem octGo_len (num : Int) : (octGo num).length ≤ 5 := by
  unfold octGo
  rw [List.length_map]
  exact List.length_filter_le _ _
theorem TriE.iteI {t b o : Expr} {pos : Pos} {m x y : Int} (ht : TriE W (n + 1) ns ρ t (.int m)) (hb : TriE W (n + 1) ns ρ b (.int x)) (ho : TriE W (n + 1) ns ρ o (.int y)) (he : ∀ env whole, isTrue t env whole = (do let v ← whole; standAt t.pos; holding [v] (truthy v)) := by intro _ _; rfl) : TriE W (n + 1) ns ρ (.IfExp t b o pos) (.int (if m != 0 then x else y)) :=
  TriE.ite (TriB.ofE ht rfl he) (fun h => by rw [if_pos h]; exact hb) (fun h => by rw [h]; exact ho)
set_option maxHeartbeats 2000000 in
theorem fn_octets (k : Kit W) (e : List Int) (he : e.length ≤ 4) : FnE W (n + 4) (.ref 337) [.tup (e.map .int)] (dInts (octetsOf e)) := by
  have hsl : sizeLine = 2 ^ 24 := rfl
  refine FnE.ofK k (xs := ["entry"]) rfl rfl ⟨_, _, _, _, rfl, rfl, rfl, rfl⟩ rfl ?_ rfl ⟨rfl, rfl, rfl, rfl, rfl, rfl⟩ (by decide +kernel) ?_
  · exact len1 (fun _ => rfl)
  refine TriSS.stop (TriS.ret (TriN.toE (TriN.comp (T := ["number", "k"]) (xs := e.map .int) (outs := (octetsOf e).map .int) (.ok rfl (by decide +kernel)) (TriI.of (d := .tup (e.map .int)) (by exact .nm rfl rfl) rfl) ?_ ?_)))
  · refine CompOk.eq (CompOk.mk e D.int (fun _ => true) (fun num => (octGo num).map .int) (fun num => [("number", .int num)]) rfl (fun o _ => .name (.inl rfl)) (fun o _ q hq => by rw [List.mem_singleton] at hq; subst hq; simp) (fun x hx => .inl ?_) (fun o _ => Tests.nil) fun num _ _ => ?_) ?_
    · rcases List.mem_cons.mp hx with rfl | hx
      · rfl
      · rw [List.mem_singleton] at hx; subst hx; rfl
    · refine ⟨[4, 3, 2, 1, 0].map D.int, rfl, fun _ _ => rfl, TriI.of (d := .tup ([4, 3, 2, 1, 0].map D.int)) (TriE.tuple (TriL.cons TriE.int (TriL.cons TriE.int (TriL.cons TriE.int (TriL.cons TriE.int (TriL.cons TriE.int TriL.nil))))) (by show 5 ≤ sizeLine; decide)) rfl, ?_⟩
      refine CompOk.eq (CompOk.mk [4, 3, 2, 1, 0] D.int (fun k => k == 0 || decide (num ≥ 64 ^ k.toNat)) (fun k => [.int ((num.fdiv (64 ^ k.toNat)).fmod 64 + (if k != 0 then 64 else 0))]) (fun k => [("k", .int k)]) rfl (fun o _ => .name (.inl rfl)) (fun o _ q hq => by rw [List.mem_singleton] at hq; subst hq; simp) (fun x hx => ?_) (fun j hj => ?_) fun j hj _ => ?_) ?_
      · rcases List.mem_cons.mp hx with rfl | hx
        · exact .inr fun _ _ => rfl
        · rw [List.mem_singleton] at hx; subst hx; exact .inl rfl
      · have hpow : binD .Pow (.int 64) (.int j) = some (.int (64 ^ j.toNat)) := by
          simp only [List.mem_cons, List.not_mem_nil, or_false] at hj
          rcases hj with rfl | rfl | rfl | rfl | rfl <;> rfl
        refine Tests.one (TriB.eq (TriB.boolOp (OrB.cons (TriB.cmp' (a := .int j) (b := .int 0) (by exact .nm rfl rfl) TriE.int rfl) fun _ => OrB.cons (TriB.cmp' (a := .int num) (b := .int (64 ^ j.toNat)) (by exact .nm rfl rfl) (TriE.bin' TriE.int (by exact .nm rfl rfl) hpow) rfl) fun _ => OrB.nil)) ?_)
        rw [Bool.or_false]
      · have hpow : binD .Pow (.int 64) (.int j) = some (.int (64 ^ j.toNat)) := by
          simp only [List.mem_cons, List.not_mem_nil, or_false] at hj
          rcases hj with rfl | rfl | rfl | rfl | rfl <;> rfl
        have hdiv : binD .FloorDiv (.int num) (.int (64 ^ j.toNat)) = some (.int (num.fdiv (64 ^ j.toNat))) := by
          simp only [List.mem_cons, List.not_mem_nil, or_false] at hj
          rcases hj with rfl | rfl | rfl | rfl | rfl <;> rfl
        exact ⟨_, TriE.bin' (a := .int ((num.fdiv (64 ^ j.toNat)).fmod 64)) (b := .int (if j != 0 then 64 else 0)) (TriE.bin' (a := .int (num.fdiv (64 ^ j.toNat))) (b := .int 64) (TriE.bin' (by exact .nm rfl rfl) (TriE.bin' TriE.int (by exact .nm rfl rfl) hpow) hdiv) TriE.int rfl) (TriE.iteI (by exact .nm rfl rfl) TriE.int TriE.int) rfl, rfl⟩
      · unfold octGo
        rw [List.map_map, ← List.map_eq_flatMap]
        rfl
    · rw [List.filter_eq_self.mpr (fun _ _ => rfl)]
      unfold octetsOf
      rw [List.map_flatMap]
  · rw [List.length_map]
    have : ∀ e : List Int, (octetsOf e).length ≤ 5 * e.length := fun e => by
      induction e with
      | nil => simp [octetsOf]
      | cons a e ih =>
        have h1 := octGo_len a
        unfold octetsOf at ih ⊢
        rw [List.flatMap_cons, List.length_append, List.length_cons]
        lia
    have := this e
    lia
end
end Mine
end
section
namespace Mine
theorem RepL.eraseIdx {g : View} : ∀ {vs : List Value} {ds : List D}, RepL g vs ds → ∀ i, RepL g (vs.eraseIdx i) (ds.eraseIdx i)
  | _, [], h, i => by rw [repL_nil.mp h]; simpa using RepL.nil
  | _, _ :: _, h, 0 => by obtain ⟨v, r, rfl, h1, h2⟩ := repL_cons.mp h; simpa using h2
  | _, _ :: _, h, i + 1 => by obtain ⟨v, r, rfl, h1, h2⟩ := repL_cons.mp h; simpa using RepL.cons h1 (RepL.eraseIdx h2 i)
section
variable {W : Wo} {n : Nat} {ns : Names} {ρ : Rho} {μ : Mu}
noncomputable def TriMI (W : Wo) (n : Nat) (ns : Names) (ρ : Rho) (μ : Mu) (tgt e : Expr) (xs : List D) : Prop :=
  ∀ A env g₀ s₀ F g s (Q : Value → Shared → Prop) (E : Value → Shared → Prop), Fra W n A env ns ρ μ g₀ s₀ F g s →
    (∀ I fp wr St g' s', Step g s g' s' → SrcAt W A tgt I fp wr xs St g' s' → From g s fp wr g' → Q (.ref I) s') → wpAny W.M A (eval e env) (fun v s₁ => wpAny W.M A (pyIter v) Q E s₁) E s
theorem TriMI.open_ {tgt e : Expr} {y : PySem.Str} {xs outs : List D} (h : TriN W n ns ((y, .list xs) :: ρ) e outs) (hsc : ∀ d ∈ outs, d.scalar = true) : TriMI W n ns ρ (some (y, xs)) tgt e outs := fun A env g₀ s₀ F g s Q E f hQ => by
  obtain ⟨hy, L, o⟩ := f.ownAt
  obtain ⟨ys, k, hp, hr, hn, c⟩ := o.open_ f.noown hy
  refine wp_mono' (h A env _ s E c) fun v s₁ hv => ?_
  obtain ⟨L', g₁, rfl, hf, st₁, ⟨us, ⟨q, hp'⟩, hr', hn'⟩⟩ := hv
  have st : Step g s (g₁.del L) s₁ := st₁.close hn
  have hL : L' ≠ L := by rintro rfl; rw [hp] at hf; cases hf
  have hn2 : (g₁.del L) L' = none := by rw [View.del_ne hL]; exact hn'
  have le : (g₁.del L).le ((g₁.del L).put L' { cls := .type "list", data := .seq us q }) := View.le_put hn2
  have st2 : Step g s ((g₁.del L).put L' { cls := .type "list", data := .seq us q }) s₁ := ⟨fun b o' e => le _ _ (st.view _ _ e), fun b o' e => by
    by_cases hb : b = L'
    · subst hb; exact .inr hf
    · rw [View.put_ne hb] at e; exact st.fresh _ _ e, fun b o' e => by
    by_cases hb : b = L'
    · subst hb; rw [View.put_self] at e; cases e; exact hp'
    · rw [View.put_ne hb] at e; exact st.sub _ _ e, st.keep, st.rest⟩
  refine pyIterR (tgt := tgt) (d := .list outs) f.cx.room.handled (st2.good f.cx.good) (rep_list.mpr ⟨L', us, q, rfl, View.put_self, hr'.scalars hsc⟩) rfl fun I fp wr St s₂ st₃ src hfr => ?_
  exact hQ I fp wr St _ s₂ (st2.trans st₃) src (hfr.step st2 fun _ _ e => e)
theorem TriS.forM {tgt iter : Expr} {body orelse : List Stmt} {pos : Pos} {xs : List D} {o : Out} {ρ' : Rho} (hI : TriMI W n ns ρ μ tgt iter xs) (hsub : SubR ρ' ρ)
    (hbody : LoopOk (fun d ρ μ o₁ => ∃ bs, BindT ns tgt d bs ∧ TriSS W n ns (bs ++ ρ) (bs.foldr (fun p m => lose m p.1) μ) body o₁) (fun ρ μ o => TriSS W n ns ρ μ orelse o ∧ ∀ ρ' μ', o ≠ .brk ρ' μ' ∧ o ≠ .cont ρ' μ') xs ρ' μ o)
    (hs : ∀ env x, foldedSetIterable iter env x = pure x := by intro _ _; rfl) : TriS W n ns ρ μ (.For tgt iter body orelse pos) o := fun A env g₀ s₀ F g s Q E f hq => by
  refine wpAny_For (hI A env g₀ s₀ F g s _ E f fun I fp wr St g₁ s₁ st₁ src hfr => ?_) (hs env)
  have f₁ := f.step st₁
  have wrF : ∀ b ∈ wr, s.heap.get? b = none := hfr.2
  have notF : ∀ b ∈ wr, b ∉ F := fun b hb h => by obtain ⟨o, ho⟩ := f.live b h; rw [wrF b hb] at ho; cases ho
  have offf : ∀ b ∈ fp, b ≠ env.locals ∧ ∀ x a, env.cells.lookup x = some a → b ≠ a := fun b hb => by
    refine ⟨?_, ?_⟩
    · rintro rfl
      obtain ⟨m, ⟨o', es, ep, ho, _⟩, _⟩ := f.cx.en.loc
      rcases hfr.1 _ hb with q | ⟨q, hq⟩
      · rw [ho] at q; cases q
      · rw [f₁.cx.en.hidL] at hq; cases hq
    · rintro x a hx rfl
      obtain ⟨v, o', ho', _⟩ := f.cx.en.isC x b hx
      rcases hfr.1 b hb with q | ⟨q, hq⟩
      · rw [ho'] at q; cases q
      · rw [f₁.cx.en.hidC x b hx] at hq; cases hq
  have f₂ : Fra W n A env ns ρ μ g₀ s₀ (fp ++ F) g₁ s₁ := { f₁ with
    own := fun y ys e => by
      obtain ⟨h1, h2, L, m, h3, h4, h5, h6, h7⟩ := f.own y ys e
      obtain ⟨k1, k2, L', m', k3, k4, k5, k6, k7⟩ := f₁.own y ys e
      refine ⟨k1, k2, L', m', k3, k4, k5, k6, fun h => ?_⟩
      rcases List.mem_append.mp h with h | h
      · have e1 := Ns.ext (h3.keeps st₁.keep) k3
        subst e1
        rw [h4] at k4
        cases k4
        obtain ⟨ys', ⟨k, hp⟩, _, hn⟩ := h5
        obtain ⟨_, _, _, hn'⟩ := k5
        rcases hfr.1 _ h with q | ⟨q, hq⟩
        · rw [hp] at q; cases q
        · rw [hn'] at hq; cases hq
      · exact k7 h
    offL := fun h => by
      rcases List.mem_append.mp h with h | h
      · exact (offf _ h).1 rfl
      · exact f.offL h
    offC := fun x a hx h => by
      rcases List.mem_append.mp h with h | h
      · exact (offf _ h).2 x a hx rfl
      · exact f.offC x a hx h
    live := fun b hb => by
      rcases List.mem_append.mp hb with h | h
      · exact src.live b h
      · exact f₁.live b h }
  have wr0 : ∀ b ∈ wr, s₀.heap.get? b = none := fun b hb => by
    cases q : s₀.heap.get? b with
    | none => rfl
    | some o => have := f.st.keep _ _ q; rw [wrF b hb] at this; cases this
  exact forLoop (f₂.sub hsub) src wr0 notF hbody fun fl g' s' sf ok => hq fl g' s' ((f.safe st₁).trans sf) ok
theorem TriS.remove {y : PySem.Str} {p ap pos spos : Pos} {e : Expr} {ms : List Int} {a : Int} {j : Nat} (he : TriE W (n + 1) ns ρ e (.int a)) (hj : ms[j]? = some a) (hno : ∀ i, i < j → ms[i]? ≠ some a) (hz : ms.length ≤ sizeLine) (hd : (y == ("__debug__" : PySem.Str)) = false)
    (hs : ∀ env, starEach [e] env = [(false, eval e env)] := by intro _; rfl) (hb : ∀ env, attributeBase (.Name y p) "remove" env (eval (.Name y p) env) = eval (.Name y p) env := by intro _; rfl) (hline : (ap.endLine == pos.line) = true := by rfl) :
    TriS W (n + 1) ns ρ (some (y, ms.map .int)) (.Expr (.Call (.Attribute (.Name y p) "remove" ap) [e] [] pos) spos) (.next ρ (some (y, (ms.eraseIdx j).map .int))) := fun A env g₀ s₀ F g s Q E f hq => by
  obtain ⟨hy, L, o⟩ := f.ownAt
  have f := f.noown
  refine wpAny_Expr ?_ (not_inter f.cx.envIs) (by rfl)
  rw [arm_eval_Call, hb]
  refine wpAny_bind (o.name f.cx hd (wpAny_bind (wpAny_standAt ?_)))
  have hform : methodCallForm ([e].length + ([] : List Keyword).length) (backTo pos (starEach [e] env)) (backToKw pos (keywordEach [] env)) = true := by
    rw [hs env]; rfl
  have hpos : methodCallPos true (.Name y p) env ap pos = pure pos := by unfold methodCallPos; simp [hline]
  unfold methodCall
  rw [hform]
  obtain ⟨zs, ⟨k, hp⟩, hr, hn⟩ := id o.acc
  refine wpAny_bind (wpAny_holding (getMethod_builtin (s := s) ⟨_, hp, rfl⟩ PySem.F.plainAttrs_list PySem.F.slot_list_remove PySem.F.type_list_remove (fun _ e => by cases e; exact ⟨_, hp, rfl⟩) ?_))
  refine wpAny_bind (wpAny_of_eq hpos ?_)
  refine callWith_of (P := fun h => ∀ b o, W.hs.get? b = some o → h.get? b = some o) (by rw [backTo_any, hs env]; rfl) KeepOk.builtin ?_
  refine wp_mono' (evalArgsR f.cx (TriL.cons he TriL.nil (by intro env; rw [hs env]; rfl)) (by rw [hs env]; rfl)) fun ar s₁ ⟨ea, g₁, st₁, r₁⟩ => ?_
  have f₁ := f.step st₁
  have G := f₁.cx.good
  refine ⟨fun b o q => G.sub _ _ (G.stat _ _ q), ?_⟩
  obtain ⟨v, r', e1, r2, r3⟩ := repL_cons.mp r₁
  rw [repL_nil.mp r3] at e1
  rw [ea, e1]
  obtain ⟨tv, rfl⟩ := rep_int.mp r2
  have o₁ := o.step st₁
  obtain ⟨zs₁, ⟨q₁, hp₁⟩, hr₁, hn₁⟩ := id o₁.acc
  have hlen : zs₁.size = ms.length := by rw [← Array.length_toList, hr₁.length, List.length_map]
  have hval : ∀ i (hi : i < zs₁.size), ∃ t, zs₁[i] = .int (ms[i]'(by lia)) t := fun i hi => by
    have : (ms.map D.int)[i]? = some (.int (ms[i]'(by lia))) := by rw [List.getElem?_map, List.getElem?_eq_getElem (by lia)]; rfl
    obtain ⟨u, hu, hru⟩ := hr₁.get this
    rw [Array.getElem?_toList, Array.getElem?_eq_getElem hi] at hu
    cases hu
    exact rep_int.mp hru
  have hjl : j < ms.length := (List.getElem?_eq_some_iff.mp hj).1
  have hjv : ms[j] = a := (List.getElem?_eq_some_iff.mp hj).2
  let eqf : Value → Bool := fun y => match y with | .int b _ => b == a | _ => false
  refine call_meets (T := "list") (name := "remove") PySem.F.slot_list_remove ⟨_, hp₁, rfl⟩ PySem.F.entry_list_remove (PySem.F.args_list_remove_2 _ _) (MeetsSeq.list_remove L zs₁ q₁ (.int a tv) eqf (fun y hy => ?_) j (by lia) ?_ (fun i hi hij => ?_) (by lia)) ⟨hp₁, ?_⟩
  · obtain ⟨i, hi, rfl⟩ := Array.mem_iff_getElem.mp hy
    obtain ⟨t, ht⟩ := hval i hi
    rw [ht]
    exact MeetsSeq.EqGives.int _ _ _ _
  · obtain ⟨t, ht⟩ := hval j (by lia)
    rw [ht]
    show (ms[j] == a) = true
    rw [hjv]; simp
  · obtain ⟨t, ht⟩ := hval i hi
    rw [ht]
    show (ms[i] == a) = false
    have := hno i hij
    rw [List.getElem?_eq_getElem (by lia)] at this
    simpa using this
  · obtain ⟨k', ek⟩ := mapSeq_plain (f := fun xs => xs.eraseIdxIfInBounds j) (ys := zs₁) (k := q₁)
    obtain ⟨f₂, sf₂⟩ := f₁.write hy o₁ (h' := s₁.heap.update L (Obj.mapSeq fun xs => xs.eraseIdxIfInBounds j)) (ys' := zs₁.eraseIdxIfInBounds j) (xs' := (ms.eraseIdx j).map .int) (tk := s₁.toks) (Heap.SameBut.update ..) ⟨k', by rw [Heap.get?_update_self _ hp₁ (by rw [ek]; rfl), ek]⟩ (by
      have hb : j < zs₁.size := by lia
      have e1 : (zs₁.eraseIdxIfInBounds j).toList = zs₁.toList.eraseIdx j := by
        unfold Array.eraseIdxIfInBounds
        rw [dif_pos hb, Array.toList_eraseIdx]
      have e2 : (ms.eraseIdx j).map D.int = (ms.map D.int).eraseIdx j := by simp only [List.eraseIdx_eq_take_drop_succ, List.map_append, List.map_take, List.map_drop]
      rw [e1, e2]
      exact hr₁.eraseIdx j)
    exact hq _ g₁ _ ((f.safe st₁).trans sf₂) ⟨rfl, f₂⟩
end
end Mine
end
section
namespace Mine
theorem goFold_on {α σ : Type} (f : σ → α → σ) : ∀ (xs : List α) (s : σ), goFold (fun s a => .on (f s a)) xs s = .on (xs.foldl f s)
  | [], s => rfl
  | a :: xs, s => by unfold goFold; exact goFold_on f xs (f s a)
theorem TriSS.mu {W : Wo} {n : Nat} {ns : Names} {ρ : Rho} {μ μ' : Mu} {b : List Stmt} {o : Out} (h : TriSS W n ns ρ μ b o) (e : μ' = μ) : TriSS W n ns ρ μ' b o := e ▸ h
theorem TriSS.rho {W : Wo} {n : Nat} {ns : Names} {ρ ρ' : Rho} {μ : Mu} {b : List Stmt} {o : Out} (h : TriSS W n ns ρ μ b o) (e : ρ' = ρ) : TriSS W n ns ρ' μ b o := e ▸ h
theorem LoopOk.conv {P : D → Rho → Mu → Out → Prop} {El : Rho → Mu → Out → Prop} {xs : List D} {ρ : Rho} {μ : Mu} {o o' : Out} (h : LoopOk P El xs ρ μ o) (e : o = o') : LoopOk P El xs ρ μ o' := e ▸ h
noncomputable def hits (one blocks : Int) : Bool := Builtin.bitAnd one blocks != 0
noncomputable def guards (blocks third : Int) : Bool := Builtin.bitAnd (blocks.fdiv (2 ^ third.toNat)) 1 != 0
noncomputable def mergeStep (s : List Int × Int) (one : Int) : List Int × Int := (s.1.eraseIdx (s.1.idxOf one), Builtin.bitOr s.2 one)
noncomputable def linkStep (third : Int) (linked : List Int) (blocks : Int) : List Int :=
  if guards blocks third then linked else
    ((linked.filter fun one => hits one blocks).foldl mergeStep (linked, blocks)).1 ++ [((linked.filter fun one => hits one blocks).foldl mergeStep (linked, blocks)).2]
noncomputable def linkedOf (handlers : List Int) (third : Int) : List Int := handlers.foldl (linkStep third) []
noncomputable def mergeInv (m : Nat) (xs : List Int) (s : List Int × Int) : Prop := s.1.length ≤ m ∧ ∀ v, xs.count v ≤ s.1.count v
theorem mergeInv_step {m : Nat} {a : Int} {xs : List Int} {s : List Int × Int} (h : mergeInv m (a :: xs) s) : mergeInv m xs (mergeStep s a) ∧ s.1[s.1.idxOf a]? = some a ∧ ∀ i, i < s.1.idxOf a → s.1[i]? ≠ some a := by
  obtain ⟨h1, h2⟩ := h
  have hm : a ∈ s.1 := by
    have := h2 a
    rw [List.count_cons_self] at this
    exact List.count_pos_iff.mp (Nat.lt_of_lt_of_le (Nat.succ_pos _) this)
  have hlt := List.idxOf_lt_length_of_mem hm
  refine ⟨⟨?_, fun v => ?_⟩, ?_, fun i hi e => ?_⟩
  · unfold mergeStep
    have := List.length_eraseIdx_le s.1 (s.1.idxOf a)
    exact Nat.le_trans this h1
  · unfold mergeStep
    show xs.count v ≤ (s.1.eraseIdx (s.1.idxOf a)).count v
    rw [← List.erase_eq_eraseIdx_of_idxOf rfl, List.count_erase]
    have := h2 v
    rw [List.count_cons] at this
    exact Nat.le_sub_of_add_le this
  · rw [List.getElem?_eq_getElem hlt, List.getElem_idxOf hlt]
  · have hi' : i < s.1.findIdx (· == a) := hi
    have := List.not_of_lt_findIdx hi'
    rw [List.getElem?_eq_getElem (Nat.lt_trans hi hlt)] at e
    have e' := Option.some.inj e
    simp [e'] at this
theorem mergeLen {m : Nat} : ∀ (xs : List Int) (s : List Int × Int), s.1.length ≤ m → (xs.foldl mergeStep s).1.length ≤ m
  | [], s, h => h
  | a :: xs, s, h => mergeLen xs (mergeStep s a) (Nat.le_trans (List.length_eraseIdx_le _ _) h)
theorem linkLen (t : Int) (l : List Int) (b : Int) : (linkStep t l b).length ≤ l.length + 1 := by
  unfold linkStep
  split
  · lia
  · rw [List.length_append, List.length_singleton]
    have := mergeLen (m := l.length) (l.filter fun one => hits one b) (l, b) (Nat.le_refl _)
    lia
section
variable {W : Wo} {n : Nat} {ns : Names} {ρ : Rho} {μ : Mu}
set_option maxHeartbeats 2000000 in
theorem fn_linked (k : Kit W) (hs : List Int) (t : Int) (ht : 0 ≤ t) (hl : hs.length ≤ 5) : FnE W (n + 4) (.ref 352) [dInts hs, .int t] (dInts (linkedOf hs t)) := by
  have hsl : sizeLine = 2 ^ 24 := rfl
  refine FnE.ofK k (xs := ["handlers", "third"]) rfl rfl ⟨_, _, _, _, rfl, rfl, rfl, rfl⟩ rfl ?_ rfl ⟨rfl, rfl, rfl, rfl, rfl, rfl⟩ (by decide +kernel) ?_
  · exact len2 (fun _ _ => rfl)
  refine TriSS.cons (TriS.assignNew (TriN.list (ds := []) TriL.nil (by decide)) rfl fun _ _ => rfl) ?_
  refine TriSS.cons (TriS.eq (TriS.forR hs D.int (fun s a => .on (linkStep t s a)) (fun a => [("blocks", .int a)]) (fun _ => [("third", .int t)]) (fun s => some ("linked", s.map .int)) (fun _ => []) (fun _ => none) (fun xs s => s.length + xs.length ≤ 5) (fun s => .next [("third", .int t)] (some ("linked", s.map .int))) [] (ds := hs.map .int)
    (SubR.cons rfl SubR.nil) rfl (TriI.of (d := .list (hs.map .int)) (by exact .nm rfl rfl) rfl) rfl ?_ ?_ (fun a => .name (.inr rfl)) ?_ ?_ ?_ ?_) (by rw [goFold_on])) ?_
  · show 0 + hs.length ≤ 5; lia
  · intro xs s a s' h e
    cases e
    have := linkLen t s a
    rw [List.length_cons] at h
    lia
  · intro xs s a s' h e
    cases e
    rw [List.length_cons] at h
    have hop : binD .RShift (.int a) (.int t) = some (.int (a.fdiv (2 ^ t.toNat))) := if_pos ht
    have hL : s.length ≤ 5 := by lia
    cases hg : guards a t with
    | true =>
      refine ⟨[("blocks", .int a), ("third", .int t)], .inl ?_, SubR.cons rfl SubR.nil⟩
      refine TriSS.eq (TriSS.cons (TriS.skipIf ?_) TriSS.nil) ?_
      · exact (TriB.eq (TriB.not (TriB.ofE (TriE.bin' (TriE.bin' (by exact .nm rfl rfl) (by exact .nm rfl rfl) hop) TriE.int rfl) rfl)) (by show (!guards a t) = false; rw [hg]; rfl))
      unfold linkStep
      rw [if_pos hg]
      rfl
    | false =>
      have hms := mergeLen (m := 5) (s.filter fun one => hits one a) (s, a) hL
      refine ⟨[("blocks", .int ((s.filter fun one => hits one a).foldl mergeStep (s, a)).2), ("third", .int t)], .inl ?_, SubR.cons rfl SubR.nil⟩
      refine TriSS.mu (μ := some ("linked", s.map .int)) ?_ rfl
      refine TriSS.eq (TriSS.cons (TriS.takeIf ?_ (TriSS.cons (ρ' := [("blocks", .int ((s.filter fun one => hits one a).foldl mergeStep (s, a)).2), ("third", .int t)]) (μ' := some ("linked", ((s.filter fun one => hits one a).foldl mergeStep (s, a)).1.map .int)) ?_ (TriSS.cons (TriS.append (d := .int ((s.filter fun one => hits one a).foldl mergeStep (s, a)).2) (xs := ((s.filter fun one => hits one a).foldl mergeStep (s, a)).1.map .int) ?_ ?_ rfl) TriSS.nil))) TriSS.nil) ?_
      · exact (TriB.eq (TriB.not (TriB.ofE (TriE.bin' (TriE.bin' (by exact .nm rfl rfl) (by exact .nm rfl rfl) hop) TriE.int rfl) rfl)) (by show (!guards a t) = true; rw [hg]; rfl))
      · refine TriS.forM (xs := (s.filter fun one => hits one a).map .int) (ρ' := [("blocks", .int a), ("third", .int t)]) ?_ (SubR.of rfl) ?_
        refine TriMI.open_ (y := "linked") (xs := s.map .int) (outs := (s.filter fun one => hits one a).map .int) ?_ ?_
        · refine TriN.comp1 ["one"] s .int (fun one => hits one a) .int (fun one => [("one", .int one)]) (.ok rfl (by decide +kernel)) (TriI.of (d := .list (s.map .int)) (by exact .nm rfl rfl) rfl) rfl (fun _ _ => .name (.inl rfl)) (fun o _ q hq => by rw [List.mem_singleton] at hq; subst hq; simp) ?_ ?_ ?_ ?_
          · intro x hx
            rw [List.mem_singleton] at hx; subst hx; rfl
          · intro one _
            exact Tests.one (TriB.ofE (TriE.bin' (a := .int one) (b := .int a) (by exact .nm rfl rfl) (by exact .nm rfl rfl) rfl) rfl)
          · intro one _ _
            exact .nm rfl rfl
          · lia
        · intro d hd
          obtain ⟨x, _, rfl⟩ := List.mem_map.mp hd
          rfl
        · refine LoopOk.conv (LoopOk.goR D.int (fun s a => .on (mergeStep s a)) (fun q : List Int × Int => [("blocks", .int q.2), ("third", .int t)]) (fun q => some ("linked", q.1.map .int)) (fun _ => []) (fun _ => none) (mergeInv 5) (fun q => .next [("blocks", .int q.2), ("third", .int t)] (some ("linked", q.1.map .int))) ?_ ?_ ?_ ?_ ?_ (s.filter fun one => hits one a) (s, a) ⟨hL, fun v => (List.filter_sublist).count_le v⟩) (by rw [goFold_on])
          · intro xs s a s' h e; cases e; exact (mergeInv_step h).1
          · intro xs s a s' h e
            cases e
            obtain ⟨_, h2, h3⟩ := mergeInv_step h
            refine ⟨[("blocks", .int (Builtin.bitOr s.2 a)), ("one", .int a), ("blocks", .int s.2), ("third", .int t)], .inl ⟨_, .name (.inl rfl), ?_⟩, SubR.of rfl⟩
            refine TriSS.mu (μ := some ("linked", s.1.map .int)) ?_ rfl
            refine TriSS.cons (TriS.remove (e := _) (ms := s.1) (a := a) (j := s.1.idxOf a) ?_ h2 h3 ?_ rfl) (TriSS.eq (TriSS.cons (TriS.augName (a := .int s.2) (b := .int a) (d := .int (Builtin.bitOr s.2 a)) rfl (.inr rfl) ?_ (iopD_sound (op := .BitOr) rfl)) TriSS.nil) ?_)
            · exact .nm rfl rfl
            · have := h.1; lia
            · exact .nm rfl rfl
            · rfl
          · intro xs s a s' h e; cases e
          · intro xs s a d h e; cases e
          · intro s h
            exact ⟨TriSS.nil, fun _ _ => ⟨by simp, by simp⟩⟩
      · exact .nm rfl rfl
      · rw [List.length_map]; lia
      · unfold linkStep
        rw [if_neg (by rw [hg]; simp), List.map_append]
        rfl
  · intro xs s a s' h e; cases e
  · intro xs s a d h e; cases e
  · intro s h
    exact ⟨TriSS.nil, fun _ _ => ⟨by simp, by simp⟩⟩
  · refine TriSS.freeze (TriSS.stop (TriS.ret ?_))
    exact .nm rfl rfl
end
end Mine
end
section
namespace Mine
theorem isPyL_map {α : Type} (f : α → D) (P : α → Bool) (h : ∀ a, P a = true → (f a).isPy = true) : ∀ l : List α, l.all P = true → D.isPyL (l.map f) = true
  | [], _ => by rw [List.map_nil, D.isPyL]
  | a :: l, e => by
    rw [List.all_cons, Bool.and_eq_true] at e
    rw [List.map_cons, D.isPyL, h a e.1, isPyL_map f P h l e.2]; rfl
theorem depthAll_map {α : Type} {m : Nat} (f : α → D) (h : ∀ a, (f a).py.depth ≤ m) : ∀ l : List α, PyData.depthAll (D.pyL (l.map f)) ≤ m
  | [] => by rw [List.map_nil, D.pyL, PyData.depthAll]; exact Nat.zero_le _
  | a :: l => by rw [List.map_cons, D.pyL, PyData.depthAll]; exact Nat.max_le.mpr ⟨h a, depthAll_map f h l⟩
theorem eqvAll_map {α : Type} [DecidableEq α] (f : α → D) (h : ∀ a b, PyData.eqv (f a).py (f b).py = decide (a = b)) : ∀ l m : List α, PyData.eqvAll (D.pyL (l.map f)) (D.pyL (m.map f)) = decide (l = m)
  | [], [] => by rw [List.map_nil, D.pyL, PyData.eqvAll]; rfl
  | [], b :: m => by rw [List.map_nil, D.pyL, List.map_cons, D.pyL, PyData.eqvAll]; simp
  | a :: l, [] => by rw [List.map_nil, D.pyL, List.map_cons, D.pyL, PyData.eqvAll]; simp
  | a :: l, b :: m => by
    rw [List.map_cons, D.pyL, List.map_cons, D.pyL, PyData.eqvAll, h a b, eqvAll_map f h l m]
    simp
theorem eqv_int (a b : Int) : PyData.eqv (D.int a).py (D.int b).py = decide (a = b) := by
  rw [D.py, D.py, PyData.eqv]; rfl
structure EqD {α : Type} [DecidableEq α] (P : α → Bool) (f : α → D) (m : Nat) : Prop where
  py : ∀ a, P a = true → (f a).isPy = true
  depth : ∀ a, (f a).py.depth ≤ m
  eqv : ∀ a b, PyData.eqv (f a).py (f b).py = decide (a = b)
noncomputable def anyP {α : Type} (_ : α) : Bool := true
theorem EqD.int : EqD anyP D.int 0 := ⟨fun a _ => by rw [D.isPy], fun a => by rw [D.py, PyData.depth]; exact Nat.le_refl _, eqv_int⟩
theorem EqD.bool : EqD anyP D.bool 0 := ⟨fun a _ => by rw [D.isPy], fun a => by rw [D.py, PyData.depth]; exact Nat.le_refl _, fun a b => by cases a <;> cases b <;> rfl⟩
theorem EqD.str : EqD PyData.strOk D.str 0 := ⟨fun a h => by rw [D.isPy]; exact h, fun a => by rw [D.py, PyData.depth]; exact Nat.le_refl _, fun a b => by
  rw [D.py, D.py, PyData.eqv]
  rfl⟩
theorem EqD.list {α : Type} [DecidableEq α] {P : α → Bool} {f : α → D} {m : Nat} (h : EqD P f m) : EqD (fun l : List α => l.all P) (fun l : List α => D.list (l.map f)) (m + 1) :=
  ⟨fun l e => by rw [D.isPy]; exact isPyL_map f P h.py l e, fun l => by rw [D.py, PyData.depth]; exact Nat.succ_le_succ (depthAll_map f h.depth l), fun l m => by
    rw [D.py, D.py, PyData.eqv]; exact eqvAll_map f h.eqv l m⟩
theorem EqD.tup {α : Type} [DecidableEq α] {P : α → Bool} {f : α → D} {m : Nat} (h : EqD P f m) : EqD (fun l : List α => l.all P) (fun l : List α => D.tup (l.map f)) (m + 1) :=
  ⟨fun l e => by rw [D.isPy]; exact isPyL_map f P h.py l e, fun l => by rw [D.py, PyData.depth]; exact Nat.succ_le_succ (depthAll_map f h.depth l), fun l m => by
    rw [D.py, D.py, PyData.eqv]; exact eqvAll_map f h.eqv l m⟩
theorem all_any {α : Type} (l : List α) : l.all anyP = true := List.all_eq_true.mpr fun _ _ => rfl
theorem EqD.any {α : Type} [DecidableEq α] {P : α → Bool} {f : α → D} {m : Nat} (h : EqD P f m) (hp : ∀ a, P a = true) : EqD anyP f m := ⟨fun a _ => h.py a (hp a), h.depth, h.eqv⟩
theorem EqD.ints : EqD anyP dInts 1 := EqD.int.list.any fun l => all_any l
theorem EqD.cmpOk {α : Type} [DecidableEq α] {P : α → Bool} {f : α → D} {m : Nat} (h : EqD P f m) (hm : m ≤ 1000) {a b : α} (ha : P a = true) (hb : P b = true) : D.cmpOk (f a) (f b) = true := by
  rw [D.cmpOk, h.py a ha, h.py b hb, decide_eq_true (Nat.le_trans (h.depth a) hm)]; rfl
theorem EqD.ne {W : Wo} {α : Type} [DecidableEq α] {P : α → Bool} {f : α → D} {m : Nat} (h : EqD P f m) (hm : m ≤ 1000) {a b : α} (ha : P a = true) (hb : P b = true) : CmpE W .NotEq (f a) (f b) (!decide (a = b)) := by
  have := cmp_ne (W := W) (h.cmpOk hm ha hb)
  rwa [D.eqv, h.eqv] at this
theorem EqD.eq {W : Wo} {α : Type} [DecidableEq α] {P : α → Bool} {f : α → D} {m : Nat} (h : EqD P f m) (hm : m ≤ 1000) {a b : α} (ha : P a = true) (hb : P b = true) : CmpE W .Eq (f a) (f b) (decide (a = b)) := by
  have := cmp_eq (W := W) (h.cmpOk hm ha hb)
  rwa [D.eqv, h.eqv] at this
end Mine
end
section
namespace Mine
noncomputable def triples : List (Nat × Nat × Nat) := (List.range 5).flatMap fun a => (List.range a).flatMap fun b => (List.range b).map fun c => (a, b, c)
noncomputable def tripD (p : Nat × Nat × Nat) : D := .tup [.int p.1, .int p.2.1, .int p.2.2]
noncomputable def both (x y : Nat) (one : Int) : Bool := Builtin.bitAnd (Builtin.bitAnd (one.fdiv (2 ^ x)) (one.fdiv (2 ^ y))) 1 != 0
noncomputable def aroundOf (hs : List Int) (p : Nat × Nat × Nat) : List (List Int × Nat × Nat) := [(linkedOf hs p.1, p.2.1, p.2.2), (linkedOf hs p.2.1, p.1, p.2.2), (linkedOf hs p.2.2, p.1, p.2.1)]
noncomputable def aroundD (q : List Int × Nat × Nat) : D := .tup [dInts q.1, .int q.2.1, .int q.2.2]
noncomputable def linkedUp (q : List Int × Nat × Nat) : Bool := !decide (q.1.filter (both q.2.1 q.2.2) = [])
noncomputable def roundAt (hs : List Int) (p : Nat × Nat × Nat) : Bool := ((aroundOf hs p).map linkedUp).all id
noncomputable def threeOf (hs : List Int) : Bool := triples.any (roundAt hs)
theorem linkedOf_len (hs : List Int) (t : Int) : (linkedOf hs t).length ≤ hs.length := by
  have : ∀ (hs l : List Int), (hs.foldl (linkStep t) l).length ≤ l.length + hs.length := fun hs => by
    induction hs with
    | nil => intro l; simp
    | cons a hs ih =>
      intro l
      have h1 := linkLen t l a
      have h2 := ih (linkStep t l a)
      rw [List.foldl_cons, List.length_cons]
      lia
  have := this hs []
  simpa [linkedOf] using this
theorem goFold_any {α : Type} (p : α → Bool) : ∀ xs : List α, goFold (fun (_ : Unit) a => if p a then .ret (.bool true) else .on ()) xs () = if xs.any p then .ret (.bool true) else .on ()
  | [] => rfl
  | a :: xs => by
    unfold goFold
    rw [List.any_cons]
    cases h : p a with
    | true => rfl
    | false => exact goFold_any p xs
section
variable {W : Wo} {n : Nat} {ns : Names} {ρ : Rho} {μ : Mu}
theorem triples_comp : triples = ((List.range 5).filter fun _ => true).flatMap fun a => ((List.range a).filter fun _ => true).flatMap fun b => ((List.range b).filter fun _ => true).flatMap fun c => [(a, b, c)] := by decide +kernel
theorem triples_lt : ∀ p ∈ triples, p.1 < 5 ∧ p.2.1 < 5 ∧ p.2.2 < 5 := by decide +kernel
theorem rshiftI (a t : Int) (ht : 0 ≤ t) : binD .RShift (.int a) (.int t) = some (.int (a.fdiv (2 ^ t.toNat))) := if_pos ht
theorem rshiftN (a : Int) (x : Nat) : binD .RShift (.int a) (.int (x : Int)) = some (.int (a.fdiv (2 ^ x))) := by
  have h : binD .RShift (.int a) (.int (x : Int)) = some (.int (a.fdiv (2 ^ (x : Int).toNat))) := rshiftI a x (Int.natCast_nonneg x)
  rw [Int.toNat_natCast] at h
  exact h
theorem linkedItem (hs : List Int) {t : Nat} (ht : t < 5) : itemD (.list ((List.range 5).map fun (t : Nat) => dInts (linkedOf hs t))) (.int (t : Int)) = some (dInts (linkedOf hs t)) := by
  refine itemD_list (Int.natCast_nonneg t) (by rw [List.length_map]; decide) ?_
  rw [Int.toNat_natCast, List.getElem?_map, List.getElem?_range ht]
  rfl
theorem rng_lim {a : Nat} (h : a < 100) : -2 ^ 62 ≤ (a : Int) ∧ (a : Int) < 2 ^ 62 := by lia
theorem around_len {hs : List Int} (hl : hs.length ≤ 5) {p : Nat × Nat × Nat} {q : List Int × Nat × Nat} (h : q ∈ aroundOf hs p) : q.1.length ≤ 5 :=
  (List.forall_mem_cons.mpr ⟨Nat.le_trans (linkedOf_len _ _) hl, List.forall_mem_cons.mpr ⟨Nat.le_trans (linkedOf_len _ _) hl, List.forall_mem_cons.mpr ⟨Nat.le_trans (linkedOf_len _ _) hl, fun _ h => nomatch h⟩⟩⟩ : ∀ q ∈ aroundOf hs p, q.1.length ≤ 5) q h
theorem three_out (hs : List Int) {ρ : Rho} : goOut (fun _ => ρ) (fun _ => none) (fun _ => []) (fun _ => none) (goFold (fun (_ : Unit) p => if roundAt hs p then .ret (.bool true) else .on ()) triples ()) = .ret (.bool (threeOf hs)) ∨ goOut (fun _ => ρ) (fun _ => none) (fun _ => []) (fun _ => none) (goFold (fun (_ : Unit) p => if roundAt hs p then .ret (.bool true) else .on ()) triples ()) = .next ρ none ∧ threeOf hs = false := by
  rw [goFold_any]
  unfold threeOf
  cases triples.any (roundAt hs) with
  | true => exact .inl rfl
  | false => exact .inr ⟨rfl, rfl⟩
set_option maxHeartbeats 2000000 in
theorem fn_three (k : Kit W) (hs : List Int) (hl : hs.length ≤ 5) : FnE W (n + 6) (.ref 357) [dInts hs] (.bool (threeOf hs)) := by
  have hsl : sizeLine = 2 ^ 24 := rfl
  refine FnE.ofK k (xs := ["handlers"]) rfl rfl ⟨_, _, _, _, rfl, rfl, rfl, rfl⟩ rfl ?_ rfl ⟨rfl, rfl, rfl, rfl, rfl, rfl⟩ (by decide +kernel) ?_
  · exact len1 (fun _ => rfl)
  refine TriSS.cons (TriS.assignComp (T := ["third"]) (outs := (List.range 5).map fun (t : Nat) => dInts (linkedOf hs t)) ?_ rfl (.ok rfl (by decide +kernel)) (TriI.eq (TriI.range1 (b := 5) k.ok (k.builtin rfl rfl rfl (by decide) rfl KeepOk.type) TriE.int (by decide) (by decide)) (rangeL_zero _)) ?_ (by rw [List.length_map]; decide)) ?_
  · exact envEq fun _ _ => by rfl
  · refine CompOk.eq (CompOk.mkB ["third"] (List.range 5) (fun (t : Nat) => D.int t) (fun _ => true) (fun t => [dInts (linkedOf hs t)]) (fun t => [("third", .int (t : Int))]) rfl (fun o _ => (BindT.name (.inl rfl)).assigns) (fun _ => rfl) rfl (fun o _ => Tests.nil) fun t ht _ => ?_) ?_
    · exact ⟨_, TriE.callK k rfl rfl rfl rfl rfl (TriL.cons (by exact .nm rfl rfl) (TriL.cons (by exact .nm rfl rfl) TriL.nil)) (fn_linked (n := n + 1) k hs t (Int.natCast_nonneg t) hl), rfl⟩
    · rw [List.filter_eq_self.mpr (fun _ _ => rfl), ← List.map_eq_flatMap]
  refine TriSS.retU (TriS.forGoU triples tripD (fun (_ : Unit) p => if roundAt hs p then .ret (.bool true) else .on ()) (fun p => [("c", .int p.2.2), ("b", .int p.2.1), ("a", .int p.1)]) (fun _ => [("linked", .list ((List.range 5).map fun (t : Nat) => dInts (linkedOf hs t)))]) (fun _ => none) (fun _ => []) (fun _ => none) (fun _ => True) () (SubR.cons rfl SubR.nil) rfl (TriI.of (d := .list (triples.map tripD)) (TriN.toE (TriN.comp (T := ["a", "b", "c"]) (outs := triples.map tripD) (.ok rfl (by decide +kernel)) (TriI.eq (TriI.range1 (b := 5) k.ok (k.builtin rfl rfl rfl (by decide) rfl KeepOk.type) TriE.int (by decide) (by decide)) (rangeL_zero _)) ?_ ?_)) rfl) rfl trivial (fun _ _ _ _ _ _ => trivial) (fun p hp => .consT (.inl rfl) (.consT (.inl rfl) (.consT (.inl rfl) .nilT))) fun s p hp _ => ?_) (three_out hs) fun h => by rw [h]; exact TriSS.stop (TriS.ret TriE.boolC)
  · refine CompOk.eq (CompOk.mkB ["a"] (List.range 5) (fun (a : Nat) => D.int a) (fun _ => true) (fun a => ((List.range a).filter fun _ => true).flatMap fun b => ((List.range b).filter fun _ => true).flatMap fun c => [tripD (a, b, c)]) (fun a => [("a", .int (a : Int))]) rfl (fun o _ => (BindT.name (.inl rfl)).assigns) (fun _ => rfl) rfl (fun o _ => Tests.nil) fun a ha _ => ?_) ?_
    · obtain ⟨a1, a2⟩ := rng_lim (Nat.lt_trans (List.mem_range.mp ha) (by decide : 5 < 100))
      refine ⟨(List.range a).map fun (i : Nat) => D.int (i : Int), rfl, fun _ _ => rfl, TriI.eq (TriI.range1 (b := a) k.ok (k.builtin rfl rfl rfl (by decide) rfl KeepOk.type) (by exact .nm rfl rfl) a1 a2) (rangeL_zero _), ?_⟩
      refine CompOk.mkB ["b"] (List.range a) (fun (i : Nat) => D.int (i : Int)) (fun _ => true) (fun b => ((List.range b).filter fun _ => true).flatMap fun c => [tripD (a, b, c)]) (fun i => [("b", .int (i : Int))]) rfl (fun o _ => (BindT.name (.inl rfl)).assigns) (fun _ => rfl) rfl (fun o _ => Tests.nil) fun b hb _ => ?_
      obtain ⟨b1, b2⟩ := rng_lim (Nat.lt_trans (List.mem_range.mp hb) (Nat.lt_trans (List.mem_range.mp ha) (by decide : 5 < 100)))
      refine ⟨(List.range b).map fun (i : Nat) => D.int (i : Int), rfl, fun _ _ => rfl, TriI.eq (TriI.range1 (b := b) k.ok (k.builtin rfl rfl rfl (by decide) rfl KeepOk.type) (by exact .nm rfl rfl) b1 b2) (rangeL_zero _), ?_⟩
      exact CompOk.mkB ["c"] (List.range b) (fun (i : Nat) => D.int (i : Int)) (fun _ => true) (fun c => [tripD (a, b, c)]) (fun i => [("c", .int (i : Int))]) rfl (fun o _ => (BindT.name (.inl rfl)).assigns) (fun _ => rfl) rfl (fun o _ => Tests.nil) fun c hc _ => ⟨_, TriE.tuple (TriL.cons (by exact .nm rfl rfl) (TriL.cons (by exact .nm rfl rfl) (TriL.cons (by exact .nm rfl rfl) TriL.nil))) (by show 3 ≤ sizeLine; decide), rfl⟩
    · rfl
  · rw [List.length_map]; decide +kernel
  · obtain ⟨p1, p2, p3⟩ := triples_lt p hp
    refine GoOk.cons (TriS.assign (d := .list ((aroundOf hs p).map aroundD)) ?_ (.inl rfl) fun _ _ => rfl) ?_
    · exact TriE.list (TriL.cons (TriE.tuple (TriL.cons (TriE.item' (by exact .nm rfl rfl) (by exact .nm rfl rfl) (linkedItem hs p1)) (TriL.cons (by exact .nm rfl rfl) (TriL.cons (by exact .nm rfl rfl) TriL.nil))) (by show 3 ≤ sizeLine; decide))
        (TriL.cons (TriE.tuple (TriL.cons (TriE.item' (by exact .nm rfl rfl) (by exact .nm rfl rfl) (linkedItem hs p2)) (TriL.cons (by exact .nm rfl rfl) (TriL.cons (by exact .nm rfl rfl) TriL.nil))) (by show 3 ≤ sizeLine; decide))
        (TriL.cons (TriE.tuple (TriL.cons (TriE.item' (by exact .nm rfl rfl) (by exact .nm rfl rfl) (linkedItem hs p3)) (TriL.cons (by exact .nm rfl rfl) (TriL.cons (by exact .nm rfl rfl) TriL.nil))) (by show 3 ≤ sizeLine; decide)) TriL.nil))) (by show 3 ≤ sizeLine; decide)
    refine GoOk.ite (c := roundAt hs p) (TriB.eq (TriB.ofE (TriE.callB k rfl rfl rfl (by decide) rfl KeepOk.builtin (TriL.cons (TriE.eq (TriN.toE (TriN.comp1B ["y", "x", "groups"] (aroundOf hs p) aroundD (fun _ => true) (fun q => .bool (linkedUp q)) (fun q => [("y", .int q.2.2), ("x", .int q.2.1), ("groups", dInts q.1)]) (.ok rfl (by decide +kernel)) (TriI.of (d := .list ((aroundOf hs p).map aroundD)) (by exact .nm rfl rfl) rfl) rfl (fun q _ => .consT (.inl rfl) (.consT (.inr rfl) (.consT (.inr rfl) .nilT))) (fun _ => rfl) rfl (fun q _ => Tests.nil) (fun q hq _ => ?_) (by show 3 ≤ sizeLine; decide))) ?_) TriL.nil) (fn_all (bs := (aroundOf hs p).map linkedUp))) rfl) rfl) (fun hc => GoOk.eq (r' := .ret (.bool true)) (TriSS.stop (TriS.ret TriE.boolC)) (if_pos hc)) fun hc => GoOk.eq (r' := .on ()) (GoOk.nil (SubR.cons rfl SubR.nil)) (if_neg (by rw [hc]; exact Bool.false_ne_true))
    · refine TriE.cmp (a := dInts (q.1.filter (both q.2.1 q.2.2))) (b := dInts []) (TriN.toE (TriN.compInts q.1 .int (both q.2.1 q.2.2) .int (.ok rfl (by decide +kernel)) (.inl rfl) (TriI.of (d := dInts q.1) (by exact .nm rfl rfl) rfl) rfl rfl (fun one _ => ?_) (fun one _ _ => ?_) (szLe (around_len hl hq) (by decide)))) (TriE.list TriL.nil (by show 0 ≤ sizeLine; decide)) (EqD.ints.ne (by decide) rfl rfl) rfl
      · exact Tests.one (TriB.ofE (TriE.bin' (b := .int 1) (TriE.bin' (TriE.bin' (by exact .nm rfl rfl) (by exact .nm rfl rfl) (rshiftN _ _)) (TriE.bin' (by exact .nm rfl rfl) (by exact .nm rfl rfl) (rshiftN _ _)) rfl) TriE.int rfl) rfl)
      · exact .nm rfl rfl
    · rw [List.filter_eq_self.mpr (fun _ _ => rfl), List.map_map]; rfl
end
end Mine
end
section
open Builtin Builtin.Re
open Builtin.Str (glued)
namespace Mine
noncomputable def stretches (m : List Int) : Nat := ((m.zip (0 :: m)).filter fun p => p.1 == 1 && p.2 == 0).length
noncomputable def partedM (m : List Int) : Bool := decide (2 ≤ stretches m)
theorem says_0 : ∀ m ∈ allMarks, saysQ m 0 = some (partedM m) := by decide +kernel
theorem says_1 : ∀ m ∈ allMarks, saysQ m 1 = some (partedM m) := by decide +kernel
theorem says_2 : ∀ m ∈ allMarks, saysQ m 2 = some (partedM m) := by decide +kernel
theorem says_ws : ∀ m ∈ allMarks, decide (wsLong (leadOf m) < m.sum) = partedM m ∧ ellOk (gotOf m) = partedM m := by decide +kernel
theorem fn_says' {W : Wo} {n : Nat} (k : Kit W) (j : Int) (m : List Int) (hm : Small m) : FnE W (n + 12) (.ref 322) [.int j, dInts m] (.bool (partedM m)) := by
  have hq : saysQ m ((j.fdiv 5).fmod 3) = some (partedM m) := by
    have h := fmod3 (j.fdiv 5)
    simp only [List.mem_cons, List.not_mem_nil, or_false] at h
    rcases h with h | h | h <;> rw [h]
    · exact says_0 m hm.all
    · exact says_1 m hm.all
    · exact says_2 m hm.all
  have h := fn_says (n := n) k j m hm hq
  obtain ⟨h1, h2⟩ := says_ws m hm.all
  rw [h1, h2] at h
  split at h
  · exact h
  · split at h <;> exact h
end Mine
end
section
namespace Mine
noncomputable def big (b : Int) : Bool := (Builtin.bitAnd b (b - 1) != 0) && (decide (b < 31) && true)
noncomputable def markAt (b block : Int) : Int := Builtin.bitAnd (b.fdiv (2 ^ block.toNat)) 1
noncomputable def marksOf (b : Int) (order : List Int) : List Int := order.map (markAt b)
noncomputable def orderAt (first : Int) (turn : Nat) : List Int := allOrders.getD (((first + turn).fmod 60).toNat) []
noncomputable def partsAny (hs : List Int) (order : List Int) : Bool := (hs.filter big).any fun b => partedM (marksOf b order)
noncomputable def laidGo (hs : List Int) (first : Int) (_ : Unit) (turn : Nat) : Go Unit := if partsAny hs (orderAt first turn) then .on () else .ret (dInts (orderAt first turn))
noncomputable def laidOf (hs : List Int) (first : Int) : List Int := match (List.range 60).find? fun turn => !partsAny hs (orderAt first turn) with | some turn => orderAt first turn | none => []
theorem laidGo_fold (hs : List Int) (first : Int) : ∀ l : List Nat, goFold (laidGo hs first) l () = match l.find? fun turn => !partsAny hs (orderAt first turn) with | some turn => .ret (dInts (orderAt first turn)) | none => .on ()
  | [] => rfl
  | a :: l => by
    unfold goFold
    rw [List.find?_cons]
    unfold laidGo
    cases h : partsAny hs (orderAt first a) with
    | true => exact laidGo_fold hs first l
    | false => rfl
theorem bitAnd_one {x : Int} (h : 0 ≤ x) : Builtin.bitAnd x 1 = 0 ∨ Builtin.bitAnd x 1 = 1 := by
  unfold Builtin.bitAnd
  rw [decide_eq_true h, decide_eq_true (by decide : (0 : Int) ≤ 1)]
  show ((x.toNat &&& 1 : Nat) : Int) = 0 ∨ ((x.toNat &&& 1 : Nat) : Int) = 1
  rw [Nat.and_one_is_mod]
  lia
theorem markAt_01 {b block : Int} (h : 0 ≤ b) : markAt b block = 0 ∨ markAt b block = 1 :=
  bitAnd_one (Int.fdiv_nonneg h (Int.le_of_lt (Int.pow_pos (by decide))))
theorem marks_Small {b : Int} {o : List Int} (h : 0 ≤ b) (ho : o.length = 5) : Small (marksOf b o) := by
  refine ⟨by unfold marksOf; rw [List.length_map, ho], fun x hx => ?_⟩
  obtain ⟨y, _, rfl⟩ := List.mem_map.mp hx
  exact markAt_01 h
theorem orders_ok : ∀ o ∈ allOrders, o.length = 5 ∧ ∀ b ∈ o, 0 ≤ b ∧ b ≤ 4 := by decide +kernel
theorem orders_len : allOrders.length = 60 := by decide +kernel
theorem fmod60 (a : Int) : (a.fmod 60).toNat < 60 ∧ 0 ≤ a.fmod 60 := fmodAt (P := fun x => x.toNat < 60 ∧ 0 ≤ x) a 60 (by decide) (by decide)
theorem orderAt_mem (first : Int) (turn : Nat) : orderAt first turn ∈ allOrders := by
  unfold orderAt
  have := (fmod60 (first + turn)).1
  rw [List.getD_eq_getElem?_getD, List.getElem?_eq_getElem (by rw [orders_len]; exact this)]
  exact List.getElem_mem _
theorem orderItem (first : Int) (turn : Nat) : itemD (.list (allOrders.map dInts)) (.int ((first + turn).fmod 60)) = some (dInts (orderAt first turn)) := by
  have h := fmod60 (first + turn)
  refine itemD_list h.2 (by rw [List.length_map, orders_len]; decide) ?_
  unfold orderAt
  rw [List.getElem?_map, List.getD_eq_getElem?_getD, List.getElem?_eq_getElem (by rw [orders_len]; exact h.1)]
  rfl
theorem dInts_marks (b : Int) (o : List Int) : dInts (marksOf b o) = .list (o.map fun x => .int (markAt b x)) := by
  unfold dInts marksOf
  rw [List.map_map]
  rfl
noncomputable def sayStep (order : List Int) (_ : Bool) (b : Int) : Go Bool := if partedM (marksOf b order) then .brk true else .on false
theorem sayFold (order : List Int) : ∀ l : List Int, goFold (sayStep order) l false = if l.any fun b => partedM (marksOf b order) then .brk true else .on false
  | [] => rfl
  | a :: l => by
    unfold goFold
    rw [List.any_cons]
    unfold sayStep
    cases h : partedM (marksOf a order) with
    | true => rfl
    | false => exact sayFold order l
section
variable {W : Wo} {n : Nat} {ns : Names} {ρ : Rho} {μ : Mu}
theorem TriE.tyBool (k : Kit W) {pos : Pos} (hk : ns.lookup ("bool" : PySem.Str) = some .globalImplicit) : TriE W n ns ρ (.Name "bool" pos) (.ty "bool") := by
  obtain ⟨c1, c2, c3, c4⟩ := k.builtin (ns := ns) (x := "bool") (v := .type "bool") hk rfl rfl (by decide) rfl KeepOk.type
  exact TriE.global k.ok c1 c2 rfl fun g _ => rep_ty.mpr rfl
theorem TriB.name {x : PySem.Str} {pos : Pos} {b : Bool} (h : TriE W (n + 1) ns ρ (.Name x pos) (.bool b)) : TriB W (n + 1) ns ρ (.Name x pos) b := TriB.ofE h rfl
theorem laid_out (hs : List Int) (first : Int) {ρ : Rho} : goOut (fun _ => ρ) (fun _ => none) (fun _ => []) (fun _ => none) (goFold (laidGo hs first) (List.range 60) ()) = .ret (dInts (laidOf hs first)) ∨ goOut (fun _ => ρ) (fun _ => none) (fun _ => []) (fun _ => none) (goFold (laidGo hs first) (List.range 60) ()) = .next ρ none ∧ laidOf hs first = [] := by
  rw [laidGo_fold]
  unfold laidOf
  cases (List.range 60).find? fun turn => !partsAny hs (orderAt first turn) with
  | none => exact .inr ⟨rfl, rfl⟩
  | some t => exact .inl rfl
theorem not_t {b : Bool} (h : (!b) = true) : ¬ b = true := by cases b; exact Bool.false_ne_true; cases h
theorem not_f {b : Bool} (h : (!b) = false) : b = true := by cases b; cases h; rfl
set_option maxHeartbeats 4000000 in
theorem fn_laid (k : Kit W) (hs : List Int) (first judge : Int) (hl : hs.length ≤ 5) (h0 : ∀ b ∈ hs, 0 ≤ b) : FnE W (n + 14) (.ref 327) [dInts hs, .int first, .int judge] (dInts (laidOf hs first)) := by
  have hsl : sizeLine = 2 ^ 24 := rfl
  refine FnE.ofK k (xs := ["handlers", "first", "judge"]) rfl rfl ⟨_, _, _, _, rfl, rfl, rfl, rfl⟩ rfl ?_ rfl ⟨rfl, rfl, rfl, rfl, rfl, rfl⟩ (by decide +kernel) ?_
  · exact len3 (fun _ _ _ => rfl)
  refine TriSS.cons (TriS.assignSwap2 (a := .list (allOrders.map dInts)) (b := dInts (hs.filter big)) (TriE.tuple (TriL.cons (TriE.callK k rfl rfl rfl rfl rfl TriL.nil (fn_orders (n := n + 9) k)) (TriL.cons (TriN.toE (TriN.compInts hs .int big .int (.ok rfl (by decide +kernel)) (.inl rfl) (TriI.of (d := dInts hs) (by exact .nm rfl rfl) rfl) rfl rfl (fun b _ => ?_) (fun b _ _ => by exact .nm rfl rfl) (by lia))) TriL.nil)) (by show 2 ≤ sizeLine; decide)) (.inl rfl) (.inl rfl) (fun _ _ => rfl) ?_) ?_
  · exact Tests.one (TriB.boolOp (AndB.cons (TriB.ofE (TriE.bin' (by exact .nm rfl rfl) (TriE.bin' (by exact .nm rfl rfl) TriE.int rfl) rfl) rfl) fun _ => AndB.cons (TriB.cmp' (a := .int b) (b := .int 31) (by exact .nm rfl rfl) TriE.int rfl) fun _ => AndB.nil))
  · exact envEq fun _ _ => by rfl
  refine TriSS.retU (TriS.forGoU (List.range 60) (fun (t : Nat) => D.int t) (laidGo hs first) (fun (t : Nat) => [("turn", .int t)]) (fun _ => [("orders", .list (allOrders.map dInts)), ("some", dInts (hs.filter big)), ("first", .int first), ("judge", .int judge)]) (fun _ => none) (fun _ => []) (fun _ => none) (fun _ => True) () (SubR.of rfl) rfl (TriI.eq (TriI.range1 (b := 60) k.ok (k.builtin rfl rfl rfl (by decide) rfl KeepOk.type) TriE.int (by decide) (by decide)) (rangeL_zero _)) rfl trivial (fun _ _ _ _ _ _ => trivial) (fun t _ => .name (.inl rfl)) fun s t ht _ => ?_) (laid_out hs first) fun h => ?_
  · have ho := orders_ok _ (orderAt_mem first t)
    have saysAt : ∀ b : Int, 0 ≤ b → FnE W (n + 13) (.ref 322) [.int (judge + t), .list ((orderAt first t).map fun x => .int (markAt b x))] (.bool (partedM (marksOf b (orderAt first t)))) := fun b hb => by
      have h := fn_says' (n := n + 1) k (judge + t) _ (marks_Small hb ho.1)
      rw [dInts_marks] at h
      exact h
    refine GoOk.cons (TriS.assignSwap2 (a := dInts (orderAt first t)) (b := .bool false) (TriE.tuple (TriL.cons (TriE.item' (i := .int ((first + (t : Int)).fmod 60)) (by exact .nm rfl rfl) (TriE.bin' (a := .int (first + (t : Int))) (b := .int 60) (TriE.bin' (a := .int first) (b := .int t) (by exact .nm rfl rfl) (by exact .nm rfl rfl) rfl) TriE.int rfl) (orderItem first t)) (TriL.cons TriE.boolC TriL.nil)) (by show 2 ≤ sizeLine; decide)) (.inl rfl) (.inl rfl) (fun _ _ => rfl) (by exact envEq fun _ _ => by rfl)) ?_
    have sf : goFold (sayStep (orderAt first t)) (hs.filter big) false = if partsAny hs (orderAt first t) then .brk true else .on false := sayFold _ _
    refine GoOk.cons (TriS.eq (TriS.forGoU (hs.filter big) D.int (sayStep (orderAt first t)) (fun b => [("blocks", .int b)]) (fun p => [("parted", .bool p), ("order", dInts (orderAt first t)), ("judge", .int judge), ("turn", .int (t : Int)), ("orders", .list (allOrders.map dInts)), ("some", dInts (hs.filter big)), ("first", .int first)]) (fun _ => none) (fun p => [("parted", .bool p), ("order", dInts (orderAt first t)), ("judge", .int judge), ("turn", .int (t : Int)), ("orders", .list (allOrders.map dInts)), ("some", dInts (hs.filter big)), ("first", .int first)]) (fun _ => none) (fun _ => True) false (SubR.of rfl) rfl (TriI.of (d := dInts (hs.filter big)) (by exact .nm rfl rfl) rfl) rfl trivial (fun _ _ _ _ _ _ => trivial) (fun b _ => .name (.inr rfl)) fun p b hb _ => ?_)
      (o' := .next [("parted", .bool (partsAny hs (orderAt first t))), ("order", dInts (orderAt first t)), ("judge", .int judge), ("turn", .int (t : Int)), ("orders", .list (allOrders.map dInts)), ("some", dInts (hs.filter big)), ("first", .int first)] none) (by rw [sf]; cases partsAny hs (orderAt first t) <;> rfl)) ?_
    · refine GoOk.cons (TriS.assign (d := .bool (partedM (marksOf b (orderAt first t)))) (TriE.callK k rfl rfl rfl rfl rfl (TriL.cons (TriE.bin' (a := .int judge) (b := .int t) (by exact .nm rfl rfl) (by exact .nm rfl rfl) rfl) (TriL.cons (TriN.toE (TriN.mapInts (orderAt first t) .int (fun x => .int (markAt b x)) (.ok rfl (by decide +kernel)) (.inl rfl) (TriI.of (d := dInts (orderAt first t)) (by exact .nm rfl rfl) rfl) rfl rfl (fun x hx => TriE.bin' (a := .int (b.fdiv (2 ^ x.toNat))) (b := .int 1) (TriE.bin' (by exact .nm rfl rfl) (by exact .nm rfl rfl) (rshiftI b x ((ho.2 x hx).1))) TriE.int rfl) (by rw [ho.1]; decide))) TriL.nil)) (saysAt b (h0 b (List.mem_filter.mp hb).1))) (.inl rfl) fun _ _ => rfl) ?_
      refine GoOk.cons (TriS.skipIf (TriB.eq (TriB.not (TriB.ofE (TriE.callB k rfl rfl rfl (by decide) rfl KeepOk.builtin (TriL.cons (by exact .nm rfl rfl) (TriL.cons (TriE.tyBool k rfl) TriL.nil)) fn_isi_bool) rfl)) rfl)) ?_
      refine GoOk.ite (TriB.name (b := partedM (marksOf b (orderAt first t))) (by exact .nm rfl rfl)) (fun hc => GoOk.eq (r' := .brk true) (TriSS.stop (TriS.brkSub ?_)) (if_pos hc)) fun hc => GoOk.eq (r' := .on false) (GoOk.nil ?_) (if_neg (by rw [hc]; exact Bool.false_ne_true))
      · exact SubR.cons (congrArg some (congrArg D.bool hc)) (SubR.of rfl)
      · exact SubR.cons (congrArg some (congrArg D.bool hc)) (SubR.of rfl)
    · refine GoOk.ite (TriB.not (TriB.name (b := partsAny hs (orderAt first t)) (by exact .nm rfl rfl))) (fun hc => GoOk.eq (r' := .ret (dInts (orderAt first t))) (TriSS.stop (TriS.ret (by exact .nm rfl rfl))) (if_neg (not_t hc))) fun hc => GoOk.eq (r' := .on ()) (GoOk.nil (SubR.of rfl)) (if_pos (not_f hc))
  · rw [h]
    exact TriSS.stop (TriS.ret (TriE.list TriL.nil (by show 0 ≤ sizeLine; decide)))
end
end Mine
end
section
open Builtin.Str (glued)
namespace Mine
noncomputable def named10 : List PySem.Str := ["OPTIMIZED", "NEWLOCALS", "VARARGS", "VARKEYWORDS", "NESTED", "GENERATOR", "NOFREE", "COROUTINE", "ITERABLE_COROUTINE", "ASYNC_GENERATOR"]
noncomputable def wordOf (f : Nat) : PySem.Str := if f < 10 then named10.getD f "" else baseText "0x" 16 (2 ^ f)
noncomputable def signOf (a : Int) : PySem.Str := if a < 0 then "-0x" else "0x"
noncomputable def topOf (a : Int) : PySem.Str := signOf a ++ PySem.Str.ofString (toString (if a < 0 then -a else a)) ++ Txt.mul "0" 8
noncomputable def tops (a : Int) : List PySem.Str := if a = 0 then [] else [topOf a]
noncomputable def wordsL (fs : List Nat) (a : Int) : List PySem.Str := if fs.map wordOf ++ tops a = [] then ["0x0"] else fs.map wordOf ++ tops a
noncomputable def wordsOf (fs : List Nat) (a : Int) : PySem.Str := glued ", " (wordsL fs a)
theorem word_low : ∀ f ∈ List.range 10, (wordOf f).length ≤ 24 ∧ wordOf f = named10.getD f "" := by decide +kernel
theorem word_high : ∀ f ∈ List.range 32, 10 ≤ f → (wordOf f).length ≤ 24 ∧ (fitsSsize ((f : Int).fmod 4) = true ∧ (Txt.charAt "1248" ((f : Int).fmod 4)).isSome = true) ∧ ((f : Int).fdiv 4 < 2 ^ 24 ∧ -(2 ^ 24) < (f : Int).fdiv 4 ∧ ("0" : PySem.Str).length * ((f : Int).fdiv 4).toNat ≤ 2 ^ 24)
    ∧ (("0x" : PySem.Str) ++ Txt.item "1248" ((f : Int).fmod 4)).length ≤ sizeLine ∧ (("0x" : PySem.Str) ++ Txt.item "1248" ((f : Int).fmod 4) ++ Txt.mul "0" ((f : Int).fdiv 4)).length ≤ sizeLine ∧ ("0x" : PySem.Str) ++ Txt.item "1248" ((f : Int).fmod 4) ++ Txt.mul "0" ((f : Int).fdiv 4) = wordOf f := by decide +kernel
theorem top_case : ∀ a ∈ [(-2 : Int), -1, 1, 2], (topOf a).length ≤ 24 ∧ (if a < 0 then -a else a).natAbs.log2 < 1920 ∧ (signOf a ++ PySem.Str.ofString (toString (if a < 0 then -a else a))).length ≤ sizeLine ∧ (signOf a ++ PySem.Str.ofString (toString (if a < 0 then -a else a)) ++ Txt.mul "0" 8).length ≤ sizeLine := by decide +kernel
theorem join_small (sep : PySem.Str) (c : Nat) (xs : List PySem.Str) (h : ∀ x ∈ xs, x.length ≤ c) : joinSize sep xs ≤ xs.length * (c + sep.length) ∧ (glued sep xs).length ≤ xs.length * (c + sep.length) := by
  have h1 : ∀ (xs : List PySem.Str) (acc : Nat), (∀ x ∈ xs, x.length ≤ c) → xs.foldl (fun a p => a + p.length + sep.length) acc ≤ acc + xs.length * (c + sep.length) := fun xs => by
    induction xs with
    | nil => intro acc _; simp
    | cons x xs ih =>
      intro acc h
      have e1 := h x List.mem_cons_self
      have e2 := ih (acc + x.length + sep.length) fun y hy => h y (List.mem_cons_of_mem _ hy)
      rw [List.foldl_cons, List.length_cons, Nat.succ_mul]
      refine Nat.le_trans e2 ?_
      rw [Nat.add_assoc acc, Nat.add_assoc acc, Nat.add_comm (x.length + sep.length)]
      exact Nat.add_le_add_left (Nat.add_le_add_left (Nat.add_le_add_right e1 _) _) _
  have h2 : ∀ xs : List PySem.Str, (∀ x ∈ xs, x.length ≤ c) → (xs.map (·.length)).sum ≤ xs.length * c := fun xs => by
    induction xs with
    | nil => intro _; simp
    | cons x xs ih =>
      intro h
      have e1 := h x List.mem_cons_self
      have e2 := ih fun y hy => h y (List.mem_cons_of_mem _ hy)
      rw [List.map_cons, List.sum_cons, List.length_cons, Nat.succ_mul, Nat.add_comm]
      exact Nat.add_le_add e2 e1
  refine ⟨?_, ?_⟩
  · unfold joinSize
    rw [List.foldl_toArray]
    exact Nat.le_trans (h1 xs 0 h) (Nat.le_of_eq (Nat.zero_add _))
  · rw [PySem.size_glued, Nat.mul_add]
    exact Nat.add_le_add (h2 xs h) (Nat.mul_le_mul_right _ (Nat.sub_le _ _))
theorem binStr {x y : PySem.Str} (h : (x ++ y).length ≤ sizeLine) : binD .Add (.str x) (.str y) = some (.str (x ++ y)) := if_pos ⟨rfl, h⟩
theorem mulStr {x : PySem.Str} {k : Int} (h : k < 2 ^ 24 ∧ -(2 ^ 24) < k ∧ x.length * k.toNat ≤ 2 ^ 24) : binD .Mult (.str x) (.int k) = some (.str (Txt.mul x k)) := if_pos ⟨rfl, h⟩
theorem itemStr {x : PySem.Str} {k : Int} (h : fitsSsize k = true ∧ (Txt.charAt x k).isSome = true) : itemD (.str x) (.int k) = some (.str (Txt.item x k)) := if_pos h
theorem binLists {xs ys : List D} (h : xs.length + ys.length ≤ sizeLine) : binD .Add (.list xs) (.list ys) = some (.list (xs ++ ys)) := if_pos ⟨rfl, h⟩
section
variable {W : Wo} {n : Nat} {ns : Names} {ρ : Rho} {μ : Mu}
theorem wordOf_len (f : Nat) (h : f < 32) : (wordOf f).length ≤ 24 := by
  by_cases h10 : f < 10
  · exact (word_low f (List.mem_range.mpr h10)).1
  · exact (word_high f (List.mem_range.mpr h) (by lia)).1
theorem wordsL_len (fs : List Nat) (a : Int) (hf : ∀ f ∈ fs, f < 32) (ha : a ∈ [(-2 : Int), -1, 0, 1, 2]) : ∀ x ∈ wordsL fs a, x.length ≤ 24 := by
  intro x hx
  unfold wordsL at hx
  split at hx
  · rw [List.mem_singleton] at hx; subst hx; decide +kernel
  · rcases List.mem_append.mp hx with hx | hx
    · obtain ⟨f, hm, rfl⟩ := List.mem_map.mp hx
      exact wordOf_len f (hf f hm)
    · unfold tops at hx
      split at hx
      · cases hx
      · rename_i h0
        rw [List.mem_singleton] at hx; subst hx
        refine (top_case a ?_).1
        simp only [List.mem_cons, List.not_mem_nil, or_false] at ha ⊢
        rcases ha with h | h | h | h | h <;> simp_all
set_option maxHeartbeats 1000000 in
theorem fn_words (k : Kit W) (fs : List Nat) (a : Int) (hl : fs.length ≤ 5) (hf : ∀ f ∈ fs, f < 32) (ha : a ∈ [(-2 : Int), -1, 0, 1, 2]) : FnE W (n + 2) (.ref 347) [.list (fs.map fun (f : Nat) => .int f), .int a] (.str (wordsOf fs a)) := by
  have hsl : sizeLine = 2 ^ 24 := rfl
  refine FnE.ofK k (xs := ["flags", "above"]) rfl rfl ⟨_, _, _, _, rfl, rfl, rfl, rfl⟩ rfl ?_ rfl ⟨rfl, rfl, rfl, rfl, rfl, rfl⟩ (by decide +kernel) ?_
  · exact len2 (fun _ _ => rfl)
  refine TriSS.cons (ρ' := [("named", .tup (named10.map .str)), ("flags", .list (fs.map fun (f : Nat) => .int f)), ("above", .int a)]) (μ' := none) ?_ ?_
  · refine TriS.assign (d := .tup (named10.map .str)) ?_ ?_ ?_
    · refine TriE.tuple ?_ ?_
      · show TriL _ _ _ _ _ [D.str "OPTIMIZED", .str "NEWLOCALS", .str "VARARGS", .str "VARKEYWORDS", .str "NESTED", .str "GENERATOR", .str "NOFREE", .str "COROUTINE", .str "ITERABLE_COROUTINE", .str "ASYNC_GENERATOR"]
        refine TriL.cons TriE.str ?_
        refine TriL.cons TriE.str ?_
        refine TriL.cons TriE.str ?_
        refine TriL.cons TriE.str ?_
        refine TriL.cons TriE.str ?_
        refine TriL.cons TriE.str ?_
        refine TriL.cons TriE.str ?_
        refine TriL.cons TriE.str ?_
        refine TriL.cons TriE.str ?_
        refine TriL.cons TriE.str ?_
        exact TriL.nil
      · rw [List.length_map]; decide
    · exact .inr rfl
    · exact fun _ _ => rfl
  refine TriSS.cons (TriS.assignComp (T := ["flag"]) (outs := (fs.map wordOf).map .str) ?_ rfl (.ok rfl (by decide +kernel)) (TriI.of (d := .list (fs.map fun (f : Nat) => .int f)) (by exact .nm rfl rfl) rfl) ?_ (by rw [List.length_map, List.length_map]; lia)) ?_
  · exact envEq fun _ _ => by rfl
  · refine CompOk.eq (CompOk.mk fs (fun (f : Nat) => D.int f) (fun _ => true) (fun f => [.str (wordOf f)]) (fun f => [("flag", .int (f : Int))]) rfl (fun o _ => .name (.inl rfl)) (fun o _ q hq => by rw [List.mem_singleton] at hq; subst hq; simp) (fun x hx => .inl ?_) (fun o _ => Tests.nil) fun f hm _ => ⟨_, ?_, rfl⟩) ?_
    · rw [List.mem_singleton] at hx; subst hx; rfl
    · have h32 := hf f hm
      refine TriE.ite (TriB.cmp' (a := .int f) (b := .int 10) (by exact .nm rfl rfl) TriE.int rfl) (fun h => ?_) (fun h => ?_)
      · have h10 : f < 10 := by have := of_decide_eq_true h; lia
        refine TriE.item' (o := .tup (named10.map .str)) (i := .int f) (by exact .nm rfl rfl) (by exact .nm rfl rfl) (itemD_tup (by lia) (by show 10 ≤ sizeLine; decide) ?_)
        rw [Int.toNat_natCast, List.getElem?_map, (word_low f (List.mem_range.mpr h10)).2, List.getD_eq_getElem?_getD, List.getElem?_eq_getElem (by show f < 10; exact h10)]
        rfl
      · have h10 : ¬ f < 10 := by have := of_decide_eq_false h; lia
        obtain ⟨_, w1, w2, w3, w4, w5⟩ := word_high f (List.mem_range.mpr h32) (by lia)
        refine TriE.eq (TriE.bin' (TriE.bin' TriE.str (TriE.item' TriE.str (TriE.bin' (a := .int f) (b := .int 4) (by exact .nm rfl rfl) TriE.int rfl) (itemStr w1)) (binStr w3)) (TriE.bin' TriE.str (TriE.bin' (a := .int f) (b := .int 4) (by exact .nm rfl rfl) TriE.int rfl) (mulStr w2)) (binStr w4)) (by rw [w5])
    · rw [List.filter_eq_self.mpr (fun _ _ => rfl), ← List.map_eq_flatMap, List.map_map]; rfl
  refine TriSS.cons (TriS.assign (d := .list ((tops a).map .str)) (TriE.ite (TriB.ofE (d := .int a) (by exact .nm rfl rfl) rfl) (fun h => ?_) (fun h => ?_)) (.inl rfl) fun _ _ => rfl) ?_
  · have h0 : a ≠ 0 := by simpa using h
    unfold tops; rw [if_neg h0]
    have ha' : a ∈ [(-2 : Int), -1, 1, 2] := by
      simp only [List.mem_cons, List.not_mem_nil, or_false] at ha ⊢
      lia
    obtain ⟨_, t1, t2, t3⟩ := top_case a ha'
    refine TriE.list (TriL.cons (TriE.bin' (a := .str (signOf a ++ PySem.Str.ofString (toString (if a < 0 then -a else a)))) (b := .str (Txt.mul "0" 8)) (TriE.bin' (a := .str (signOf a)) (b := .str (PySem.Str.ofString (toString (if a < 0 then -a else a)))) (TriE.ite (TriB.cmp' (a := .int a) (b := .int 0) (by exact .nm rfl rfl) TriE.int rfl) (fun h => ?_) (fun h => ?_)) (TriE.callB k rfl rfl rfl (by decide) rfl KeepOk.type (TriL.cons (TriE.callB k rfl rfl rfl (by decide) rfl KeepOk.builtin (TriL.cons (by exact .nm rfl rfl) TriL.nil) fn_abs) TriL.nil) (fn_str t1)) (binStr t2)) (TriE.bin' TriE.str TriE.int (mulStr (by decide))) (binStr t3)) TriL.nil) (by show 1 ≤ sizeLine; decide)
    · have := of_decide_eq_true h
      unfold signOf; rw [if_pos this]; exact TriE.str
    · have := of_decide_eq_false h
      unfold signOf; rw [if_neg this]; exact TriE.str
  · have h0 : a = 0 := by simpa using h
    unfold tops; rw [if_pos h0]
    exact TriE.list TriL.nil (by show 0 ≤ sizeLine; decide)
  obtain ⟨j1, j2⟩ := join_small ", " 24 (wordsL fs a) (wordsL_len fs a hf ha)
  have hw : (wordsL fs a).length ≤ 6 := by
    unfold wordsL
    split
    · decide
    · rw [List.length_append, List.length_map]; unfold tops; split <;> simp <;> lia
  have hb : (wordsL fs a).length * (24 + (", " : PySem.Str).length) ≤ sizeLine := Nat.le_trans (Nat.mul_le_mul_right _ hw) (by decide)
  refine TriSS.stop (TriS.ret (TriE.meth' (od := .str ", ") (ds := [.list ((wordsL fs a).map .str)]) TriE.str (TriL.cons ?_ TriL.nil) getm_join (fn_join (Nat.le_trans j1 hb) (Nat.le_trans j2 hb))))
  have hadd : (fs.map wordOf ++ tops a).map D.str = (fs.map wordOf).map D.str ++ (tops a).map D.str := List.map_append
  have hlen : ((fs.map wordOf ++ tops a).map D.str).length ≤ sizeLine := by
    rw [List.length_map, List.length_append, List.length_map]; unfold tops; split <;> simp <;> lia
  have hne : truD (.list ((fs.map wordOf ++ tops a).map .str)) = some (!decide (fs.map wordOf ++ tops a = [])) := by
    show (if ((fs.map wordOf ++ tops a).map D.str).length ≤ sizeLine then some (!((fs.map wordOf ++ tops a).map D.str).isEmpty) else none) = _
    rw [if_pos hlen]
    cases (fs.map wordOf ++ tops a) with
    | nil => rfl
    | cons x xs => simp
  refine TriE.eq (TriE.or2 (a := .list ((fs.map wordOf ++ tops a).map .str)) (b := .list [.str "0x0"]) (TriE.eq (TriE.bin' (by exact .nm rfl rfl) (by exact .nm rfl rfl) (binLists ?_)) (by rw [hadd])) (truD_sound hne) fun _ => TriE.list (TriL.cons TriE.str TriL.nil) (by show 1 ≤ sizeLine; decide)) ?_
  · rw [List.length_map, List.length_map, List.length_map]; unfold tops; split <;> simp <;> lia
  · unfold wordsL
    by_cases hz : fs.map wordOf ++ tops a = []
    · rw [if_pos hz, decide_eq_true hz]; rfl
    · rw [if_neg hz, decide_eq_false hz]; rfl
end
end Mine
end
section
namespace Mine
noncomputable def flagRun : List Nat → List Nat × Int → Bool × List Nat × Int
  | [], s => (false, s)
  | i :: is, s => if Builtin.bitAnd s.2 (2 ^ i) != 0 then (if Builtin.bitXor s.2 (2 ^ i) != 0 then flagRun is (s.1 ++ [i], Builtin.bitXor s.2 (2 ^ i)) else (true, s.1 ++ [i], Builtin.bitXor s.2 (2 ^ i))) else flagRun is s
noncomputable def subs5 : List (List Nat) := [[], [0]].flatMap fun a => [[], [1]].flatMap fun b => [[], [2]].flatMap fun c => [[], [3]].flatMap fun d => [[], [4]].map fun e => a ++ b ++ c ++ d ++ e
noncomputable def flagsVal (fs : List Nat) (a : Int) : Int := (fs.map fun f => (2 : Int) ^ f).sum + a * 2 ^ 32
noncomputable def flagGood (base : Nat) (a : Int) (sub : List Nat) : Bool := flagRun (List.range 32) ([], flagsVal (sub.map (base + ·)) a) == (decide (a = 0 ∧ sub ≠ []), sub.map (base + ·), a * 2 ^ 32)
noncomputable def rising : Nat → List Nat → Bool
  | _, [] => true
  | i, f :: fs => decide (i ≤ f) && rising (f + 1) fs
theorem rising_le {i j : Nat} (h : i ≤ j) : ∀ {fs : List Nat}, rising j fs = true → rising i fs = true
  | [], _ => rfl
  | f :: fs, q => by
    obtain ⟨q1, q2⟩ := Bool.and_eq_true_iff.mp q
    exact Bool.and_eq_true_iff.mpr ⟨decide_eq_true (Nat.le_trans h (of_decide_eq_true q1)), q2⟩
theorem pow_add2 (i d : Nat) : (2 : Int) ^ (i + d) = 2 ^ i * 2 ^ d := Int.pow_add 2 i d
theorem rising_sum {i : Nat} : ∀ {fs : List Nat}, rising i fs = true → ∃ m : Int, (fs.map fun f => (2 : Int) ^ f).sum = 2 ^ i * m
  | [], _ => ⟨0, (Int.mul_zero _).symm⟩
  | f :: fs, q => by
    obtain ⟨q1, q2⟩ := Bool.and_eq_true_iff.mp q
    have q1 := of_decide_eq_true q1
    obtain ⟨m, hm⟩ := rising_sum (rising_le (Nat.le_succ_of_le q1) q2)
    obtain ⟨d, rfl⟩ := Nat.exists_eq_add_of_le q1
    exact ⟨2 ^ d + m, by rw [List.map_cons, List.sum_cons, hm, pow_add2, Int.mul_add]⟩
theorem two_pos (i : Nat) : (0 : Int) < 2 ^ i := Int.pow_pos (by decide)
theorem pow_le2 {i f : Nat} (h : i ≤ f) : (2 : Int) ^ i ≤ 2 ^ f := by
  obtain ⟨d, rfl⟩ := Nat.exists_eq_add_of_le h
  have := Int.mul_le_mul_of_nonneg_left (two_pos d) (Int.le_of_lt (two_pos i))
  rw [pow_add2]
  exact Int.le_trans (Int.le_of_eq (Int.mul_one _).symm) this
theorem bit_no (i : Nat) (m : Int) : Builtin.bitAnd (2 ^ (i + 1) * m) (2 ^ i) = 0 := by
  rw [kbt_bit, Int.pow_succ, Int.mul_assoc, Int.mul_ediv_cancel_left _ (Int.ne_of_gt (two_pos i)), Int.mul_emod_right, Int.zero_mul]
theorem bit_yes (i : Nat) (m : Int) : Builtin.bitAnd (2 ^ i + 2 ^ (i + 1) * m) (2 ^ i) = 2 ^ i := by
  have e : (2 : Int) ^ i + 2 ^ (i + 1) * m = 2 ^ i * (1 + 2 * m) := by rw [Int.pow_succ, Int.mul_add, Int.mul_one, Int.mul_assoc]
  rw [kbt_bit, e, Int.mul_ediv_cancel_left _ (Int.ne_of_gt (two_pos i)), Int.add_mul_emod_self_left]
  exact Int.one_mul _
theorem sum_nonneg : ∀ fs : List Nat, 0 ≤ (fs.map fun f => (2 : Int) ^ f).sum
  | [] => Int.le_refl 0
  | f :: fs => Int.add_nonneg (Int.le_of_lt (two_pos f)) (sum_nonneg fs)
theorem sum_lt {n : Nat} : ∀ {i : Nat} {fs : List Nat}, rising i fs = true → (∀ f ∈ fs, f < n) → i ≤ n → (fs.map fun f => (2 : Int) ^ f).sum + 2 ^ i ≤ 2 ^ n
  | i, [], _, _, hi => by
    show (0 : Int) + 2 ^ i ≤ 2 ^ n
    rw [Int.zero_add]
    exact pow_le2 hi
  | i, f :: fs, q, h, hi => by
    obtain ⟨q1, q2⟩ := Bool.and_eq_true_iff.mp q
    have q1 := of_decide_eq_true q1
    have ih := sum_lt q2 (fun g hg => h g (List.mem_cons_of_mem _ hg)) (h f List.mem_cons_self)
    have hp := pow_le2 q1
    rw [List.map_cons, List.sum_cons]
    rw [Int.pow_succ] at ih
    lia
theorem left_zero {n i : Nat} {fs : List Nat} {a : Int} (q : rising i fs = true) (h : ∀ f ∈ fs, f < n) (hi : i ≤ n) (e : (fs.map fun f => (2 : Int) ^ f).sum + a * 2 ^ n = 0) : a = 0 ∧ fs = [] := by
  have h1 := sum_nonneg fs
  have h2 := sum_lt q h hi
  have h3 := two_pos i
  have h4 := two_pos n
  have ha : a = 0 := by
    rcases Int.lt_trichotomy a 0 with ha | ha | ha
    · have : a * 2 ^ n ≤ (-1) * 2 ^ n := Int.mul_le_mul_of_nonneg_right (by lia) (Int.le_of_lt h4)
      lia
    · exact ha
    · have : 1 * 2 ^ n ≤ a * 2 ^ n := Int.mul_le_mul_of_nonneg_right ha (Int.le_of_lt h4)
      lia
  refine ⟨ha, ?_⟩
  cases fs with
  | nil => rfl
  | cons f fs =>
    rw [ha, Int.zero_mul, Int.add_zero, List.map_cons, List.sum_cons] at e
    have := sum_nonneg fs
    have := two_pos f
    lia
theorem flag_run (n : Nat) (a : Int) : ∀ (k i : Nat) (fs acc : List Nat), i + k = n → rising i fs = true → (∀ f ∈ fs, f < n) → flagRun (List.range' i k 1) (acc, (fs.map fun f => (2 : Int) ^ f).sum + a * 2 ^ n) = (decide (a = 0 ∧ fs ≠ []), acc ++ fs, a * 2 ^ n)
  | 0, i, fs, acc, hn, q, h => by
    cases fs with
    | nil => rw [List.append_nil]; show (false, acc, (0 : Int) + a * 2 ^ n) = _; rw [Int.zero_add, decide_eq_false (fun h => h.2 rfl)]
    | cons f fs =>
      have h1 := of_decide_eq_true (Bool.and_eq_true_iff.mp q).1
      exact absurd (h f List.mem_cons_self) (Nat.not_lt.mpr (by rw [← hn]; exact h1))
  | k + 1, i, fs, acc, hn, q, h => by
    have hn' : i + 1 + k = n := by rw [← hn, Nat.add_assoc, Nat.add_comm 1 k]
    have hin : i + 1 ≤ n := by rw [← hn']; exact Nat.le_add_right _ _
    obtain ⟨d, hd⟩ := Nat.exists_eq_add_of_le hin
    have hpn : a * 2 ^ n = 2 ^ (i + 1) * (a * 2 ^ d) := by rw [hd, pow_add2, ← Int.mul_assoc, ← Int.mul_assoc, Int.mul_comm a]
    have go : ∀ (V : Int) (acc fs : List Nat), rising (i + 1) fs = true → (∀ f ∈ fs, f < n) → V = (fs.map fun f => (2 : Int) ^ f).sum + a * 2 ^ n → flagRun (List.range' (i + 1) k 1) (acc, V) = (decide (a = 0 ∧ fs ≠ []), acc ++ fs, a * 2 ^ n) := fun V acc fs q h e => by rw [e]; exact flag_run n a k (i + 1) fs acc hn' q h
    have skip : rising (i + 1) fs = true → flagRun (List.range' i (k + 1) 1) (acc, (fs.map fun f => (2 : Int) ^ f).sum + a * 2 ^ n) = (decide (a = 0 ∧ fs ≠ []), acc ++ fs, a * 2 ^ n) := fun q' => by
      obtain ⟨m, hm⟩ := rising_sum q'
      have hb : Builtin.bitAnd ((fs.map fun f => (2 : Int) ^ f).sum + a * 2 ^ n) (2 ^ i) = 0 := by rw [hm, hpn, ← Int.mul_add]; exact bit_no i _
      rw [List.range'_succ, flagRun]
      rw [if_neg (by rw [hb]; decide)]
      exact go _ acc fs q' h rfl
    cases fs with
    | nil => exact skip rfl
    | cons f fs =>
      obtain ⟨q1, q2⟩ := Bool.and_eq_true_iff.mp q
      have q1 := of_decide_eq_true q1
      rcases Nat.lt_or_eq_of_le q1 with hlt | heq
      · exact skip (Bool.and_eq_true_iff.mpr ⟨decide_eq_true hlt, q2⟩)
      · rw [← heq] at q2 ⊢
        have h' : ∀ f ∈ fs, f < n := fun f hf => h f (List.mem_cons_of_mem _ hf)
        obtain ⟨m, hm⟩ := rising_sum q2
        have hs : ((i :: fs).map fun f => (2 : Int) ^ f).sum + a * 2 ^ n = 2 ^ i + ((fs.map fun f => (2 : Int) ^ f).sum + a * 2 ^ n) := by rw [List.map_cons, List.sum_cons, Int.add_assoc]
        rw [hs]
        have hb : Builtin.bitAnd (2 ^ i + ((fs.map fun f => (2 : Int) ^ f).sum + a * 2 ^ n)) (2 ^ i) = 2 ^ i := by rw [hm, hpn, ← Int.mul_add]; exact bit_yes i _
        have hx : Builtin.bitXor (2 ^ i + ((fs.map fun f => (2 : Int) ^ f).sum + a * 2 ^ n)) (2 ^ i) = (fs.map fun f => (2 : Int) ^ f).sum + a * 2 ^ n := by
          rw [bitXor_and, hb]; lia
        have hne : a = 0 ∧ i :: fs ≠ [] ↔ a = 0 := ⟨fun h => h.1, fun h => ⟨h, List.cons_ne_nil _ _⟩⟩
        rw [List.range'_succ, flagRun, hb, hx, if_pos (by rw [bne_iff_ne]; exact Int.ne_of_gt (two_pos i)), decide_eq_decide.mpr hne]
        by_cases hz : (fs.map fun f => (2 : Int) ^ f).sum + a * 2 ^ n = 0
        · obtain ⟨ha, hf⟩ := left_zero q2 h' hin hz
          rw [decide_eq_true ha, hz, if_neg (by decide), hf, ha, Int.zero_mul]
        · rw [if_pos (bne_iff_ne.mpr hz), go _ (acc ++ [i]) fs q2 h' rfl, List.append_assoc]
          have : (a = 0 ∧ fs ≠ []) ↔ a = 0 := ⟨fun h => h.1, fun h => ⟨h, fun e => hz (by rw [h, e, Int.zero_mul]; rfl)⟩⟩
          rw [decide_eq_decide.mpr this]
          rfl
theorem rising_map (b : Nat) : ∀ (i : Nat) (l : List Nat), rising i l = true → rising (b + i) (l.map (b + ·)) = true
  | _, [], _ => rfl
  | i, f :: fs, q => by
    obtain ⟨q1, q2⟩ := Bool.and_eq_true_iff.mp q
    exact Bool.and_eq_true_iff.mpr ⟨decide_eq_true (Nat.add_le_add_left (of_decide_eq_true q1) b), rising_map b (f + 1) fs q2⟩
theorem subs_rising : ∀ sub ∈ subs5, rising 0 sub = true ∧ ∀ f ∈ sub, f < 5 := by decide +kernel
theorem flags_1 (base : Nat) (a : Int) (sub : List Nat) (h1 : rising 0 sub = true) (hn : ∀ f ∈ sub.map (base + ·), f < 32) : flagRun (List.range' 0 32 1) ([], ((sub.map (base + ·)).map fun f => (2 : Int) ^ f).sum + a * 2 ^ 32) = (decide (a = 0 ∧ sub.map (base + ·) ≠ []), [] ++ sub.map (base + ·), a * 2 ^ 32) :=
  flag_run 32 a 32 0 (sub.map (base + ·)) [] (Nat.zero_add _) (rising_le (Nat.zero_le _) (rising_map base 0 sub h1)) hn
theorem flags_2 (base : Nat) (a : Int) (sub : List Nat) (h : flagRun (List.range' 0 32 1) ([], ((sub.map (base + ·)).map fun f => (2 : Int) ^ f).sum + a * 2 ^ 32) = (decide (a = 0 ∧ sub.map (base + ·) ≠ []), [] ++ sub.map (base + ·), a * 2 ^ 32)) : flagRun (List.range 32) ([], flagsVal (sub.map (base + ·)) a) = (decide (a = 0 ∧ sub.map (base + ·) ≠ []), [] ++ sub.map (base + ·), a * 2 ^ 32) := by
  rw [← List.range_eq_range'] at h
  exact h
theorem flags_3 (base : Nat) (a : Int) (sub : List Nat) : ((decide (a = 0 ∧ sub.map (base + ·) ≠ []), [] ++ sub.map (base + ·), a * 2 ^ 32) : Bool × List Nat × Int) = (decide (a = 0 ∧ sub ≠ []), sub.map (base + ·), a * 2 ^ 32) := by
  have e : decide (a = 0 ∧ sub.map (base + ·) ≠ []) = decide (a = 0 ∧ sub ≠ []) := decide_eq_decide.mpr (and_congr Iff.rfl (not_congr List.map_eq_nil_iff))
  rw [e, List.nil_append]
theorem flags_run : ∀ base ∈ List.range 28, ∀ a ∈ [(-2 : Int), -1, 0, 1, 2], ∀ sub ∈ subs5, flagGood base a sub = true := fun base hb a _ sub hs =>
  beq_iff_eq.mpr ((flags_2 base a sub (flags_1 base a sub (subs_rising sub hs).1 fun f hf => by
    obtain ⟨g, hg, rfl⟩ := List.mem_map.mp hf
    exact Nat.add_lt_add_of_le_of_lt (Nat.le_of_lt_succ (List.mem_range.mp hb)) ((subs_rising sub hs).2 g hg))).trans (flags_3 base a sub))
end Mine
end
section
namespace Mine
section
variable {W : Wo} {n : Nat} {ns : Names} {ρ : Rho} {μ : Mu}
theorem TriE.methV {x name : PySem.Str} {p apos pos : Pos} {f v₀ : Value} {es : List Expr} {ds : List D} {d : D} (O : W.Ok) (hk0 : ns.lookup x = some .globalImplicit) (hv : W.mg x = some v₀ ∨ (W.mg x = none ∧ W.mb x = some v₀)) (hp : (x == ("__debug__" : PySem.Str)) = false)
    (hl : TriL W (n + 1) ns ρ es ds) (hg : ∀ A g s (E : Value → Shared → Prop) pl (Q : Value × List Value → Shared → Prop), Good W.hs g s → Q (f, [v₀]) s → wpAny W.M A (getMethod v₀ name pl) Q E s) (hk : KeepOk W f)
    (hf : ∀ A g s (E : Value → Shared → Prop) vs, Room (n + 1) A → Good W.hs g s → RepL g vs ds → wpAny W.M A (PySem.call f (v₀ :: vs)) (Res g s d) E s)
    (hs : ∀ env, (starEach es env).any (·.1) = false) (hz : es.length < 29) (hb : ∀ env, attributeBase (.Name x p) name env (eval (.Name x p) env) = eval (.Name x p) env) (hline : (apos.endLine == pos.line) = true) :
    TriE W (n + 1) ns ρ (.Call (.Attribute (.Name x p) name apos) es [] pos) d := fun A env g s E c => by
  rw [arm_eval_Call, hb]
  have k : ∀ b o, W.hs.get? b = some o → s.heap.get? b = some o := fun b o q => c.good.sub _ _ (c.good.stat _ _ q)
  have hnm : wpAny W.M A (eval (.Name x p) env) (fun u s₁ => u = v₀ ∧ s₁ = s) E s := by
    refine PySem.Calls.Name_function_global c.en.kind ((c.en.kindOf x).trans hk0) ?_ hp
    rcases hv with hv | ⟨hm, hv⟩
    · exact PySem.Calls.loadGlobal_global (mg := W.mg) (by rw [c.en.globals]; exact O.g.keeps k) hv ⟨rfl, rfl⟩
    · exact PySem.Calls.loadGlobal_builtin (mg := W.mg) (mb := W.mb) (by rw [c.en.globals]; exact O.g.keeps k) hm (by rw [c.en.builtins]; exact O.b.keeps k) hv ⟨rfl, rfl⟩
  refine wpAny_bind (wp_mono' hnm fun u s₁ ⟨e1, e2⟩ => ?_)
  rw [e1, e2]
  refine wpAny_bind (wpAny_standAt ?_)
  have hform : methodCallForm (es.length + ([] : List Keyword).length) (backTo pos (starEach es env)) (backToKw pos (keywordEach [] env)) = true := by
    unfold methodCallForm
    have h1 : (backTo pos (starEach es env)).all (fun x => !x.1) = true := by
      have := hs env
      rw [← backTo_any (pos := pos)] at this
      rw [List.all_eq_not_any_not, Bool.not_eq_true']
      simpa using this
    simp only [h1, Bool.true_and, keywordEach, backToKw, List.map_nil, List.all_nil, List.isEmpty_nil, if_true, List.length_nil, Nat.add_zero, decide_eq_true_eq]
    lia
  have hpos : methodCallPos true (.Name x p) env apos pos = pure pos := by unfold methodCallPos; simp [hline]
  unfold methodCall
  rw [hform]
  refine wpAny_bind (wpAny_holding (hg A g s E _ _ c.good ?_))
  refine wpAny_bind (wpAny_of_eq hpos ?_)
  refine callWith_of (P := fun h => ∀ b o, W.hs.get? b = some o → h.get? b = some o) (by rw [backTo_any, hs]; rfl) hk ?_
  refine wp_mono' (evalArgsR c hl (hs env)) fun a s₁ ⟨e, g₁, st₁, r₁⟩ => ?_
  have G := (c.step st₁).good
  refine ⟨fun b o q => G.sub _ _ (G.stat _ _ q), ?_⟩
  rw [e]
  exact wp_mono' (hf A g₁ s₁ E _ c.room G r₁) fun v s₂ ⟨g₂, st₂, r₂⟩ => ⟨g₂, st₁.trans st₂, r₂⟩
end
end Mine
end
section
namespace Mine
section
variable {W : Wo} {n : Nat} {ns : Names} {ρ : Rho} {μ : Mu}
theorem strTag_some {v : Value} {x : PySem.Str} (h : (match v with | .str y _ => some y | _ => none) = some x) : ∃ t, v = .str x t := by
  cases v with
  | str y t => cases h; exact ⟨_, rfl⟩
  | _ => cases h
theorem opt_tag {o : Option Value} {x : PySem.Str} (h : o.map (fun v => match v with | .str y _ => some y | _ => none) = some (some x)) : ∃ t, o = some (.str x t) := by
  cases o with
  | none => cases h
  | some v => exact let ⟨t, e⟩ := strTag_some (Option.some.inj h); ⟨t, e ▸ rfl⟩
theorem flags_tab (f : Int → Option Value) (key : (List.range 32).map (fun i => (f (2 ^ i)).map (fun v => match v with | .str y _ => some y | _ => none)) = (List.range 32).map (fun i => if i < 10 then some (some (wordOf i)) else none)) : ∀ i : Nat, i < 32 → if i < 10 then ∃ t, f (2 ^ i) = some (.str (wordOf i) t) else f (2 ^ i) = none := fun i hi => by
  have h := List.map_inj_left.mp key i (List.mem_range.mpr hi)
  by_cases h10 : i < 10
  · rw [if_pos h10] at h ⊢; exact opt_tag h
  · rw [if_neg h10] at h ⊢; exact Option.map_eq_none_iff.mp h
theorem flags_map (k : Kit W) {h : Heap} (keep : ∀ b o, W.hs.get? b = some o → h.get? b = some o) : ∃ f : Int → Option Value, h.MapOf (intKind W.prog W.w) 82 f ∧ ∀ i : Nat, i < 32 → if i < 10 then ∃ t, f (2 ^ i) = some (.str (wordOf i) t) else f (2 ^ i) = none := by
  refine ⟨_, ⟨_, _, _, keep _ _ (k.K _ _ rfl), ⟨rfl, rfl, rfl⟩, rfl, ?_, fun _ => rfl⟩, flags_tab _ rfl⟩
  intro e he
  replace he := Array.mem_toList_iff.mpr he
  revert e
  exact List.forall_mem_cons.mpr ⟨⟨1, rfl, rfl⟩, List.forall_mem_cons.mpr ⟨⟨2, rfl, rfl⟩, List.forall_mem_cons.mpr ⟨⟨4, rfl, rfl⟩, List.forall_mem_cons.mpr ⟨⟨8, rfl, rfl⟩, List.forall_mem_cons.mpr ⟨⟨16, rfl, rfl⟩, List.forall_mem_cons.mpr ⟨⟨32, rfl, rfl⟩, List.forall_mem_cons.mpr ⟨⟨64, rfl, rfl⟩, List.forall_mem_cons.mpr ⟨⟨128, rfl, rfl⟩, List.forall_mem_cons.mpr ⟨⟨256, rfl, rfl⟩, List.forall_mem_cons.mpr ⟨⟨512, rfl, rfl⟩, fun _ h => nomatch h⟩⟩⟩⟩⟩⟩⟩⟩⟩⟩
end
end Mine
end
section
open Builtin.Str (glued)
namespace Mine
noncomputable def flagGo (s : List Nat × Int) (i : Nat) : Go (List Nat × Int) := if Builtin.bitAnd s.2 (2 ^ i) != 0 then (if Builtin.bitXor s.2 (2 ^ i) != 0 then .on (s.1 ++ [i], Builtin.bitXor s.2 (2 ^ i)) else .brk (s.1 ++ [i], Builtin.bitXor s.2 (2 ^ i))) else .on s
theorem flagGo_run : ∀ (xs : List Nat) (s : List Nat × Int), goFold flagGo xs s = if (flagRun xs s).1 then .brk (flagRun xs s).2 else .on (flagRun xs s).2
  | [], s => rfl
  | i :: xs, s => by
    unfold goFold flagRun flagGo
    by_cases h : (Builtin.bitAnd s.2 (2 ^ i) != 0) = true
    · rw [if_pos h, if_pos h]
      by_cases h2 : (Builtin.bitXor s.2 (2 ^ i) != 0) = true
      · rw [if_pos h2, if_pos h2]; exact flagGo_run xs _
      · rw [if_neg h2, if_neg h2]; rfl
    · rw [if_neg h, if_neg h]; exact flagGo_run xs s
section
variable {W : Wo} {n : Nat} {ns : Names} {ρ : Rho} {μ : Mu}
theorem hex_len : ∀ i ∈ List.range 32, (baseText "0x" 16 (2 ^ i)).length ≤ 24 := by decide +kernel
theorem wordOf_high (i : Nat) (h : ¬ i < 10) : wordOf i = baseText "0x" 16 (2 ^ i) := if_neg h
theorem flag_get (k : Kit W) {i : Nat} (hi : i < 32) : ∀ A g s (E : Value → Shared → Prop) vs, Room (n + 1) A → Good W.hs g s → RepL g vs [.int (2 ^ i), .str (baseText "0x" 16 (2 ^ i))] → wpAny W.M A (PySem.call (.builtin "dict.get") (.ref 82 :: vs)) (Res g s (.str (wordOf i))) E s := by
  intro A g s E vs R G r
  obtain ⟨v, r', rfl, h1, h2⟩ := repL_cons.mp r
  obtain ⟨v', r'', rfl, h3, h4⟩ := repL_cons.mp h2
  cases repL_nil.mp h4
  obtain ⟨t, rfl⟩ := rep_int.mp h1
  obtain ⟨t', rfl⟩ := rep_str.mp h3
  have keep : ∀ b o, W.hs.get? b = some o → s.heap.get? b = some o := fun b o q => G.sub _ _ (G.stat _ _ q)
  obtain ⟨f, hm, hf⟩ := flags_map k keep
  have hty : s.TypeIs (.ref 82) "dict" := ⟨_, keep _ _ (k.K _ _ rfl), rfl⟩
  have fi := hf i hi
  refine call_meetsIn PySem.F.slot_dict_get hty PySem.F.entry_dict_get (PySem.F.args_dict_get_3 _ _ _) (meets_dict_get_default (intKind W.prog W.w) 82 (k := 2 ^ i) ?_ rfl _) ⟨f, hm, ?_⟩
  · exact intKind_is _ _ _ _
  · by_cases h10 : i < 10
    · rw [if_pos h10] at fi
      obtain ⟨t2, e⟩ := fi
      rw [e]
      exact ⟨g, Step.toks G, rep_str.mpr ⟨t2, rfl⟩⟩
    · rw [if_neg h10] at fi
      rw [fi, wordOf_high i h10]
      exact ⟨g, Step.toks G, rep_str.mpr ⟨t', rfl⟩⟩
noncomputable def prettyL (v : Int) : List PySem.Str := if (flagRun (List.range 32) ([], v)).1 then (flagRun (List.range 32) ([], v)).2.1.map wordOf else (flagRun (List.range 32) ([], v)).2.1.map wordOf ++ [baseText "0x" 16 (flagRun (List.range 32) ([], v)).2.2]
theorem getm_flags (k : Kit W) : ∀ A g s (E : Value → Shared → Prop) pl (Q : Value × List Value → Shared → Prop), Good W.hs g s → Q (.builtin "dict.get", [.ref 82]) s → wpAny W.M A (getMethod (.ref 82) "get" pl) Q E s := by
  intro A g s E pl Q G h
  have keep : ∀ b o, W.hs.get? b = some o → s.heap.get? b = some o := fun b o q => G.sub _ _ (G.stat _ _ q)
  obtain ⟨f, hm, hf⟩ := flags_map k keep
  have hty : s.TypeIs (.ref 82) "dict" := ⟨_, keep _ _ (k.K _ _ rfl), rfl⟩
  exact getMethod_builtin hty PySem.F.plainAttrs_dict PySem.F.slot_dict_get PySem.F.type_dict_get hm.noDict h
end
end Mine
end
section
open Builtin.Str (glued)
namespace Mine
section
variable {W : Wo} {n : Nat} {ns : Names} {ρ : Rho} {μ : Mu}
theorem lshiftN (i : Nat) (h : i < 32) : binD .LShift (.int 1) (.int (i : Int)) = some (.int (1 * 2 ^ i)) := by
  have e : binD .LShift (.int 1) (.int (i : Int)) = some (.int (1 * 2 ^ (i : Int).toNat)) := if_pos ⟨by lia, by lia, by decide⟩
  rw [Int.toNat_natCast] at e
  exact e
set_option maxHeartbeats 1000000 in
theorem fn_pretty (k : Kit W) (v : Int) (hp : ∀ x ∈ prettyL v, x.length ≤ 24) (hl : (prettyL v).length ≤ 40) (hx : (flagRun (List.range 32) ([], v)).1 = false → (baseText "0x" 16 (flagRun (List.range 32) ([], v)).2.2).length ≤ sizeLine) : FnE W (n + 2) (.ref 89) [.int v] (.str (glued ", " (prettyL v))) := by
  have hsl : sizeLine = 2 ^ 24 := rfl
  refine FnE.ofK k (xs := ["flags"]) rfl rfl ⟨_, _, _, _, rfl, rfl, rfl, rfl⟩ rfl ?_ rfl ⟨rfl, rfl, rfl, rfl, rfl, rfl⟩ (by decide +kernel) ?_
  · exact len1 (fun _ => rfl)
  refine TriSS.cons TriS.doc ?_
  refine TriSS.cons (TriS.assignNew (TriN.list (ds := []) TriL.nil (by decide)) rfl fun _ _ => rfl) ?_
  refine TriSS.cons (ρ' := [("flags", .int (flagRun (List.range 32) ([], v)).2.2)]) (μ' := some ("names", (prettyL v).map .str)) (TriS.eq (TriS.forR (List.range 32) (fun (i : Nat) => D.int i) flagGo (fun i => [("i", .int (i : Int))]) (fun s => [("flags", .int s.2)]) (fun s => some ("names", (s.1.map wordOf).map .str)) (fun s => [("flags", .int s.2)]) (fun s => some ("names", (s.1.map wordOf).map .str)) (fun xs s => s.1.length + xs.length ≤ 32 ∧ (∀ x ∈ xs, x < 32) ∧ flagRun xs s = flagRun (List.range 32) ([], v)) (fun s => .next [("flags", .int s.2)] (some ("names", (s.1.map wordOf ++ [baseText "0x" 16 s.2]).map .str))) ([], v)
    (SubR.cons rfl SubR.nil) rfl (TriI.eq (TriI.range1 (b := 32) k.ok (k.builtin rfl rfl rfl (by decide) rfl KeepOk.type) TriE.int (by decide) (by decide)) (rangeL_zero _)) rfl ?_ ?_ (fun i => .name (.inl rfl)) ?_ ?_ ?_ ?_) ?_) ?_
  · exact ⟨by simp, fun x hx => List.mem_range.mp hx, rfl⟩
  · intro xs s i s' ⟨h1, h2, h3⟩ e
    rw [List.length_cons] at h1
    unfold flagGo at e
    unfold flagRun at h3
    by_cases hb : (Builtin.bitAnd s.2 (2 ^ i) != 0) = true
    · rw [if_pos hb] at e h3
      by_cases hc : (Builtin.bitXor s.2 (2 ^ i) != 0) = true
      · rw [if_pos hc] at e h3
        cases e
        exact ⟨by rw [List.length_append, List.length_singleton]; lia, fun x hx => h2 x (List.mem_cons_of_mem _ hx), h3⟩
      · rw [if_neg hc] at e; cases e
    · rw [if_neg hb] at e h3
      cases e
      exact ⟨by lia, fun x hx => h2 x (List.mem_cons_of_mem _ hx), h3⟩
  · intro xs s i s' ⟨h1, h2, h3⟩ e
    have hi := h2 i List.mem_cons_self
    rw [List.length_cons] at h1
    unfold flagGo at e
    by_cases hb : (Builtin.bitAnd s.2 (2 ^ i) != 0) = true
    · rw [if_pos hb] at e
      by_cases hc : (Builtin.bitXor s.2 (2 ^ i) != 0) = true
      · rw [if_pos hc] at e
        cases e
        refine ⟨("flags", .int (Builtin.bitXor s.2 (2 ^ i))) :: ("flag", .int (2 ^ i)) :: ("i", .int (i : Int)) :: [("flags", .int s.2)], .inl ?_, SubR.cons rfl SubR.nil⟩
        refine TriSS.mu (μ := some ("names", (s.1.map wordOf).map .str)) ?_ rfl
        refine TriSS.cons (TriS.assign (d := .int (2 ^ i)) (TriE.eq (TriE.bin' TriE.int (by exact .nm rfl rfl) (lshiftN i hi)) (by rw [Int.one_mul])) (.inl rfl) fun _ _ => rfl) ?_
        refine TriSS.mu (μ := some ("names", (s.1.map wordOf).map .str)) ?_ rfl
        refine TriSS.eq (TriSS.cons (TriS.takeIf (TriB.eq (TriB.ofE (TriE.bin' (a := .int s.2) (b := .int (2 ^ i)) (by exact .nm rfl rfl) (by exact .nm rfl rfl) rfl) rfl) hb) (TriSS.cons (TriS.append (d := .str (wordOf i)) (xs := (s.1.map wordOf).map .str) (TriE.methV k.ok rfl (.inl (ns_some_of k.K k.ok.g rfl)) rfl (ds := [.int (2 ^ i), .str (baseText "0x" 16 (2 ^ i))]) (TriL.cons (by exact .nm rfl rfl) (TriL.cons (TriE.callB k rfl rfl rfl (by decide) rfl KeepOk.builtin (TriL.cons (by exact .nm rfl rfl) TriL.nil) (fn_hex (Nat.le_trans (hex_len i (List.mem_range.mpr hi)) (by decide)))) TriL.nil)) (fun A g s E pl Q => getm_flags k A g s E pl Q) KeepOk.builtin (fun A g s E vs => flag_get k hi A g s E vs) (fun _ => rfl) (by decide) (fun _ => rfl) rfl) (by rw [List.length_map, List.length_map]; lia) rfl) (TriSS.cons (TriS.augName (a := .int s.2) (b := .int (2 ^ i)) (d := .int (Builtin.bitXor s.2 (2 ^ i))) rfl (.inl rfl) (by exact .nm rfl rfl) (iopD_sound (op := .BitXor) rfl)) (TriSS.cons (TriS.skipIf (TriB.eq (TriB.not (TriB.ofE (d := .int (Builtin.bitXor s.2 (2 ^ i))) (by exact .nm rfl rfl) rfl)) (by rw [hc]; rfl))) TriSS.nil)))) TriSS.nil) ?_
        rw [List.map_append, List.map_append]; rfl
      · rw [if_neg hc] at e; cases e
    · rw [if_neg hb] at e
      cases e
      refine ⟨("flag", .int (2 ^ i)) :: ("i", .int (i : Int)) :: [("flags", .int s.2)], .inl ?_, SubR.cons rfl SubR.nil⟩
      refine TriSS.mu (μ := some ("names", (s.1.map wordOf).map .str)) ?_ rfl
      refine TriSS.cons (TriS.assign (d := .int (2 ^ i)) (TriE.eq (TriE.bin' TriE.int (by exact .nm rfl rfl) (lshiftN i hi)) (by rw [Int.one_mul])) (.inl rfl) fun _ _ => rfl) ?_
      refine TriSS.mu (μ := some ("names", (s.1.map wordOf).map .str)) ?_ rfl
      exact TriSS.cons (TriS.skipIf (TriB.eq (TriB.ofE (TriE.bin' (a := .int s.2) (b := .int (2 ^ i)) (by exact .nm rfl rfl) (by exact .nm rfl rfl) rfl) rfl) (by simpa using hb))) TriSS.nil
  · intro xs s i s' ⟨h1, h2, h3⟩ e
    have hi := h2 i List.mem_cons_self
    rw [List.length_cons] at h1
    unfold flagGo at e
    by_cases hb : (Builtin.bitAnd s.2 (2 ^ i) != 0) = true
    · rw [if_pos hb] at e
      by_cases hc : (Builtin.bitXor s.2 (2 ^ i) != 0) = true
      · rw [if_pos hc] at e; cases e
      · rw [if_neg hc] at e
        cases e
        have hc' : (Builtin.bitXor s.2 (2 ^ i) != 0) = false := by simpa using hc
        refine TriSS.mu (μ := some ("names", (s.1.map wordOf).map .str)) ?_ rfl
        refine TriSS.cons (TriS.assign (d := .int (2 ^ i)) (TriE.eq (TriE.bin' TriE.int (by exact .nm rfl rfl) (lshiftN i hi)) (by rw [Int.one_mul])) (.inl rfl) fun _ _ => rfl) ?_
        refine TriSS.mu (μ := some ("names", (s.1.map wordOf).map .str)) ?_ rfl
        refine TriSS.stop (TriS.takeIf (TriB.eq (TriB.ofE (TriE.bin' (a := .int s.2) (b := .int (2 ^ i)) (by exact .nm rfl rfl) (by exact .nm rfl rfl) rfl) rfl) hb) (TriSS.cons (TriS.append (d := .str (wordOf i)) (xs := (s.1.map wordOf).map .str) (TriE.methV k.ok rfl (.inl (ns_some_of k.K k.ok.g rfl)) rfl (ds := [.int (2 ^ i), .str (baseText "0x" 16 (2 ^ i))]) (TriL.cons (by exact .nm rfl rfl) (TriL.cons (TriE.callB k rfl rfl rfl (by decide) rfl KeepOk.builtin (TriL.cons (by exact .nm rfl rfl) TriL.nil) (fn_hex (Nat.le_trans (hex_len i (List.mem_range.mpr hi)) (by decide)))) TriL.nil)) (fun A g s E pl Q => getm_flags k A g s E pl Q) KeepOk.builtin (fun A g s E vs => flag_get k hi A g s E vs) (fun _ => rfl) (by decide) (fun _ => rfl) rfl) (by rw [List.length_map, List.length_map]; lia) rfl) (TriSS.cons (TriS.augName (a := .int s.2) (b := .int (2 ^ i)) (d := .int (Builtin.bitXor s.2 (2 ^ i))) rfl (.inl rfl) (by exact .nm rfl rfl) (iopD_sound (op := .BitXor) rfl)) (TriSS.stop (TriS.takeIf (TriB.eq (TriB.not (TriB.ofE (d := .int (Builtin.bitXor s.2 (2 ^ i))) (by exact .nm rfl rfl) rfl)) (by rw [hc']; rfl)) (TriSS.eq (TriSS.stop (TriS.brkSub (ρ' := [("flags", .int (Builtin.bitXor s.2 (2 ^ i)))]) (SubR.cons rfl SubR.nil))) ?_))))))
        rw [List.map_append, List.map_append]; rfl
    · rw [if_neg hb] at e; cases e
  · intro xs s i d h e
    unfold flagGo at e
    split at e
    · split at e <;> cases e
    · cases e
  · intro s ⟨h1, h2, h3⟩
    refine ⟨?_, fun _ _ => ⟨by simp, by simp⟩⟩
    have h3 : (false, s) = flagRun (List.range 32) ([], v) := h3
    have hx' := hx (by rw [← h3])
    rw [← h3] at hx'
    refine TriSS.eq (TriSS.cons (TriS.append (d := .str (baseText "0x" 16 s.2)) (xs := (s.1.map wordOf).map .str) (TriE.callB k rfl rfl rfl (by decide) rfl KeepOk.builtin (TriL.cons (by exact .nm rfl rfl) TriL.nil) (fn_hex hx')) (by rw [List.length_map, List.length_map]; lia) rfl) TriSS.nil) ?_
    rw [List.map_append]; rfl
  · rw [flagGo_run]
    unfold prettyL
    cases (flagRun (List.range 32) ([], v)).1 <;> rfl
  · refine TriSS.freeze (TriSS.stop (TriS.ret ?_))
    obtain ⟨j1, j2⟩ := join_small ", " 24 (prettyL v) hp
    have hb : (prettyL v).length * (24 + (", " : PySem.Str).length) ≤ sizeLine := Nat.le_trans (Nat.mul_le_mul_right _ hl) (by decide)
    exact TriE.meth' (od := .str ", ") (ds := [.list ((prettyL v).map .str)]) TriE.str (TriL.cons (by exact .nm rfl rfl) TriL.nil) getm_join (fn_join (Nat.le_trans j1 hb) (Nat.le_trans j2 hb))
end
end Mine
end
section
open Builtin.Str (glued)
namespace Mine
theorem top_text : ∀ a ∈ [(-2 : Int), -1, 0, 1, 2], baseText "0x" 16 (a * 2 ^ 32) = if a = 0 then ("0x0" : PySem.Str) else topOf a := by decide +kernel
theorem pretty_words {base : Nat} (hb : base < 28) {a : Int} (ha : a ∈ [(-2 : Int), -1, 0, 1, 2]) {sub : List Nat} (hs : sub ∈ subs5) : prettyL (flagsVal (sub.map (base + ·)) a) = wordsL (sub.map (base + ·)) a := by
  have h := flags_run base (List.mem_range.mpr hb) a ha sub hs
  unfold flagGood at h
  have h := eq_of_beq h
  unfold prettyL wordsL tops
  rw [h]
  have ht := top_text a ha
  by_cases h0 : a = 0
  · by_cases hn : sub = []
    · subst h0 hn
      rw [if_pos rfl] at ht
      show (List.map wordOf [] ++ [baseText "0x" 16 (0 * 2 ^ 32)]) = _
      rw [ht]
      rfl
    · have e1 : (decide (a = 0 ∧ sub ≠ [])) = true := decide_eq_true ⟨h0, hn⟩
      have e2 : (sub.map (base + ·)).map wordOf ++ (if a = 0 then [] else [topOf a]) = (sub.map (base + ·)).map wordOf := by rw [if_pos h0, List.append_nil]
      rw [e2]
      dsimp only
      rw [e1, if_pos rfl, if_neg (by simpa using hn)]
  · have e1 : (decide (a = 0 ∧ sub ≠ [])) = false := decide_eq_false fun h => h0 h.1
    have e2 : (sub.map (base + ·)).map wordOf ++ (if a = 0 then [] else [topOf a]) = (sub.map (base + ·)).map wordOf ++ [topOf a] := by rw [if_neg h0]
    rw [e2]
    dsimp only
    rw [e1, ht, if_neg h0, if_neg (by simp), if_neg (by simp)]
end Mine
end
section
open Builtin Builtin.Re
open Builtin.Str (glued)
namespace Mine
noncomputable def wholeL (m : List Int) (e : Int) : List PySem.Str := m.zipIdx.map fun p => if p.1 != 0 then "." else eolOf ((e + p.2).fmod 3)
noncomputable def wholeMail (m : List Int) (e : Int) : PySem.Str := glued "" (wholeL m e)
noncomputable def sentL (m : List Int) : List PySem.Str := (m.zip (0 :: m)).zipIdx.map fun q => if q.1.1 == 0 then "\r\n" else if q.2 != 0 && q.1.2 != 0 then "." else ".."
noncomputable def sentOf (m : List Int) : PySem.Str := glued "" (sentL m)
theorem whole_0 : ∀ m ∈ allMarks, reSubS code3 crlf (wholeMail m 0) = some (mailOf m 2) := by decide +kernel
theorem whole_1 : ∀ m ∈ allMarks, reSubS code3 crlf (wholeMail m 1) = some (mailOf m 2) := by decide +kernel
theorem whole_2 : ∀ m ∈ allMarks, reSubS code3 crlf (wholeMail m 2) = some (mailOf m 2) := by decide +kernel
theorem whole_s : ∀ m ∈ allMarks, reSubS code1 dots (mailOf m 2) = some (sentOf m) := by decide +kernel
end Mine
end
section
open Builtin Builtin.Re
open Builtin.Str (glued)
namespace Mine
noncomputable def octs (x : PySem.Str) : Array UInt8 := x.cps.map fun c => c.toUInt8
theorem whole_b : ∀ m ∈ allMarks, reSubB #[14, 4, 0, 1, 1, 6, 1, 16, 46, 1] #[46, 46] (octs (mailOf m 2)) = some (octs (sentOf m)) := by decide +kernel
end Mine
end
section
namespace Mine
section
variable {prog : Program} {w : World} {A : Around} {E : Value → Shared → Prop} {s : Shared}
noncomputable def ByteAt (b : Array UInt8) (i : Nat) (v : Value) : Prop := ∃ c u, b[i]? = some c ∧ v = .int (c.toNat : Int) u
theorem wpAny_extend_bytes {R : Result → Shared → Prop} (hh : A.handled = none) (x : Array UInt8) (t : Tok) (S : Addr) (res : Value) (c₀ : Nat) (hS : s.heap.get? S = some { cls := .type "list", data := .seq #[] c₀ })
    (hR : ∀ h' tk acc' c', (∀ b o, b ≠ S → s.heap.get? b = some o → h'.get? b = some o) → h'.get? S = some { cls := .type "list", dict := none, data := .seq acc' c', slots := #[] } →
      ItemsOf (ByteAt x) acc' x.size → R (.ok (.ret res)) { s with heap := h', toks := tk }) (hn : x.size ≤ sizeLine) :
    wpAny (model prog w) A.in1 (Builtin.List.listExtendWith (.ref S) (.bytes x t) res)
      (fun fin s' => match fin with | .done f => R (.ok f) s' | .again c' => c'.quiet = true ∧ codeAny (model prog w) A c' R s') (fun e s' => R (.error e) s') s := by
  have hSI : S ≠ s.heap.objs.size := Nat.ne_of_lt (Heap.lt_size hS)
  have hSf : S ∉ [s.heap.objs.size] := fun hm => hSI (List.mem_singleton.mp hm)
  unfold Builtin.List.listExtendWith
  refine wpAny_bind (wpAny_typeOf (T := "bytes") (v := .bytes x t) rfl ?_)
  have h1 : Builtin.List.listSameRef (.ref S) (.bytes x t) = false := rfl
  have h2 : (Value.type "bytes" == Value.type "list") = false := by decide
  have h3 : (Value.type "bytes" == Value.type "tuple") = false := by decide
  simp only [h1, h2, h3, Bool.or_false, Bool.false_eq_true, if_false]
  refine wpAny_bind (KBw.pyIter_bytes ?_)
  refine wpAny_bind (wpAny_holding ?_)
  unfold Builtin.List.listLengthHint
  refine wpAny_bind (wpAny_specialOf (T := "bytes") (v := .bytes x t) rfl FB.slot_bytes_len.lookup ?_)
  wp_delta
  refine wpAny_bind (wpAny_isInstance (T := "bytes") (v := .bytes x t) (b := true) rfl (by rw [isSubtype_type]; kernel_rfl) ?_)
  show wpAny _ _ (typeOf (Value.bytes x t) >>= _) _ _ _
  refine wpAny_bind (wpAny_typeOf (T := "bytes") (v := .bytes x t) rfl ?_)
  refine wpAny_pure ?_
  rw [if_neg (by decide)]
  refine wpAny_pure ⟨plainId_quiet F.plain_extend_loop _, codeAny_extend_loopS (KBw.walks (A := A.in1) hh s.heap.objs.size x t).toS hn _ hSf _ x.size 0 _ _ _ rfl (Nat.zero_le _) ⟨_, Heap.get?_push_size _ rfl, rfl, rfl⟩ (Heap.get?_push_of_some _ hS) (ItemsOf.nil _) fun s' acc' c' hm hS' hacc => ?_⟩
  rw [Moved.eq_with hm]
  refine hR s'.heap s'.toks acc' c' (fun b ob hb e => hm.heap b ob (fun hmem => ?_) (Heap.get?_push_of_some _ e)) hS' hacc
  rcases List.mem_cons.mp hmem with e' | hmem
  · exact hb e'
  · exact absurd (Heap.lt_size e) (by rw [List.mem_singleton.mp hmem]; exact Nat.lt_irrefl _)
theorem wpAny_list_init_bytes {R : Result → Shared → Prop} (hh : A.handled = none) (x : Array UInt8) (t : Tok) (S : Addr) (hS : s.heap.get? S = some { cls := .type "list", data := .seq #[] })
    (hR : ∀ h' tk acc' c', (∀ b o, b ≠ S → s.heap.get? b = some o → h'.get? b = some o) → h'.get? S = some { cls := .type "list", dict := none, data := .seq acc' c', slots := #[] } →
      ItemsOf (ByteAt x) acc' x.size → R (.ok (.ret .none)) { s with heap := h', toks := tk }) (hn : x.size ≤ sizeLine) :
    wpAny (model prog w) A.in1 (Builtin.«list.__init__» ⟨[.ref S, .bytes x t], []⟩)
      (fun fin s' => match fin with | .done f => R (.ok f) s' | .again c' => c'.quiet = true ∧ codeAny (model prog w) A c' R s') (fun e s' => R (.error e) s') s := by
  show wpAny _ _ (do let old ← Builtin.List.listItems (.ref S); Builtin.List.listUpdate (.ref S) (fun _ => #[]); letGo old.toList.reverse; Builtin.List.listExtendWith (.ref S) (.bytes x t) .none) _ _ s
  refine wpAny_bind ?_
  unfold Builtin.List.listItems
  refine wpAny_bind (wpAny_seqItems hS rfl (wpAny_pure ?_))
  show wpAny _ _ (updateSeq S (fun _ => #[]) >>= fun _ => letGo (#[] : Array Value).toList.reverse >>= fun _ => Builtin.List.listExtendWith (.ref S) (.bytes x t) .none) _ _ s
  refine wpAny_bind (wpAny_updateSeq hS rfl ?_)
  have hS₂ := Heap.get?_update_self (Obj.mapSeq (fun _ => (#[] : Array Value))) hS rfl
  have oth : ∀ b o, b ≠ S → s.heap.get? b = some o → (s.heap.update S (Obj.mapSeq (fun _ => (#[] : Array Value)))).get? b = some o :=
    fun b o hb e => (Heap.get?_update_other _ _ (Ne.symm hb)).trans e
  refine wpAny_bind (wpAny_letGo ?_)
  refine wpAny_extend_bytes (hn := hn) hh x t S .none _ hS₂ fun h' tk acc' c' hk hS' hacc => ?_
  exact hR h' tk acc' c' (fun b o hb e => hk b o hb (oth b o hb e)) hS' hacc
theorem call_list_bytes {Q : Value → Shared → Prop} (hh : A.handled = none) (x : Array UInt8) (t : Tok)
    (hQ : ∀ h' tk acc' c', (∀ b o, s.heap.get? b = some o → h'.get? b = some o) →
      h'.get? s.heap.objs.size = some { cls := .type "list", dict := none, data := .seq acc' c', slots := #[] } → ItemsOf (ByteAt x) acc' x.size → Q (.ref s.heap.objs.size) { s with heap := h', toks := tk }) (hn : x.size ≤ sizeLine) :
    wpAny (model prog w) A (PySem.call (.type "list") [.bytes x t]) Q E s := by
  refine callType_codes (Q₁ := fun obj s₁ => obj = .ref s.heap.objs.size ∧ s₁ = { s with heap := s.heap.push { cls := .type "list", data := .seq #[] } }) F.called_list (F.typeCall_list_1 _) F.entry_list_init
    (code_list_new _ ⟨rfl, rfl⟩) fun obj s₁ h₁ => ?_
  obtain ⟨rfl, rfl⟩ := h₁
  have hS : (s.heap.push { cls := .type "list", data := .seq #[] }).get? s.heap.objs.size = some { cls := .type "list", data := .seq #[] } := Heap.get?_push_size _ rfl
  refine ⟨⟨_, hS, rfl⟩, F.args_list_init_2 _ _, wpAny_list_init_bytes (A := A.in1) (hn := hn) hh x t _ hS fun h' tk acc' c' hk hS' hacc => ?_⟩
  exact ⟨rfl, hQ h' tk acc' c' (fun b o e => hk b o (Nat.ne_of_lt (Heap.lt_size e)) (Heap.get?_push_of_some _ e)) hS' hacc⟩
end
end Mine
end
section
namespace Mine
section
variable {W : Wo} {n : Nat}
theorem repL_bytes {g : View} : ∀ (b : List UInt8) (vs : List Value), vs.length = b.length → (∀ (j : Nat) (v : Value), vs[j]? = some v → ∃ (c : UInt8) (u : Tok), b[j]? = some c ∧ v = Value.int (c.toNat : Int) u) → RepL g vs (b.map fun c => D.int (c.toNat : Int))
  | [], [], _, _ => RepL.nil
  | c :: b, v :: vs, hl, h => by
    obtain ⟨c', u, e1, e2⟩ := h 0 v rfl
    cases e1
    exact RepL.cons (rep_int.mpr ⟨u, e2⟩) (repL_bytes b vs (by simpa using hl) fun j v' hv => h (j + 1) v' (by simpa using hv))
  | [], _ :: _, hl, _ => by simp at hl
  | _ :: _, [], hl, _ => by simp at hl
theorem fn_list_bytes {b : Array UInt8} (hz : b.size ≤ sizeLine) : FnE W n (.type "list") [.bytes b] (.list (b.toList.map fun c => .int (c.toNat : Int))) := by
  intro A g s E vs R G r
  obtain ⟨v, r', rfl, h1, h2⟩ := repL_cons.mp r
  cases repL_nil.mp h2
  obtain ⟨t, rfl⟩ := rep_bytes.mp h1
  refine call_list_bytes (s := s) R.handled b t (fun h' tk acc' c' hk hS hi => ?_) hz
  have st := Step.put (hs := W.hs) (tk := tk) G (size_free s.heap) hS hk
  refine ⟨_, st, rep_list.mpr ⟨_, acc', c', rfl, View.put_self, ?_⟩⟩
  refine repL_bytes b.toList acc'.toList (by rw [Array.length_toList, Array.length_toList]; exact hi.1) fun j v hv => ?_
  obtain ⟨c, u, e1, e2⟩ := hi.2 j v (by simpa using hv)
  exact ⟨c, u, by simpa using e1, e2⟩
end
end Mine
end
section
open Builtin Builtin.Re
open Builtin.Str (glued)
namespace Mine
noncomputable def mailE (m : List Int) (e : Int) (k : Nat) : PySem.Str := if m.getD k 0 != 0 then "." else eolOf ((e + k).fmod 3)
noncomputable def sentE (m : List Int) (k : Nat) : PySem.Str := if !(m.getD k 0 != 0) then "\r\n" else if ((k : Int) != 0) && ((m.getD (k - 1) 0 != 0) && true) then "." else ".."
noncomputable def runsS (m : List Int) : List PySem.Str := (splitS (gotOf m) "-").getD []
noncomputable def runsOf (m : List Int) : List Int := (runsS m).map fun r => (r.length : Int)
noncomputable def frontOf (m : List Int) : List Int := sliceL (runsOf m) none (some (-1))
noncomputable def lastOf (m : List Int) : Int := (runsOf m).getLastD 0
noncomputable def sizesI (m : List Int) : Int := maxI ([-1] ++ frontOf m) + 1
noncomputable def normCounts (m : List Int) : List Int := (List.range (sizesI m).toNat).map fun (s : Nat) => (((frontOf m).count (s : Int) : Nat) : Int)
noncomputable def wsX (m : List Int) : PySem.Str := leadOf m ++ (". \t" : PySem.Str)
noncomputable def toldD (m : List Int) : D := .tup [.str (sentOf m), .list ((octs (sentOf m)).toList.map fun c => .int (c.toNat : Int)), .int (wsScan (wsX m)).n, .int (wsScan (wsX m)).nt, .tup [.tup ((wsScan (wsX m)).count.map .int), .int (wsScan (wsX m)).b], .int (wsLong (wsX m))]
noncomputable def dueD (m : List Int) : D := .tup [.str (sentOf m), .list ((sentOf m).cps.toList.map fun (c : Nat) => .int (c : Int)), .int 5, .int ((m.count 0 : Nat) : Int), .tup [.tup ((normCounts m).map .int), .int (lastOf m)], .int (maxI (runsOf m))]
theorem tab_mail : ∀ m ∈ allMarks, ∀ e ∈ [(0 : Int), 1, 2], (List.range 5).map (mailE m e) = wholeL m e ∧ joinSize "" (wholeL m e) ≤ 1000 ∧ (wholeMail m e).length ≤ 1000 := by decide +kernel
theorem tab_sent : ∀ m ∈ allMarks, (List.range 5).map (sentE m) = sentL m ∧ joinSize "" (sentL m) ≤ 1000 ∧ (sentOf m).length ≤ 1000 ∧ (octs (sentOf m)).size ≤ 1000 := by decide +kernel
theorem tab_runs : ∀ m ∈ allMarks, splitS (gotOf m) "-" = some (runsS m) ∧ (runsS m).length ≤ 10 ∧ (∀ r ∈ runsS m, r.length ≤ 10) ∧ runsOf m ≠ [] ∧ -10 ≤ sizesI m ∧ sizesI m ≤ 10 ∧ seqIndex? (-1) (runsOf m).length = some ((runsOf m).length - 1) ∧ (runsOf m)[(runsOf m).length - 1]? = some (lastOf m) ∧ (frontOf m).length ≤ 10 := by decide +kernel
theorem tab_ws : ∀ m ∈ allMarks, (leadOf m).length ≤ 100 ∧ (wsX m).cps.size ≤ 100 ∧ (∀ c ∈ (wsX m).cps.toList, c = 32 ∨ c = 9 ∨ c = 46) ∧ (wsScan (wsX m)).count.length ≤ 200 ∧ decide (((wsScan (wsX m)).count.length : Int) ≤ 1) = decide (maxI ([0] ++ frontOf m) = 0) := by decide +kernel
theorem tab_bytes : ∀ m ∈ allMarks, (∀ c ∈ (mailOf m 2).cps.toList, c < 256) ∧ byteArr ((mailOf m 2).cps.toList.map fun (c : Nat) => (c : Int)) = octs (mailOf m 2) ∧ (mailOf m 2).cps.toList.length ≤ 1000 := by decide +kernel
theorem tab_told : ∀ m ∈ allMarks, cmpD .Eq (toldD m) (dueD m) = some true := by decide +kernel
section
variable {W : Wo} {n : Nat} {ns : Names} {ρ : Rho} {μ : Mu}
theorem whole_item {m : List Int} (hm : m.length = 5) {k : Nat} (hk : k < 5) : itemD (dInts m) (.int (k : Int)) = some (.int (m.getD k 0)) := by
  refine itemD_list (by lia) (by rw [List.length_map, hm]; decide) ?_
  rw [Int.toNat_natCast, List.getElem?_map, List.getD_eq_getElem?_getD, List.getElem?_eq_getElem (by lia)]
  rfl
theorem sliceL_map {α β : Type} (f : α → β) (xs : List α) (lo hi : Option Int) : sliceL (xs.map f) lo hi = (sliceL xs lo hi).map f := by
  unfold sliceL
  rw [List.length_map, List.map_take, List.map_drop]
theorem TriE.front {e : Expr} {k p q pos : Pos} {kk : Nat} {xs : List Int} (h : TriE W (n + 1) ns ρ e (dInts xs)) (hz : xs.length ≤ sizeLine) (ht : ∀ o r, letTemporaryGo e o r = pure () := by intro _ _; rfl) :
    TriE W (n + 1) ns ρ (.Subscript e (.Slice none (some (.UnaryOp .USub (.Constant (.int 1) kk p) q)) Option.none k) pos) (dInts (sliceL xs none (some (-1)))) := by
  have := TriE.sliceList (pos := pos) (p := k) h TriP.none (TriP.some (TriE.neg (i := 1) (k := kk) (p := p) (pos := q))) (by rw [List.length_map]; exact hz) ht
  rw [sliceL_map] at this
  exact this
end
end Mine
end
section
open Builtin Builtin.Re
open Builtin.Str (glued)
namespace Mine
section
variable {W : Wo} {n : Nat} {ns : Names} {ρ : Rho} {μ : Mu}
theorem TriE.ords (k : Kit W) {iter : Expr} {x : PySem.Str} {px pf pp pc pos : Pos} {scope : Scope} (hx : TriE W (n + 1) ns ρ iter (.str x)) (hsc : CompScope ns scope ["sign"]) (hk : (relN ns scope.names).lookup ("sign" : PySem.Str) = some .local)
    (ho : (relN ns scope.names).lookup ("ord" : PySem.Str) = some .globalImplicit) (hfree : (capt scope.names ρ).lookup ("sign" : PySem.Str) = none) (hz : x.cps.toList.length ≤ sizeLine) (hs : ∀ env x, foldedSetIterable iter env x = pure x := by intro _ _; rfl) :
    TriE W (n + 1) ns ρ (.ListComp (.Call (.Name "ord" pf) [.Name "sign" pp] [] pc) [⟨.Name "sign" px, iter, [], 0⟩] scope pos) (.list (x.cps.toList.map fun (c : Nat) => .int (c : Int))) :=
  TriN.toE (TriN.mapInts x.cps.toList (fun c => .str ⟨#[c]⟩) (fun (c : Nat) => .int (c : Int)) hsc (.inl hk) (TriI.of hx rfl) rfl hfree (fun c hc => TriE.callB k ho rfl rfl (by decide) rfl KeepOk.builtin (TriL.cons (TriE.name rfl (.inl hk) rfl rfl) TriL.nil) fn_ord) hz hs)
set_option maxHeartbeats 4000000 in
theorem fn_whole (k : Kit W) {m : List Int} {e : Int} (hm : Small m) (he : e ∈ [(0 : Int), 1, 2]) : FnE W (n + 7) (.ref 332) [dInts m, .int e] (.bool true) := by
  have hmm := hm.all
  have hm5 := hm.1
  obtain ⟨a1, a2, a3⟩ := tab_mail m hmm e he
  obtain ⟨b1, b2, b3, b4⟩ := tab_sent m hmm
  obtain ⟨c1, c2, c3, c4, c5, c6, c7, c8, c9⟩ := tab_runs m hmm
  obtain ⟨d0, d1, d2, d3, d4⟩ := tab_ws m hmm
  obtain ⟨e1, e2, e3⟩ := tab_bytes m hmm
  have f1 := tab_told m hmm
  obtain ⟨s1, s2, s3, s4, s5, s6⟩ := marks_small m hmm
  have hsl : sizeLine = 2 ^ 24 := rfl
  have hw : reSubS code3 crlf (wholeMail m e) = some (mailOf m 2) := by
    simp only [List.mem_cons, List.not_mem_nil, or_false] at he
    rcases he with rfl | rfl | rfl
    · exact whole_0 m hmm
    · exact whole_1 m hmm
    · exact whole_2 m hmm
  have hws := whole_s m hmm
  have hwb := whole_b m hmm
  have hrl : (runsOf m).length ≤ 10 := by unfold runsOf; rw [List.length_map]; exact c2
  refine FnE.ofK k (xs := ["marks", "end"]) rfl rfl ⟨_, _, _, _, rfl, rfl, rfl, rfl⟩ rfl ?_ rfl ⟨rfl, rfl, rfl, rfl, rfl, rfl⟩ (by decide +kernel) ?_
  · exact len2 (fun _ _ => rfl)
  refine TriSS.cons (TriS.assign (d := .str (wholeMail m e)) (TriE.meth' (od := .str "") (ds := [.list ((wholeL m e).map .str)]) TriE.str (TriL.cons (TriE.eq (TriN.toE (TriN.mapInts (List.range 5) (fun (i : Nat) => .int (i : Int)) (fun i => .str (mailE m e i)) (.ok rfl (by decide +kernel)) (.inl rfl) (TriI.eq (TriI.range1 (b := 5) k.ok (k.builtin rfl rfl rfl (by decide) rfl KeepOk.type) TriE.int (by decide) (by decide)) (rangeL_zero _)) rfl rfl (fun i hi => ?_) (by rw [List.length_range]; decide))) (by rw [← a1, List.map_map]; rfl)) TriL.nil) getm_join (fn_join (Nat.le_trans a2 (by decide)) (Nat.le_trans a3 (by decide)))) (.inl rfl) fun _ _ => rfl) ?_
  · have hi5 := List.mem_range.mp hi
    refine TriE.iteInt (m := m.getD i 0) (TriE.item' (o := dInts m) (i := .int (i : Int)) (by exact .nm rfl rfl) (by exact .nm rfl rfl) (whole_item hm5 hi5)) TriE.str ?_
    refine TriE.item' (o := .tup [.str "\n", .str "\r", .str "\r\n"]) (i := .int ((e + (i : Int)).fmod 3)) (TriE.tuple (TriL.cons TriE.str (TriL.cons TriE.str (TriL.cons TriE.str TriL.nil))) (by show 3 ≤ sizeLine; decide)) (TriE.bin' (a := .int (e + (i : Int))) (b := .int 3) (TriE.bin' (a := .int e) (b := .int (i : Int)) (by exact .nm rfl rfl) (by exact .nm rfl rfl) rfl) TriE.int rfl) ?_
    have := fmod3 (e + (i : Int))
    generalize (e + (i : Int)).fmod 3 = e at this ⊢
    simp only [List.mem_cons, List.not_mem_nil, or_false] at this
    rcases this with rfl | rfl | rfl <;> rfl
  refine TriSS.cons (TriS.assign (d := .str (sentOf m)) (TriE.meth' (od := .str "") (ds := [.list ((sentL m).map .str)]) TriE.str (TriL.cons (TriE.eq (TriN.toE (TriN.mapInts (List.range 5) (fun (i : Nat) => .int (i : Int)) (fun i => .str (sentE m i)) (.ok rfl (by decide +kernel)) (.inl rfl) (TriI.eq (TriI.range1 (b := 5) k.ok (k.builtin rfl rfl rfl (by decide) rfl KeepOk.type) TriE.int (by decide) (by decide)) (rangeL_zero _)) rfl rfl (fun i hi => ?_) (by rw [List.length_range]; decide))) (by rw [← b1, List.map_map]; rfl)) TriL.nil) getm_join (fn_join (Nat.le_trans b2 (by decide)) (Nat.le_trans b3 (by decide)))) (.inl rfl) fun _ _ => rfl) ?_
  · have hi5 := List.mem_range.mp hi
    refine TriE.ite (c := !(m.getD i 0 != 0)) (TriB.not (TriB.ofE (TriE.item' (o := dInts m) (i := .int (i : Int)) (by exact .nm rfl rfl) (by exact .nm rfl rfl) (whole_item hm5 hi5)) rfl)) (fun h => ?_) (fun h => ?_)
    · unfold sentE; rw [if_pos h]; exact TriE.str
    · unfold sentE; rw [h]
      refine TriE.ite (c := ((i : Int) != 0) && ((m.getD (i - 1) 0 != 0) && true)) (TriB.boolOp (AndB.cons (TriB.ofE (d := .int (i : Int)) (by exact .nm rfl rfl) rfl) fun h0 => AndB.cons (TriB.ofE (TriE.item' (o := dInts m) (i := .int ((i - 1 : Nat) : Int)) (by exact .nm rfl rfl) (TriE.eq (TriE.bin' (a := .int (i : Int)) (b := .int 1) (by exact .nm rfl rfl) TriE.int rfl) (congrArg D.int ?_)) (whole_item hm5 (by lia))) rfl) fun _ => AndB.nil)) (fun h => ?_) (fun h => ?_)
      · have : (i : Int) ≠ 0 := by simpa using h0
        lia
      · rw [h]; exact TriE.str
      · rw [h]; exact TriE.str
  refine TriSS.cons (TriS.assign (d := wsD (wsX m)) (TriE.ws (n := n) k rfl (TriL.cons (TriE.bin' (a := .str (leadOf m)) (b := .str ". \t") (TriE.meth' (od := .str "") (ds := [.list ((leadL m).map .str)]) TriE.str (TriL.cons (TriE.eq (TriN.toE (TriN.mapInts m .int (fun b => .str (if b != 0 then (" ": PySem.Str) else "\t")) (.ok rfl (by decide +kernel)) (.inl rfl) (TriI.of (d := dInts m) (by exact .nm rfl rfl) rfl) rfl rfl (fun a ha => TriE.iteInt (TriE.nm rfl rfl) TriE.str TriE.str) (by lia))) (by unfold leadL; rw [List.map_map]; rfl)) TriL.nil) getm_join (fn_join (Nat.le_trans s3 (by decide)) (Nat.le_trans d0 (by decide)))) TriE.str (binStr ?_)) TriL.nil) d1 d2) (.inl rfl) fun _ _ => rfl) ?_
  · show (wsX m).cps.size ≤ sizeLine
    lia
  refine TriSS.cons (TriS.assign (d := dInts (runsOf m)) (TriE.eq (TriN.toE (TriN.mapInts (runsS m) .str (fun r => .int (r.length : Int)) (.ok rfl (by decide +kernel)) (.inl rfl) (TriI.of (d := .list ((runsS m).map .str)) (TriE.meth' (od := .str (gotOf m)) (ds := [.str "-"]) ?_ (TriL.cons TriE.str TriL.nil) getm_split (fn_split c1)) rfl) rfl rfl (fun r hr => TriE.callB k rfl rfl rfl (by decide) rfl KeepOk.builtin (TriL.cons (by exact .nm rfl rfl) TriL.nil) (fn_len_str (by have := c3 r hr; lia))) (by lia))) (by unfold runsOf dInts; rw [List.map_map]; rfl)) (.inr rfl) ?_) ?_
  · exact TriE.meth' (od := .str "") (ds := [.list ((gotL m).map .str)]) TriE.str (TriL.cons (TriE.eq (TriN.toE (TriN.mapInts m .int (fun b => .str (if b != 0 then ("x": PySem.Str) else "-")) (.ok rfl (by decide +kernel)) (.inl rfl) (TriI.of (d := dInts m) (by exact .nm rfl rfl) rfl) rfl rfl (fun a ha => TriE.iteInt (TriE.nm rfl rfl) TriE.str TriE.str) (by lia))) (by unfold gotL; rw [List.map_map]; rfl)) TriL.nil) getm_join (fn_join (Nat.le_trans s1 (by decide)) (Nat.le_trans s2 (by decide)))
  · exact envEq fun _ _ => by rfl
  have hlast : itemD (dInts (runsOf m)) (.int (-1)) = some (.int (lastOf m)) := by
    show (if -(2 ^ 63) ≤ (-1 : Int) ∧ (-1 : Int) < 2 ^ 63 then (seqIndex? (-1) ((runsOf m).map D.int).length).bind fun j => ((runsOf m).map D.int)[j]? else none) = _
    rw [if_pos (by decide), List.length_map, c7]
    show ((runsOf m).map D.int)[(runsOf m).length - 1]? = _
    rw [List.getElem?_map, c8]
    rfl
  refine TriSS.cons (TriS.assign (d := .tup [.tup ((normCounts m).map .int), .int (lastOf m)]) (TriE.tuple (TriL.cons (TriE.callB k rfl rfl rfl (by decide) rfl KeepOk.type (TriL.cons (TriE.eq (TriN.toE (TriN.mapInts (List.range (sizesI m).toNat) (fun (i : Nat) => .int (i : Int)) (fun (s : Nat) => .int (((frontOf m).count (s : Int) : Nat) : Int)) (.ok rfl (by decide +kernel)) (.inl rfl) (TriI.eq (TriI.range1 (b := sizesI m) k.ok (k.builtin rfl rfl rfl (by decide) rfl KeepOk.type) (TriE.bin' (a := .int (maxI ([-1] ++ frontOf m))) (b := .int 1) (TriE.callB k rfl rfl rfl (by decide) rfl KeepOk.builtin (TriL.cons (TriE.addL (xs := [-1]) (ys := frontOf m) (TriE.list (TriL.cons TriE.neg TriL.nil) (by show 1 ≤ sizeLine; decide)) (TriE.front (by exact .nm rfl rfl) (by lia)) (by show 1 + (frontOf m).length ≤ sizeLine; lia)) TriL.nil) (fn_max_list (by simp))) TriE.int rfl) (by lia) (by lia)) (rangeL_zero _)) rfl rfl (fun s hs => ?_) (by rw [List.length_range]; lia))) (by unfold normCounts; rw [List.map_map]; rfl)) TriL.nil) (fn_tuple (xs := (normCounts m).map .int) (by unfold normCounts; rw [List.length_map, List.length_map, List.length_range]; lia))) (TriL.cons (TriE.item' (o := dInts (runsOf m)) (i := .int (-1)) (by exact .nm rfl rfl) TriE.neg hlast) TriL.nil)) (by show 2 ≤ sizeLine; decide)) (.inl rfl) fun _ _ => rfl) ?_
  · exact TriE.meth' (od := dInts (frontOf m)) (ds := [.int (s : Int)]) (TriE.front (by exact .nm rfl rfl) (by lia)) (TriL.cons (by exact .nm rfl rfl) TriL.nil) getm_count_list fn_count_list
  refine TriSS.cons (TriS.assign (d := toldD m) (TriE.tuple (TriL.cons (TriE.callK k rfl rfl rfl rfl rfl (TriL.cons (by exact .nm rfl rfl) TriL.nil) (fn_quotedata (n := n + 2) k hw hws)) (TriL.cons (TriE.callB k rfl rfl rfl (by decide) rfl KeepOk.type (TriL.cons (TriE.callK k rfl rfl rfl rfl rfl (TriL.cons (TriE.callB k rfl rfl rfl (by decide) rfl KeepOk.type (TriL.cons (TriE.ords k (x := mailOf m 2) (TriE.callK k rfl rfl rfl rfl rfl (TriL.cons (by exact .nm rfl rfl) TriL.nil) (fn_fix_eols (n := n + 2) k hw)) (.ok rfl (by decide +kernel)) rfl rfl rfl (by lia)) TriL.nil) ?_) TriL.nil) (fn_quote_periods (n := n + 2) k hwb)) TriL.nil) (fn_list_bytes (by lia))) (TriL.cons (TriE.attrInst k (io := none) (C := 301) (fs := [("raw", .str (wsX m)), ("n", .int (wsScan (wsX m)).n), ("nt", .int (wsScan (wsX m)).nt), ("norm", .tup [.tup ((wsScan (wsX m)).count.map .int), .int (wsScan (wsX m)).b]), ("is_simple", .bool (decide (((wsScan (wsX m)).count.length : Int) ≤ 1)))]) (by exact .nm rfl rfl) rfl rfl rfl rfl rfl) (TriL.cons (TriE.attrInst k (io := none) (C := 301) (fs := [("raw", .str (wsX m)), ("n", .int (wsScan (wsX m)).n), ("nt", .int (wsScan (wsX m)).nt), ("norm", .tup [.tup ((wsScan (wsX m)).count.map .int), .int (wsScan (wsX m)).b]), ("is_simple", .bool (decide (((wsScan (wsX m)).count.length : Int) ≤ 1)))]) (by exact .nm rfl rfl) rfl rfl rfl rfl rfl) (TriL.cons (TriE.attrInst k (io := none) (C := 301) (fs := [("raw", .str (wsX m)), ("n", .int (wsScan (wsX m)).n), ("nt", .int (wsScan (wsX m)).nt), ("norm", .tup [.tup ((wsScan (wsX m)).count.map .int), .int (wsScan (wsX m)).b]), ("is_simple", .bool (decide (((wsScan (wsX m)).count.length : Int) ≤ 1)))]) (by exact .nm rfl rfl) rfl rfl rfl rfl rfl) (TriL.cons (TriE.meth (od := wsD (wsX m)) (ds := []) (by exact .nm rfl rfl) TriL.nil (GetM.inst k rfl rfl rfl rfl) (KeepOk.fn k rfl rfl) (fn_wsLong (n := n + 3) k d3) (fun _ => rfl) (by decide) (fun _ => rfl) rfl) TriL.nil)))))) (by show 6 ≤ sizeLine; decide)) (.inl rfl) fun _ _ => rfl) ?_
  · have := fn_bytes (W := W) (n := n + 6) (ns := (mailOf m 2).cps.toList.map fun (c : Nat) => (c : Int)) (fun c hc => by
      obtain ⟨d, hd, rfl⟩ := List.mem_map.mp hc
      have := e1 d hd
      lia) (by rw [List.length_map]; lia)
    rw [e2, List.map_map] at this
    exact this
  refine TriSS.stop (TriS.ret (TriE.eq (TriE.and2 (a := .bool true) (b := .bool (decide (((wsScan (wsX m)).count.length : Int) ≤ 1) == decide (maxI ([0] ++ frontOf m) = 0))) (t := true) (TriE.cmp' (a := toldD m) (b := dueD m) (by exact .nm rfl rfl) (TriE.tuple (TriL.cons (by exact .nm rfl rfl) (TriL.cons (TriE.ords k (x := sentOf m) (by exact .nm rfl rfl) (.ok rfl (by decide +kernel)) rfl rfl rfl (by have : (sentOf m).length = (sentOf m).cps.toList.length := (Array.length_toList).symm; lia)) (TriL.cons TriE.int (TriL.cons (TriE.meth' (od := dInts m) (ds := [.int 0]) (by exact .nm rfl rfl) (TriL.cons TriE.int TriL.nil) getm_count_list fn_count_list) (TriL.cons (by exact .nm rfl rfl) (TriL.cons (TriE.callB k rfl rfl rfl (by decide) rfl KeepOk.builtin (TriL.cons (by exact .nm rfl rfl) TriL.nil) (fn_max_list c4)) TriL.nil)))))) (by show 6 ≤ sizeLine; decide)) f1) (truD_sound rfl) fun _ => ?_) ?_))
  · refine TriE.cmp' (a := .bool (decide (((wsScan (wsX m)).count.length : Int) ≤ 1))) (b := .bool (decide (maxI ([0] ++ frontOf m) = 0))) (TriE.attrInst k (io := none) (C := 301) (fs := [("raw", .str (wsX m)), ("n", .int (wsScan (wsX m)).n), ("nt", .int (wsScan (wsX m)).nt), ("norm", .tup [.tup ((wsScan (wsX m)).count.map .int), .int (wsScan (wsX m)).b]), ("is_simple", .bool (decide (((wsScan (wsX m)).count.length : Int) ≤ 1)))]) (by exact .nm rfl rfl) rfl rfl rfl rfl rfl) ?_ rfl
    exact TriE.cmp' (a := .int (maxI ([0] ++ frontOf m))) (b := .int 0) (TriE.callB k rfl rfl rfl (by decide) rfl KeepOk.builtin (TriL.cons (TriE.addL (xs := [0]) (ys := frontOf m) (TriE.list (TriL.cons TriE.int TriL.nil) (by show 1 ≤ sizeLine; decide)) (TriE.front (by exact .nm rfl rfl) (by lia)) (by show 1 + (frontOf m).length ≤ sizeLine; lia)) TriL.nil) (fn_max_list (by simp))) TriE.int rfl
  · rw [d4]
    simp
end
end Mine
end
section
open PySem.Calls
open Builtin
namespace Mine
section
variable {prog : Program} {w : World} {A : Around} {E : Value → Shared → Prop} {s : Shared} {b : Array UInt8} {t : Tok}
theorem next_bytes {it : Addr} {i : Nat} {c : UInt8} {Q : Value → Shared → Prop} (hit : KBw.IsBytesIter s.heap it b t i) (hx : b[i]? = some c)
    (hQ : ∀ h', KBw.IsBytesIter h' it b t (i + 1) → Heap.SameBut it s.heap h' → Q (.int (c.toNat : Int) s.toks) { s with heap := h', toks := s.toks + 1 }) : wpAny (model prog w) A (PySem.call (.builtin "next") [.ref it]) Q E s := by
  obtain ⟨o, ho, hc, hd⟩ := id hit
  refine call_function_entry (by decide +kernel) (by decide +kernel) kdk_entry_next (kdk_args_next _) ?_
  unfold Builtin.«next»
  refine wpAny_bind (m := someArgs "next" 1 2 _) (wpAny_of_eq (a := [Value.ref it]) (by first | rfl | kernel_rfl!) ?_)
  dsimp only
  refine wpAny_bind (wpAny_specialOf (name := PySem.Str.ofString "__next__") (KBw.iter_typeIs hit) KBw.slot_next.lookup ?_)
  refine wpAny_ite_split (fun hab => absurd hab (by decide)) (fun _ => ?_)
  refine wpAny_bind (wpAny_callSpecial?_slot (name := PySem.Str.ofString "__next__") (KBw.iter_typeIs hit) KBw.slot_next
    (wpAny_call_entry KBw.slot_next (KBw.iter_typeIs hit) KBw.entry_next ?_ (KBw.args_next _)))
  show wpAny _ _ (field (.ref it) 0 >>= _) _ _ s
  refine wpAny_bind (wpAny_field ho hd (x := .bytes b t) rfl ?_)
  show wpAny _ _ (if (Value.bytes b t == Value.none) = true then _ else _) _ _ s
  rw [if_neg (show ¬ ((Value.bytes b t == Value.none) = true) from Bool.false_ne_true)]
  show wpAny _ _ (field (.ref it) 1 >>= _) _ _ s
  refine wpAny_bind (wpAny_field ho hd (x := .int i 0) rfl ?_)
  refine wpAny_bind (wpAny_of_eq (a := b) rfl ?_)
  simp only [Int.toNat_natCast, hx]
  refine wpAny_bind (wpAny_setField ho hd (by simp) (wpAny_bind (wpAny_mkInt (wpAny_pure ⟨_, rfl, wpAny_pure ⟨_, rfl, hQ _ ?_ (Heap.SameBut.update ..)⟩⟩))))
  exact ⟨_, Heap.get?_update_self _ ho (Obj.isFreed_of_fields (Obj.data_mapFields hd _)), (Obj.cls_mapFields ..).trans hc, by
    rw [Obj.data_mapFields hd]; simp [rawInt]⟩
theorem next_bytes_end {it : Addr} {i : Nat} {Q : Value → Shared → Prop} (hh : A.handled = none) (hit : KBw.IsBytesIter s.heap it b t i) (hx : b[i]? = none)
    (hQ : ∀ h₁ h' e, Heap.SameBut it s.heap h₁ → Heap.MadeExcOf h₁ h' e (.type "StopIteration") [] → E (.ref e) { s with heap := h' }) : wpAny (model prog w) A (PySem.call (.builtin "next") [.ref it]) Q E s := by
  obtain ⟨o, ho, hc, hd⟩ := id hit
  refine call_function_entry (by decide +kernel) (by decide +kernel) kdk_entry_next (kdk_args_next _) ?_
  unfold Builtin.«next»
  refine wpAny_bind (m := someArgs "next" 1 2 _) (wpAny_of_eq (a := [Value.ref it]) (by first | rfl | kernel_rfl!) ?_)
  dsimp only
  refine wpAny_bind (wpAny_specialOf (name := PySem.Str.ofString "__next__") (KBw.iter_typeIs hit) KBw.slot_next.lookup ?_)
  refine wpAny_ite_split (fun hab => absurd hab (by decide)) (fun _ => ?_)
  refine wpAny_bind (wpAny_callSpecial?_slot (name := PySem.Str.ofString "__next__") (KBw.iter_typeIs hit) KBw.slot_next
    (wpAny_call_entry KBw.slot_next (KBw.iter_typeIs hit) KBw.entry_next ?_ (KBw.args_next _)))
  show wpAny _ _ (field (.ref it) 0 >>= _) _ _ s
  refine wpAny_bind (wpAny_field ho hd (x := .bytes b t) rfl ?_)
  show wpAny _ _ (if (Value.bytes b t == Value.none) = true then _ else _) _ _ s
  rw [if_neg (show ¬ ((Value.bytes b t == Value.none) = true) from Bool.false_ne_true)]
  show wpAny _ _ (field (.ref it) 1 >>= _) _ _ s
  refine wpAny_bind (wpAny_field ho hd (x := .int i 0) rfl ?_)
  refine wpAny_bind (wpAny_of_eq (a := b) rfl ?_)
  simp only [Int.toNat_natCast, hx]
  refine wpAny_bind (wpAny_rule (wpAny_bind (wpAny_setField ho hd (by simp) ?_)))
  show wpAny _ _ (newExc (.type "StopIteration") [] >>= _) _ _ _
  refine wpAny_bind ?_
  simp only [newExc, newTuple]
  refine wpAny_bind (wpAny_newObj_type ?_ (by size_fits))
  refine wpAny_bind (m := firstArgMember _ _) (wpAny_of_eq (a := Value.none) (by first | rfl | (simp only [firstArgMember]; rfl)) ?_)
  refine wpAny_newObj_type ?_ (by size_fits)
  simp only [raiseNew]
  refine wpAny_bind (wpAny_handled ?_)
  rw [show A.in1.in1.handled = none from hh]
  refine wpAny_bind (wpAny_pure (wpAny_throw ?_))
  have hown : ownMembersOf (Value.type "StopIteration") [] = #[] := by kernel_rfl
  rw [hown]
  refine hQ (s.heap.update it (Obj.mapFields fun x => x.setIfInBounds 0 Value.none)) _ _ (Heap.SameBut.update ..) ⟨fun b o q => Heap.get?_push_of_some _ (Heap.get?_push_of_some _ q), Heap.get?_none_of_le (by simp), (s.heap.update it (Obj.mapFields fun x => x.setIfInBounds 0 Value.none)).objs.size, ?_, Heap.get?_none_of_le (Nat.le_refl _), Heap.get?_push_of_some _ (Heap.get?_push_size _ rfl)⟩
  exact Heap.get?_push_size _ rfl
end
end Mine
end
section
open PySem.Calls
namespace Mine
noncomputable abbrev stopIt : Value := .type "StopIteration"
noncomputable def Frames (h : Heap) : List Env → Prop
  | [] => True
  | env :: r => env.scope.kind ≠ .module ∧ (∃ L m, env.frame = some L ∧ h.Ns L m) ∧ Frames h r
theorem Frames.fun_ {h : Heap} {as : List Addr} : ∀ {l : List Env}, Frames h l → (∀ env ∈ l, ∀ a, env.frame = some a → a ∈ as) → h.FunFrames (hideAll h as) l
  | [], _, _ => trivial
  | env :: r, ⟨hk, ⟨L, m, hf, o, es, ep, ho, hd, _⟩, hr⟩, hin => ⟨hk, ⟨L, o, hf, hideAll_none _ (hin env (.head _) L hf), ho, fun vs q => by rw [hd] at q; cases q⟩, hr.fun_ fun e he => hin e (.tail _ he)⟩
theorem Frames.mono {h h' : Heap} : ∀ {l : List Env}, Frames h l → (∀ env ∈ l, ∀ L m, env.frame = some L → h.Ns L m → ∃ m', h'.Ns L m') → Frames h' l
  | [], _, _ => trivial
  | env :: r, ⟨hk, ⟨L, m, hf, hn⟩, hr⟩, k => ⟨hk, ⟨L, _, hf, (k env (.head _) L m hf hn).choose_spec⟩, hr.mono fun e he => k e (.tail _ he)⟩
theorem Frames.mem {h : Heap} : ∀ {l : List Env}, Frames h l → ∀ {b}, b ∈ l.filterMap (·.frame) → ∃ m, h.Ns b m
  | [], _, b, hb => by simp at hb
  | env :: r, ⟨hk, ⟨L, m, hf, hn⟩, hr⟩, b, hb => by
    rw [List.filterMap_cons, hf] at hb
    rcases List.mem_cons.mp hb with rfl | hb
    · exact ⟨m, hn⟩
    · exact hr.mem hb
noncomputable def Kept (G : Heap) (X : Addr → Prop) (h : Heap) : Prop := ∀ b o, G.get? b = some o → ¬ X b → (∀ vs, o.data ≠ .fields vs) → ∃ sl, h.get? b = some { o with slots := sl }
theorem Kept.more {G X h h'} (a : Kept G X h) (u : h.UpToSlots h') : Kept G X h' := fun b o e n hd => by
  obtain ⟨sl, h1⟩ := a b o e n hd
  obtain ⟨sl', h2⟩ := u b _ h1 hd
  exact ⟨sl', h2⟩
noncomputable def Flown (G : Heap) (X : Addr → Prop) (l : List Env) (e : Addr) (h : Heap) : Prop :=
  ∃ base a0, (∀ b o, G.get? b = some o → ¬ X b → b ∉ l.filterMap (·.frame) → base.get? b = some o) ∧ Heap.FlyingW base l e stopIt a0 h ∧ Kept G X h
noncomputable def HeldX (G : Heap) (X : Addr → Prop) (l : List Env) (e L : Addr) (h : Heap) : Prop :=
  ∃ base a0, (∀ b o, G.get? b = some o → ¬ X b → b ∉ l.filterMap (·.frame) → base.get? b = some o) ∧ Heap.HeldW base l e stopIt a0 L h ∧ Kept G X h
theorem Flown.from_ {G G' X X' l e h} (a : Flown G X l e h) (k : ∀ b o, G'.get? b = some o → ¬ X' b → G.get? b = some o ∧ ¬ X b) : Flown G' X' l e h := by
  obtain ⟨base, a0, h1, h2, h3⟩ := a
  exact ⟨base, a0, fun b o e n m => h1 b o (k b o e n).1 (k b o e n).2 m, h2, fun b o e n hd => h3 b o (k b o e n).1 (k b o e n).2 hd⟩
theorem HeldX.from_ {G G' X X' l e L h} (a : HeldX G X l e L h) (k : ∀ b o, G'.get? b = some o → ¬ X' b → G.get? b = some o ∧ ¬ X b) : HeldX G' X' l e L h := by
  obtain ⟨base, a0, h1, h2, h3⟩ := a
  exact ⟨base, a0, fun b o e n m => h1 b o (k b o e n).1 (k b o e n).2 m, h2, fun b o e n hd => h3 b o (k b o e n).1 (k b o e n).2 hd⟩
section
variable {M : Model} {A : Around} {E : Value → Shared → Prop} {s : Shared} {env : Env} {outer : List Env} {L e : Addr} {G : Heap} {X : Addr → Prop}
theorem frames_in {l : List Env} : ∀ env ∈ l, ∀ a, env.frame = some a → a ∈ l.filterMap (·.frame) := fun env he a ha => List.mem_filterMap.mpr ⟨env, he, ha⟩
theorem note_made {h : Heap} {Q : Unit → Shared → Prop} (hfr : A.frames = some (env :: outer)) (hf : env.frame = some L) (hl : Frames h (env :: outer)) (hx : Heap.MadeExcOf h s.heap e stopIt [])
    (hQ : ∀ h', HeldX h (fun _ => False) (env :: outer) e L h' → Q () { s with heap := h' }) : wpAny M A (noteFrame (.ref e) env) Q E s := by
  obtain ⟨t, he, htn, ht⟩ := hx.there
  have hff := hl.fun_ (as := (env :: outer).filterMap (·.frame)) frames_in
  have hkb : (hideAll h ((env :: outer).filterMap (·.frame))).StaysIn h := fun b o q => of_hideAll _ q
  have hen : (hideAll h ((env :: outer).filterMap (·.frame))).get? e = none := by
    cases q : (hideAll h ((env :: outer).filterMap (·.frame))).get? e with
    | none => rfl
    | some o => have := of_hideAll _ q; rw [hx.new] at this; cases this
  unfold noteFrame
  simp only [hf]
  refine wpAny_bind (wpAny_field he rfl (x := .none) rfl ?_)
  rw [if_neg (by decide)]
  refine wpAny_entryW (a0 := .ref t) hfr (hff.of_keeps fun b o hb _ => ⟨o, hx.keeps b o hb, rfl⟩) hf he (fun b o hb => hx.keeps b o (hkb b o hb)) hen rfl (by simp) rfl fun h' hN => ?_
  obtain ⟨k1, k2, k3, k4⟩ := hN
  exact hQ h' ⟨_, _, fun b o q _ n => hideAll_get _ q n, ⟨k1, hen, k2, k3⟩, fun b o q _ hd => k4 b o (hx.keeps b o q) hd⟩
theorem leave_made {h : Heap} {Q : Unit → Shared → Prop} (hfr : A.frames = some (env :: outer)) (hf : env.frame = some L) (hl : Frames h (env :: outer)) (hx : Heap.MadeExcOf h s.heap e stopIt [])
    (hQ : ∀ h', Flown h (· = L) outer e h' → Q () { s with heap := h' }) : wpAny M A (leaving env (.ref e)) Q E s := by
  have hff := hl.fun_ (as := (env :: outer).filterMap (·.frame)) frames_in
  refine wpAny_leaves_madeW hfr hf (fun b o q => of_hideAll _ q) hff hx fun h' t k1 k2 k3 k4 => hQ h' ⟨_, _, fun b o q n m => hideAll_get _ q fun m' => ?_, k1, fun b o q n hd => k4 b o (hx.keeps b o q) hd⟩
  rw [List.filterMap_cons, hf] at m'
  rcases List.mem_cons.mp m' with h | h
  · exact n h
  · exact m h
theorem leave_heldX {Q : Unit → Shared → Prop} (hf : env.frame = some L) (hh : HeldX G X (env :: outer) e L s.heap) (hQ : ∀ h', Flown G (fun b => X b ∨ b = L) outer e h' → Q () { s with heap := h' }) : wpAny M A (leaving env (.ref e)) Q E s := by
  obtain ⟨base, a0, h1, h2, h3⟩ := hh
  unfold leaving
  refine wpAny_bind (wpAny_noteFrame_againW hf h2.2.2.2 ?_)
  refine wpAny_landsW h2 fun h' hfl u => ?_
  obtain ⟨k1, k2, ⟨_, _, k3⟩, k4⟩ := hfl
  refine hQ h' ⟨base, a0, fun b o q n m => h1 b o q (fun x => n (.inl x)) fun m' => ?_, ⟨k1, k2, k3, k4⟩, fun b o q n hd => (h3.more u) b o q (fun x => n (.inl x)) hd⟩
  rw [List.filterMap_cons, hf] at m'
  rcases List.mem_cons.mp m' with h | h
  · exact n (.inr h)
  · exact m h
theorem note_again {Q : Unit → Shared → Prop} {l : List Env} (hf : env.frame = some L) (hh : HeldX G X l e L s.heap) (hQ : Q () s) : wpAny M A (noteFrame (.ref e) env) Q E s := by
  obtain ⟨base, a0, h1, h2, h3⟩ := hh
  exact wpAny_noteFrame_againW hf h2.2.2.2 hQ
theorem note_flown {Q : Unit → Shared → Prop} (hfr : A.frames = some (env :: outer)) (hf : env.frame = some L) (hh : Flown G X (env :: outer) e s.heap) (hQ : ∀ h', HeldX G X (env :: outer) e L h' → Q () { s with heap := h' }) : wpAny M A (noteFrame (.ref e) env) Q E s := by
  obtain ⟨base, a0, h1, h2, h3⟩ := hh
  exact wpAny_looks_onW hfr hf h2 fun h' hh u => hQ h' ⟨base, a0, h1, hh, h3.more u⟩
theorem set_none {Q : Unit → Shared → Prop} {l : List Env} (hh : HeldX G X l e L s.heap) (hQ : ∀ h', Flown G X l e h' → Q () { s with heap := h' }) : wpAny M A (setFlight (.ref e) none) Q E s := by
  obtain ⟨base, a0, h1, h2, h3⟩ := hh
  exact wpAny_landsW h2 fun h' hfl u => hQ h' ⟨base, a0, h1, hfl, h3.more u⟩
theorem set_none' {Q : Unit → Shared → Prop} {l : List Env} (hh : Flown G X l e s.heap) (hQ : ∀ h', Flown G X l e h' → Q () { s with heap := h' }) : wpAny M A (setFlight (.ref e) none) Q E s := by
  obtain ⟨base, a0, h1, ⟨f1, f2, f3, f4⟩, h3⟩ := hh
  exact wpAny_setFlight_noneW f1 f3 f4.at fun h' k1 k2 k3 k4 => hQ h' ⟨base, a0, h1, ⟨k1, f2, k2, k3⟩, h3.more fun b o q hd => ⟨o.slots, k4 b o q hd⟩⟩
theorem set_held {Q : Unit → Shared → Prop} {l : List Env} (hh : HeldX G X l e L s.heap) (hQ : ∀ h', HeldX G X l e L h' → Q () { s with heap := h' }) : wpAny M A (setFlight (.ref e) (some L)) Q E s := by
  obtain ⟨base, a0, h1, ⟨hkb, hen, hl, oe, vs, T, oT, ts, he, hcls, hd, hv1, hnT, hTe, hT, hdT, hv3⟩, h3⟩ := hh
  have hsz3 : 3 < ts.size := (Array.getElem?_eq_some_iff.mp hv3).1
  have other : ∀ b, b ≠ T → (s.heap.update T (Obj.mapFields (·.setIfInBounds 3 ((some L).elim Value.none fun f => rawInt f)))).get? b = s.heap.get? b :=
    fun b hb => Heap.get?_update_other _ _ (Ne.symm hb)
  have noRecord : ∀ b o, s.heap.get? b = some o → (∀ vs, o.data ≠ .fields vs) → b ≠ T := fun b o hb hnf q => by
    rw [q, hT] at hb; injection hb with hb; subst hb; exact hnf ts hdT
  unfold setFlight
  refine wpAny_bind (wpAny_field he hd hv1 ?_)
  rw [if_pos (show (Value.ref T != Value.none) = true from by simp)]
  refine wpAny_setField hT hdT hsz3 (hQ _ ⟨base, a0, h1, ⟨fun b o hbo => (other b fun q => by rw [q, hnT] at hbo; cases hbo).trans (hkb b o hbo), hen,
    hl.of_keeps fun b o hb hnf => ⟨o, (other b (noRecord b o hb hnf)).trans hb, rfl⟩, ?_⟩, h3.more fun b o hb hnf => ⟨o.slots, (other b (noRecord b o hb hnf)).trans hb⟩⟩)
  exact ⟨oe, vs, T, _, _, (other e (Ne.symm hTe)).trans he, hcls, hd, hv1, hnT, hTe, Heap.get?_update_self _ hT (Obj.isFreed_of_fields (Obj.data_mapFields hdT _)), Obj.data_mapFields hdT _, by simp [hsz3]⟩
theorem came_back {l : List Env} (hf : env.frame = some L) (hh : HeldX G X l e L s.heap) (hQ : ∀ h', HeldX G X l e L h' → E (.ref e) { s with heap := h' }) : cameBackBy M A env E (.ref e) s := by
  obtain ⟨base, a0, h1, ⟨hkb, hen, hl, oe, vs, T, oT, ts, he, hcls, hd, hv1, hr⟩, h3⟩ := id hh
  unfold cameBackBy
  refine wpAny_bind (wpAny_field he hd hv1 ?_)
  rw [if_neg (show ¬ ((Value.ref T == Value.none) = true) from by simp)]
  rw [hf]
  exact set_held hh hQ
end
end Mine
end
section
namespace Mine
section
variable {W : Wo} {n : Nat} {ns : Names} {ρ : Rho} {μ : Mu}
theorem callCellsB {prog : Program} {w : World} {A : Around} {s : Shared} {R : Result → Shared → Prop} {a : Addr} {o : Obj} {fd : FuncData} {body : List Stmt} {vals : List Value} {binds : List (PySem.Str × Value)}
    (hroom : A.depth < recursionLimit) (ho : s.heap.get? a = some o) (hdata : o.data = .func fd) (hlim : s.heap.NoLimit) (hcd : s.heap.CodeRec fd.code fd.qualname)
    (hbody : fd.body = .stmts body) (hbind : BindsTo s fd ⟨vals, []⟩ binds) (hclo : fd.closure = [])
    (hkind : ∀ x ∈ binds, fd.scope.names.lookup x.1 = some .local ∨ (fd.scope.names.lookup x.1 = some .cell ∧ ((cellsFrom (s.heap.objs.size + 1) fd.scope.names []).lookup x.1).isSome = true))
    (h : ∀ s₁, InCallC s (callEnvC fd s.heap.objs.size a).locals (bindL (callEnvC fd s.heap.objs.size a).kindOf binds fun _ => none) (callEnvC fd s.heap.objs.size a).cells
        (bindC (callEnvC fd s.heap.objs.size a).kindOf binds fun _ => none) s₁ →
      wpAny (model prog w) (A.deeper (callEnvC fd s.heap.objs.size a)) (execs body (callEnvC fd s.heap.objs.size a)) (fun f s' => R (.ok (.ret (match f with | .ret v => v | _ => .none))) s')
        (fun e s' => wpAny (model prog w) (A.deeper (callEnvC fd s.heap.objs.size a)) (leaving (callEnvC fd s.heap.objs.size a) e) (fun _ s'' => R (.error e) s'') (fun e' s'' => R (.error e') s'') s') s₁)
    (hco : fd.scope.isCoroutine = false) (hgen : fd.scope.isGenerator = false) (hk : fd.scope.kind = .function) :
    codeAny (model prog w) A (.call (.ref a) ⟨vals, []⟩) R s := by
  refine codeAny_call_function hroom ho hdata hco hgen hbody hcd (hbind _ _ _ _ ?_)
  rw [hclo]
  refine wpAny_newFunctionEnv_cells hk hkind fun env he s' x => ?_
  subst he
  exact ⟨hlim.keeps x.toInCall.keep, codeAny_func (h s' x)⟩
theorem defEnterX (k : Kit W) {A : Around} {g g₀ : View} {s s₀ : Shared} {F : List Addr} {a : Addr} {o : Obj} {fd : FuncData} {body : List Stmt} {xs : List PySem.Str} {vs : List Value} {R : Result → Shared → Prop} {ρ : Rho} (hA : Room (n + 1) A) (G : Good W.hs g s) (st0 : Step g₀ s₀ g s) (hF : ∀ b ∈ F, ∃ o, s.heap.get? b = some o)
    (ho : (KK W).lookup a = some o) (hdata : o.data = .func fd)
    (hcd : ∃ c oc vs t, fd.code = .ref c ∧ (KK W).lookup c = some oc ∧ oc.data = .fields vs ∧ vs[1]? = some (.str fd.qualname t))
    (hbody : fd.body = .stmts body) (hbind : BindsTo s fd ⟨vs, []⟩ (xs.zip vs)) (hlv : vs.length = xs.length)
    (hsh : fd.closure = [] ∧ fd.globals = mainGlobals ∧ fd.builtins = builtinsNs ∧ fd.scope.isCoroutine = false ∧ fd.scope.isGenerator = false ∧ fd.scope.kind = .function)
    (hok : okNames fd.scope.names xs = true) (hρ : ∀ x d, ρ.lookup x = some d → ∃ v, (x, v) ∈ xs.zip vs ∧ Rep g v d)
    (h : ∀ env s₁, env.frame = some env.locals ∧ env.code = fd.code → Fra W n (A.deeper env) env fd.scope.names ρ none g₀ s₀ F g s₁ → Step g s g s₁ → s.heap.get? env.locals = none →
      wpAny W.M (A.deeper env) (execs body env) (fun f s' => R (.ok (.ret (match f with | .ret v => v | _ => .none))) s')
        (fun e s' => wpAny W.M (A.deeper env) (leaving env e) (fun _ s'' => R (.error e) s'') (fun e' s'' => R (.error e') s'') s') s₁) :
    codeAny W.M A (.call (.ref a) ⟨vs, []⟩) R s := by
  obtain ⟨c, oc, vs', t, h1, h2, h3, h4⟩ := hcd
  obtain ⟨hclo, hg, hb, hco, hgen, hk⟩ := hsh
  unfold okNames at hok
  rw [Bool.and_eq_true, Bool.and_eq_true] at hok
  obtain ⟨⟨k1, k2⟩, k3⟩ := hok
  have hkinds : ∀ x ∈ xs, fd.scope.names.lookup x = some .local ∨ fd.scope.names.lookup x = some .cell := fun x hx => by simpa using List.all_eq_true.mp k1 x hx
  have hfree : ∀ p ∈ fd.scope.names, p.2 ≠ NameKind.free := fun p hp => by simpa using List.all_eq_true.mp k2 p hp
  have hnd : xs.Nodup := of_decide_eq_true k3
  have O := k.ok
  have k₀ : ∀ b o, W.hs.get? b = some o → s.heap.get? b = some o := fun b o q => G.sub _ _ (G.stat _ _ q)
  have hkind : ∀ x ∈ xs.zip vs, fd.scope.names.lookup x.1 = some .local ∨ (fd.scope.names.lookup x.1 = some .cell ∧ ((cellsFrom (s.heap.objs.size + 1) fd.scope.names []).lookup x.1).isSome = true) := fun x hx => by
    have hx1 : x.1 ∈ xs := (List.of_mem_zip hx).1
    rcases hkinds x.1 hx1 with h | h
    · exact .inl h
    · refine .inr ⟨h, ?_⟩
      obtain ⟨c, hc⟩ := @cellsFrom_has x.1 fd.scope.names (s.heap.objs.size + 1) [] (mem_of_lookup h)
      obtain ⟨c', hc'⟩ := lookup_some_of_mem hc
      rw [hc']; rfl
  have hdep := hA.depth
  refine callCellsB (by have : recursionLimit = 1000 := rfl; omega) (k₀ _ _ (k.K _ _ ho)) hdata (O.lim.keeps k₀) (Heap.CodeRec.keeps ⟨c, oc, vs', t, h1, k.K _ _ h2, h3, h4⟩ k₀) hbody hbind hclo hkind (fun s₁ x => ?_) hco hgen hk
  have hnn : ((xs.zip vs).map (·.1)).Nodup := by rw [List.map_fst_zip (by omega)]; exact hnd
  have keep := x.toInCall.keep
  have hLf : s.heap.get? (callEnvC fd s.heap.objs.size a).locals = none := Heap.get?_none_of_le x.toInCall.fresh
  have hcf : ∀ y c, (callEnvC fd s.heap.objs.size a).cells.lookup y = some c → s.heap.get? c = none := fun y c h => Heap.get?_none_of_le (Nat.le_of_lt (Nat.lt_of_le_of_lt x.toInCall.fresh (x.above y c (mem_of_lookup h))))
  have back : ∀ b, s.heap.get? b = none → s₀.heap.get? b = none := fun b hb => by
    cases q : s₀.heap.get? b with
    | none => rfl
    | some o => rw [st0.keep _ _ q] at hb; cases hb
  have st : Step g s g s₁ := by
    obtain ⟨h', tk, e⟩ := x.toInCall.same
    subst e
    exact Step.keeps G keep
  have hkof : ∀ y, (callEnvC fd s.heap.objs.size a).kindOf y = fd.scope.names.lookup y := fun y => rfl
  have nfree : ∀ y, fd.scope.names.lookup y ≠ some .free := fun y h => hfree _ (mem_of_lookup h) rfl
  have cx : Cx W n (A.deeper (callEnvC fd s.heap.objs.size a)) (callEnvC fd s.heap.objs.size a) fd.scope.names ρ g s₁ := by
    refine ⟨hA.deeper, st.good G, rfl, hk, hg, hb, G.fresh hLf, fun y hy => ?_, fun y c hy => G.fresh (hcf y c hy), fun y c hy => ⟨_, x.cell y c hy⟩, fun y z c hy hz => name_of_addr x.apart (mem_of_lookup hy) (mem_of_lookup hz), ⟨_, x.toInCall.ns, fun y e he hy => ?_⟩, fun y e he hy => ?_⟩
    · rcases hy with hy | hy
      · obtain ⟨c, hc⟩ := @cellsFrom_has y fd.scope.names (s.heap.objs.size + 1) [] (mem_of_lookup hy)
        obtain ⟨c', hc'⟩ := lookup_some_of_mem hc
        exact ⟨c', _, hc', x.cell y c' hc'⟩
      · exact absurd hy (nfree y)
    · obtain ⟨v, hv, hr⟩ := hρ y e he
      exact ⟨v, bindL_has ((hkof y).trans hy) hnn hv, hr⟩
    · rcases hy with hy | hy
      · obtain ⟨c, hc⟩ := @cellsFrom_has y fd.scope.names (s.heap.objs.size + 1) [] (mem_of_lookup hy)
        obtain ⟨c', hc'⟩ := lookup_some_of_mem hc
        obtain ⟨v, hv, hr⟩ := hρ y e he
        refine ⟨c', v, hc', ?_, hr⟩
        have := x.cell y c' hc'
        rw [bindC_has ((hkof y).trans hy) hnn hv] at this
        exact this
      · exact absurd hy (nfree y)
  refine h _ s₁ ⟨rfl, rfl⟩ ⟨cx, st0.trans st, back _ hLf, fun y c hy => back _ (hcf y c hy), fun _ _ e => (by cases e), fun hm => ?_, fun y a hy hm => ?_, fun b hb => ?_⟩ st hLf
  · obtain ⟨o, q⟩ := hF _ hm
    rw [hLf] at q; cases q
  · obtain ⟨o, q⟩ := hF _ hm
    rw [hcf y a hy] at q; cases q
  · obtain ⟨o, q⟩ := hF b hb
    exact ⟨o, keep _ _ q⟩
theorem FnE.ofX (k : Kit W) {a : Addr} {o : Obj} {fd : FuncData} {body : List Stmt} {xs : List PySem.Str} {ds : List D} {d : D} (ho : (KK W).lookup a = some o) (hdata : o.data = .func fd)
    (hcd : ∃ c oc vs t, fd.code = .ref c ∧ (KK W).lookup c = some oc ∧ oc.data = .fields vs ∧ vs[1]? = some (.str fd.qualname t))
    (hbody : fd.body = .stmts body) (hbind : ∀ s : Shared, (KK W).In s.heap → ∀ vs, vs.length = xs.length → BindsTo s fd ⟨vs, []⟩ (xs.zip vs)) (hlen : ds.length = xs.length)
    (hsh : fd.closure = [] ∧ fd.globals = mainGlobals ∧ fd.builtins = builtinsNs ∧ fd.scope.isCoroutine = false ∧ fd.scope.isGenerator = false ∧ fd.scope.kind = .function)
    (hok : okNames fd.scope.names xs = true) (hT : TriSS W n fd.scope.names (xs.zip ds) none body (.ret d)) : FnE W n (.ref a) ds d := fun A g s E vs R G r => by
  have hlv : vs.length = xs.length := r.length.trans hlen
  refine wpAny_call (defEnterX k (F := []) (R := fun r s' => match r with | .ok (.ret v) => Res g s d v s' | .ok _ => False | .error e => E e s') R G (Step.refl G) (fun b hb => by cases hb) ho hdata hcd hbody (hbind s (k.here G) vs hlv) hlv hsh hok (fun x d h => zip_rep r h) fun env s₁ _ f st hL => ?_)
  refine hT _ _ g s [] g s₁ _ _ f fun fl g' s' sf ⟨v, e, rr, f'⟩ => ?_
  subst e
  exact ⟨g', f'.st, rr⟩
noncomputable def ItRem (h : Heap) (I : Addr) (r : List Int) : Prop := ∃ bs t i, KBw.IsBytesIter h I bs t i ∧ r = (KBw.bInts bs).drop i
theorem ItRem.keeps {h h' : Heap} {I r} (a : ItRem h I r) (k : ∀ o, h.get? I = some o → h'.get? I = some o) : ItRem h' I r := by
  obtain ⟨bs, t, i, ⟨o, h1, h2⟩, h3⟩ := a
  exact ⟨bs, t, i, ⟨o, k o h1, h2⟩, h3⟩
theorem ItRem.get {h : Heap} {I r} (a : ItRem h I r) : ∃ o, h.get? I = some o ∧ o.cls = .type "bytes_iterator" ∧ ∃ vs, o.data = .fields vs := by
  obtain ⟨bs, t, i, ⟨o, h1, h2, h3⟩, _⟩ := a
  exact ⟨o, h1, h2, _, h3⟩
theorem ItRem.neNs {h : Heap} {I r L m} (a : ItRem h I r) (hn : h.Ns L m) : L ≠ I := by
  rintro rfl
  obtain ⟨o, h1, _, vs, h2⟩ := a.get
  obtain ⟨o', es, ep, h3, h4, _⟩ := hn
  rw [h1] at h3; cases h3
  rw [h2] at h4; cases h4
theorem ItRem.neCell {h : Heap} {I r c} {v : Option Value} (a : ItRem h I r) (hn : h.IsCell c v) : c ≠ I := by
  rintro rfl
  obtain ⟨o, h1, _, vs, h2⟩ := a.get
  obtain ⟨o', h3, h4⟩ := hn
  rw [h1] at h3; cases h3
  rw [h2] at h4; cases h4
theorem ItRem.neList {h : Heap} {I r L ys} (a : ItRem h I r) (hn : h.PlainList L ys) : L ≠ I := by
  rintro rfl
  obtain ⟨o, h1, _, vs, h2⟩ := a.get
  obtain ⟨k, h3⟩ := hn
  rw [h1] at h3; cases h3
  cases h2
theorem Frames.sameBut {h h' : Heap} {I r} {l : List Env} (hl : Frames h l) (a : ItRem h I r) (hs : Heap.SameBut I h h') : Frames h' l :=
  hl.mono fun env _ L m _ hn => ⟨m, hn.sameBut hs (a.neNs hn)⟩
theorem Frames.keeps {h h' : Heap} {l : List Env} (hl : Frames h l) (k : ∀ b o, h.get? b = some o → (∀ vs, o.data ≠ .fields vs) → h'.get? b = some o) : Frames h' l :=
  hl.mono fun env _ L m _ hn => ⟨m, hn.at' fun o e => k _ _ e (by obtain ⟨o', es, ep, h1, h2, _⟩ := hn; rw [h1] at e; cases e; intro vs q; rw [h2] at q; cases q)⟩
structure VSt (W : Wo) (n : Nat) (A : Around) (env : Env) (ns : Names) (ρ : Rho) (μ : Mu) (g₀ : View) (s₀ : Shared) (I : Addr) (r : List Int) (g : View) (s : Shared) : Prop where
  fra : Fra W n A env ns ρ μ g₀ s₀ [I] g s
  it : ItRem s.heap I r
  new : s₀.heap.get? I = none
  hid : g I = none
theorem VSt.step {A env g₀ s₀ I r g s g' s'} (v : VSt W n A env ns ρ μ g₀ s₀ I r g s) (a : Step g s g' s') : VSt W n A env ns ρ μ g₀ s₀ I r g' s' :=
  ⟨v.fra.step a, v.it.keeps fun o e => a.keep _ _ e, v.new, by
    cases q : g' I with
    | none => rfl
    | some o =>
      rcases a.fresh _ _ q with h | h
      · rw [v.hid] at h; cases h
      · obtain ⟨o', h1, _⟩ := v.it.get
        rw [h1] at h; cases h⟩
theorem VSt.safe {A env g₀ s₀ I r g s g' s'} {ρ' : Rho} {μ' : Mu} (v : VSt W n A env ns ρ μ g₀ s₀ I r g s) (sf : SafeF [I] g s g' s') (f : Fra W n A env ns ρ' μ' g₀ s₀ [I] g' s') : VSt W n A env ns ρ' μ' g₀ s₀ I r g' s' :=
  ⟨f, v.it.keeps fun o e => sf.keep I (List.mem_singleton.mpr rfl) o e, v.new, sf.hid I (List.mem_singleton.mpr rfl) v.hid⟩
theorem VSt.tri {A env g₀ s₀ I r g s} {E : Value → Shared → Prop} {st : Stmt} {sts : List Stmt} {ρ' : Rho} {μ' : Mu} {Q : Flow → Shared → Prop} (v : VSt W n A env ns ρ μ g₀ s₀ I r g s) (h : TriS W n ns ρ μ st (.next ρ' μ'))
    (k : ∀ g' s', VSt W n A env ns ρ' μ' g₀ s₀ I r g' s' → wpAny W.M A (execs sts env) Q E s') : wpAny W.M A (execs (st :: sts) env) Q E s :=
  wpAny_execs_cons (h A env g₀ s₀ [I] g s _ E v.fra fun fl g' s' sf ⟨e, f'⟩ => by subst e; exact k g' s' (v.safe sf f'))
theorem Fra.butIt {A env g₀ s₀ I r g s} {h' : Heap} {tk : Nat} (f : Fra W n A env ns ρ μ g₀ s₀ [I] g s) (it : ItRem s.heap I r) (hc : s₀.heap.get? I = none) (hg : g I = none) (hs : Heap.SameBut I s.heap h') (hl : ∃ o, h'.get? I = some o) :
    Fra W n A env ns ρ μ g₀ s₀ [I] g { s with heap := h', toks := tk } := by
  have lw : ∀ b ∈ [I], g b = none := fun b hb => List.mem_singleton.mp hb ▸ hg
  have kk : ∀ b o, b ∉ [I] → s.heap.get? b = some o → h'.get? b = some o := fun b o hb e => (hs.2 b fun e' => hb (by simp [e'])).trans e
  have wf : ∀ b ∈ [I], s₀.heap.get? b = none := fun b hb => List.mem_singleton.mp hb ▸ hc
  refine { cx := f.cx.but f.offL f.offC lw kk, st := Step.drop f.cx.good f.st wf lw kk, loc := f.loc, cel := f.cel, offL := f.offL, offC := f.offC, live := fun b hb => List.mem_singleton.mp hb ▸ hl, own := fun z zs e => ?_ }
  obtain ⟨h1, h2, L, m', h3, h4, h5, h6, h7⟩ := f.own z zs e
  obtain ⟨ys, hp, hr, hn⟩ := h5
  have hLI : L ∉ [I] := h7
  obtain ⟨k, hp⟩ := hp
  exact ⟨h1, h2, L, m', h3.at' fun o e => kk _ _ f.offL e, h4, ⟨ys, ⟨k, kk _ _ hLI hp⟩, hr, hn⟩, h6, h7⟩
theorem evalCall1 (O : W.Ok) {A env g s} {E : Value → Shared → Prop} {x : PySem.Str} {p pos : Pos} {f : Value} {e : Expr} {d : D} {Q : Value → Shared → Prop} (c : Cx W (n + 1) A env ns ρ g s) (hc : Callee W ns x f) (he : TriE W (n + 1) ns ρ e d)
    (h : ∀ v g₁ s₁, Step g s g₁ s₁ → Rep g₁ v d → wpAny W.M A (PySem.call f [v]) Q E s₁) (hs : ∀ env, starEach [e] env = [(false, eval e env)] := by intro _; rfl) : wpAny W.M A (eval (.Call (.Name x p) [e] [] pos) env) Q E s := by
  show wpAny _ A (do callWith pos (← eval (.Name x p) env) [] (backTo pos (starEach [e] env)) []) _ E s
  refine wpAny_bind (nameGlobal O c hc ?_)
  refine callWith_of (P := fun h => ∀ b o, W.hs.get? b = some o → h.get? b = some o) (by rw [backTo_any, hs]; rfl) hc.keep ?_
  refine wp_mono' (evalArgsR c (TriL.cons he TriL.nil (fun env => by rw [hs]; rfl)) (by rw [hs]; rfl)) fun a s₁ ⟨e', g₁, st₁, r₁⟩ => ?_
  have G := (c.step st₁).good
  refine ⟨fun b o q => G.sub _ _ (G.stat _ _ q), ?_⟩
  rw [e']
  obtain ⟨v, r', ev, h1, h2⟩ := repL_cons.mp r₁
  cases repL_nil.mp h2
  rw [List.nil_append, ev]
  exact h v g₁ s₁ st₁ h1
theorem VSt.next (k : Kit W) {A env g₀ s₀ I c r g s} {E : Value → Shared → Prop} {y : PySem.Str} {p q pos : Pos} {Q : Value → Shared → Prop} (v : VSt W (n + 1) A env ns ρ μ g₀ s₀ I (c :: r) g s) (hk : ns.lookup ("next" : PySem.Str) = some .globalImplicit) (hy : TriE W (n + 1) ns ρ (.Name y q) (.ptr I))
    (h : ∀ g' s' t, VSt W (n + 1) A env ns ρ μ g₀ s₀ I r g' s' → Q (.int c t) s') : wpAny W.M A (eval (.Call (.Name "next" p) [.Name y q] [] pos) env) Q E s := by
  refine evalCall1 k.ok v.fra.cx (k.builtin hk rfl rfl (by decide) rfl KeepOk.builtin) hy fun u g₁ s₁ st r₁ => ?_
  cases rep_ptr.mp r₁
  have v₁ := v.step st
  obtain ⟨bs, t, i, hi, hr⟩ := v₁.it
  have hx : (KBw.bInts bs)[i]? = some c := by
    have := congrArg List.head? hr
    rw [List.head?_drop] at this
    exact this.symm
  have hx' : ∃ u, bs[i]? = some u ∧ (u.toNat : Int) = c := by
    unfold KBw.bInts at hx
    rw [List.getElem?_map, Array.getElem?_toList] at hx
    obtain ⟨u, h1, h2⟩ := Option.map_eq_some_iff.mp hx
    exact ⟨u, h1, h2⟩
  obtain ⟨u, h1, rfl⟩ := hx'
  refine next_bytes hi h1 fun h' hi' hs' => h g₁ _ _ ⟨v₁.fra.butIt v₁.it v₁.new v₁.hid hs' (let ⟨o, ho, _⟩ := hi'; ⟨o, ho⟩), ⟨bs, t, i + 1, hi', ?_⟩, v₁.new, v₁.hid⟩
  have := congrArg List.tail hr
  rw [List.tail_drop] at this
  exact this
theorem VSt.stop (k : Kit W) {A env g₀ s₀ I g s} {E : Value → Shared → Prop} {y : PySem.Str} {p q pos : Pos} {Q : Value → Shared → Prop} (v : VSt W (n + 1) A env ns ρ μ g₀ s₀ I [] g s) (hk : ns.lookup ("next" : PySem.Str) = some .globalImplicit) (hy : TriE W (n + 1) ns ρ (.Name y q) (.ptr I))
    (h : ∀ s' h₁ e, (∀ b o, s₀.heap.get? b = some o → h₁.get? b = some o) → (∃ m, h₁.Ns env.locals m) → s'.gens = s.gens ∧ s'.drawn = s.drawn ∧ s'.os = s.os → Heap.MadeExcOf h₁ s'.heap e stopIt [] → E (.ref e) s') : wpAny W.M A (eval (.Call (.Name "next" p) [.Name y q] [] pos) env) Q E s := by
  refine evalCall1 k.ok v.fra.cx (k.builtin hk rfl rfl (by decide) rfl KeepOk.builtin) hy fun u g₁ s₁ st r₁ => ?_
  cases rep_ptr.mp r₁
  have v₁ := v.step st
  obtain ⟨bs, t, i, hi, hr⟩ := v₁.it
  have hx : bs[i]? = none := by
    have : (KBw.bInts bs)[i]? = none := by
      have := congrArg List.head? hr
      rw [List.head?_drop] at this
      exact this.symm
    unfold KBw.bInts at this
    rw [List.getElem?_map, Array.getElem?_toList, Option.map_eq_none_iff] at this
    exact this
  refine next_bytes_end v.fra.cx.room.handled hi hx fun h₁ h' e hs hm => h _ h₁ e (fun b o q => ?_) ?_ st.rest hm
  · have : b ≠ I := by rintro rfl; rw [v.new] at q; cases q
    exact (hs.2 b this).trans (v₁.fra.st.keep _ _ q)
  · obtain ⟨m, hm, _⟩ := v₁.fra.cx.en.loc
    exact ⟨m, hm.sameBut hs (v₁.it.neNs hm)⟩
end
end Mine
end
section
namespace Mine
inductive VRes where
  | ok (v : Int) (r : List Int)
  | stop
  | bad
noncomputable def vgo (val b : Int) : List Int → VRes
  | [] => if Builtin.bitAnd b 64 != 0 then (if val.natAbs < 2 ^ 64 then .stop else .bad) else .ok val []
  | b' :: r => if Builtin.bitAnd b 64 != 0 then (if val.natAbs < 2 ^ 64 then vgo (Builtin.bitOr (val * 2 ^ 6) (Builtin.bitAnd b' 63)) b' r else .bad) else .ok val (b' :: r)
noncomputable def varint : List Int → VRes
  | [] => .stop
  | b :: r => vgo (Builtin.bitAnd b 63) b r
section
variable {W : Wo} {n : Nat} {ns : Names} {ρ : Rho} {μ : Mu}
theorem VSt.sub {A env g₀ s₀ I r g s} {ρ' : Rho} (v : VSt W n A env ns ρ μ g₀ s₀ I r g s) (h : SubR ρ' ρ) : VSt W n A env ns ρ' μ g₀ s₀ I r g s := ⟨v.fra.sub h, v.it, v.new, v.hid⟩
theorem assignW {A env g₀ s₀ F g s} {E : Value → Shared → Prop} {x : PySem.Str} {e : Expr} {p pos : Pos} {Q : Flow → Shared → Prop} (f : Fra W n A env ns ρ μ g₀ s₀ F g s) (hk : OwnK ns x)
    (h : wpAny W.M A (eval e env) (fun v s₁ => ∃ d g₁, Fra W n A env ns ρ μ g₀ s₀ F g₁ s₁ ∧ Rep g₁ v d ∧ ∀ s₂, SafeF F g₁ s₁ g₁ s₂ → s₂.gens = s₁.gens ∧ s₂.drawn = s₁.drawn ∧ s₂.os = s₁.os → Fra W n A env ns ((x, d) :: ρ) (lose μ x) g₀ s₀ F g₁ s₂ → Q .next s₂) E s)
    (hs : ∀ env, EnvIs ns env → swapsWith e (some (.Name x p)) pos.line env = pure false) : wpAny W.M A (exec (.Assign [.Name x p] e pos) env) Q E s := by
  refine wpAny_Assign_Name (wp_mono' h fun v s₁ ⟨d, g₁, f₁, r₁, hq⟩ => ?_) (hs env f.cx.envIs)
  refine storeR f₁.cx r₁ hk fun s₂ st₂ k₂ c₂ => ?_
  obtain ⟨f₂, sf₂⟩ := f₁.bound (bs := [(x, d)]) (μ' := lose μ x) (st₂.mono fun b hb => ⟨x, by simp, hb⟩) k₂ c₂ lose_ok
  exact hq s₂ sf₂ st₂.rest f₂
theorem VSt.nextTo (k : Kit W) {A env g₀ s₀ I c r g s} {E : Value → Shared → Prop} {x y : PySem.Str} {px p q pos cpos : Pos} {sts : List Stmt} {Q : Flow → Shared → Prop} (v : VSt W (n + 1) A env ns ρ μ g₀ s₀ I (c :: r) g s) (hk : ns.lookup ("next" : PySem.Str) = some .globalImplicit) (hy : TriE W (n + 1) ns ρ (.Name y q) (.ptr I)) (hx : OwnK ns x)
    (h : ∀ g' s', VSt W (n + 1) A env ns ((x, .int c) :: ρ) (lose μ x) g₀ s₀ I r g' s' → wpAny W.M A (execs sts env) Q E s')
    (hs : ∀ env, EnvIs ns env → swapsWith (.Call (.Name "next" p) [.Name y q] [] cpos) (some (.Name x px)) pos.line env = pure false := by intro _ _; rfl) : wpAny W.M A (execs (.Assign [.Name x px] (.Call (.Name "next" p) [.Name y q] [] cpos) pos :: sts) env) Q E s :=
  wpAny_execs_cons (assignW v.fra hx (v.next k hk hy fun g' s' t v' => ⟨.int c, g', v'.fra, rep_int.mpr ⟨t, rfl⟩, fun s₂ sf rest f₂ => h g' s₂ (v'.safe sf f₂)⟩) hs)
theorem VSt.stopTo (k : Kit W) {A env g₀ s₀ I g s} {E : Value → Shared → Prop} {x y : PySem.Str} {px p q pos cpos : Pos} {sts : List Stmt} {Q : Flow → Shared → Prop} (v : VSt W (n + 1) A env ns ρ μ g₀ s₀ I [] g s) (hk : ns.lookup ("next" : PySem.Str) = some .globalImplicit) (hy : TriE W (n + 1) ns ρ (.Name y q) (.ptr I)) (hx : OwnK ns x)
    (h : ∀ s' h₁ e, (∀ b o, s₀.heap.get? b = some o → h₁.get? b = some o) → (∃ m, h₁.Ns env.locals m) → s'.gens = s.gens ∧ s'.drawn = s.drawn ∧ s'.os = s.os → Heap.MadeExcOf h₁ s'.heap e stopIt [] → E (.ref e) s')
    (hs : ∀ env, EnvIs ns env → swapsWith (.Call (.Name "next" p) [.Name y q] [] cpos) (some (.Name x px)) pos.line env = pure false := by intro _ _; rfl) : wpAny W.M A (execs (.Assign [.Name x px] (.Call (.Name "next" p) [.Name y q] [] cpos) pos :: sts) env) Q E s :=
  wpAny_execs_cons (assignW v.fra hx (v.stop k hk hy h) hs)
theorem vgo_end' {val b : Int} (r : List Int) (h : (Builtin.bitAnd b 64 != 0) = false) : vgo val b r = .ok val r := by
  cases r with
  | nil => exact (if_neg (by rw [h]; exact Bool.false_ne_true))
  | cons x y => exact (if_neg (by rw [h]; exact Bool.false_ne_true))
theorem vgo_more {val b : Int} {r : List Int} (hb : vgo val b r ≠ .bad) (h : (Builtin.bitAnd b 64 != 0) = true) : val.natAbs < 2 ^ 64 ∧ (r = [] → vgo val b r = .stop) ∧ ∀ x y, r = x :: y → vgo (Builtin.bitOr (val * 2 ^ 6) (Builtin.bitAnd x 63)) x y = vgo val b r := by
  cases r with
  | nil =>
    by_cases q : val.natAbs < 2 ^ 64
    · exact ⟨q, fun _ => (if_pos h).trans (if_pos q), fun _ _ e => nomatch e⟩
    · exact absurd ((if_pos h).trans (if_neg q)) hb
  | cons x y =>
    by_cases q : val.natAbs < 2 ^ 64
    · exact ⟨q, fun e => (nomatch e), fun _ _ e => by cases e; exact ((if_pos h).trans (if_pos q)).symm⟩
    · exact absurd ((if_pos h).trans (if_neg q)) hb
set_option maxHeartbeats 2000000 in
theorem call_varint (k : Kit W) {A : Around} {g : View} {s : Shared} {E Q : Value → Shared → Prop} {I : Addr} {r : List Int} {l : List Env} (R : Room (n + 3) A) (G : Good W.hs g s) (hfr : A.frames = some l) (hl : Frames s.heap l) (hI : ItRem s.heap I r) (hg : g I = none) (hb : varint r ≠ .bad)
    (hok : ∀ v r' g' s' t, varint r = .ok v r' → StepX (· = I) g s g' s' → ItRem s'.heap I r' → g' I = none → Q (.int v t) s')
    (hst : varint r = .stop → ∀ s' e, s'.gens = s.gens ∧ s'.drawn = s.drawn ∧ s'.os = s.os → Flown s.heap (· = I) l e s'.heap → E (.ref e) s') :
    wpAny W.M A (PySem.call (.ref 189) [.ref I]) Q E s := by
  have hnew : (hideAll s.heap [I]).get? I = none := hideAll_none _ (List.mem_singleton.mpr rfl)
  have hold : ∀ b o, s.heap.get? b = some o → b ≠ I → (hideAll s.heap [I]).get? b = some o := fun b o e hb => hideAll_get _ e (by simpa using hb)
  have st0 : Step g { s with heap := hideAll s.heap [I] } g s := ⟨fun _ _ e => e, fun _ _ e => .inl e, fun b o e => G.sub b o e, fun b o e => of_hideAll _ e, ⟨rfl, rfl, rfl⟩⟩
  refine wpAny_call (defEnterX k (F := [I]) (xs := ["iterator"]) (vs := [.ref I]) (ρ := [("iterator", .ptr I)]) (R := fun r s' => match r with | .ok (.ret v) => Q v s' | .ok _ => False | .error e => E e s') (n := n + 2) R G st0 (fun b hb => let ⟨o, h, _⟩ := hI.get; ⟨o, List.mem_singleton.mp hb ▸ h⟩) rfl rfl ⟨_, _, _, _, rfl, rfl, rfl, rfl⟩ rfl (BindsTo.of_eq rfl) rfl ⟨rfl, rfl, rfl, rfl, rfl, rfl⟩ (by decide +kernel) (fun x d h => zip_rep (xs := ["iterator"]) (ds := [.ptr I]) (RepL.cons (rep_ptr.mpr rfl) RepL.nil) h) fun env s₁ ⟨hf, _⟩ f st hLf => ?_)
  refine opaqueQE fun QO EO hQO hEO => ?_
  have v₁ : VSt W (n + 2) (A.deeper env) env _ [("iterator", .ptr I)] none g { s with heap := hideAll s.heap [I] } I r g s₁ := ⟨f, hI.keeps fun o e => st.keep _ _ e, hnew, hg⟩
  have hfr' := Around.frames_deeper (env := env) hfr
  have hLI : ∀ b o, s.heap.get? b = some o → b ≠ env.locals := fun b o e h => by rw [h, hLf] at e; cases e
  have frs : ∀ h₁ : Heap, (∀ b o, (hideAll s.heap [I]).get? b = some o → h₁.get? b = some o) → (∃ m, h₁.Ns env.locals m) → Frames h₁ (env :: l) := fun h₁ hk ⟨m, hm⟩ =>
    ⟨by rw [f.cx.en.kind]; decide, ⟨_, m, hf, hm⟩, hl.keeps fun b o e hd => hk b o (hold b o e fun hbI => by
      obtain ⟨o', h1, _, vs, h2⟩ := hI.get
      rw [hbI, h1] at e
      exact hd vs (Option.some.inj e ▸ h2))⟩
  have fin : ∀ {h₁ h' : Heap} {X : Addr → Prop} {e}, (∀ b o, (hideAll s.heap [I]).get? b = some o → h₁.get? b = some o) → (∀ b, X b → b = env.locals) → Flown h₁ X l e h' → Flown s.heap (· = I) l e h' := fun hk hX fl =>
    fl.from_ fun b o e hb => ⟨hk b o (hold b o e hb), fun hx => hLI b o e (hX b hx)⟩
  cases r with
  | nil =>
    refine v₁.stopTo k rfl (by exact .nm rfl rfl) (.inl rfl) fun s' h₁ e hk hm hr hx => hEO _ _ ?_
    exact leave_made hfr' hf (frs h₁ hk hm) hx fun h' fl => hst rfl _ e ⟨hr.1.trans st.rest.1, hr.2.1.trans st.rest.2.1, hr.2.2.trans st.rest.2.2⟩ (fin hk (fun b hb => hb) fl)
  | cons c r =>
    refine v₁.nextTo k rfl (by exact .nm rfl rfl) (.inl rfl) fun g₂ s₂ v₂ => ?_
    refine v₂.tri (TriS.assign (d := .int (Builtin.bitAnd c 63)) (TriE.bin' (a := .int c) (b := .int 63) (by exact .nm rfl rfl) TriE.int rfl) (.inl rfl) fun _ _ => rfl) fun g₃ s₃ v₃ => ?_
    clear v₁ v₂ f st
    refine wpAny_execs_cons (wpAny_While (codeAny_whileLoop (fun m s' => ∃ val b rr g', m = rr.length ∧ vgo val b rr = vgo (Builtin.bitAnd c 63) c r ∧ VSt W (n + 2) (A.deeper env) env _ [("val", .int val), ("b", .int b), ("iterator", .ptr I)] none g { s with heap := hideAll s.heap [I] } I rr g' s') (fun m s' ⟨val, b, rr, g', hm, hv, v⟩ => ?_) r.length ⟨_, c, r, g₃, rfl, rfl, v₃⟩))
    refine wp_mono' ((TriB.ofE (TriE.bin' (a := .int b) (b := .int 64) (by exact .nm rfl rfl) TriE.int rfl) rfl) _ _ _ _ _ v.fra.cx) fun c' s₄ ⟨hc, g₄, st₄⟩ => ?_
    have v₄ := v.step st₄
    rw [hc]
    have hb' : vgo val b rr ≠ .bad := by rw [hv]; exact hb
    by_cases hbit : (Builtin.bitAnd b 64 != 0) = true
    · obtain ⟨hsm, m0, m1⟩ := vgo_more hb' hbit
      rw [hv] at m0 m1
      rw [if_pos hbit]
      refine opaqueQE fun QQ EE hQQ hEE => ?_
      refine v₄.tri (TriS.augName (a := .int val) (b := .int 6) (d := .int (val * 2 ^ 6)) rfl (.inl rfl) TriE.int (iopD_sound (if_pos ⟨by decide, by decide, hsm⟩))) fun g₅ s₅ v₅ => ?_
      cases rr with
      | nil =>
        refine v₅.stopTo k rfl (by exact .nm rfl rfl) (.inl rfl) fun s₆ h₁ e hk hm hr hx => hEE _ _ ?_
        exact note_made hfr' hf (frs h₁ hk hm) hx fun h' hh => came_back hf hh fun h'' hh' => hEO _ _ (leave_heldX hf hh' fun h₃ fl => hst (m0 rfl) _ e ⟨hr.1.trans v₅.fra.st.rest.1, hr.2.1.trans v₅.fra.st.rest.2.1, hr.2.2.trans v₅.fra.st.rest.2.2⟩ (fin hk (fun b hb => hb.resolve_left id) fl))
      | cons b' r' =>
        refine v₅.nextTo k rfl (by exact .nm rfl rfl) (.inl rfl) fun g₆ s₆ v₆ => ?_
        refine v₆.tri (TriS.augName (a := .int (val * 2 ^ 6)) (b := .int (Builtin.bitAnd b' 63)) (d := .int (Builtin.bitOr (val * 2 ^ 6) (Builtin.bitAnd b' 63))) rfl (.inl rfl) (TriE.bin' (a := .int b') (b := .int 63) (by exact .nm rfl rfl) TriE.int rfl) (iopD_sound rfl)) fun g₇ s₇ v₇ => ?_
        exact wpAny_execs_nil (hQQ _ _ ⟨r'.length, by rw [hm]; exact Nat.lt_succ_self _, _, b', r', g₇, rfl, m1 b' r' rfl, v₇.sub (SubR.of rfl)⟩)
    · have hs := vgo_end' (val := val) rr (eq_false_of_ne_true hbit)
      rw [hv] at hs
      rw [if_neg hbit]
      refine wpAny_execs_nil ?_
      refine TriSS.stop (TriS.ret (d := .int val) (by exact .nm rfl rfl)) rfl _ _ _ _ _ _ _ _ _ v₄.fra fun fl g₈ s₈ sf ⟨vv, e, rr', f'⟩ => ?_
      obtain ⟨t, ht⟩ := rep_int.mp rr'
      rw [e, ht]
      have it := v₄.it.keeps fun o e => sf.keep I (List.mem_singleton.mpr rfl) o e
      have hid := sf.hid I (List.mem_singleton.mpr rfl) v₄.hid
      exact hQO _ _ (hok val rr g₈ s₈ t hs (f'.st.shown hold ⟨rfl, rfl, rfl⟩ (fun b hb => hb ▸ hid) fun b hb => let ⟨o, h, _⟩ := it.get; ⟨o, hb ▸ h⟩) it hid)
end
end Mine
end
section
open PySem.Calls
open Builtin
namespace Mine
theorem slotNames_tuple : Builtin.Slots.slotNamesOf (.type "tuple") = pure [] := by
  unfold Builtin.Slots.slotNamesOf
  dsimp only
  rw [F.mro_tuple]
  kernel_rfl
theorem solid_tuple : Builtin.Slots.solid (.type "tuple") = pure (.type "tuple") := by
  unfold Builtin.Slots.solid
  rw [F.mro_tuple]
  kernel_rfl
theorem bestBase_tuple : Builtin.Slots.bestBase [.type "tuple"] = pure (.type "tuple") := by
  simp only [Builtin.Slots.bestBase, List.forIn_cons, List.forIn_nil, solid_tuple]
  rfl
theorem madeBy_tuple : Bind.madeBy (.type "tuple") = pure (some "tuple.__new__") := F.called_tuple.made
section
variable {W : Wo} {M : Model} {h : Heap}
theorem slot_none (X : (KK W).In h) {C : Addr} {oc : Value} {od : Option Addr} {cd : ClassData} {sl : Array (Option Value)} (ho : (KK W).lookup C = some ⟨oc, od, .cls cd, sl⟩) (hs : (sl.toList[4]?).join = some .none) (hm : ∃ c l, cd.mro = c :: l) : Looks M h (Bind.madeBy (.ref C)) none := by
  have hc : clsIn (KK W) C = some cd := by unfold clsIn; rw [ho]
  have hm' : Looks M h (mroOf (.ref C)) cd.mro := (looks_clsIn X hc).andThen .now
  obtain ⟨c, l, hl⟩ := hm
  intro A Q E s k q
  unfold Bind.madeBy
  refine wpAny_bind (hm' A _ E s k ?_)
  rw [hl, List.forIn_cons]
  refine wpAny_bind (wpAny_bind (wpAny_bind (wpAny_bind (wpAny_loadPart (k _ _ (X _ _ ho)) (wpAny_pure ?_)))))
  dsimp only
  rw [← Array.getElem?_toList, hs]
  exact wpAny_pure (wpAny_pure (wpAny_pure q))
theorem adds_166 (X : (KK W).In h) : Looks M h (Builtin.Slots.addsLayout (.ref 166)) false := by
  have hc : ∃ cd, clsIn (KK W) 166 = some cd ∧ cd.mro = [.ref 166, .type "tuple", .type "object"] ∧ cd.bases = [.type "tuple"] ∧ cd.slotNames = [] := ⟨_, rfl, rfl, rfl, rfl⟩
  obtain ⟨cd, hc, h1, h2, h3⟩ := hc
  have lc : Looks M h (classData 166) cd := looks_clsIn X hc
  unfold Builtin.Slots.addsLayout
  refine lc.andThen ?_
  rw [h2, h3]
  refine Looks.of_pure ?_
  simp only [List.forIn_cons, List.forIn_nil, slotNames_tuple]
  rfl
theorem solid_166 (X : (KK W).In h) : Looks M h (Builtin.Slots.solid (.ref 166)) (.type "tuple") := by
  have hc : ∃ cd, clsIn (KK W) 166 = some cd ∧ cd.mro = [.ref 166, .type "tuple", .type "object"] := ⟨_, rfl, rfl⟩
  obtain ⟨cd, hc, h1⟩ := hc
  have lc : Looks M h (classData 166) cd := looks_clsIn X hc
  unfold Builtin.Slots.solid
  have hm' : Looks M h (mroOf (.ref 166)) cd.mro := lc.andThen .now
  refine hm'.andThen ?_
  rw [h1]
  simp only [List.forIn_cons]
  intro A Q E s k q
  refine wpAny_bind (wpAny_bind (wpAny_bind ((adds_166 X) A _ E s k ?_)))
  rw [if_neg (by decide)]
  refine wpAny_pure ?_
  dsimp only
  refine wpAny_bind (wpAny_bind (wpAny_pure ?_))
  rw [if_neg (by decide), if_pos (by decide +kernel)]
  exact wpAny_pure (wpAny_pure (wpAny_pure q))
theorem bestBase_166 (X : (KK W).In h) : Looks M h (Builtin.Slots.bestBase [.ref 166]) (.ref 166) := by
  simp only [Builtin.Slots.bestBase, List.forIn_cons, List.forIn_nil]
  intro A Q E s k q
  refine wpAny_bind (wpAny_bind (wpAny_bind ((solid_166 X) A _ E s k ?_)))
  exact wpAny_pure (wpAny_pure (wpAny_pure q))
theorem madeBy_179 (X : (KK W).In h) : Looks M h (Bind.madeBy (.ref 179)) none := slot_none X rfl rfl ⟨_, _, rfl⟩
theorem madeBy_166 (X : (KK W).In h) : Looks M h (Bind.madeBy (.ref 166)) none := slot_none X rfl rfl ⟨_, _, rfl⟩
theorem static_179 (X : (KK W).In h) : Looks M h (Bind.staticBase (.ref 179)) (.type "tuple") := by
  have hc : ∃ cd, clsIn (KK W) 179 = some cd ∧ cd.mro = [.ref 179, .ref 166, .type "tuple", .type "object"] ∧ cd.bases = [.ref 166] := ⟨_, rfl, rfl, rfl⟩
  obtain ⟨cd, hc, h1, h2⟩ := hc
  have lc : Looks M h (classData 179) cd := looks_clsIn X hc
  have hc6 : ∃ cd, clsIn (KK W) 166 = some cd ∧ cd.bases = [.type "tuple"] := ⟨_, rfl, rfl⟩
  obtain ⟨cd6, hc6, h6⟩ := hc6
  have lc6 : Looks M h (classData 166) cd6 := looks_clsIn X hc6
  unfold Bind.staticBase
  have hm' : Looks M h (mroOf (.ref 179)) cd.mro := lc.andThen .now
  refine hm'.andThen ?_
  rw [h1]
  simp only [List.forIn_cons, List.forIn_nil]
  intro A Q E s k q
  refine wpAny_bind (wpAny_bind (wpAny_bind ((madeBy_179 X) A _ E s k ?_)))
  rw [if_neg (by decide)]
  refine wpAny_bind (lc A _ E s k ?_)
  rw [h2]
  refine wpAny_bind ((bestBase_166 X) A _ E s k (wpAny_pure ?_))
  dsimp only
  refine wpAny_bind (wpAny_bind ((madeBy_166 X) A _ E s k ?_))
  rw [if_neg (by decide)]
  refine wpAny_bind (lc6 A _ E s k ?_)
  rw [h6, bestBase_tuple]
  refine wpAny_bind (wpAny_pure (wpAny_pure ?_))
  dsimp only
  rw [madeBy_tuple]
  refine wpAny_bind (wpAny_bind (wpAny_pure ?_))
  rw [if_pos (by decide)]
  exact wpAny_pure (wpAny_pure (wpAny_pure q))
theorem madeHere_179 (X : (KK W).In h) : Looks M h (Bind.madeHere "tuple.__new__" (.ref 179)) () := by
  unfold Bind.madeHere
  refine (static_179 X).andThen ?_
  rw [madeBy_tuple]
  exact Looks.of_pure (by simp only [pure_bind]; first | rfl | kernel_rfl | (simp; rfl))
end
end Mine
end
section
open PySem.Calls
open Builtin
namespace Mine
theorem kind_tnew : builtinKind "tuple.__new__" = some .builtinFn := by decide +kernel
theorem split_tnew : splitId "tuple.__new__" = some ("tuple", "__new__") := by decide +kernel
theorem args_tnew (a b : Value) : argsOk "tuple.__new__" ⟨[a, b], []⟩ := by unfold argsOk; kernel_rfl
section
variable {W : Wo} {n : Nat}
theorem check_tnew {A : Around} {E : Value → Shared → Prop} {s : Shared} {t : Value} {Q : Unit → Shared → Prop} (X : (KK W).In s.heap) (h : Q () s) : wpAny W.M A (checkBuiltinCall "tuple.__new__" ⟨[.ref 179, t], []⟩) Q E s := by
  have ha := args_tnew (.ref 179) t
  simp only [checkBuiltinCall, kind_tnew, split_tnew]
  obtain ⟨hh, g, d, tk, os⟩ := s
  have L1 : Looks W.M hh (isType (.ref 179)) true := by
    obtain ⟨o, ho, cd, hd⟩ : ∃ o, (KK W).lookup 179 = some o ∧ ∃ cd, o.data = .cls cd := ⟨_, rfl, _, rfl⟩
    refine (Looks.ld (X 179 _ ho)).andThen ?_
    rw [hd]
    exact .now
  have L2 : Looks W.M hh (isSubtype (.ref 179) (.type "tuple")) true := looks_subIn X rfl
  have L3 : Looks W.M hh (Bind.staticBase (.ref 179)) (.type "tuple") := static_179 X
  rw [if_pos (by decide)]
  refine wpAny_bind (L1.at ?_)
  simp only [Bool.not_true, Bool.false_eq_true, if_false]
  refine wpAny_bind (L2.at ?_)
  simp only [Bool.not_true, Bool.false_eq_true, if_false]
  refine wpAny_bind (L3.at ?_)
  rw [madeBy_tuple]
  refine wpAny_bind (wpAny_pure ?_)
  dsimp only
  rw [if_neg (by decide +kernel)]
  cases hsig : Manifest.signature? "tuple.__new__" with
  | none => exact wpAny_pure h
  | some sig =>
    simp only [argsOk, hsig] at ha
    have h2 : Bind.checkArgs "tuple.__new__" sig ⟨[.ref 179, t], []⟩ = pure () := ha
    show wpAny W.M A (Bind.checkArgs "tuple.__new__" sig ⟨[.ref 179, t], []⟩) Q E _
    rw [h2]; exact wpAny_pure h
theorem fn_tuple_new (k : Kit W) {xs : List D} (hz : xs.length ≤ sizeLine) : FnE W n (.builtin "tuple.__new__") [.ptr 179, .tup xs] (.ent 179 xs) := by
  intro A g s E vs R G r
  obtain ⟨v, r', rfl, h1, h2⟩ := repL_cons.mp r
  obtain ⟨v', r'', rfl, h3, h4⟩ := repL_cons.mp h2
  cases repL_nil.mp h4
  cases rep_ptr.mp h1
  obtain ⟨t, us, q, rfl, ht, hr⟩ := rep_tup.mp h3
  have X : (KK W).In s.heap := fun a o h => G.sub _ _ (G.stat _ _ (k.K a o h))
  refine wpAny_call (codeAny_call_builtin_code (Code.quiet_builtin _ (by decide +kernel)) (check_tnew X ?_))
  refine codeAny_builtin F.entry_tuple_new ?_
  refine opaqueQE fun QQ EE hQQ _ => ?_
  obtain ⟨hh, gg, dd, tk, os⟩ := s
  have L1 : Looks W.M hh (isType (.ref 179)) true := by
    obtain ⟨o, ho, cd, hd⟩ : ∃ o, (KK W).lookup 179 = some o ∧ ∃ cd, o.data = .cls cd := ⟨_, rfl, _, rfl⟩
    refine (Looks.ld (X 179 _ ho)).andThen ?_
    rw [hd]
    exact .now
  have L2 : Looks W.M hh (isSubtype (.ref 179) (.type "tuple")) true := looks_subIn X rfl
  have L3 : Looks W.M hh (Bind.madeHere "tuple.__new__" (.ref 179)) () := madeHere_179 X
  have L4 : Looks W.M hh (typeLookup (.ref 179) "__init__") (some (.builtin "object.__init__")) := looks_findIn X rfl
  unfold Builtin.«tuple.__new__»
  dsimp only
  refine wpAny_bind (L1.at ?_)
  simp only [Bool.not_true, Bool.false_eq_true, if_false]
  refine wpAny_bind (L2.at ?_)
  simp only [Bool.not_true, Bool.false_eq_true, if_false]
  refine wpAny_bind (L3.at ?_)
  refine wpAny_bind (L4.at ?_)
  rw [if_pos (by decide)]
  refine wpAny_bind (m := noKeywords _ _) (wpAny_of_eq (a := ()) (by first | rfl | kernel_rfl) ?_)
  refine wpAny_bind (m := checkCount _ _ _ _) (wpAny_of_eq (a := ()) (by first | rfl | kernel_rfl) ?_)
  rw [if_neg (by decide)]
  have e1 := hr.length
  rw [Array.length_toList] at e1
  have ht' := G.sub _ _ ht
  refine wpAny_bind (wpAny_collect_seq (hsz := by rw [e1]; exact hz) t (.inr rfl) ht' rfl rfl fun h' hk => ?_)
  refine wpAny_bind (wpAny_pure (wpAny_bind (wpAny_alloc ?_)))
  refine wpAny_bind ?_
  unfold newObj newObjAsIs classHasDel
  dsimp only
  rw [if_neg (by rw [List.size_toArray, Array.length_toList, e1]; exact Nat.not_lt.mpr hz)]
  obtain ⟨o9, ho9, cd, hd9, hdel⟩ : ∃ o, (KK W).lookup 179 = some o ∧ ∃ cd, o.data = .cls cd ∧ cd.hasDel = false := ⟨_, rfl, _, rfl, rfl⟩
  refine wpAny_bind (wpAny_alloc (wpAny_bind (wpAny_bind (wpAny_load (Heap.get?_push_of_some _ (Heap.get?_push_of_some _ (hk _ _ (X _ _ ho9)))) ?_))))
  rw [hd9]
  dsimp only
  rw [hdel]
  refine wpAny_pure ?_
  rw [if_neg (by decide)]
  refine wpAny_pure (wpAny_pure ?_)
  have st1 : Step g ⟨hh, gg, dd, tk, os⟩ g ⟨h', gg, dd, tk, os⟩ := Step.keeps G hk
  have G1 := st1.good G
  have st2 := Step.push (tk := tk) G1 (o := { cls := .type "dict", data := .dict #[] }) rfl
  have G2 := st2.good G1
  have st3 := Step.push (tk := tk) G2 (o := { cls := .ref 179, dict := some h'.objs.size, data := .seq us.toList.toArray }) rfl
  refine hQQ _ _ ⟨_, (st1.trans st2).trans st3, rep_ent.mpr ⟨_, us.toList.toArray, 0, h'.objs.size, rfl, View.put_self, st3.view _ _ View.put_self, ?_⟩⟩
  have e2 : us.toList.toArray.toList = us.toList := by simp
  rw [e2]
  exact (hr.mono st2.view).mono st3.view
theorem getm_type {A : Around} {E : Value → Shared → Prop} {s : Shared} {T : String} {name : PySem.Str} {v : Value} {pl : Sem Bool} {Q : Value × List Value → Shared → Prop} (X : (KK W).In s.heap) (ht : typeOf (.type T) = pure (.type "type")) (hs : Manifest.isStub T = false)
    (e : findCls (KK W) (.type T) (.type "type") name = some (.val v)) (hh : handedIn v = true) (h : Q (v, []) { s with toks := s.toks + 1 }) : wpAny W.M A (getMethod (.type T) name pl) Q E s := by
  have hstub : opaqueClassAbove (.type T) = pure none := by unfold opaqueClassAbove; dsimp only; rw [hs]; rfl
  have L0 : Looks W.M s.heap (typeOf (.type T)) (.type "type") := Looks.of_pure ht
  have LO : Looks W.M s.heap (opaqueClassAbove (.type T)) none := Looks.of_pure hstub
  have hg : findIn (KK W) (.type "type") "__getattribute__" = some (some (.builtin "type.__getattribute__")) := type_tga
  have hgot : wpAny W.M A (getAttr (.type T) name) (fun v => Q (v, [])) E s :=
    cls_open X LO L0 hg (looks_hook X (r := none) (by rfl)) (by show subIn (KK W) _ _ = _; rfl) e (wpAny_pure (by show wpAny _ _ (handedOut v) _ _ _; rw [handedOut_of hh]; exact wpAny_pure h))
  unfold getMethod specialOf
  refine wpAny_bind (wpAny_bind (L0.here ((looks_findIn X hg).here ?_)))
  dsimp only
  rw [if_pos canon_tga]
  exact wpAny_bind (wp_mono' hgot fun _ _ z => wpAny_pure z)
end
section
variable {W : Wo} {n : Nat} {ns : Names} {ρ : Rho} {μ : Mu}
theorem TriE.methT (k : Kit W) {x name : PySem.Str} {T : String} {p apos pos : Pos} {f : String} {es : List Expr} {ds : List D} {d : D} (hk0 : ns.lookup x = some .globalImplicit) (e0 : nsIn (KK W) mainGlobals x = some none) (hb0 : bootBuiltins x = some (.type T)) (hn0 : x ≠ "__name__") (hp : (x == ("__debug__" : PySem.Str)) = false)
    (ht : typeOf (.type T) = pure (.type "type")) (hst : Manifest.isStub T = false) (e : findCls (KK W) (.type T) (.type "type") name = some (.val (.builtin f)))
    (hh : handedIn (.builtin f) = true) (hl : TriL W (n + 1) ns ρ es ds) (hf : FnE W n (.builtin f) ds d)
    (hs : ∀ env, (starEach es env).any (·.1) = false := by intro _; rfl) (hz : es.length < 29 := by decide) (hb : ∀ env, attributeBase (.Name x p) name env (eval (.Name x p) env) = eval (.Name x p) env := by intro _; rfl) (hline : (apos.endLine == pos.line) = true := by rfl) :
    TriE W (n + 1) ns ρ (.Call (.Attribute (.Name x p) name apos) es [] pos) d := fun A env g s E c => by
  rw [arm_eval_Call, hb]
  refine wpAny_bind (nameGlobal k.ok c (k.builtin hk0 e0 hb0 hn0 hp KeepOk.type) ?_)
  refine wpAny_bind (wpAny_standAt ?_)
  have hform : methodCallForm (es.length + ([] : List Keyword).length) (backTo pos (starEach es env)) (backToKw pos (keywordEach [] env)) = true := by
    unfold methodCallForm
    have h1 : (backTo pos (starEach es env)).all (fun x => !x.1) = true := by
      have := hs env
      rw [← backTo_any (pos := pos)] at this
      rw [List.all_eq_not_any_not, Bool.not_eq_true']
      simpa using this
    simp only [h1, Bool.true_and, keywordEach, backToKw, List.map_nil, List.all_nil, List.isEmpty_nil, if_true, List.length_nil, Nat.add_zero, decide_eq_true_eq]
    lia
  have hpos : methodCallPos true (.Name x p) env apos pos = pure pos := by unfold methodCallPos; simp [hline]
  unfold methodCall
  rw [hform]
  refine wpAny_bind (wpAny_holding (getm_type (k.here c.good) ht hst e hh ?_))
  refine wpAny_bind (wpAny_of_eq hpos ?_)
  have st : Step g s g { s with toks := s.toks + 1 } := Step.toks c.good
  exact wp_mono' (callWithR (fd := []) (c.step st) hl (hs env) KeepOk.builtin hf RepL.nil) fun v s₂ ⟨g₂, st₂, r₂⟩ => ⟨g₂, st.trans st₂, r₂⟩
theorem fn_ent_new (k : Kit W) (a b c d e : D) : FnE W (n + 1) (.ref 107) [.ptr 179, a, b, c, d, e] (.ent 179 [a, b, c, d, e]) := by
  refine FnE.ofK k (xs := ["_cls", "start", "end", "target", "depth", "lasti"]) rfl rfl ⟨_, _, _, _, rfl, rfl, rfl, rfl⟩ rfl ?_ rfl ⟨rfl, rfl, rfl, rfl, rfl, rfl⟩ (by decide +kernel) ?_
  · exact len6 (fun _ _ _ _ _ _ => rfl)
  refine TriSS.cons TriS.doc (TriSS.stop (TriS.ret (TriE.methT k rfl rfl rfl (by decide) rfl rfl rfl rfl (by decide +kernel) (TriL.cons (by exact .nm rfl rfl) (TriL.cons (TriE.tuple (TriL.cons (by exact .nm rfl rfl) (TriL.cons (by exact .nm rfl rfl) (TriL.cons (by exact .nm rfl rfl) (TriL.cons (by exact .nm rfl rfl) (TriL.cons (by exact .nm rfl rfl) TriL.nil))))) (by show 5 ≤ sizeLine; decide)) TriL.nil)) (fn_tuple_new k (by show 5 ≤ sizeLine; decide)))))
end
end Mine
end
section
open PySem.Calls
open Builtin
namespace Mine
theorem args_oi6 (x a b c d e : Value) : argsOk "object.__init__" ⟨[x, a, b, c, d, e], []⟩ := by unfold argsOk; kernel_rfl
theorem oi_kind : builtinKind "object.__init__" = some .slot := by decide +kernel
theorem oi_split : splitId "object.__init__" = some ("object", "__init__") := by decide +kernel
theorem oi_entry : entryFor table "object.__init__" = some Builtin.«object.__init__» := entryFor_of_tree (by kernel_rfl)
section
variable {W : Wo} {n : Nat}
set_option maxHeartbeats 1000000 in
theorem ent_init {A : Around} {E : Value → Shared → Prop} {s : Shared} {x : Addr} {o : Obj} {a b c d e : Value} {Q : Value → Shared → Prop} (X : (KK W).In s.heap) (hx : s.heap.get? x = some o) (hc : o.cls = .ref 179) (h : Q .none s) :
    wpAny W.M A (PySem.call (.builtin "object.__init__") [.ref x, a, b, c, d, e]) Q E s := by
  have LT : Looks W.M s.heap (typeOf (.ref x)) (.ref 179) := by
    have : Looks W.M s.heap (typeOf (.ref x)) o.cls := (Looks.ld hx).andThen .now
    rwa [hc] at this
  have sub : Looks W.M s.heap (isInstance (.ref x) (.type "object")) true := LT.andThen (looks_subIn X rfl)
  refine wpAny_call ?_
  refine codeAny_call_builtin_at (Code.quiet_builtin _ (by decide +kernel)) oi_entry ?_
  refine check_slot (M := W.M) (i := "object.__init__") (owner := "object") (n := "__init__") (self := .ref x) (rest := [a, b, c, d, e]) (kw := []) oi_kind oi_split sub (args_oi6 (.ref x) a b c d e) ?_
  obtain ⟨hh, gg, dd, tk, os⟩ := s
  have L4 : Looks W.M hh (typeLookup (.ref 179) "__init__") (some (.builtin "object.__init__")) := looks_findIn X rfl
  have L5 : Looks W.M hh (Bind.madeBy (.ref 179)) none := madeBy_179 X
  unfold Builtin.«object.__init__»
  dsimp only
  rw [if_pos (show (!([a, b, c, d, e] : List Value).isEmpty || !([] : List (PySem.Str × Value)).isEmpty) = true from rfl)]
  refine wpAny_bind (LT.at (wpAny_bind (L4.at (wpAny_bind (L5.at ?_)))))
  rw [if_neg (by decide), if_neg (by decide)]
  exact wpAny_pure h
theorem fn_ent (k : Kit W) (a b c d e : D) : FnE W (n + 2) (.ref 179) [a, b, c, d, e] (.ent 179 [a, b, c, d, e]) := by
  intro A g s E vs R G r
  obtain ⟨va, r1, rfl, ha, r⟩ := repL_cons.mp r
  obtain ⟨vb, r2, rfl, hb, r⟩ := repL_cons.mp r
  obtain ⟨vc, r3, rfl, hc, r⟩ := repL_cons.mp r
  obtain ⟨vd, r4, rfl, hd, r⟩ := repL_cons.mp r
  obtain ⟨ve, r5, rfl, he, r⟩ := repL_cons.mp r
  cases repL_nil.mp r
  have X : (KK W).In s.heap := k.here G
  obtain ⟨oc, ho9, cd, hcd, hm9⟩ : ∃ o, (KK W).lookup 179 = some o ∧ ∃ cd, o.data = .cls cd ∧ cd.mro = [.ref 179, .ref 166, .type "tuple", .type "object"] := ⟨_, rfl, _, rfl, rfl⟩
  have hcl : clsIn (KK W) 179 = some cd := by
    unfold clsIn; rw [ho9]
    obtain ⟨_, _, dt, _⟩ := oc
    dsimp at hcd; subst hcd; rfl
  have call : Looks W.M s.heap (specialOf (.ref 179) "__call__") (some (.builtin "type.__call__")) := looks_specialIn X rfl
  have typ : Looks W.M s.heap (isInstance (.ref 179) (.type "type")) true := looks_instIn X rfl
  have hm : Looks W.M s.heap (mroOf (.ref 179)) cd.mro := (looks_clsIn X hcl).andThen .now
  have made : Looks W.M s.heap (Bind.madeBy (.ref 179)) none := madeBy_179 X
  obtain ⟨hh, gg, dd, tk, os⟩ := s
  refine wpAny_call (codeAny_of_tree ?_)
  show wpAny _ _ (callAny (.ref 179) _) _ _ _
  refine wpAny_bind (wpAny_load (X _ _ ho9) ?_)
  rw [hcd]
  show wpAny _ _ (callAny.viaDunder (.ref 179) _) _ _ _
  unfold callAny.viaDunder
  refine wpAny_bind (call.at ?_)
  dsimp only
  rw [tc_bind]
  refine wpAny_bind (wpAny_pure (wpAny_bind (wpAny_pure ?_)))
  refine wpAny_pure (a := Fin.again (.call (.builtin "type.__call__") ⟨[.ref 179, va, vb, vc, vd, ve], []⟩)) (And.intro rfl ?_)
  refine codeAny_call_builtin_at (Code.quiet_builtin _ (by decide +kernel)) entry_typeCall ?_
  refine check_slot (M := W.M) (i := "type.__call__") (owner := "type") (n := "__call__") (self := .ref 179) (rest := [va, vb, vc, vd, ve]) (kw := []) tc_kind tc_split typ (tc_args (.ref 179) [va, vb, vc, vd, ve] []) ?_
  refine opaqueQE fun QQ EE hQQ _ => ?_
  unfold Builtin.«type.__call__»
  dsimp only
  rw [if_neg (by decide)]
  refine wpAny_bind (hm.at ?_)
  rw [hm9]
  simp only [List.isEmpty_cons, Bool.false_eq_true, if_false]
  refine wpAny_bind (made.at ?_)
  dsimp only
  obtain ⟨oz, Xz, z⟩ := k.stat
  refine wpAny_bind (cls_bind (Xz.keeps fun b o q => G.sub _ _ (G.stat _ _ q)) (mc := .type "type") (reads_of z rfl rfl rfl rfl) (g := .builtin "staticmethod.__get__") (a := .ref 167) (obj := .none) (tp := .ref 179) rfl (wpAny_call (sm_get (s := { heap := hh, gens := gg, drawn := dd, toks := tk + 1, os := os }) (f := .ref 107) (rest := []) X rfl (handed_on rfl ?_))))
  have st0 : Step g ⟨hh, gg, dd, tk, os⟩ g ⟨hh, gg, dd, tk + 1, os⟩ := Step.toks G
  refine wpAny_bind (wpAny_holding (wp_mono' (fn_ent_new (n := n) k a b c d e _ g _ _ _ (Room.made R) (st0.good G) (RepL.cons (rep_ptr.mpr rfl) (RepL.cons ha (RepL.cons hb (RepL.cons hc (RepL.cons hd (RepL.cons he RepL.nil))))))) fun v s₂ ⟨g₂, st₂, r₂⟩ => ?_))
  obtain ⟨x, us, q, dx, rfl, hx, hdx, hr⟩ := rep_ent.mp r₂
  have G2 := st₂.good (st0.good G)
  have X2 : (KK W).In s₂.heap := k.here G2
  have hx2 := G2.sub _ _ hx
  have LT : Looks W.M s₂.heap (typeOf (.ref x)) (.ref 179) := (Looks.ld hx2).andThen .now
  have LS : Looks W.M s₂.heap (isInstance (.ref x) (.ref 179)) true := LT.andThen (looks_subIn X2 rfl)
  have LI : Looks W.M s₂.heap (specialOf (.ref x) "__init__") (some (.builtin "object.__init__")) := LT.andThen (looks_findIn X2 rfl)
  refine wpAny_bind (LS.here ?_)
  simp only [Bool.not_true, Bool.false_eq_true, if_false]
  refine wpAny_bind (wpAny_holding ?_)
  unfold callSpecial?
  refine wpAny_bind (LI.here ?_)
  dsimp only
  refine wpAny_holding ?_
  rw [oi_bind]
  refine wpAny_bind (wpAny_pure (wpAny_bind ?_))
  refine ent_init X2 hx2 rfl ?_
  refine wpAny_pure ?_
  dsimp only
  rw [if_neg (by decide)]
  exact wpAny_pure (hQQ _ _ ⟨g₂, st0.trans st₂, rep_ent.mpr ⟨x, us, q, dx, rfl, hx, hdx, hr⟩⟩)
end
end Mine
end
section
open PySem.Calls
open Builtin Builtin.ObjectAttr
namespace Mine
theorem slot_fga : Slot "function" "__getattribute__" "object.__getattribute__" :=
  .of (owner := "object") (n := "__getattribute__") (by rw [typeLookup_type, builtinLookup_eq_fast]; kernel_rfl) (by decide +kernel) (by decide +kernel) (by decide +kernel) (by first | exact .inl (by decide +kernel) | exact .inr (by decide +kernel)) (by rw [isSubtype_type]; kernel_rfl)
theorem slot_fsa : Slot "function" "__setattr__" "object.__setattr__" :=
  .of (owner := "object") (n := "__setattr__") (by rw [typeLookup_type, builtinLookup_eq_fast]; kernel_rfl) (by decide +kernel) (by decide +kernel) (by decide +kernel) (by first | exact .inl (by decide +kernel) | exact .inr (by decide +kernel)) (by rw [isSubtype_type]; kernel_rfl)
theorem entry_oga : entryFor table "object.__getattribute__" = some Builtin.«object.__getattribute__» := entryFor_of_tree (by kernel_rfl)
theorem args_oga (a b : Value) : argsOk "object.__getattribute__" ⟨[a, b], []⟩ := by unfold argsOk; kernel_rfl
theorem fn_ex : typeLookup (.type "function") "co_exceptiontable" = pure none := by rw [typeLookup_type, builtinLookup_eq_fast]; kernel_rfl
noncomputable def fnWith (fd : FuncData) (dx : Addr) : Obj := { cls := .type "function", dict := some dx, data := .func fd }
section
variable {prog : Program} {w : World} {A : Around} {E : Value → Shared → Prop} {s : Shared}
theorem fattr_get {expr : Bool} {F dx : Addr} {fd : FuncData} {es : List DictEntry} {q : Nat} {v : Value} {Q : Value → Shared → Prop} (ho : s.heap.get? F = some (fnWith fd dx)) (hdx : s.heap.get? dx = some (dictOf es q)) (hl : getL "co_exceptiontable" es = some (some v)) (hv : handedIn v = true)
    (h : Q v { s with toks := s.toks + 1 }) : wpAny (model prog w) A (getAttr (.ref F) "co_exceptiontable" expr) Q E s := by
  obtain ⟨hh, g, d, t, os⟩ := s
  have hT : ∀ t', Shared.TypeIs ⟨hh, g, d, t', os⟩ (.ref F) "function" := fun t' => ⟨_, ho, rfl⟩
  have LT : Looks (model prog w) hh (typeOf (.ref F)) (.type "function") := (Looks.ld (o := fnWith fd dx) ho).andThen .now
  unfold getAttr getAttrBy
  refine wpAny_bind (wpAny_mkText (wpAny_holding (wpAny_bind (LT.at ?_))))
  rw [slot_fga.lookup]
  refine wpAny_bind (wpAny_pure ?_)
  dsimp only
  rw [if_neg (by decide +kernel)]
  unfold getAttrByItsOwn hookBefore
  rw [if_neg (by decide +kernel)]
  refine wpAny_bind (wpAny_pure (wpAny_bind (wpAny_attempt (wpAny_holding ?_))))
  unfold callGetattribute
  rw [if_neg (by rw [show onTheHeap (Value.builtin "object.__getattribute__") = false from by decide +kernel, Bool.and_false]; decide)]
  unfold boundAndCalled
  rw [slot_fga.bind]
  refine wpAny_bind (wpAny_pure ?_)
  refine wpAny_call_entry slot_fga (hT _) entry_oga ?_ (args_oga _ _)
  unfold Builtin.«object.__getattribute__»
  refine wpAny_bind (wpAny_pure (wpAny_bind (wpAny_pure (wpAny_bind (LT.at (wpAny_bind ?_))))))
  unfold find
  rw [fn_ex]
  refine wpAny_bind (wpAny_pure (wpAny_bind (wpAny_pure (wpAny_bind (wpAny_pure ?_)))))
  dsimp only
  unfold ownThenClass inOwnDict
  dsimp only
  refine wpAny_bind (wpAny_bind ?_)
  unfold ObjectAttr.ownDict
  refine wpAny_bind (wpAny_loadPart ho ?_)
  dsimp only [fnWith]
  unfold instanceDict
  refine wpAny_bind (wpAny_loadPart ho ?_)
  dsimp only [fnWith]
  refine wpAny_pure ?_
  unfold inDict
  dsimp only
  refine wpAny_bind (wpAny_loadPart hdx ?_)
  rw [nsLook_of (show lookIn "co_exceptiontable" (dictOf es q) = some (some v) from hl)]
  refine wpAny_pure ?_
  refine wpAny_bind (wpAny_rule (wpAny_pure ?_))
  refine wpAny_pure ⟨_, rfl, ?_⟩
  show wpAny _ _ (handedOut v) _ _ _
  rw [handedOut_of hv]
  exact wpAny_pure h
theorem entry_osa : entryFor table "object.__setattr__" = some Builtin.«object.__setattr__» := PySem.F.store_object.entry
theorem fattr_set {F : Addr} {fd : FuncData} {v : Value} {Q : Unit → Shared → Prop} (ho : s.heap.get? F = some { cls := .type "function", data := .func fd })
    (h : ∀ h' dx key tk q, (∃ t, key = .str "co_exceptiontable" t) → h'.get? F = some (fnWith fd dx) → s.heap.get? dx = none → h'.get? dx = some (dictOf (putL "co_exceptiontable" (PyData.keyHash w.params "co_exceptiontable") key v []) q) → (∀ b o, b ≠ F → s.heap.get? b = some o → h'.get? b = some o) → Q () { s with heap := h', toks := tk }) :
    wpAny (model prog w) A (setAttr (.ref F) "co_exceptiontable" v) Q E s := by
  obtain ⟨hh, g, d, t, os⟩ := s
  have hT : ∀ t', Shared.TypeIs ⟨hh, g, d, t', os⟩ (.ref F) "function" := fun t' => ⟨_, ho, rfl⟩
  have LT : Looks (model prog w) hh (typeOf (.ref F)) (.type "function") := (Looks.ld ho).andThen .now
  unfold setAttr
  refine wpAny_bind (wpAny_mkText (wpAny_bind (wpAny_callSpecial?_slot (name := PySem.Str.ofString "__setattr__") (hT _) slot_fsa (wpAny_call_entry slot_fsa (hT _) entry_osa ?_ (PySem.F.store_object.args _ _ _)))))
  unfold Builtin.«object.__setattr__»
  show wpAny _ _ (do
        refuseIfOverridden (.ref F) (PySem.Str.ofString "__setattr__")
        let name ← attrName (.str "co_exceptiontable" t)
        let tp ← typeOf (.ref F)
        let attr ← typeLookup tp name
        let __do_lift ← storeTaker? attr
        match __do_lift with
          | some a => setByDescriptor a (.ref F) v
          | none => storeInOwnDict (.ref F) tp (.str "co_exceptiontable" t) name v attr.isSome) _ _ _
  have hrf : Looks (model prog w) hh (refuseIfOverridden (.ref F) (PySem.Str.ofString "__setattr__")) () := by
    unfold refuseIfOverridden
    refine LT.andThen ?_
    rw [show mroOf (.type "function") = pure [.type "function", .type "object"] from by rw [mroOf_type]; kernel_rfl]
    exact Looks.of_pure (by kernel_rfl)
  refine wpAny_bind (hrf.at (wpAny_bind (wpAny_pure (wpAny_bind (LT.at ?_)))))
  rw [fn_ex]
  refine wpAny_bind (wpAny_pure (wpAny_bind (wpAny_pure ?_)))
  dsimp only
  unfold storeInOwnDict
  refine wpAny_bind (m := ownStreamTells _ _) (wpAny_of_eq (a := ()) (by first | rfl | kernel_rfl) ?_)
  rw [if_neg (by decide +kernel)]
  show wpAny _ _ (ownDictForStores (.ref F) >>= _) _ _ _
  refine wpAny_bind ?_
  unfold ownDictForStores instanceDict
  dsimp only
  refine wpAny_bind (wpAny_loadPart ho ?_)
  dsimp only
  rw [if_neg (by decide +kernel)]
  refine wpAny_bind (wpAny_alloc ?_)
  have ho1 : (hh.push { cls := .type "dict", data := .dict #[] }).get? F = some { cls := .type "function", data := .func fd } := Heap.get?_push_of_some _ ho
  have hdx1 : (hh.push { cls := .type "dict", data := .dict #[] }).get? hh.objs.size = some (dictOf [] 0) := Heap.get?_push_size _ rfl
  have hne : F ≠ hh.objs.size := Nat.ne_of_lt (Heap.lt_size ho)
  refine wpAny_bind (wpAny_update ho1 ?_)
  have ho2 : ((hh.push { cls := .type "dict", data := .dict #[] }).update F fun o => { o with dict := some hh.objs.size }).get? F = some (fnWith fd hh.objs.size) := Heap.get?_update_self _ ho1 rfl
  have hdx2 : ((hh.push { cls := .type "dict", data := .dict #[] }).update F fun o => { o with dict := some hh.objs.size }).get? hh.objs.size = some (dictOf [] 0) := (Heap.get?_update_other _ _ hne).trans hdx1
  unfold dictMade
  dsimp only
  rw [if_neg (by decide +kernel)]
  refine wpAny_pure ?_
  dsimp only
  unfold storeInDict newKeyGuard
  dsimp only
  refine wpAny_bind (wpAny_pure (wpAny_bind ?_))
  unfold nsSet
  refine wpAny_bind (wpAny_bind (wpAny_askSetting (wpAny_pure (wpAny_bind (wpAny_mkText (wpAny_bind (wpAny_loadPart hdx2 ?_)))))))
  dsimp only
  have c : (!([] : List DictEntry).toArray.any (·.key.isStr "co_exceptiontable") && ([] : List DictEntry).toArray.any (·.refKey)) = false := by simp
  rw [aRefKeyMayBeTheName_at, c]
  have hput := putName_dict "co_exceptiontable" (PyData.keyHash w.params "co_exceptiontable") (.str "co_exceptiontable" (t + 1)) v [] 0
  have hnf : (Obj.putName "co_exceptiontable" (PyData.keyHash w.params "co_exceptiontable") (.str "co_exceptiontable" (t + 1)) v (dictOf [] 0)).isFreed = false := by rw [hput]; rfl
  have hget := Heap.get?_update_self (Obj.putName "co_exceptiontable" (PyData.keyHash w.params "co_exceptiontable") (.str "co_exceptiontable" (t + 1)) v) hdx2 hnf
  rw [hput] at hget
  refine wpAny_updatePart hdx2 ?_
  refine wpAny_bind (wpAny_lookBehind hget (pastItsLine_dict (by rw [List.size_toArray, sizeLine_eq]; unfold putL; simp)) ?_)
  refine wpAny_pure ⟨_, rfl, wpAny_pure (h _ hh.objs.size _ _ _ ⟨_, rfl⟩ ?_ (Heap.get?_none_of_le (Nat.le_refl _)) hget fun b o hb e => ?_)⟩
  · exact (Heap.get?_update_other _ _ (Ne.symm hne)).trans ho2
  · have hb2 : hh.objs.size ≠ b := Nat.ne_of_gt (Heap.lt_size e)
    exact (Heap.get?_update_other _ _ hb2).trans ((Heap.get?_update_other _ _ (Ne.symm hb)).trans (Heap.get?_push_of_some _ e))
end
end Mine
end
section
namespace Mine
structure Ent where
  start : Int
  stop : Int
  target : Int
  depth : Int
  lasti : Bool
noncomputable def entD (e : Ent) : D := .ent 179 [.int e.start, .int e.stop, .int e.target, .int e.depth, .bool e.lasti]
inductive Parse : List Int → List Ent → Prop
  | s1 {r} : varint r = .stop → Parse r []
  | s2 {r a r1} : varint r = .ok a r1 → varint r1 = .stop → Parse r []
  | s3 {r a r1 b r2} : varint r = .ok a r1 → varint r1 = .ok b r2 → varint r2 = .stop → Parse r []
  | s4 {r a r1 b r2 c r3} : varint r = .ok a r1 → varint r1 = .ok b r2 → varint r2 = .ok c r3 → varint r3 = .stop → Parse r []
  | more {r a r1 b r2 c r3 d r4 es} : varint r = .ok a r1 → varint r1 = .ok b r2 → varint r2 = .ok c r3 → varint r3 = .ok d r4 → Parse r4 es →
      Parse r (⟨a * 2, a * 2 + b * 2, c * 2, d.fdiv 2, Builtin.bitAnd d 1 != 0⟩ :: es)
section
variable {W : Wo} {n : Nat} {ns : Names} {ρ : Rho} {μ : Mu}
theorem Fra.stepI {A env g₀ s₀ I g s g' s'} (f : Fra W n A env ns ρ μ g₀ s₀ [I] g s) (a : StepX (· = I) g s g' s') (hc : s₀.heap.get? I = none) : Fra W n A env ns ρ μ g₀ s₀ [I] g' s' :=
  f.moveX a (fun b e => e ▸ List.mem_singleton.mpr rfl) fun b e => e ▸ hc
theorem evalCallW (O : W.Ok) {A env g s} {E : Value → Shared → Prop} {x : PySem.Str} {p pos : Pos} {f : Value} {e : Expr} {Q : Value → Shared → Prop} (c : Cx W (n + 1) A env ns ρ g s) (hc : Callee W ns x f)
    (h : wpAny W.M A (eval e env) (fun v s₁ => (∀ b o, W.hs.get? b = some o → s₁.heap.get? b = some o) ∧ wpAny W.M A (PySem.call f [v]) Q E s₁) E s) (hs : ∀ env, starEach [e] env = [(false, eval e env)] := by intro _; rfl) : wpAny W.M A (eval (.Call (.Name x p) [e] [] pos) env) Q E s := by
  show wpAny _ A (do callWith pos (← eval (.Name x p) env) [] (backTo pos (starEach [e] env)) []) _ E s
  refine wpAny_bind (nameGlobal O c hc ?_)
  refine callWith_of (P := fun h => ∀ b o, W.hs.get? b = some o → h.get? b = some o) (by rw [backTo_any, hs]; rfl) hc.keep ?_
  rw [hs]
  refine PySem.Calls.evalArgs_plain ?_
  refine PySem.Calls.spliced_cons (wp_mono' h fun v s₁ ⟨h1, h2⟩ => ?_)
  exact PySem.Calls.spliced_nil ⟨h1, h2⟩
theorem VSt.varint (k : Kit W) {A env g₀ s₀ I r g s l} {E : Value → Shared → Prop} {y : PySem.Str} {p q pos : Pos} {Q : Value → Shared → Prop} (v : VSt W (n + 4) A env ns ρ μ g₀ s₀ I r g s) (hk : ns.lookup ("_parse_varint" : PySem.Str) = some .globalImplicit) (hy : TriE W (n + 4) ns ρ (.Name y q) (.ptr I))
    (hfr : A.frames = some l) (hfs : ∀ h₁ : Heap, (∀ b o, s₀.heap.get? b = some o → h₁.get? b = some o) → (∃ m, h₁.Ns env.locals m) → Frames h₁ l) (hb : varint r ≠ .bad)
    (hok : ∀ a r' g' s' t, Mine.varint r = .ok a r' → VSt W (n + 4) A env ns ρ μ g₀ s₀ I r' g' s' → Q (.int a t) s')
    (hst : Mine.varint r = .stop → ∀ g₁ s₁ s' e, VSt W (n + 4) A env ns ρ μ g₀ s₀ I r g₁ s₁ → s'.gens = s₁.gens ∧ s'.drawn = s₁.drawn ∧ s'.os = s₁.os → Flown s₁.heap (· = I) l e s'.heap → E (.ref e) s') :
    wpAny W.M A (eval (.Call (.Name "_parse_varint" p) [.Name y q] [] pos) env) Q E s := by
  refine evalCall1 k.ok v.fra.cx (k.callee hk rfl rfl rfl rfl) hy fun u g₁ s₁ st r₁ => ?_
  cases rep_ptr.mp r₁
  have v₁ := v.step st
  have hns : ∃ m, s₁.heap.Ns env.locals m := let ⟨m, hm, _⟩ := v₁.fra.cx.en.loc; ⟨m, hm⟩
  refine call_varint k (n := n + 1) (l := l) v₁.fra.cx.room v₁.fra.cx.good hfr (hfs _ v₁.fra.st.keep hns) v₁.it v₁.hid hb (fun a r' g' s' t e a' it hid => ?_) (fun e s' ee rest fl => hst e g₁ s₁ s' ee v₁ rest fl)
  exact hok a r' g' s' t e ⟨v₁.fra.stepI a' v₁.new, it, v₁.new, hid⟩
theorem VSt.varTo (k : Kit W) {A env g₀ s₀ I r g s l} {E : Value → Shared → Prop} {x y : PySem.Str} {px p q pos cpos : Pos} {sts : List Stmt} {Q : Flow → Shared → Prop} (v : VSt W (n + 4) A env ns ρ μ g₀ s₀ I r g s) (hk : ns.lookup ("_parse_varint" : PySem.Str) = some .globalImplicit) (hy : TriE W (n + 4) ns ρ (.Name y q) (.ptr I)) (hx : OwnK ns x)
    (hfr : A.frames = some l) (hfs : ∀ h₁ : Heap, (∀ b o, s₀.heap.get? b = some o → h₁.get? b = some o) → (∃ m, h₁.Ns env.locals m) → Frames h₁ l) (hb : Mine.varint r ≠ .bad)
    (hok : ∀ a r' g' s', Mine.varint r = .ok a r' → VSt W (n + 4) A env ns ((x, .int a) :: ρ) (lose μ x) g₀ s₀ I r' g' s' → wpAny W.M A (execs sts env) Q E s')
    (hst : Mine.varint r = .stop → ∀ g₁ s₁ s' e, VSt W (n + 4) A env ns ρ μ g₀ s₀ I r g₁ s₁ → s'.gens = s₁.gens ∧ s'.drawn = s₁.drawn ∧ s'.os = s₁.os → Flown s₁.heap (· = I) l e s'.heap → E (.ref e) s')
    (hs : ∀ env, EnvIs ns env → swapsWith (.Call (.Name "_parse_varint" p) [.Name y q] [] cpos) (some (.Name x px)) pos.line env = pure false := by intro _ _; rfl) :
    wpAny W.M A (execs (.Assign [.Name x px] (.Call (.Name "_parse_varint" p) [.Name y q] [] cpos) pos :: sts) env) Q E s :=
  wpAny_execs_cons (assignW v.fra hx (v.varint k hk hy hfr hfs hb (fun a r' g' s' t e v' => ⟨.int a, g', v'.fra, rep_int.mpr ⟨t, rfl⟩, fun s₂ sf rest f₂ => hok a r' g' s₂ e (v'.safe sf f₂)⟩) hst) hs)
theorem VSt.varTo2 (k : Kit W) {A env g₀ s₀ I r g s l} {E : Value → Shared → Prop} {x y : PySem.Str} {px p q pos cpos bpos kp : Pos} {kk : Nat} {sts : List Stmt} {Q : Flow → Shared → Prop} (v : VSt W (n + 4) A env ns ρ μ g₀ s₀ I r g s) (hk : ns.lookup ("_parse_varint" : PySem.Str) = some .globalImplicit) (hy : TriE W (n + 4) ns ρ (.Name y q) (.ptr I)) (hx : OwnK ns x)
    (hfr : A.frames = some l) (hfs : ∀ h₁ : Heap, (∀ b o, s₀.heap.get? b = some o → h₁.get? b = some o) → (∃ m, h₁.Ns env.locals m) → Frames h₁ l) (hb : Mine.varint r ≠ .bad)
    (hok : ∀ a r' g' s', Mine.varint r = .ok a r' → VSt W (n + 4) A env ns ((x, .int (a * 2)) :: ρ) (lose μ x) g₀ s₀ I r' g' s' → wpAny W.M A (execs sts env) Q E s')
    (hst : Mine.varint r = .stop → ∀ g₁ s₁ s' e, VSt W (n + 4) A env ns ρ μ g₀ s₀ I r g₁ s₁ → s'.gens = s₁.gens ∧ s'.drawn = s₁.drawn ∧ s'.os = s₁.os → Flown s₁.heap (· = I) l e s'.heap → E (.ref e) s')
    (hs : ∀ env, EnvIs ns env → swapsWith (.BinOp (.Call (.Name "_parse_varint" p) [.Name y q] [] cpos) .Mult (.Constant (.int 2) kk kp) bpos) (some (.Name x px)) pos.line env = pure false := by intro _ _; rfl) :
    wpAny W.M A (execs (.Assign [.Name x px] (.BinOp (.Call (.Name "_parse_varint" p) [.Name y q] [] cpos) .Mult (.Constant (.int 2) kk kp) bpos) pos :: sts) env) Q E s := by
  refine wpAny_execs_cons (assignW v.fra hx (wpAny_BinOp (v.varint k hk hy hfr hfs hb (fun a r' g' s' t e v' => ?_) hst)) hs)
  refine wp_mono' ((TriE.int (W := W) (n := n + 4) (ns := ns) (ρ := ρ)) A env g' s' E v'.fra.cx) fun u s₁ ⟨g₁, st₁, r₁⟩ => ?_
  have v₁ := v'.step st₁
  have hm : binD .Mult (.int a) (.int 2) = some (.int (a * 2)) := if_pos (by rw [Bool.or_eq_true]; exact .inr (by decide))
  refine wp_mono' (binD_sound hm (n + 3) A g₁ s₁ E _ u v₁.fra.cx.room v₁.fra.cx.good (rep_int.mpr ⟨t, rfl⟩) r₁) fun z s₂ ⟨g₂, st₂, r₂⟩ => ?_
  have v₂ := v₁.step st₂
  exact ⟨_, g₂, v₂.fra, r₂, fun s₃ sf rest f₃ => hok a r' g₂ s₃ e (v₂.safe sf f₃)⟩
noncomputable def Nx (r : List Int) (es : List Ent) (K : Int → List Int → Prop) : Prop := varint r ≠ .bad ∧ (varint r = .stop → es = []) ∧ ∀ a r', varint r = .ok a r' → K a r'
theorem Nx.stop {r es K} (h : varint r = .stop) (e : es = []) : Nx r es K := by unfold Nx; rw [h]; exact ⟨VRes.noConfusion, fun _ => e, fun _ _ => VRes.noConfusion⟩
theorem Nx.ok {r es a r'} {K : Int → List Int → Prop} (h : varint r = .ok a r') (k : K a r') : Nx r es K := by unfold Nx; rw [h]; exact ⟨VRes.noConfusion, VRes.noConfusion, fun _ _ e => by cases e; exact k⟩
theorem Parse.nx {r es} (h : Parse r es) : Nx r es fun a r1 => Nx r1 es fun b r2 => Nx r2 es fun c r3 => Nx r3 es fun d r4 => ∃ es', es = ⟨a * 2, a * 2 + b * 2, c * 2, d.fdiv 2, Builtin.bitAnd d 1 != 0⟩ :: es' ∧ Parse r4 es' := by
  cases h with
  | s1 h1 => exact .stop h1 rfl
  | s2 h1 h2 => exact .ok h1 (.stop h2 rfl)
  | s3 h1 h2 h3 => exact .ok h1 (.ok h2 (.stop h3 rfl))
  | s4 h1 h2 h3 h4 => exact .ok h1 (.ok h2 (.ok h3 (.stop h4 rfl)))
  | more h1 h2 h3 h4 h5 => exact .ok h1 (.ok h2 (.ok h3 (.ok h4 ⟨_, rfl, h5⟩)))
theorem VSt.varToN (k : Kit W) {A env g₀ s₀ I r g s l es} {K : Int → List Int → Prop} {E : Value → Shared → Prop} {x y : PySem.Str} {px p q pos cpos : Pos} {sts : List Stmt} {Q : Flow → Shared → Prop} (v : VSt W (n + 4) A env ns ρ μ g₀ s₀ I r g s) (hN : Nx r es K) (hk : ns.lookup ("_parse_varint" : PySem.Str) = some .globalImplicit) (hy : TriE W (n + 4) ns ρ (.Name y q) (.ptr I)) (hx : OwnK ns x)
    (hfr : A.frames = some l) (hfs : ∀ h₁ : Heap, (∀ b o, s₀.heap.get? b = some o → h₁.get? b = some o) → (∃ m, h₁.Ns env.locals m) → Frames h₁ l)
    (hst : es = [] → ∀ g₁ s₁ s' e, VSt W (n + 4) A env ns ρ μ g₀ s₀ I r g₁ s₁ → s'.gens = s₁.gens ∧ s'.drawn = s₁.drawn ∧ s'.os = s₁.os → Flown s₁.heap (· = I) l e s'.heap → E (.ref e) s')
    (hok : ∀ a r' g' s', K a r' → VSt W (n + 4) A env ns ((x, .int a) :: ρ) (lose μ x) g₀ s₀ I r' g' s' → wpAny W.M A (execs sts env) Q E s')
    (hs : ∀ env, EnvIs ns env → swapsWith (.Call (.Name "_parse_varint" p) [.Name y q] [] cpos) (some (.Name x px)) pos.line env = pure false := by intro _ _; rfl) :
    wpAny W.M A (execs (.Assign [.Name x px] (.Call (.Name "_parse_varint" p) [.Name y q] [] cpos) pos :: sts) env) Q E s :=
  v.varTo k hk hy hx hfr hfs hN.1 (fun a r' g' s' e => hok a r' g' s' (hN.2.2 a r' e)) (fun e => hst (hN.2.1 e)) hs
theorem VSt.varTo2N (k : Kit W) {A env g₀ s₀ I r g s l es} {K : Int → List Int → Prop} {E : Value → Shared → Prop} {x y : PySem.Str} {px p q pos cpos bpos kp : Pos} {kk : Nat} {sts : List Stmt} {Q : Flow → Shared → Prop} (v : VSt W (n + 4) A env ns ρ μ g₀ s₀ I r g s) (hN : Nx r es K) (hk : ns.lookup ("_parse_varint" : PySem.Str) = some .globalImplicit) (hy : TriE W (n + 4) ns ρ (.Name y q) (.ptr I)) (hx : OwnK ns x)
    (hfr : A.frames = some l) (hfs : ∀ h₁ : Heap, (∀ b o, s₀.heap.get? b = some o → h₁.get? b = some o) → (∃ m, h₁.Ns env.locals m) → Frames h₁ l)
    (hst : es = [] → ∀ g₁ s₁ s' e, VSt W (n + 4) A env ns ρ μ g₀ s₀ I r g₁ s₁ → s'.gens = s₁.gens ∧ s'.drawn = s₁.drawn ∧ s'.os = s₁.os → Flown s₁.heap (· = I) l e s'.heap → E (.ref e) s')
    (hok : ∀ a r' g' s', K a r' → VSt W (n + 4) A env ns ((x, .int (a * 2)) :: ρ) (lose μ x) g₀ s₀ I r' g' s' → wpAny W.M A (execs sts env) Q E s')
    (hs : ∀ env, EnvIs ns env → swapsWith (.BinOp (.Call (.Name "_parse_varint" p) [.Name y q] [] cpos) .Mult (.Constant (.int 2) kk kp) bpos) (some (.Name x px)) pos.line env = pure false := by intro _ _; rfl) :
    wpAny W.M A (execs (.Assign [.Name x px] (.BinOp (.Call (.Name "_parse_varint" p) [.Name y q] [] cpos) .Mult (.Constant (.int 2) kk kp) bpos) pos :: sts) env) Q E s :=
  v.varTo2 k hk hy hx hfr hfs hN.1 (fun a r' g' s' e => hok a r' g' s' (hN.2.2 a r' e)) (fun e => hst (hN.2.1 e)) hs
end
end Mine
end
section
open PySem.Calls
open Builtin
namespace Mine
noncomputable def ExAt (h : Heap) (F : Addr) (b : Array UInt8) : Prop := ∃ fd dx es q t, h.get? F = some (fnWith fd dx) ∧ h.get? dx = some (dictOf es q) ∧ getL "co_exceptiontable" es = some (some (.bytes b t))
section
variable {W : Wo} {n : Nat} {ns : Names} {ρ : Rho} {μ : Mu}
theorem assignF {A env g₀ s₀ F g s} {E : Value → Shared → Prop} {x : PySem.Str} {e : Expr} {p pos : Pos} {Q : Flow → Shared → Prop} (f : Fra W n A env ns ρ μ g₀ s₀ F g s) (hk : OwnK ns x)
    (h : wpAny W.M A (eval e env) (fun v s₁ => ∃ d g₁ F', Fra W n A env ns ρ μ g₀ s₀ F' g₁ s₁ ∧ Rep g₁ v d ∧ ∀ s₂, SafeF F' g₁ s₁ g₁ s₂ → Fra W n A env ns ((x, d) :: ρ) (lose μ x) g₀ s₀ F' g₁ s₂ → Q .next s₂) E s)
    (hs : ∀ env, EnvIs ns env → swapsWith e (some (.Name x p)) pos.line env = pure false) : wpAny W.M A (exec (.Assign [.Name x p] e pos) env) Q E s := by
  refine wpAny_Assign_Name (wp_mono' h fun v s₁ ⟨d, g₁, F', f₁, r₁, hq⟩ => ?_) (hs env f.cx.envIs)
  refine storeR f₁.cx r₁ hk fun s₂ st₂ k₂ c₂ => ?_
  obtain ⟨f₂, sf₂⟩ := f₁.bound (bs := [(x, d)]) (μ' := lose μ x) (st₂.mono fun b hb => ⟨x, by simp, hb⟩) k₂ c₂ lose_ok
  exact hq s₂ sf₂ f₂
theorem Fra.guard {A env g₀ s₀ I g s} (f : Fra W n A env ns ρ none g₀ s₀ [] g s) (hl : ∃ o, s.heap.get? I = some o) (h1 : env.locals ≠ I) (h2 : ∀ x a, env.cells.lookup x = some a → a ≠ I) : Fra W n A env ns ρ none g₀ s₀ [I] g s :=
  { f with own := fun _ _ e => (by cases e), offL := by simpa using h1, offC := fun x a h => by simpa using h2 x a h, live := fun b hb => List.mem_singleton.mp hb ▸ hl }
theorem iter_bytes_call {prog : Program} {w : World} {A : Around} {E : Value → Shared → Prop} {s : Shared} {b : Array UInt8} {t : Tok} {Q : Value → Shared → Prop} (hQ : Q (.ref s.heap.objs.size) { s with heap := s.heap.push { cls := .type "bytes_iterator", data := .fields #[.bytes b t, .int 0 0] } }) :
    wpAny (model prog w) A (PySem.call (.builtin "iter") [.bytes b t]) Q E s := by
  refine call_function_entry (by decide +kernel) (by decide +kernel) kdk_entry_iter (kdk_args_iter _) ?_
  unfold Builtin.«iter»
  refine wpAny_bind (m := someArgs "iter" 1 2 _) (wpAny_of_eq (a := [Value.bytes b t]) (by first | rfl | kernel_rfl!) ?_)
  show wpAny _ _ (pyIter (.bytes b t) >>= _) _ _ _
  refine wpAny_bind (KBw.pyIter_bytes ?_)
  exact wpAny_pure ⟨_, rfl, hQ⟩
theorem TriE.entry (k : Kit W) {p pos : Pos} {es : List Expr} {a b c d e : D} (hk : ns.lookup ("_ExceptionTableEntry" : PySem.Str) = some .globalImplicit) (he : TriL W (n + 4) ns ρ es [a, b, c, d, e]) (hs : ∀ env, (starEach es env).any (·.1) = false := by intro _; rfl) :
    TriE W (n + 4) ns ρ (.Call (.Name "_ExceptionTableEntry" p) es [] pos) (.ent 179 [a, b, c, d, e]) :=
  TriE.call k.ok ⟨hk, .inl (ns_some_of k.K k.ok.g rfl), KeepOk.ofK k rfl, rfl⟩ he (fn_ent (n := n + 1) k a b c d e) hs
theorem Flown.stay {h h' : Heap} {X : Addr → Prop} {l : List Env} {e : Addr} (fl : Flown h X l e h') {b : Addr} {o : Obj} (q : h.get? b = some o) (h1 : ¬ X b) (h2 : b ∉ l.filterMap (·.frame)) : h'.get? b = some o := by
  obtain ⟨base, a0, k1, ⟨k2, _⟩, k3⟩ := fl
  exact k2 _ _ (k1 b o q h1 h2)
theorem VSt.offFr {A : Around} {env : Env} {g g₁ : View} {s s₁ : Shared} {l : List Env} {I : Addr} {r : List Int} (v : VSt W n A env ns ρ μ g s I r g₁ s₁) (hf : env.frame = some env.locals) (hl : Frames s.heap l) (hlg : ∀ a ∈ l.filterMap (·.frame), g a = none) :
    (∀ a, a ∈ (env :: l).filterMap (·.frame) → a = env.locals ∨ a ∈ l.filterMap (·.frame)) ∧ ∀ a o, g₁ a = some o → ¬ a = I ∧ a ∉ (env :: l).filterMap (·.frame) := by
  have inF : ∀ a, a ∈ (env :: l).filterMap (·.frame) → a = env.locals ∨ a ∈ l.filterMap (·.frame) := fun a ha => by
    rw [List.filterMap_cons, hf] at ha
    exact List.mem_cons.mp ha
  refine ⟨inF, fun a o q => ⟨fun e => (by rw [e, v.hid] at q; cases q), fun ha => (inF a ha).elim (fun e => by rw [e, v.fra.cx.en.hidL] at q; cases q) fun ha => ?_⟩⟩
  obtain ⟨m', o', _, _, ho, _⟩ := hl.mem ha
  rw [v.fra.st.toX (X := fun _ => False) |>.hid (hlg a ha) ho] at q
  cases q
theorem stop_state {A : Around} {env : Env} {g g₁ : View} {s s₁ s' : Shared} {l : List Env} {I e : Addr} {r : List Int} {y : PySem.Str} {xs : List D}
    (v : VSt W n A env ns ρ (some (y, xs)) g s I r g₁ s₁) (hf : env.frame = some env.locals) (hl : Frames s.heap l) (hlg : ∀ a ∈ l.filterMap (·.frame), g a = none) (rest : s'.gens = s₁.gens ∧ s'.drawn = s₁.drawn ∧ s'.os = s₁.os) (fl : Flown s₁.heap (· = I) (env :: l) e s'.heap) :
    ∃ L m g', ns.lookup y = some .local ∧ s'.heap.Ns env.locals m ∧ m y = some (.ref L) ∧ StepX (· ∈ l.filterMap (·.frame)) g s g' s' ∧ (∀ a o, s.heap.get? a = some o → (∀ vs, o.data ≠ .fields vs) → ∃ sl, s'.heap.get? a = some { o with slots := sl }) ∧ Rep g' (.ref L) (.list xs) := by
  obtain ⟨hyl, hyn, L, m, hNs, hm, acc, hLnew, hLF⟩ := v.fra.own _ _ rfl
  obtain ⟨inF, off⟩ := v.offFr hf hl hlg
  have hLI : ¬ L = I := fun h => hLF (List.mem_singleton.mpr h)
  have hEI : env.locals ≠ I := fun h => v.fra.offL (List.mem_singleton.mpr h)
  have inl : ∀ a, a ∈ l.filterMap (·.frame) → ∃ m, s₁.heap.Ns a m := fun a ha => let ⟨m', hm'⟩ := hl.mem ha; ⟨m', hm'.at' fun o e => v.fra.st.keep _ _ e⟩
  have hLfr : L ∉ (env :: l).filterMap (·.frame) := fun ha => (inF L ha).elim (fun e => acc.neL hNs e) fun ha => let ⟨m', hm'⟩ := inl L ha; acc.neL hm' rfl
  obtain ⟨ys, ⟨kk, hpl⟩, hr, hgL⟩ := acc
  have hL5 := fl.stay hpl hLI hLfr
  obtain ⟨_, _, _, _, kept⟩ := id fl
  have old : ∀ b o, s.heap.get? b = some o → ¬ b = I := fun b o q h => by rw [h, v.new] at q; cases q
  have keep : ∀ b o, b ∉ l.filterMap (·.frame) → s.heap.get? b = some o → s'.heap.get? b = some o := fun b o nb q =>
    fl.stay (v.fra.st.keep _ _ q) (old b o q) fun ha => (inF b ha).elim (fun e => by rw [e, v.fra.loc] at q; cases q) nb
  have slot : ∀ a o, s.heap.get? a = some o → (∀ vs, o.data ≠ .fields vs) → ∃ sl, s'.heap.get? a = some { o with slots := sl } := fun b o q hdb => kept _ _ (v.fra.st.keep _ _ q) (old b o q) hdb
  refine ⟨L, m, g₁.put L { cls := .type "list", data := .seq ys kk }, hyl, ?_, hm, ⟨fun b o q => View.le_put hgL _ _ (v.fra.st.view _ _ q), fun b o q => ?_, fun b o q => ?_, keep, fun b o q => ?_, rest.1.trans v.fra.st.rest.1, rest.2.1.trans v.fra.st.rest.2.1, rest.2.2.trans v.fra.st.rest.2.2⟩, slot, rep_list.mpr ⟨L, ys, kk, rfl, View.put_self, hr.mono (View.le_put hgL)⟩⟩
  · obtain ⟨oL, es', ep', hoL, hdL, hrL⟩ := hNs
    obtain ⟨sl, hsl⟩ := kept _ _ hoL hEI (fun vs q => by rw [hdL] at q; cases q)
    exact ⟨_, es', ep', hsl, hdL, hrL⟩
  · by_cases e1 : b = L
    · rw [e1]; exact .inr hLnew
    · rw [View.put_ne e1] at q; exact v.fra.st.fresh _ _ q
  · by_cases e1 : b = L
    · rw [e1, View.put_self] at q; cases q; rw [e1]; exact hL5
    · rw [View.put_ne e1] at q
      exact fl.stay (v.fra.cx.good.sub _ _ q) (off b o q).1 (off b o q).2
  · by_cases nb : b ∈ l.filterMap (·.frame)
    · obtain ⟨m', o', es'', ep'', ho', hd', _⟩ := hl.mem nb
      rw [q] at ho'
      obtain ⟨sl', h⟩ := slot b o q (fun vs z => by cases ho'; rw [hd'] at z; cases z)
      exact ⟨_, h⟩
    · exact ⟨o, keep b o nb q⟩
theorem handled_stop (k : Kit W) {A : Around} {env : Env} {g g₁ : View} {s s₁ s' : Shared} {l : List Env} {I e : Addr} {r : List Int} {y : PySem.Str} {xs : List D} {p1 p2 p3 p4 : Pos} {E' : Value → Shared → Prop} {Q' : Flow → Shared → Prop}
    (v : VSt W n A env ns ρ (some (y, xs)) g s I r g₁ s₁) (hf : env.frame = some env.locals) (hfr : A.frames = some (env :: l)) (hl : Frames s.heap l) (hlg : ∀ a ∈ l.filterMap (·.frame), g a = none) (hsi : ns.lookup ("StopIteration" : PySem.Str) = some .globalImplicit) (hd : (y == ("__debug__" : PySem.Str)) = false)
    (rest : s'.gens = s₁.gens ∧ s'.drawn = s₁.drawn ∧ s'.os = s₁.os) (fl : Flown s₁.heap (· = I) (env :: l) e s'.heap)
    (hQ : ∀ v g' s₉, StepX (· ∈ l.filterMap (·.frame)) g s g' s₉ → (∀ a o, s.heap.get? a = some o → (∀ vs, o.data ≠ .fields vs) → ∃ sl, s₉.heap.get? a = some { o with slots := sl }) → Rep g' v (.list xs) → Q' (.ret v) s₉) :
    notedBy W.M A env (fun e s' => cameBackBy W.M A env (fun e s₁ => wpAny W.M A (noteFrame e env) (fun _ s₂ => wpAny W.M A (setFlight e none) (fun _ s₃ => wpAny W.M A (handleBy e env [.ExceptHandler (some (.Name "StopIteration" p1)) none [.Return (some (.Name y p2)) p3] p4]) Q' E' s₃) E' s₂) E' s₁) e s') (.ref e) s' := by
  have off := (v.offFr hf hl hlg).2
  unfold notedBy
  refine note_flown hfr hf fl fun h₂ hh => came_back hf hh fun h₃ hh₃ => note_again hf hh₃ (set_none hh₃ fun h₄ fl₄ => ?_)
  have stat : ∀ b o, W.hs.get? b = some o → h₄.get? b = some o := fun b o q =>
    have q1 := v.fra.cx.good.stat _ _ q
    fl₄.stay (v.fra.cx.good.sub _ _ q1) (off b o q1).1 (off b o q1).2
  refine wpAny_handleBy_builtin (X := "StopIteration") (T := "StopIteration") (b := true) (by rw [isSubtype_type]; kernel_rfl) (by rw [isSubtype_type]; kernel_rfl) (by rw [isSubtype_type]; kernel_rfl) ?_
  have hc : Callee W ns "StopIteration" (.type "StopIteration") := k.builtin hsi rfl rfl (by decide) rfl KeepOk.type
  refine opaqueQE fun QQ EE hQQ _ => ?_
  have tail : QQ (.type "StopIteration") { s' with heap := h₄ } := hQQ _ _ (by
    refine ⟨rfl, ?_, set_none' fl₄ fun h₅ fl₅ => wpAny_execs_cons (wpAny_Return_some ?_)⟩
    · obtain ⟨_, _, _, hfl, _⟩ := fl₄
      obtain ⟨ob, h1, h2⟩ := hfl.there
      exact ⟨ob, h1, h2⟩
    obtain ⟨L, m, g', hyl, hns, hm, sx, sl, hr⟩ := stop_state (s' := { s' with heap := h₅ }) v hf hl hlg rest fl₅
    exact wpAny_Name (wpAny_loadName_local v.fra.cx.en.kind ((v.fra.cx.en.kindOf y).trans hyl) hns hm (hQ _ g' _ sx sl hr)) hd)
  refine PySem.Calls.Name_function_global v.fra.cx.en.kind ((v.fra.cx.en.kindOf _).trans hc.kind) ?_ hc.plain
  rcases hc.val with hv | ⟨hm', hv⟩
  · exact PySem.Calls.loadGlobal_global (mg := W.mg) (by rw [v.fra.cx.en.globals]; exact k.ok.g.keeps stat) hv tail
  · exact PySem.Calls.loadGlobal_builtin (mg := W.mg) (mb := W.mb) (by rw [v.fra.cx.en.globals]; exact k.ok.g.keeps stat) hm' (by rw [v.fra.cx.en.builtins]; exact k.ok.b.keeps stat) hv tail
set_option maxHeartbeats 4000000 in
theorem call_ptable (k : Kit W) {A : Around} {g : View} {s : Shared} {E Q : Value → Shared → Prop} {F : Addr} {b : Array UInt8} {es : List Ent} {l : List Env} (R : Room (n + 5) A) (G : Good W.hs g s) (hfr : A.frames = some l) (hl : Frames s.heap l) (hlg : ∀ a ∈ l.filterMap (·.frame), g a = none) (hF : ExAt s.heap F b) (hp : Parse (KBw.bInts b) es) (hes : es.length ≤ 1000)
    (hQ : ∀ v g' s', StepX (· ∈ l.filterMap (·.frame)) g s g' s' → (∀ a o, s.heap.get? a = some o → (∀ vs, o.data ≠ .fields vs) → ∃ sl, s'.heap.get? a = some { o with slots := sl }) → Rep g' v (.list (es.map entD)) → Q v s') :
    wpAny W.M A (PySem.call (.ref 196) [.ref F]) Q E s := by
  obtain ⟨fd, dx, ds, q, t, e1, e2, e3⟩ := hF
  refine wpAny_call (defEnterX k (F := []) (xs := ["code"]) (vs := [.ref F]) (ρ := [("code", .ptr F)]) (R := fun r s' => match r with | .ok (.ret v) => Q v s' | .ok _ => False | .error e => E e s') (n := n + 4) R G (Step.refl G) (fun b hb => by cases hb) rfl rfl ⟨_, _, _, _, rfl, rfl, rfl, rfl⟩ rfl ?_ rfl ⟨rfl, rfl, rfl, rfl, rfl, rfl⟩ (by decide +kernel) (fun x d h => zip_rep (xs := ["code"]) (ds := [.ptr F]) (RepL.cons (rep_ptr.mpr rfl) RepL.nil) h) fun env s₁ ⟨hf, _⟩ f st hLf => ?_)
  · exact BindsTo.of_eq rfl
  refine opaqueQE fun QO EO hQO _ => ?_
  have hfr' := Around.frames_deeper (env := env) hfr
  have hLI : ∀ b o, s.heap.get? b = some o → b ≠ env.locals := fun b o e => by rintro rfl; rw [hLf] at e; cases e
  have hfs : ∀ h₁ : Heap, (∀ b o, s.heap.get? b = some o → h₁.get? b = some o) → (∃ m, h₁.Ns env.locals m) → Frames h₁ (env :: l) := fun h₁ hk ⟨m, hm⟩ =>
    ⟨by rw [f.cx.en.kind]; decide, ⟨_, m, hf, hm⟩, hl.keeps fun b o e _ => hk b o e⟩
  refine wpAny_execs_cons (assignF f (.inl rfl) (evalCallW k.ok f.cx (k.builtin rfl rfl rfl (by decide) rfl KeepOk.builtin) (Attribute_Name_ (wp_mono' ((show TriE W (n + 4) _ [("code", .ptr F)] (.Name "code" _) (.ptr F) from by exact .nm rfl rfl) _ env g s₁ _ f.cx) fun u s₂ ⟨g₂, st₂, r₂⟩ => ?_))) fun _ _ => rfl)
  cases rep_ptr.mp r₂
  refine fattr_get (st₂.keep _ _ (st.keep _ _ e1)) (st₂.keep _ _ (st.keep _ _ e2)) e3 rfl ?_
  have f₂ := f.step st₂
  have st₃ : Step g₂ s₂ g₂ { s₂ with toks := s₂.toks + 1 } := Step.toks f₂.cx.good
  have f₃ := f₂.step st₃
  refine ⟨fun b o q => f₃.cx.good.sub _ _ (f₃.cx.good.stat _ _ q), iter_bytes_call ?_⟩
  have st₄ : Step g₂ { s₂ with toks := s₂.toks + 1 } g₂ { s₂ with heap := s₂.heap.push { cls := .type "bytes_iterator", data := .fields #[.bytes b t, .int 0 0] }, toks := s₂.toks + 1 } := Step.keeps f₃.cx.good fun _ _ e => Heap.get?_push_of_some _ e
  have f₄ := f₃.step st₄
  have fresh : s₂.heap.get? s₂.heap.objs.size = none := Heap.get?_none_of_le (Nat.le_refl _)
  have hI : ItRem (s₂.heap.push { cls := .type "bytes_iterator", data := .fields #[.bytes b t, .int 0 0] }) s₂.heap.objs.size (KBw.bInts b) := ⟨b, t, 0, ⟨_, Heap.get?_push_size _ rfl, rfl, rfl⟩, rfl⟩
  have f₅ := f₄.guard (I := s₂.heap.objs.size) (let ⟨o, h, _⟩ := hI.get; ⟨o, h⟩) (fun e => by
    obtain ⟨m, hm, _⟩ := f₂.cx.en.loc
    obtain ⟨o, _, _, ho, _⟩ := hm
    rw [e, fresh] at ho; cases ho) (fun x a hx e => by
    obtain ⟨v, o, ho, _⟩ := f₂.cx.en.isC x a hx
    rw [e, fresh] at ho; cases ho)
  have hnew : s.heap.get? s₂.heap.objs.size = none := none_of fun o q => by rw [st₂.keep _ _ (st.keep _ _ q)] at fresh; cases fresh
  have hhid : g₂ s₂.heap.objs.size = none := f₂.cx.good.fresh fresh
  have v₅ : VSt W (n + 4) (A.deeper env) env _ [("code", .ptr F)] none g s s₂.heap.objs.size (KBw.bInts b) g₂ _ := ⟨f₅, hI, hnew, hhid⟩
  generalize s₂.heap.objs.size = I at *
  refine ⟨.ptr I, g₂, [I], f₅, rep_ptr.mpr rfl, fun s₆ sf f₆ => ?_⟩
  have v₆ := v₅.safe sf f₆
  refine v₆.tri (TriS.assignNew (xs := []) (TriN.list TriL.nil (by show 0 ≤ sizeLine; decide)) rfl (fun _ _ => rfl)) fun g₇ s₇ v₇ => ?_
  have v₇ := v₇.sub (ρ' := [("iterator", .ptr I)]) (SubR.cons rfl SubR.nil)
  refine wpAny_execs_cons (wpAny_Try_except ?_)
  refine wpAny_execs_cons (wpAny_While (codeAny_whileLoop (fun m s' => ∃ done todo rr g', m = todo.length ∧ es = done ++ todo ∧ VSt W (n + 4) (A.deeper env) env _ [("iterator", .ptr I)] (some ("entries", done.map entD)) g s I rr g' s' ∧ Parse rr todo) (fun m s' ⟨done, todo, rr, g', hm, hes', v, hpr⟩ => ?_) es.length ⟨[], es, _, g₇, rfl, rfl, v₇, hp⟩))
  refine wp_mono' ((TriB.ofE (TriE.boolC (b := true)) rfl) _ _ _ _ _ v.fra.cx) fun c' s₈ ⟨hc, g₈, st₈⟩ => ?_
  have v₈ := v.step st₈
  subst hc
  rw [if_pos rfl]
  refine opaqueQE fun QQ EE hQQ hEE => ?_
  clear v f₂ f₃ f₄ f₅ st₃ st₄ fresh hnew hhid v₅ sf f₆ v₆ v₇ e1 e2 e3 st₂ r₂
  have stop : ∀ ρ r g₁ s₁ s' e, todo = [] → VSt W (n + 4) (A.deeper env) env (scoOf (stAt 9)).names ρ (some ("entries", done.map entD)) g s I r g₁ s₁ → s'.gens = s₁.gens ∧ s'.drawn = s₁.drawn ∧ s'.os = s₁.os → Flown s₁.heap (· = I) (env :: l) e s'.heap → EE (.ref e) s' := fun ρ r g₁ s₁ s' e h v' rest fl => by
    rw [h, List.append_nil] at hes'
    rw [hes'] at hQ
    exact hEE _ _ (handled_stop k v' hf hfr' hl hlg rfl rfl rest fl fun v g' s' a b c => hQO _ _ (hQ v g' s' a b c))
  refine v₈.varTo2N k hpr.nx rfl (by exact .nm rfl rfl) (.inl rfl) hfr' hfs (fun h g₁ s₁ s' e => stop _ _ g₁ s₁ s' e h) fun a r1 g₁ s₁ hN v' => ?_
  refine v'.varTo2N k hN rfl (by exact .nm rfl rfl) (.inl rfl) hfr' hfs (fun h g₁ s₁ s' e => stop _ _ g₁ s₁ s' e h) fun b r2 g₁ s₁ hN v' => ?_
  refine v'.tri (TriS.assign (TriE.bin' (by exact .nm rfl rfl) (by exact .nm rfl rfl) rfl) (.inl rfl) fun _ _ => rfl) fun g₂ s₂ v' => ?_
  refine v'.varTo2N k hN rfl (by exact .nm rfl rfl) (.inl rfl) hfr' hfs (fun h g₁ s₁ s' e => stop _ _ g₁ s₁ s' e h) fun c r3 g₁ s₁ hN v' => ?_
  refine v'.varToN k hN rfl (by exact .nm rfl rfl) (.inl rfl) hfr' hfs (fun h g₁ s₁ s' e => stop _ _ g₁ s₁ s' e h) fun d r4 g₁ s₁ hN v' => ?_
  clear stop v₈ hEE
  obtain ⟨es₂, h4, h5⟩ := hN
  rw [h4] at hes' hm
  refine v'.tri (TriS.assign (d := .int (d.fdiv 2)) (TriE.bin' (a := .int d) (b := .int 1) (by exact .nm rfl rfl) TriE.int rfl) (.inl rfl) fun _ _ => rfl) fun g₂ s₂ v' => ?_
  refine v'.tri (TriS.assign (d := .bool (Builtin.bitAnd d 1 != 0)) (TriE.callB k rfl rfl rfl (by decide) rfl KeepOk.type (TriL.cons (TriE.bin' (a := .int d) (b := .int 1) (by exact .nm rfl rfl) TriE.int rfl) TriL.nil) fn_bool_int) (.inl rfl) fun _ _ => rfl) fun g₂ s₂ v' => ?_
  refine v'.tri (TriS.append (d := entD ⟨a * 2, a * 2 + b * 2, c * 2, d.fdiv 2, Builtin.bitAnd d 1 != 0⟩) (TriE.entry k rfl (TriL.cons (by exact .nm rfl rfl) (TriL.cons (by exact .nm rfl rfl) (TriL.cons (by exact .nm rfl rfl) (TriL.cons (by exact .nm rfl rfl) (TriL.cons (by exact .nm rfl rfl) TriL.nil)))))) ?_ rfl) fun g₃ s₃ v' => ?_
  · rw [List.length_map]
    rw [hes', List.length_append] at hes
    exact szLe (Nat.le_trans (Nat.le_add_right _ _) hes) (by decide)
  exact wpAny_execs_nil (hQQ _ _ ⟨es₂.length, by rw [hm]; exact Nat.lt_succ_self _, done ++ [⟨a * 2, a * 2 + b * 2, c * 2, d.fdiv 2, Builtin.bitAnd d 1 != 0⟩], es₂, r4, g₃, rfl, by rw [hes', List.append_assoc]; rfl, by rw [List.map_append]; exact v'.sub (SubR.cons rfl SubR.nil), h5⟩)
end
end Mine
end
section
open PySem.Calls
open Builtin
namespace Mine
theorem ti_kind : builtinKind "tuple.__getitem__" = some .slot := by decide +kernel
theorem ti_split : splitId "tuple.__getitem__" = some ("tuple", "__getitem__") := by decide +kernel
theorem ti_entry : entryFor table "tuple.__getitem__" = some Builtin.«tuple.__getitem__» := entryFor_of_tree (by kernel_rfl)
theorem ti_args (a b : Value) : argsOk "tuple.__getitem__" ⟨[a, b], []⟩ := by unfold argsOk; kernel_rfl
section
variable {W : Wo} {n : Nat}
theorem fn_type_ent {C : Addr} {xs : List D} : FnE W n (.type "type") [.ent C xs] (.ptr C) := by
  intro A g s E vs R G r
  obtain ⟨v, r', rfl, h1, h2⟩ := repL_cons.mp r
  cases repL_nil.mp h2
  obtain ⟨x, us, q, dx, rfl, hx, hdx, hr⟩ := rep_ent.mp h1
  obtain ⟨hh, gg, dd, tk, os⟩ := s
  exact call_type_obj (G.sub _ _ hx) rfl ⟨g, Step.refl G, rep_ptr.mpr rfl⟩
theorem fn_issub (k : Kit W) : FnE W n (.builtin "issubclass") [.ptr 179, .ty "tuple"] (.bool true) := by
  intro A g s E vs R G r
  obtain ⟨v, r', rfl, h1, h2⟩ := repL_cons.mp r
  obtain ⟨v', r'', rfl, h3, h4⟩ := repL_cons.mp h2
  cases repL_nil.mp h4
  cases rep_ptr.mp h1
  cases rep_ty.mp h3
  have X : (KK W).In s.heap := k.here G
  obtain ⟨hh, gg, dd, tk, os⟩ := s
  have L2 : Looks W.M hh (isSubtype (.ref 179) (.type "tuple")) true := looks_subIn X rfl
  refine wpAny_call (codeAny_call_builtin PySem.F.plain_issubclass PySem.F.entry_issubclass ?_)
  have L1 : Looks W.M hh (isType (.ref 179)) true := by
    obtain ⟨o, ho, cd, hd⟩ : ∃ o, (KK W).lookup 179 = some o ∧ ∃ cd, o.data = .cls cd := ⟨_, rfl, _, rfl⟩
    refine (Looks.ld (X 179 _ ho)).andThen ?_
    rw [hd]
    exact .now
  have ha := PySem.F.args_issubclass_2 (.ref 179) (.type "tuple")
  have go := fun q => issubclass_outer (A := A) (prog := W.prog) (w := W.w) (s := ⟨hh, gg, dd, tk, os⟩) (x := .ref 179) (c := .type "tuple") (R := fun r s' => match r with | .ok (.ret v) => Res g ⟨hh, gg, dd, tk, os⟩ (.bool true) v s' | .ok _ => False | .error e => E e s') q
  have go := go (by
    unfold Builtin.«issubclass.nested»
    dsimp only
    refine wpAny_bind (m := typeOf (.type "tuple")) (wpAny_of_eq (a := .type "type") (by first | rfl | kernel_rfl) ?_)
    rw [if_pos (by decide +kernel)]
    refine wpAny_bind ?_
    refine wpAny_bind (m := isType (.ref 179)) (L1.at ?_)
    refine wpAny_bind (m := isType (.type "tuple")) (wpAny_pure ?_)
    rw [if_pos (show (true && true) = true from rfl)]
    refine L2.at ?_
    exact wpAny_pure ⟨g, Step.refl G, rep_bool.mpr rfl⟩)
  simp only [checkBuiltinCall, PySem.F.kind_issubclass]
  cases hsig : Manifest.signature? "issubclass" with
  | none => exact wpAny_pure go
  | some sig =>
    have ha' : Bind.checkArgs "issubclass" sig ⟨[.ref 179, .type "tuple"], []⟩ = pure () := by simpa only [argsOk, hsig] using ha
    simp only [ha']
    exact wpAny_pure go
theorem fn_tup_item (k : Kit W) {xs : List D} {i : Nat} {d : D} (hi : xs[i]? = some d) (hz : xs.length ≤ 1000) : FnE W n (.builtin "tuple.__getitem__") [.ent 179 xs, .int (i : Int)] d := by
  intro A g s E vs R G r
  obtain ⟨v, r', rfl, h1, h2⟩ := repL_cons.mp r
  obtain ⟨v', r'', rfl, h3, h4⟩ := repL_cons.mp h2
  cases repL_nil.mp h4
  obtain ⟨x, us, q, dx, rfl, hx, hdx, hr⟩ := rep_ent.mp h1
  obtain ⟨t, rfl⟩ := rep_int.mp h3
  have X : (KK W).In s.heap := k.here G
  obtain ⟨hh, gg, dd, tk, os⟩ := s
  have hx' := G.sub _ _ hx
  have LT : Looks W.M hh (typeOf (.ref x)) (.ref 179) := (Looks.ld hx').andThen .now
  have sub : Looks W.M hh (isInstance (.ref x) (.type "tuple")) true := LT.andThen (looks_subIn X rfl)
  obtain ⟨u, hu, hru⟩ := hr.get hi
  refine wpAny_call ?_
  refine codeAny_call_builtin_at (Code.quiet_builtin _ (by decide +kernel)) ti_entry ?_
  refine check_slot (M := W.M) (i := "tuple.__getitem__") (owner := "tuple") (n := "__getitem__") (self := .ref x) (rest := [.int (i : Int) t]) (kw := []) ti_kind ti_split sub (ti_args (.ref x) (.int (i : Int) t)) ?_
  unfold Builtin.«tuple.__getitem__»
  refine wpAny_bind (m := slotArgs "__getitem__" 1 _) (wpAny_of_eq (a := (Value.ref x, [Value.int (i : Int) t])) (by first | rfl | kernel_rfl) ?_)
  dsimp only
  have LX : Looks W.M hh (specialOf (.int (i : Int) t) "__index__") (some (.builtin "int.__index__")) := looks_specialIn X rfl
  have e1 := hr.length
  rw [Array.length_toList] at e1
  have hlt : i < xs.length := by
    rcases Nat.lt_or_ge i xs.length with h | h
    · exact h
    · rw [List.getElem?_eq_none h] at hi; cases hi
  refine wpAny_bind ?_
  unfold Tuple.tupleItemsOf seqItems?
  refine wpAny_bind (wpAny_bind (wpAny_load hx' (wpAny_pure (wpAny_pure ?_))))
  refine wpAny_bind (m := typeOf (.int (i : Int) t)) (wpAny_of_eq (a := .type "int") (by first | rfl | kernel_rfl) ?_)
  rw [if_neg (by decide)]
  refine wpAny_bind (LX.at ?_)
  rw [if_neg (by decide)]
  refine wpAny_bind (m := asIndex (.int (i : Int) t)) (wpAny_of_eq (a := (i : Int)) (by first | rfl | kernel_rfl) ?_)
  rw [if_neg (by simp; lia)]
  have hs : ((seqIndex? (i : Int) us.size).bind fun x => us[x]?) = some u := by
    have : seqIndex? (i : Int) us.size = some i := by
      have h1 : ¬ ((i : Int) < 0) := by lia
      have h2 : (i : Int) < (us.size : Int) := by lia
      unfold seqIndex?
      simp only [h1, if_false]
      rw [if_pos (by simp only [Bool.and_eq_true, decide_eq_true_eq]; exact ⟨by lia, h2⟩)]
      simp
    rw [this]
    rw [Array.getElem?_toList] at hu
    exact hu
  rw [hs]
  exact wpAny_pure ⟨g, Step.refl G, hru⟩
end
section
variable {W : Wo} {n : Nat} {ns : Names} {ρ : Rho} {μ : Mu}
theorem cmp_is_entnone {C : Addr} {xs : List D} : CmpE W .Is (.ent C xs) .none false := by
  intro n A g s E u v R G ru rv
  obtain ⟨x, us, q, dx, rfl, hx, hdx, hr⟩ := rep_ent.mp ru
  cases rep_none.mp rv
  exact wpAny_is_other rfl (by intro e; cases e) ⟨g, Step.refl G, rep_bool.mpr rfl⟩
theorem TriE.tyTuple (k : Kit W) {pos : Pos} (hk : ns.lookup ("tuple" : PySem.Str) = some .globalImplicit) : TriE W n ns ρ (.Name "tuple" pos) (.ty "tuple") := by
  obtain ⟨c1, c2, c3, c4⟩ := k.builtin (ns := ns) (x := "tuple") (v := .type "tuple") hk rfl rfl (by decide) rfl KeepOk.type
  exact TriE.global k.ok c1 c2 rfl fun g _ => rep_ty.mpr rfl
noncomputable def getter (i : Nat) (doc : PySem.Str) (a : Addr) : D := .inst (some a) 77 [("index", .int (i : Int)), ("__doc__", .str doc)]
theorem fn_getter (k : Kit W) {i : Nat} {doc : PySem.Str} {a : Addr} {xs : List D} {d : D} (hi : xs[i]? = some d) (hz : xs.length ≤ 1000) : FnE W (n + 1) (.ref 60) [getter i doc a, .ent 179 xs, .ptr 179] d := by
  refine FnE.ofX k (xs := ["self", "obj", "objtype"]) rfl rfl ⟨_, _, _, _, rfl, rfl, rfl, rfl⟩ rfl ?_ rfl ⟨rfl, rfl, rfl, rfl, rfl, rfl⟩ (by decide +kernel) ?_
  · intro s X
    exact len3 fun _ _ _ => kp_binds X fun S => rfl
  refine TriSS.cons (TriS.skipIf (TriB.cmp (a := .ent 179 xs) (b := .none) (by exact .nm rfl rfl) TriE.noneC cmp_is_entnone rfl)) ?_
  refine TriSS.cons (TriS.skipIf (TriB.eq (TriB.not (TriB.ofE (d := .bool true) (TriE.callB k rfl rfl rfl (by decide) rfl KeepOk.builtin (TriL.cons (TriE.callB k rfl rfl rfl (by decide) rfl KeepOk.type (TriL.cons (by exact .nm rfl rfl) TriL.nil) (fn_type_ent (C := 179) (xs := xs))) (TriL.cons (TriE.tyTuple k rfl) TriL.nil)) (fn_issub k)) rfl)) rfl)) ?_
  refine TriSS.stop (TriS.ret (TriE.methT k rfl rfl rfl (by decide) rfl rfl rfl rfl (by decide +kernel) (TriL.cons (by exact .nm rfl rfl) (TriL.cons (TriE.attrInst k (io := some a) (C := 77) (fs := [("index", .int (i : Int)), ("__doc__", .str doc)]) (by exact .nm rfl rfl) rfl rfl rfl rfl rfl) TriL.nil)) (fn_tup_item k hi hz)))
end
end Mine
end
section
open PySem.Calls
open Builtin Builtin.ObjectAttr
namespace Mine
theorem slot_tga2 : Slot "tuple" "__getattribute__" "tuple.__getattribute__" :=
  .of (owner := "tuple") (n := "__getattribute__") (by rw [typeLookup_type, builtinLookup_eq_fast]; kernel_rfl) (by decide +kernel) (by decide +kernel) (by decide +kernel) (by first | exact .inl (by decide +kernel) | exact .inr (by decide +kernel)) (by rw [isSubtype_type]; kernel_rfl)
theorem tga_kind : builtinKind "tuple.__getattribute__" = some .slot := by decide +kernel
theorem tga_split : splitId "tuple.__getattribute__" = some ("tuple", "__getattribute__") := by decide +kernel
theorem tga_args (a b : Value) : argsOk "tuple.__getattribute__" ⟨[a, b], []⟩ := by unfold argsOk; kernel_rfl
theorem tga_entry : entryFor table "tuple.__getattribute__" = some Builtin.«object.__getattribute__» :=
  entryFor_alias (id' := "object.__getattribute__") (by kernel_rfl) (by first | rfl | decide +kernel) (by decide +kernel) (by kernel_rfl)
section
variable {W : Wo} {n : Nat} {ns : Names} {ρ : Rho} {μ : Mu}
noncomputable def GetAt (W : Wo) (a : Addr) (i : Nat) (name : PySem.Str) : Prop :=
  (∃ dx es q doc, (KK W).lookup a = some (instObj 77 dx) ∧ (KK W).lookup dx = some (dictOf es q) ∧ ∀ g, RepF g es [("index", .int (i : Int)), ("__doc__", .str doc)]) ∧ findObj (KK W) 179 (some emptyDict) name = some (.bind (.ref 60) (.ref a))
theorem getFs {g : View} {h1 h2 : Int} {t1 t2 t3 t4 : Tok} {i : Int} {doc : PySem.Str} : RepF g [⟨h1, .str "index" t1, .int i t2⟩, ⟨h2, .str "__doc__" t3, .str doc t4⟩] [("index", .int i), ("__doc__", .str doc)] :=
  repF_cons.mpr ⟨_, _, _, rfl, rfl, rep_int.mpr ⟨_, rfl⟩, repF_cons.mpr ⟨_, _, _, rfl, rfl, rep_str.mpr ⟨_, rfl⟩, repF_nil.mpr rfl⟩⟩
theorem get_start : GetAt W 149 0 "start" := ⟨⟨148, _, _, _, rfl, rfl, fun g => getFs⟩, rfl⟩
theorem get_stop : GetAt W 152 1 "end" := ⟨⟨151, _, _, _, rfl, rfl, fun g => getFs⟩, rfl⟩
theorem get_target : GetAt W 155 2 "target" := ⟨⟨154, _, _, _, rfl, rfl, fun g => getFs⟩, rfl⟩
theorem get_depth : GetAt W 158 3 "depth" := ⟨⟨157, _, _, _, rfl, rfl, fun g => getFs⟩, rfl⟩
theorem get_lasti : GetAt W 161 4 "lasti" := ⟨⟨160, _, _, _, rfl, rfl, fun g => getFs⟩, rfl⟩
theorem entAttr (k : Kit W) {A : Around} {g : View} {s : Shared} {E : Value → Shared → Prop} {v : Value} {expr : Bool} {xs : List D} {a : Addr} {i : Nat} {name : PySem.Str} {d : D} (R : Room (n + 3) A) (G : Good W.hs g s) (r : Rep g v (.ent 179 xs)) (ha : GetAt W a i name) (hi : xs[i]? = some d) (hz : xs.length ≤ 1000) :
    wpAny W.M A (getAttr v name expr) (Res g s d) E s := by
  obtain ⟨x, us, q, dx, rfl, hx, hdx, hr⟩ := rep_ent.mp r
  obtain ⟨⟨dx', es', q', doc, h1, h2, h3⟩, hf⟩ := ha
  have X : (KK W).In s.heap := k.here G
  obtain ⟨hh, gg, dd, t, os⟩ := s
  have hx' := G.sub _ _ hx
  have I : InstAt hh x { cls := .ref 179, dict := some dx, data := .seq us q } 179 (some emptyDict) := ⟨hx', rfl, rfl, G.sub _ _ hdx⟩
  have LT : Looks W.M hh (typeOf (.ref x)) (.ref 179) := (Looks.ld hx').andThen .now
  have L1 : Looks W.M hh (typeLookup (.ref 179) "__getattribute__") (some (.builtin "tuple.__getattribute__")) := looks_findIn X rfl
  have LH : Looks W.M hh (hookBefore (.ref 179)) none := looks_hook X rfl
  have LF : Looks W.M hh (find (.ref x) (.ref 179) name) (.bind (.ref 60) (.ref a)) := looks_find X I hf
  have sub : Looks W.M hh (isInstance (.ref x) (.type "tuple")) true := LT.andThen (looks_subIn X rfl)
  unfold getAttr getAttrBy
  refine wpAny_bind (wpAny_mkText (wpAny_holding (wpAny_bind (LT.at (wpAny_bind (L1.at ?_))))))
  dsimp only
  rw [if_neg (by decide +kernel)]
  unfold getAttrByItsOwn
  refine wpAny_bind (LH.at (wpAny_bind (wpAny_attempt (wpAny_holding ?_))))
  unfold callGetattribute
  rw [if_neg (by rw [show onTheHeap (Value.builtin "tuple.__getattribute__") = false from by decide +kernel, Bool.and_false]; decide)]
  unfold boundAndCalled
  rw [slot_tga2.bind]
  refine wpAny_bind (wpAny_pure ?_)
  show wpAny _ _ (PySem.call (.builtin "tuple.__getattribute__") [.ref x, .str name t]) _ _ _
  refine wpAny_call ?_
  refine codeAny_call_builtin slot_tga2.plain tga_entry ?_
  refine check_slot (M := W.M) (i := "tuple.__getattribute__") (owner := "tuple") (n := "__getattribute__") (self := .ref x) (rest := [.str name t]) (kw := []) tga_kind tga_split sub (tga_args (.ref x) (.str name t)) ?_
  unfold Builtin.«object.__getattribute__»
  refine wpAny_bind (wpAny_pure (wpAny_bind (wpAny_pure (wpAny_bind (LT.at (wpAny_bind (LF.at ?_)))))))
  dsimp only
  show wpAny _ _ (holding [.ref a] (PySem.call (.ref 60) [.ref a, .ref x, .ref 179]) >>= ret) _ _ _
  have st0 : Step g ⟨hh, gg, dd, t, os⟩ g ⟨hh, gg, dd, t + 1, os⟩ := Step.toks G
  have hself : Rep g (.ref a) (getter i doc a) := by
    unfold getter
    exact rep_inst.mpr ⟨a, dx', es', q', rfl, fun b e => Option.some.inj e, G.stat _ _ (k.K _ _ h1), G.stat _ _ (k.K _ _ h2), h3 g⟩
  refine wpAny_bind (wpAny_holding (wp_mono' (fn_getter (n := n) k (doc := doc) (a := a) hi hz _ g _ _ _ R.in1 (st0.good G) (RepL.cons hself (RepL.cons r (RepL.cons (rep_ptr.mpr rfl) RepL.nil)))) fun v s₂ ⟨g₂, st₂, r₂⟩ => ?_))
  refine wpAny_pure ?_
  show wpAny _ _ (handedOut v) _ _ _
  rw [handedOut_of r₂.handed]
  exact wpAny_pure ⟨g₂, st0.trans st₂, r₂⟩
theorem TriE.attrEnt (k : Kit W) {x name : PySem.Str} {p pos : Pos} {xs : List D} {a : Addr} {i : Nat} {d : D} (he : TriE W (n + 3) ns ρ (.Name x p) (.ent 179 xs)) (ha : GetAt W a i name) (hi : xs[i]? = some d) (hz : xs.length ≤ 1000) : TriE W (n + 3) ns ρ (.Attribute (.Name x p) name pos) d := fun A env g s E c =>
  Attribute_Name_ (wp_mono' (he A env g s E c) fun v s₁ ⟨g₁, st₁, r₁⟩ => wp_mono' (entAttr k c.room (c.step st₁).good r₁ ha hi hz) fun v₂ s₂ ⟨g₂, st₂, r₂⟩ => ⟨g₂, st₁.trans st₂, r₂⟩)
noncomputable def SeqAt (h : Heap) (a : Addr) (items : Array Value) : Prop := ∃ o n, h.get? a = some o ∧ o.data = .seq items n
theorem SeqAt.ext {h h' : Heap} {a b items} (x : SeqAt h a items) (hs : Heap.ExtBut b h h') (hab : a ≠ b) : SeqAt h' a items := let ⟨o, n, ho, r⟩ := x; ⟨o, n, hs a o hab ho, r⟩
theorem SeqAt.push {h : Heap} {a items} (x : SeqAt h a items) (o : Obj) : SeqAt (h.push o) a items := let ⟨o', n, ho, r⟩ := x; ⟨o', n, Heap.get?_push_of_some o ho, r⟩
section
variable {prog : Program} {w : World} {A : Around} {E : Value → Shared → Prop} {s : Shared}
theorem seq_next {it t : Addr} {i : Nat} {items : Array Value} {x : Value} {Q : Option Value → Shared → Prop} (hit : s.heap.IsTupleIter it t i) (ht : SeqAt s.heap t items) (hx : items[i]? = some x)
    (hQ : ∀ h', h'.IsTupleIter it t (i + 1) → Heap.SameBut it s.heap h' → Q (some x) { s with heap := h' }) : wpAny (model prog w) A (pyNext (.ref it)) Q E s := by
  obtain ⟨o, ho, hc, hd⟩ := id hit
  obtain ⟨ol, nl, hol, hdl⟩ := ht
  unfold pyNext
  refine wpAny_bind (wpAny_attempt (wpAny_callSpecial?_slot (name := PySem.Str.ofString "__next__") hit.typeIs PySem.F.slot_tuple_iterator_next
    (wpAny_call_entry PySem.F.slot_tuple_iterator_next hit.typeIs PySem.F.entry_tuple_iterator_next ?_ (PySem.F.args_tuple_iterator_next_1 _))))
  show wpAny _ _ (field (.ref it) 0 >>= _) _ _ s
  refine wpAny_bind (wpAny_field ho hd (x := .ref t) rfl ?_)
  show wpAny _ _ (if (Value.ref t == Value.none) = true then _ else _) _ _ s
  rw [if_neg (show ¬ ((Value.ref t == Value.none) = true) from Bool.false_ne_true)]
  show wpAny _ _ (field (.ref it) 1 >>= _) _ _ s
  refine wpAny_bind (wpAny_field ho hd (x := .int i 0) rfl ?_)
  show wpAny _ _ (seqItems? (.ref t) >>= _) _ _ s
  refine wpAny_bind (wpAny_seqItems hol hdl ?_)
  simp only [Int.toNat_natCast, hx]
  refine wpAny_bind (wpAny_setField ho hd (by simp) (wpAny_pure ⟨x, rfl, wpAny_pure (hQ _ ?_ (Heap.SameBut.update ..))⟩))
  exact ⟨_, Heap.get?_update_self _ ho (Obj.isFreed_of_fields (Obj.data_mapFields hd _)), (Obj.cls_mapFields ..).trans hc, by
    rw [Obj.data_mapFields hd]; simp [rawInt]⟩
theorem seq_end {it t : Addr} {i : Nat} {items : Array Value} {Q : Option Value → Shared → Prop} (hh : A.handled = none) (hit : s.heap.IsTupleIter it t i) (ht : SeqAt s.heap t items) (hx : items[i]? = none)
    (hQ : ∀ h', Heap.ExtBut it s.heap h' → Q none { s with heap := h' }) : wpAny (model prog w) A (pyNext (.ref it)) Q E s := by
  obtain ⟨o, ho, hc, hd⟩ := id hit
  obtain ⟨ol, nl, hol, hdl⟩ := ht
  unfold pyNext
  refine wpAny_bind (wpAny_attempt (wpAny_callSpecial?_slot (name := PySem.Str.ofString "__next__") hit.typeIs PySem.F.slot_tuple_iterator_next
    (wpAny_call_entry PySem.F.slot_tuple_iterator_next hit.typeIs PySem.F.entry_tuple_iterator_next ?_ (PySem.F.args_tuple_iterator_next_1 _))))
  show wpAny _ _ (field (.ref it) 0 >>= _) _ _ s
  refine wpAny_bind (wpAny_field ho hd (x := .ref t) rfl ?_)
  show wpAny _ _ (if (Value.ref t == Value.none) = true then _ else _) _ _ s
  rw [if_neg (show ¬ ((Value.ref t == Value.none) = true) from Bool.false_ne_true)]
  show wpAny _ _ (field (.ref it) 1 >>= _) _ _ s
  refine wpAny_bind (wpAny_field ho hd (x := .int i 0) rfl ?_)
  show wpAny _ _ (seqItems? (.ref t) >>= _) _ _ s
  refine wpAny_bind (wpAny_seqItems hol hdl ?_)
  simp only [Int.toNat_natCast, hx]
  refine wpAny_bind (wpAny_rule (wpAny_bind (wpAny_setField ho hd (by simp) ?_)))
  show wpAny _ _ (newExc (.type "StopIteration") [] >>= _) _ _ _
  refine wpAny_bind ?_
  simp only [newExc, newTuple]
  refine wpAny_bind (wpAny_newObj_type ?_ (by size_fits))
  refine wpAny_bind (m := firstArgMember _ _) (wpAny_of_eq (a := Value.none) (by first | rfl | (simp only [firstArgMember]; rfl)) ?_)
  refine wpAny_newObj_type ?_ (by size_fits)
  simp only [raiseNew]
  refine wpAny_bind (wpAny_handled ?_)
  first | rw [show A.in1.handled = none from hh] | rw [hh]
  refine wpAny_bind (wpAny_pure (wpAny_throw ?_))
  refine wpAny_bind (wpAny_isInstance (T := "StopIteration") (b := true) ⟨_, Heap.get?_push_size _ rfl, rfl⟩ isSubtype_stop ?_)
  exact wpAny_pure (hQ _ (((Heap.SameBut.update ..).extBut.push _).push _))
theorem seq_draw {it t : Addr} {items : Array Value} (hne : t ≠ it) : ∀ (n i : Nat) (s : Shared) (Q : List Value → Shared → Prop), s.heap.IsTupleIter it t i → SeqAt s.heap t items → i + n ≤ items.size →
    (∀ h', h'.IsTupleIter it t (i + n) → Heap.SameBut it s.heap h' → Q ((items.toList.drop i).take n) { s with heap := h' }) → wpAny (model prog w) A (draw (.ref it) n) Q E s
  | 0, i, s, Q, hit, _, _, hQ => wpAny_pure (by simpa using hQ s.heap hit (Heap.SameBut.refl ..))
  | n + 1, i, s, Q, hit, ht, hle, hQ => by
    have hlt : i < items.size := by lia
    show wpAny _ _ (pyNext (.ref it) >>= _) Q E s
    refine wpAny_bind (seq_next hit ht (x := items[i]) (by simp [hlt]) fun h₁ hit₁ hs₁ => ?_)
    refine wpAny_bind (wpAny_holding (seq_draw hne n (i + 1) _ _ hit₁ (ht.ext hs₁.extBut hne) (by lia) fun h₂ hit₂ hs₂ => wpAny_pure ?_))
    have := hQ h₂ (by rw [show i + (n + 1) = i + 1 + n by lia]; exact hit₂) (hs₁.trans hs₂)
    rw [show items.toList.drop i = items[i] :: items.toList.drop (i + 1) by simp [List.drop_eq_getElem_cons, hlt], List.take_succ_cons] at this
    exact this
end
theorem tit_kind : builtinKind "tuple.__iter__" = some .slot := by decide +kernel
theorem tit_split : splitId "tuple.__iter__" = some ("tuple", "__iter__") := by decide +kernel
theorem ent_iter {A : Around} {E : Value → Shared → Prop} {s : Shared} {x : Addr} {o : Obj} {Q : Value → Shared → Prop} (X : (KK W).In s.heap) (ho : s.heap.get? x = some o) (hc : o.cls = .ref 179)
    (hQ : Q (.ref s.heap.objs.size) { s with heap := s.heap.push { cls := .type "tuple_iterator", data := .fields #[.ref x, .int 0 0] } }) : wpAny W.M A (pyIter (.ref x)) Q E s := by
  have LT : Looks W.M s.heap (typeOf (.ref x)) (.ref 179) := by
    have : Looks W.M s.heap (typeOf (.ref x)) o.cls := (Looks.ld ho).andThen .now
    rwa [hc] at this
  have LI : Looks W.M s.heap (specialOf (.ref x) "__iter__") (some (.builtin "tuple.__iter__")) := LT.andThen (looks_findIn X rfl)
  have sub : Looks W.M s.heap (isInstance (.ref x) (.type "tuple")) true := LT.andThen (looks_subIn X rfl)
  have called : wpAny W.M A (PySem.call (.builtin "tuple.__iter__") [.ref x]) (fun it s' => s'.TypeIs it "tuple_iterator" ∧ Q it s') E s := by
    refine wpAny_call ?_
    refine codeAny_call_builtin PySem.F.slot_tuple_iter.plain PySem.F.entry_tuple_iter ?_
    refine check_slot (M := W.M) (i := "tuple.__iter__") (owner := "tuple") (n := "__iter__") (self := .ref x) (rest := []) (kw := []) tit_kind tit_split sub (PySem.F.args_tuple_iter_1 _) ?_
    show wpAny _ _ (do ret (← newFields "tuple_iterator" [.ref x, rawInt 0])) _ _ s
    exact wpAny_bind (wpAny_newObj_type (wpAny_pure ⟨⟨_, Heap.get?_push_size _ rfl, rfl⟩, hQ⟩))
  unfold pyIter
  refine wpAny_bind (LI.here ?_)
  dsimp only
  refine wpAny_bind ?_
  simp only [callSpecialIfBoundUnlessNone?, bindSpecialIfBound?]
  refine wpAny_holding (wpAny_bind (wpAny_bind (LI.here ?_)))
  simp only [PySem.F.slot_tuple_iter.bind]
  have fin : ∀ (r : Sem Value), wpAny W.M A (if (Value.builtin "tuple.__iter__" == Value.none) = true then (r >>= fun v => pure (some v)) else (PySem.call (.builtin "tuple.__iter__") [.ref x] >>= fun v => pure (some v)))
      (fun a s' => ∃ it, a = some it ∧ s'.TypeIs it "tuple_iterator" ∧ Q it s') E s := fun r => by
    rw [if_neg (by decide)]
    exact wpAny_bind (wp_mono' called fun v s' h => wpAny_pure ⟨v, rfl, h⟩)
  refine wpAny_bind (wpAny_askSetting (wpAny_ite ?_))
  split
  · refine wpAny_bind (wpAny_pure (wpAny_pure (wp_mono' (fin _) fun a s' ⟨it, e, hT, hq⟩ => ?_)))
    subst e
    exact wpAny_bind (wpAny_specialOf hT PySem.F.slot_tuple_iterator_next.lookup (wpAny_pure hq))
  · refine wpAny_tryCatch (wpAny_bind (wpAny_pure (wpAny_pure (wp_mono' (fin _) fun a s' ⟨it, e, hT, hq⟩ => ?_))))
    subst e
    exact wpAny_bind (wpAny_specialOf hT PySem.F.slot_tuple_iterator_next.lookup (wpAny_pure hq))
theorem ent_unpack {A : Around} {E : Value → Shared → Prop} {s : Shared} {x : Addr} {o : Obj} {us : Array Value} {q : Nat} {targets : List (Bool × (Value → Sem Unit))} {Q : Unit → Shared → Prop} (X : (KK W).In s.heap) (hh : A.handled = none) (ho : s.heap.get? x = some o) (hc : o.cls = .ref 179) (hd : o.data = .seq us q)
    (hn : targets.length = us.size) (hstar : targets.findIdx? (·.1) = none)
    (h : ∀ h', Heap.ExtBut s.heap.objs.size s.heap h' → wpAny W.M A (assignInOrder (targets.map (·.2)) us.toList) Q E { s with heap := h' }) : wpAny W.M A (unpack (.ref x) targets) Q E s := by
  have hlt : x ≠ s.heap.objs.size := Nat.ne_of_lt (Heap.lt_size ho)
  have LT : Looks W.M s.heap (typeOf (.ref x)) (.ref 179) := by
    have : Looks W.M s.heap (typeOf (.ref x)) o.cls := (Looks.ld ho).andThen .now
    rwa [hc] at this
  have LI : Looks W.M s.heap (specialOf (.ref x) "__iter__") (some (.builtin "tuple.__iter__")) := LT.andThen (looks_findIn X rfl)
  have hs0 : SeqAt s.heap x us := ⟨o, q, ho, hd⟩
  unfold unpack
  rw [hn, hstar]
  refine wpAny_bind (wpAny_holding ?_)
  unfold unpackItems
  refine wpAny_bind ?_
  unfold notIterableAtAll
  refine wpAny_bind (LI.here ?_)
  refine wpAny_pure ?_
  simp only [Bool.false_eq_true, if_false]
  refine wpAny_bind (wpAny_holding (ent_iter X ho hc ?_))
  refine wpAny_bind (wpAny_holding (seq_draw hlt us.size 0 _ _ ⟨_, Heap.get?_push_size _ rfl, rfl, rfl⟩ (hs0.push _) (by lia) fun h₁ hit₁ hs₁ => ?_))
  have hall : List.take us.size (List.drop 0 us.toList) = us.toList := by
    rw [List.drop_zero]; exact List.take_of_length_le (by simp)
  rw [hall]
  rw [if_neg (by simp)]
  refine wpAny_bind (wpAny_holding (seq_end hh hit₁ ((hs0.push _).ext hs₁.extBut hlt) (by simp) fun h₂ he₂ => ?_))
  simp only [Option.isSome_none, Bool.false_eq_true, if_false]
  exact wpAny_pure (h h₂ fun b o hb e => he₂ b o hb (hs₁.extBut b o hb (Heap.get?_push_of_some _ e)))
theorem AssignsTo.ent (k : Kit W) {es : List Expr} {kk : Nat} {tp : Pos} {ds : List D} {bs : Rho} (hb : BindT ns (.Tuple es kk tp) (.tup ds) bs) : AssignsTo W n ns (.Tuple es kk tp) (.ent 179 ds) bs := fun A env ρ g s E v Q c r hQ => by
  obtain ⟨x, us, q, dx, rfl, hx, hdx, hr⟩ := rep_ent.mp r
  have hl := assignEach_names (env := env) hb
  have e1 := hr.length
  rw [Array.length_toList] at e1
  rw [arm_assign_Tuple]
  refine wpAny_bind (wpAny_standAt (ent_unpack (k.here c.good) c.room.handled (c.good.sub _ _ hx) rfl rfl (by rw [hl.1, hb.len, e1]) hl.2 fun h' hx' => ?_))
  have st : Step g s g { s with heap := h', toks := s.toks } := Step.keeps c.good fun b o e => hx' b o (Nat.ne_of_lt (Heap.lt_size e)) e
  exact assignInOrderR _ hb (c.step st) hr fun s₂ st₂ k₂ c₂ => hQ s₂ (st.toX.trans st₂) ((KeepN.keeps (T := bs.map (·.1)) fun o e => st.keep _ _ e).trans k₂ fun y hy => ⟨hy, hy⟩) c₂
end
end Mine
end
section
namespace Mine
noncomputable def lenOf (cells : List Int) (block : Int) : Int := ((cells.getD block.toNat 0).fdiv 243).fmod 90 + 1
noncomputable def atOf (cells order : List Int) (k : Nat) : Int := ((order.take k).map (lenOf cells)).sum
noncomputable def pairsR : List (Nat × Nat) := (List.range 5).flatMap fun a => (List.range (5 - a)).map fun j => (a, a + 1 + j)
noncomputable def isRunL (m : List Int) (p : Nat × Nat) : Bool := decide (sliceL ([0] ++ m ++ [0]) (some (p.1 : Int)) (some ((p.2 : Int) + 2)) = [0] ++ List.replicate (p.2 - p.1) 1 ++ [0])
noncomputable def runsP (m : List Int) : List (Nat × Nat) := pairsR.filter (isRunL m)
noncomputable def entry4 (cells order : List Int) (h : Nat) (p : Nat × Nat) : List Int := [atOf cells order p.1, atOf cells order p.2 - atOf cells order p.1, 5 * cells.getD h 0 + h, (cells.getD h 0).fdiv 243]
noncomputable def entryStep (cells order : List Int) (s : List (List Int)) (q : Int × Nat) : List (List Int) := s ++ (runsP (marksOf q.1 order)).map (entry4 cells order q.2)
noncomputable def entriesOf (cells order handlers : List Int) : List (List Int) := handlers.zipIdx.foldl (entryStep cells order) []
noncomputable def octetsAll (cells order handlers torn : List Int) : List Int := (entriesOf cells order handlers).flatMap octetsOf ++ torn
noncomputable def bytesL (os : List Int) : List Int := os.zipIdx.map fun p => p.1 + 128 * ((p.2 : Int)).fmod 2
noncomputable abbrev dTups (l : List (List Int)) : List D := l.map fun e => .tup (e.map .int)
theorem binD_ones {k : Int} (h : k < 2 ^ 24) (h0 : -(2 ^ 24) < k) : binD .Mult (.list [.int 1]) (.int k) = some (dInts (List.replicate k.toNat 1)) := by
  have hc : k < 2 ^ 24 ∧ -(2 ^ 24) < k ∧ ([D.int 1] : List D).length * k.toNat ≤ 2 ^ 24 := ⟨h, h0, by show 1 * k.toNat ≤ _; lia⟩
  refine (if_pos ⟨rfl, hc⟩).trans ?_
  congr 1
  show D.list _ = D.list _
  congr 1
  rw [List.map_replicate]
  generalize k.toNat = m
  induction m with
  | zero => rfl
  | succ m ih => rw [List.replicate_succ, List.flatten_cons, ih, List.replicate_succ]; rfl
section
variable {W : Wo} {n : Nat} {ns : Names} {ρ : Rho} {μ : Mu}
theorem TriS.assignTupNew {x y : PySem.Str} {px py lp ep tp pos : Pos} {k k' : Nat} {e : Expr} {d : D} (h : TriE W n ns ρ e d) (hx : OwnK ns x) (hy : ns.lookup y = some .local) (hse : ∀ env, starEach [e, .List [] lp] env = [(false, eval e env), (false, eval (.List [] lp) env)])
    (hs : ∀ env, EnvIs ns env → swapsWithSole [.Tuple [.Name x px, .Name y py] k tp] (.Tuple [e, .List [] lp] k' ep) pos.line env = pure false) (hw : ∀ env, EnvIs ns env → swappedStores [.Tuple [.Name x px, .Name y py] k tp] (.Tuple [e, .List [] lp] k' ep) env = pure none) :
    TriS W n ns ρ none (.Assign [.Tuple [.Name x px, .Name y py] k tp] (.Tuple [e, .List [] lp] k' ep) pos) (.next (dropN y ((x, d) :: ρ)) (some (y, []))) := fun A env g₀ s₀ F g s Q E f hq => by
  refine Assign_Tuple (Tuple_ ?_) (hs env f.cx.envIs) (hw env f.cx.envIs)
  rw [hse]
  refine PySem.Calls.spliced_cons (wp_mono' (h A env g s E f.cx) fun v s₁ ⟨g₁, st₁, r₁⟩ => ?_)
  have f₁ := f.step st₁
  refine PySem.Calls.spliced_cons (wp_mono' (TriN.list (pos := lp) TriL.nil (by show 0 ≤ sizeLine; decide) A env g₁ s₁ E f₁.cx) fun v₂ s₂ hv => PySem.Calls.spliced_nil ?_)
  obtain ⟨L, g₂, rfl, st₂, acc, hf, hF⟩ := hv.freshF f₁
  have f₂ := f₁.step st₂
  refine wpAny_newObj_type ?_ (by show 2 ≤ sizeLine; decide)
  have st₃ : Step g₂ s₂ g₂ { s₂ with heap := s₂.heap.push { cls := .type "tuple", data := .seq [v, .ref L].toArray } } := Step.keeps f₂.cx.good fun _ _ e => Heap.get?_push_of_some _ e
  refine wpAny_assign_Tuple f.cx.room.handled ⟨_, Heap.get?_push_size _ rfl, rfl, 0, rfl⟩ rfl rfl fun h' hx' => ?_
  have st₄ : Step g₂ { s₂ with heap := s₂.heap.push { cls := .type "tuple", data := .seq [v, .ref L].toArray } } g₂ { s₂ with heap := h' } := Step.keeps (st₃.good f₂.cx.good) fun b o e => hx' b o (Nat.ne_of_lt (Heap.lt_size e)) e
  have st := st₃.trans st₄
  have f₄ := f₂.step st
  have acc₄ := acc.stepX st.toX (X := fun _ => False) id
  show wpAny _ A (assignInOrder [PySem.assign (.Name x px) env, PySem.assign (.Name y py) env] [v, .ref L]) _ E _
  refine wpAny_assignInOrder_more (wpAny_assign_Name (storeR f₄.cx (r₁.mono fun b o e => st₂.view _ _ e) hx fun s₅ st₅ k₅ c₅ => ?_))
  obtain ⟨f₅, sf₅⟩ := f₄.bound (bs := [(x, d)]) (μ' := none) (st₅.mono fun b hb => ⟨x, by simp, hb⟩) k₅ c₅ (fun _ _ e => by cases e)
  have acc₅ := acc₄.stepX st₅ (by
    obtain ⟨m, hm, _⟩ := f₄.cx.en.loc
    rintro (⟨_, e⟩ | ⟨_, e⟩)
    · exact acc₄.neL hm e
    · obtain ⟨u, hu⟩ := f₄.cx.en.isC x _ e
      exact acc₄.neC hu rfl)
  refine wpAny_assignInOrder_more (wpAny_assign_Name (storeNew f₅ hy acc₅ hf hF fun s₆ sf₆ f₆ => wpAny_assignInOrder_none ?_))
  exact hq _ g₂ s₆ ((((f.safe st₁).trans (f₁.safe st₂)).trans (f₂.safe st)).trans (sf₅.trans sf₆)) ⟨rfl, f₆⟩
theorem TriE.slice2 {value lo up : Expr} {p pos : Pos} {xs : List Int} {i j : Int} (h : TriE W n ns ρ value (dInts xs)) (hl : TriE W n ns ρ lo (.int i)) (hu : TriE W n ns ρ up (.int j)) (hz : xs.length ≤ sizeLine) (ht : ∀ o r, letTemporaryGo value o r = pure () := by intro _ _; rfl) :
    TriE W n ns ρ (.Subscript value (.Slice (some lo) (some up) Option.none p) pos) (dInts (sliceL xs (some i) (some j))) := by
  have := TriE.sliceList (pos := pos) (p := p) h (TriP.some hl) (TriP.some hu) (by rw [List.length_map]; exact hz) ht
  rw [sliceL_map] at this
  exact this
end
end Mine
end
section
namespace Mine
section
variable {W : Wo} {n : Nat} {ns : Names} {ρ : Rho} {μ : Mu}
theorem Fra.stepX {A env g₀ s₀ F g s g' s'} {X : Addr → Prop} (f : Fra W n A env ns ρ none g₀ s₀ F g s) (a : StepX X g s g' s') (hc : ∀ x, X x → s₀.heap.get? x = none) (hl : ¬ X env.locals) (hcl : ∀ x b, env.cells.lookup x = some b → ¬ X b) : Fra W n A env ns ρ none g₀ s₀ F g' s' :=
  { cx := f.cx.stepX a hl hcl, st := StepX.strict f.st a hc, loc := f.loc, cel := f.cel, offL := f.offL, offC := f.offC, live := fun b hb => let ⟨o, ho⟩ := f.live b hb; a.live _ _ ho, own := fun z zs e => (by cases e) }
theorem Fra.reF {A env g₀ s₀ F g s} {F' : List Addr} (f : Fra W n A env ns ρ none g₀ s₀ F g s) (h1 : env.locals ∉ F') (h2 : ∀ x a, env.cells.lookup x = some a → a ∉ F') (h3 : ∀ b ∈ F', ∃ o, s.heap.get? b = some o) : Fra W n A env ns ρ none g₀ s₀ F' g s :=
  { f with offL := h1, offC := h2, live := h3, own := fun z zs e => (by cases e) }
theorem Fra.slots {A env g₀ s₀ F g s g' s'} {l : List Env} (f : Fra W n A env ns ρ none g₀ s₀ F g s) (a : StepX (· ∈ (env :: l).filterMap (·.frame)) g s g' s') (sl : ∀ b o, s.heap.get? b = some o → (∀ vs, o.data ≠ .fields vs) → ∃ sl, s'.heap.get? b = some { o with slots := sl })
    (hX : ∀ x ∈ l.filterMap (·.frame), s₀.heap.get? x = none) (hf : env.frame = some env.locals) : Fra W n A env ns ρ none g₀ s₀ F g' s' := by
  have hns : ∀ b m, s.heap.Ns b m → s'.heap.Ns b m := fun b m ⟨o, es, ep, ho, hd, r⟩ => by
    obtain ⟨q, h⟩ := sl b o ho fun vs e => by rw [hd] at e; cases e
    exact ⟨_, es, ep, h, hd, r⟩
  have hcell : ∀ b v, s.heap.IsCell b v → s'.heap.IsCell b v := fun b v ⟨o, ho, hd⟩ => by
    obtain ⟨q, h⟩ := sl b o ho fun vs e => by rw [hd] at e; cases e
    exact ⟨_, h, hd⟩
  have c := f.cx
  refine { cx := ⟨c.room, a.good c.good, c.en.names, c.en.kind, c.en.globals, c.en.builtins, ?_, fun x hx => ?_, fun x b hx => ?_, fun x b hx => ?_, c.en.apart, ?_, fun x d hx hk => ?_⟩, st := StepX.strict f.st a fun x hx => ?_, loc := f.loc, cel := f.cel, offL := f.offL, offC := f.offC, live := fun b hb => let ⟨o, ho⟩ := f.live b hb; a.live _ _ ho, own := fun z zs e => (by cases e) }
  · obtain ⟨m, ⟨o, es, ep, ho, _⟩, _⟩ := c.en.loc
    exact a.hid c.en.hidL ho
  · obtain ⟨b, v, h1, h2⟩ := c.en.cells x hx
    exact ⟨b, v, h1, hcell _ _ h2⟩
  · obtain ⟨v, o, ho, _⟩ := c.en.isC x b hx
    exact a.hid (c.en.hidC x b hx) ho
  · obtain ⟨v, h⟩ := c.en.isC x b hx
    exact ⟨v, hcell _ _ h⟩
  · obtain ⟨m, h1, h2⟩ := c.en.loc
    refine ⟨m, hns _ _ h1, fun x d hx hk => ?_⟩
    obtain ⟨v, h3, h4⟩ := h2 x d hx hk
    exact ⟨v, h3, h4.mono a.view⟩
  · obtain ⟨b, v, h1, h2, h3⟩ := c.en.cv x d hx hk
    exact ⟨b, v, h1, hcell _ _ h2, h3.mono a.view⟩
  · rw [List.filterMap_cons, hf] at hx
    rcases List.mem_cons.mp hx with rfl | hx
    · exact f.loc
    · exact hX x hx
theorem lamEval (k : Kit W) (hb : W.hs.BuiltinsAt W.mg 339) {A env g s} {E : Value → Shared → Prop} {params : Arguments} {body : Expr} {scope : Scope} {pos : Pos} {Q : Value → Shared → Prop} (c : Cx W n A env ns ρ g s) (hcode : env.code = .ref 341) (h339 : s.heap.get? 339 = some (tabObj #[])) (hdef : defaultsOf params env = ([], [])) (hsc : CompScope ns scope []) (hcl : closGo env scope.names [] = [])
    (h : ∀ fd h' tk, Heap.ExtBut 339 s.heap h' → (∃ ps, h'.get? 339 = some (tabObj ps)) → Q (.ref h'.objs.size) { s with heap := h'.push { cls := .type "function", data := .func fd }, toks := tk }) : wpAny W.M A (eval (.Lambda params body scope pos) env) Q E s := by
  have X : (KK W).In s.heap := k.here c.good
  have kk : ∀ b o, W.hs.get? b = some o → s.heap.get? b = some o := fun b o q => c.good.sub _ _ (c.good.stat _ _ q)
  refine kla_eval hdef (kla_makeFunction (c := 341) (P := 339) (ps := #[]) (mg := W.mg) (clos := []) (by rw [hsc.closure c, hcl]) c.en.globals (k.ok.g.keeps kk) hcode (codeHd_of_K X (by rfl)) h339 (by trivial) rfl (by decide) (let ⟨bm, o, h1, h2, h3, h4, h5, h6⟩ := hb; ⟨bm, o, h1, h2, h3, h4, kk _ _ h5, h6⟩) fun c' ctv h' tk hx _ _ _ htb => h _ h' tk hx ⟨_, htb⟩)
end
end Mine
end
section
namespace Mine
theorem pairs_ok : ∀ p ∈ pairsR, p.1 < 5 ∧ p.1 < p.2 ∧ p.2 ≤ 5 := by decide +kernel
theorem pairs_len : pairsR.length = 15 := by decide +kernel
theorem runs_len (m : List Int) : (runsP m).length ≤ 15 := by
  unfold runsP
  have := List.length_filter_le (isRunL m) pairsR
  rw [pairs_len] at this
  exact this
theorem runs_ok {m : List Int} {p : Nat × Nat} (h : p ∈ runsP m) : p.1 < 5 ∧ p.1 < p.2 ∧ p.2 ≤ 5 := pairs_ok _ (List.mem_filter.mp h).1
theorem entries_len (cells order : List Int) : ∀ (l : List (Int × Nat)) (s : List (List Int)), (l.foldl (entryStep cells order) s).length ≤ s.length + 15 * l.length
  | [], s => by simp
  | q :: l, s => by
    rw [List.foldl_cons]
    have h1 := entries_len cells order l (entryStep cells order s q)
    have h2 : (entryStep cells order s q).length ≤ s.length + 15 := by
      unfold entryStep
      rw [List.length_append, List.length_map]
      have := runs_len (marksOf q.1 order)
      lia
    rw [List.length_cons]
    lia
theorem entries_four (cells order : List Int) : ∀ (l : List (Int × Nat)) (s : List (List Int)), (∀ e ∈ s, e.length = 4) → ∀ e ∈ l.foldl (entryStep cells order) s, e.length = 4
  | [], s, h => h
  | q :: l, s, h => by
    rw [List.foldl_cons]
    refine entries_four cells order l _ fun e he => ?_
    unfold entryStep at he
    rcases List.mem_append.mp he with he | he
    · exact h e he
    · obtain ⟨p, _, rfl⟩ := List.mem_map.mp he
      rfl
theorem entries_75 (cells order : List Int) {hs : List Int} (h : hs.length ≤ 5) : (entriesOf cells order hs).length ≤ 75 := by
  have := entries_len cells order hs.zipIdx []
  rw [List.length_zipIdx, List.length_nil, Nat.zero_add] at this
  exact Nat.le_trans this (Nat.mul_le_mul_left 15 h)
section
variable {W : Wo} {n : Nat} {ns : Names} {ρ : Rho} {μ : Mu}
theorem mulI {a b : Int} (h : smallI a = true) : binD .Mult (.int a) (.int b) = some (.int (a * b)) := if_pos (by rw [h]; rfl)
theorem step15 {a s x : Nat} (h3 : a ≤ s + 15 * (0 + 1)) (h1 : s + 15 * (x + 1) ≤ 75) : a + 15 * x ≤ 75 := by lia
theorem range_lim {a : Nat} (h : a < 5) : -2 ^ 62 ≤ (a : Int) + 1 ∧ (a : Int) + 1 < 2 ^ 62 := by lia
theorem ones_lim {a j : Nat} (h : j < 5 - a) : (((a + 1 + j : Nat) : Int) - (a : Int)).toNat = a + 1 + j - a ∧ ((a + 1 + j : Nat) : Int) - (a : Int) < 2 ^ 24 ∧ -2 ^ 24 < ((a + 1 + j : Nat) : Int) - (a : Int) ∧ 1 + (a + 1 + j - a) + 1 ≤ 100 := by
  have hm : a + 1 + j ≤ 5 := by rw [Nat.add_right_comm]; exact Nat.lt_sub_iff_add_lt'.mp h
  have ha : a ≤ a + 1 + j := by rw [Nat.add_assoc]; exact Nat.le_add_right _ _
  generalize a + 1 + j = m at hm ha
  exact ⟨Int.toNat_sub m a, Int.lt_of_le_of_lt (Int.sub_le_self _ (Int.natCast_nonneg a)) (Int.ofNat_lt.mpr (Nat.lt_of_le_of_lt hm (by decide : 5 < 2 ^ 24))), Int.lt_of_lt_of_le (by decide) (Int.sub_nonneg.mpr (Int.ofNat_le.mpr ha)), Nat.le_trans (Nat.succ_le_succ (Nat.add_le_add_left (Nat.le_trans (Nat.sub_le _ _) hm) 1)) (by decide)⟩
theorem lt_len {α : Type} {l : List α} {i n : Nat} (h : l.length = n) (k : i < n) : i < l.length := h ▸ k
theorem at_item {f : Nat → Int} {i : Nat} (h : i < 6) : itemD (dInts ((List.range 6).map f)) (.int (i : Int)) = some (.int (f i)) := by
  refine itemD_list (Int.natCast_nonneg _) (by rw [List.length_map, List.length_map, List.length_range]; decide) ?_
  rw [Int.toNat_natCast, List.getElem?_map, List.getElem?_map, List.getElem?_range h]
  rfl
theorem runs_eq (m : List Int) : ((List.range 5).flatMap fun a => ((List.range (5 - a)).filter fun j => isRunL m (a, a + 1 + j)).map fun j => D.tup [.int (a : Int), .int ((a + 1 + j : Nat) : Int)]) = (runsP m).map fun p => .tup [.int (p.1 : Int), .int (p.2 : Int)] := by
  unfold runsP pairsR
  rw [List.filter_flatMap, List.map_flatMap]
  congr 1
  funext a
  rw [List.filter_map, List.map_map]
  rfl
theorem range26 {a : Nat} (h : a < 5) : rangeL ((a : Int) + 1) 6 = (List.range (5 - a)).map fun j => D.int ((a + 1 + j : Nat) : Int) := by
  unfold rangeL
  have : (6 - ((a : Int) + 1)).toNat = 5 - a := by lia
  rw [this]
  refine List.map_congr_left fun j _ => ?_
  congr 1
noncomputable def entOf4 (e : List Int) : Ent := ⟨2 * e.getD 0 0, 2 * (e.getD 0 0 + e.getD 1 0), 2 * e.getD 2 0, (e.getD 3 0).fdiv 2, (e.getD 3 0).fmod 2 == 1⟩
noncomputable def rowD (e : Ent) : D := .tup [.int e.start, .int e.stop, .int e.target, .int e.depth, .bool e.lasti]
noncomputable def guardAt (es : List Ent) (x : Int) : List Int := (es.filter fun e => decide (e.start ≤ 2 * x) && decide (2 * x < e.stop)).map fun e => (e.target.fdiv 2).fmod 5
noncomputable def tableD (cells order : List Int) (es : List Ent) : D := .tup [.int (es.length : Int), .list ((List.range 5).map fun i => dInts (guardAt es (atOf cells order i)))]
theorem octets_len : ∀ e : List Int, (octetsOf e).length ≤ 5 * e.length
  | [] => by simp [octetsOf]
  | a :: e => by
    have h1 := octGo_len a
    have ih := octets_len e
    unfold octetsOf at ih ⊢
    rw [List.flatMap_cons, List.length_append, List.length_cons]
    lia
theorem octetsFlat_len : ∀ l : List (List Int), (∀ e ∈ l, e.length = 4) → (l.flatMap octetsOf).length ≤ 20 * l.length
  | [], _ => by simp
  | e :: l, h => by
    rw [List.flatMap_cons, List.length_append, List.length_cons]
    have h1 := octets_len e
    rw [h e List.mem_cons_self] at h1
    have := octetsFlat_len l fun e he => h e (List.mem_cons_of_mem _ he)
    lia
theorem due_isPy : ∀ es : List Ent, D.isPyL (es.map rowD) = true
  | [] => by rw [List.map_nil, D.isPyL]
  | e :: es => by rw [List.map_cons, D.isPyL, due_isPy es]; unfold rowD; simp [D.isPy, D.isPyL]
theorem due_depth : ∀ es : List Ent, PyData.depthAll (D.pyL (es.map rowD)) ≤ 3
  | [] => by rw [List.map_nil, D.pyL, PyData.depthAll]; exact Nat.zero_le _
  | e :: es => by
    rw [List.map_cons, D.pyL, PyData.depthAll]
    refine Nat.max_le.mpr ⟨?_, due_depth es⟩
    unfold rowD
    simp [D.py, D.pyL, PyData.depth, PyData.depthAll]
theorem due_eqv : ∀ es : List Ent, PyData.eqvAll (D.pyL (es.map rowD)) (D.pyL (es.map rowD)) = true
  | [] => by rw [List.map_nil, D.pyL, PyData.eqvAll]
  | e :: es => by
    rw [List.map_cons, D.pyL, PyData.eqvAll, due_eqv es]
    unfold rowD
    simp [D.py, D.pyL, PyData.eqv, PyData.eqvAll]
theorem due_ne {W : Wo} (es : List Ent) : CmpE W .NotEq (.list (es.map rowD)) (.list (es.map rowD)) false := by
  have h := cmp_ne (W := W) (a := .list (es.map rowD)) (b := .list (es.map rowD)) (by
    rw [D.cmpOk, D.isPy, due_isPy, D.py, PyData.depth]
    have := due_depth es
    simp; lia)
  rw [D.eqv, D.py, PyData.eqv, due_eqv] at h
  exact h
structure TSt (W : Wo) (n : Nat) (A : Around) (env : Env) (ns : Names) (ρ : Rho) (μ : Mu) (g₀ : View) (s₀ : Shared) (F : List Addr) (sc : Shared) (g : View) (s : Shared) : Prop where
  fra : Fra W n A env ns ρ μ g₀ s₀ F g s
  keep : ∀ b ∈ F, ∀ o, sc.heap.get? b = some o → s.heap.get? b = some o
  hid : ∀ b ∈ F, g b = none
theorem TSt.safe {A env g₀ s₀ F sc g s g' s'} {ρ' : Rho} {μ' : Mu} (v : TSt W n A env ns ρ μ g₀ s₀ F sc g s) (sf : SafeF F g s g' s') (f : Fra W n A env ns ρ' μ' g₀ s₀ F g' s') : TSt W n A env ns ρ' μ' g₀ s₀ F sc g' s' :=
  ⟨f, fun b hb o e => sf.keep b hb o (v.keep b hb o e), fun b hb => sf.hid b hb (v.hid b hb)⟩
theorem TSt.run {A env g₀ s₀ F sc g s} {E : Value → Shared → Prop} {st : Stmt} {sts : List Stmt} {ρ' : Rho} {μ' : Mu} {Q : Flow → Shared → Prop} (v : TSt W n A env ns ρ μ g₀ s₀ F sc g s) (h : TriS W n ns ρ μ st (.next ρ' μ'))
    (k : ∀ g' s', TSt W n A env ns ρ' μ' g₀ s₀ F sc g' s' → wpAny W.M A (execs sts env) Q E s') : wpAny W.M A (execs (st :: sts) env) Q E s :=
  wpAny_execs_cons (h A env g₀ s₀ F g s _ E v.fra fun fl g' s' sf ⟨e, f'⟩ => by subst e; exact k g' s' (v.safe sf f'))
theorem TSt.freeze {A env g₀ s₀ F sc g s} {y : PySem.Str} {xs : List D} (v : TSt W n A env ns ρ (some (y, xs)) g₀ s₀ F sc g s) : ∃ g', TSt W n A env ns ((y, .list xs) :: ρ) none g₀ s₀ F sc g' s := by
  obtain ⟨g', sf, f'⟩ := v.fra.freeze
  exact ⟨g', v.safe sf f'⟩
theorem TSt.sub {A env g₀ s₀ F sc g s} {ρ' : Rho} (v : TSt W n A env ns ρ μ g₀ s₀ F sc g s) (h : SubR ρ' ρ) : TSt W n A env ns ρ' μ g₀ s₀ F sc g s := ⟨v.fra.sub h, v.keep, v.hid⟩
theorem oct_byte {o : Int} (h : 0 ≤ o ∧ o < 128) (k : Nat) : 0 ≤ o + 128 * ((k : Int)).fmod 2 ∧ o + 128 * ((k : Int)).fmod 2 < 256 :=
  fmodAt (P := fun x => 0 ≤ o + 128 * x ∧ o + 128 * x < 256) (k : Int) 2 (by decide) (List.forall_mem_cons.mpr ⟨by lia, List.forall_mem_cons.mpr ⟨by lia, fun _ h => nomatch h⟩⟩)
theorem all_trues {α : Type} : ∀ l : List α, (l.map fun _ => true).all id = true
  | [] => rfl
  | _ :: l => all_trues l
theorem ExAt.keeps {h h' : Heap} {F : Addr} {b : Array UInt8} (x : ExAt h F b) (k : ∀ b o, h.get? b = some o → h'.get? b = some o) : ExAt h' F b := by
  obtain ⟨fd, dx, ds, q, t, h1, h2, h3⟩ := x
  exact ⟨fd, dx, ds, q, t, k _ _ h1, k _ _ h2, h3⟩
set_option maxHeartbeats 4000000 in
theorem call_ltable (k : Kit W) {A : Around} {g : View} {s : Shared} {E Q : Value → Shared → Prop} {l : List Env} {order handlers cells torn : List Int} {vs : List Value} (R : Room (n + 9) A) (G : Good W.hs g s) (hfr : A.frames = some l) (hl : Frames s.heap l) (hlg : ∀ a ∈ 339 :: l.filterMap (·.frame), g a = none) (h339 : s.heap.get? 339 = some (tabObj #[]))
    (rep : RepL g vs [dInts order, dInts handlers, dInts cells, dInts torn]) (hor : order ∈ allOrders) (hhl : handlers.length ≤ 5) (hh0 : ∀ b ∈ handlers, 0 ≤ b) (hcl : cells.length = 7) (htl : torn.length ≤ 10) (hbm : W.hs.BuiltinsAt W.mg 339) (hoct : ∀ o ∈ octetsAll cells order handlers torn, 0 ≤ o ∧ o < 128) (hp : Parse (KBw.bInts (byteArr (bytesL (octetsAll cells order handlers torn)))) ((entriesOf cells order handlers).map entOf4))
    (hQ : ∀ v g' s', StepX (fun a => a = 339 ∨ a ∈ l.filterMap (·.frame)) g s g' s' → (∀ a o, s.heap.get? a = some o → a ≠ 339 → (∀ vs, o.data ≠ .fields vs) → ∃ sl, s'.heap.get? a = some { o with slots := sl }) → Rep g' v (tableD cells order ((entriesOf cells order handlers).map entOf4)) → (∃ ps, s'.heap.get? 339 = some (tabObj ps)) → Q v s') :
    wpAny W.M A (PySem.call (.ref 342) vs) Q E s := by
  have hsl : sizeLine = 2 ^ 24 := rfl
  have ho := orders_ok _ hor
  have hoz : order.length ≤ sizeLine := szLe (Nat.le_of_eq ho.1) (by decide)
  have hcz : (cells.map D.int).length ≤ sizeLine := szLe (Nat.le_of_eq (List.length_map _ |>.trans hcl)) (by decide)
  have hlv : vs.length = 4 := rep.length
  have hlive : ∀ b ∈ 339 :: l.filterMap (·.frame), ∃ o, s.heap.get? b = some o := fun b hb => by
    rcases List.mem_cons.mp hb with rfl | hb
    · exact ⟨_, h339⟩
    · obtain ⟨m, o, _, _, h, _⟩ := hl.mem hb
      exact ⟨o, h⟩
  obtain ⟨s₀, hsub0, hkeep0, hs0, hrest0⟩ : ∃ s₀ : Shared, (∀ b o, s₀.heap.get? b = some o → s.heap.get? b = some o) ∧ (∀ b o, s.heap.get? b = some o → b ∉ 339 :: l.filterMap (·.frame) → s₀.heap.get? b = some o) ∧ (∀ b ∈ 339 :: l.filterMap (·.frame), s₀.heap.get? b = none) ∧ (s.gens = s₀.gens ∧ s.drawn = s₀.drawn ∧ s.os = s₀.os) :=
    ⟨{ s with heap := hideAll s.heap (339 :: l.filterMap (·.frame)) }, fun b o e => of_hideAll _ e, fun b o e hb => hideAll_get _ e hb, fun b hb => hideAll_none _ hb, rfl, rfl, rfl⟩
  have st0 : Step g s₀ g s := ⟨fun _ _ e => e, fun _ _ e => .inl e, fun b o e => G.sub b o e, hsub0, hrest0⟩
  refine wpAny_call (defEnterX k (F := 339 :: l.filterMap (·.frame)) (xs := ["order", "handlers", "cells", "torn"]) (vs := vs) (ρ := [("order", dInts order), ("handlers", dInts handlers), ("cells", dInts cells), ("torn", dInts torn)]) (R := fun r s' => match r with | .ok (.ret v) => Q v s' | .ok _ => False | .error e => E e s') (n := n + 8) R G st0 hlive rfl rfl ⟨_, _, _, _, rfl, rfl, rfl, rfl⟩ rfl ?_ hlv ⟨rfl, rfl, rfl, rfl, rfl, rfl⟩ (by decide +kernel) (fun x d h => zip_rep rep h) fun env s₁ ⟨hf, hcode⟩ f st hLf => ?_)
  · exact len4 (P := fun vs => BindsTo _ _ ⟨vs, []⟩ (List.zip _ vs)) (fun _ _ _ _ => BindsTo.of_eq rfl) vs hlv
  refine opaqueQE fun QQ EE hQQ hEE => ?_
  have v₁ : TSt W (n + 8) (A.deeper env) env _ _ none g s₀ (339 :: l.filterMap (·.frame)) s g s₁ := ⟨f, fun b hb o e => st.keep _ _ e, hlg⟩
  refine v₁.run (TriS.assignTupNew (x := "at") (y := "entries") (d := dInts ((List.range 6).map (atOf cells order))) (TriE.eq (TriN.toE (TriN.mapInts (List.range 6) (fun (i : Nat) => .int (i : Int)) (fun i => .int (atOf cells order i)) (.ok rfl (by decide +kernel)) (.inl rfl) (TriI.eq (TriI.range1 (b := 6) k.ok (k.builtin rfl rfl rfl (by decide) rfl KeepOk.type) TriE.int (by decide) (by decide)) (rangeL_zero _)) rfl rfl (fun i hi => ?_) (by rw [List.length_range]; decide))) (by unfold dInts; rw [List.map_map]; rfl)) (.inr rfl) rfl (fun _ => rfl) (fun _ _ => rfl) ?_) fun g₂ s₂ v₂ => ?_
  · refine TriE.callB k rfl rfl rfl (by decide) rfl KeepOk.builtin (TriL.cons (TriE.eq (TriN.toE (TriN.mapInts (order.take i) .int (fun b => .int (lenOf cells b)) (.ok rfl (by decide +kernel)) (.inl rfl) (TriI.of (d := dInts (order.take i)) (TriE.prefix_ (by exact .nm rfl rfl) (by exact .nm rfl rfl) hoz) rfl) rfl rfl (fun b hb => ?_) (by rw [List.length_take]; exact Nat.le_trans (Nat.min_le_right _ _) hoz))) (by rw [List.map_map]; rfl)) TriL.nil) fn_sum
    have hb4 := ho.2 b (List.mem_of_mem_take hb)
    have hb4n : b.toNat < 5 := (Int.toNat_lt hb4.1).mpr (Int.lt_add_one_of_le hb4.2)
    refine TriE.bin' (a := .int (((cells.getD b.toNat 0).fdiv 243).fmod 90)) (b := .int 1) (TriE.bin' (a := .int ((cells.getD b.toNat 0).fdiv 243)) (b := .int 90) (TriE.bin' (a := .int (cells.getD b.toNat 0)) (b := .int 243) (TriE.item' (o := dInts cells) (i := .int b) (by exact .nm rfl rfl) (by exact .nm rfl rfl) (itemD_list hb4.1 hcz (getD_map_int (lt_len hcl (Nat.lt_trans hb4n (by decide)))))) TriE.int rfl) TriE.int rfl) TriE.int rfl
  · exact envEq fun _ _ => by rfl
  have v₂ := v₂.sub (ρ' := [("at", dInts ((List.range 6).map (atOf cells order))), ("order", dInts order), ("handlers", dInts handlers), ("cells", dInts cells), ("torn", dInts torn)]) (SubR.of rfl)
  refine v₂.run (TriS.eq (TriS.forR handlers.zipIdx (enumA D.int) (fun s q => .on (entryStep cells order s q)) (fun q => [("blocks", .int q.1), ("handler", .int (q.2 : Int))]) (fun _ => [("at", dInts ((List.range 6).map (atOf cells order))), ("order", dInts order), ("handlers", dInts handlers), ("cells", dInts cells), ("torn", dInts torn)]) (fun s => some ("entries", dTups s)) (fun _ => []) (fun _ => none) (fun xs s => s.length + 15 * xs.length ≤ 75 ∧ ∀ q ∈ xs, q ∈ handlers.zipIdx) (fun s => .next [("at", dInts ((List.range 6).map (atOf cells order))), ("order", dInts order), ("handlers", dInts handlers), ("cells", dInts cells), ("torn", dInts torn)] (some ("entries", dTups s))) [] (ds := handlers.zipIdx.map (enumA D.int))
    (SubR.of rfl) rfl (TriI.eq (TriI.enumerate k.ok (k.builtin rfl rfl rfl (by decide) rfl KeepOk.type) (by exact .nm rfl rfl)) (enumL_map D.int handlers)) rfl ?_ ?_ (fun q => .consT (.inr rfl) (.consT (.inr rfl) .nilT)) ?_ ?_ ?_ ?_) (by rw [goFold_on])) fun g₃ s₃ v₃ => ?_
  · exact ⟨by show 0 + 15 * handlers.zipIdx.length ≤ 75; rw [List.length_zipIdx]; lia, fun q hq => hq⟩
  · rintro xs s q s' ⟨h1, h2⟩ e
    cases e
    have h3 := entries_len cells order [q] s
    rw [List.length_cons] at h1
    exact ⟨step15 h3 h1, fun q hq => h2 q (List.mem_cons_of_mem _ hq)⟩
  · rintro xs s q s' ⟨h1, h2⟩ e
    cases e
    have hq := h2 q List.mem_cons_self
    have hqm := List.mem_zipIdx hq
    have hqb : 0 ≤ q.1 := hh0 _ (by
      have := List.mem_zipIdx' hq
      rw [this.2]; exact List.getElem_mem _)
    have hq2 : q.2 < 5 := by
      have := (List.mem_zipIdx' hq).1
      lia
    rw [List.length_cons] at h1
    have hmk := marks_Small hqb ho.1
    refine ⟨[("runs", .list ((runsP (marksOf q.1 order)).map fun p => .tup [.int (p.1 : Int), .int (p.2 : Int)])), ("marks", dInts ([0] ++ marksOf q.1 order ++ [0])), ("blocks", .int q.1), ("handler", .int (q.2 : Int)), ("at", dInts ((List.range 6).map (atOf cells order))), ("order", dInts order), ("handlers", dInts handlers), ("cells", dInts cells), ("torn", dInts torn)], .inl ?_, SubR.of rfl⟩
    refine TriSS.mu (μ := some ("entries", dTups s)) ?_ rfl
    refine TriSS.cons (TriS.assign (d := dInts ([0] ++ marksOf q.1 order ++ [0])) (TriE.addL (xs := [0] ++ marksOf q.1 order) (ys := [0]) (TriE.addL (xs := [0]) (ys := marksOf q.1 order) (TriE.list (TriL.cons TriE.int TriL.nil) (by show 1 ≤ sizeLine; decide)) (TriE.eq (TriN.toE (TriN.mapInts order .int (fun x => .int (markAt q.1 x)) (.ok rfl (by decide +kernel)) (.inl rfl) (TriI.of (d := dInts order) (by exact .nm rfl rfl) rfl) rfl rfl (fun x hx => TriE.bin' (a := .int (q.1.fdiv (2 ^ x.toNat))) (b := .int 1) (TriE.bin' (by exact .nm rfl rfl) (by exact .nm rfl rfl) (rshiftI q.1 x ((ho.2 x hx).1))) TriE.int rfl) hoz)) (dInts_marks _ _).symm) (by rw [hmk.1]; decide)) (TriE.list (TriL.cons TriE.int TriL.nil) (by show 1 ≤ sizeLine; decide)) (by rw [List.length_append, hmk.1]; decide)) (.inr rfl) fun _ _ => rfl) ?_
    have hM5 : ([0] ++ marksOf q.1 order ++ [0]).length = 7 := by rw [List.length_append, List.length_append, hmk.1]; rfl
    refine TriSS.cons (TriS.assignComp (T := ["a", "b"]) (outs := (runsP (marksOf q.1 order)).map fun p => .tup [.int (p.1 : Int), .int (p.2 : Int)]) ?_ rfl (.ok rfl (by decide +kernel)) (TriI.eq (TriI.range1 (b := 5) k.ok (k.builtin rfl rfl rfl (by decide) rfl KeepOk.type) TriE.int (by decide) (by decide)) (rangeL_zero _)) ?_ (by rw [List.length_map]; exact szLe (runs_len _) (by decide))) ?_
    · exact envEq fun _ _ => by rfl
    · refine CompOk.eq (CompOk.mkB ["a"] (List.range 5) (fun (a : Nat) => D.int (a : Int)) (fun _ => true) (fun a => ((List.range (5 - a)).filter fun j => isRunL (marksOf q.1 order) (a, a + 1 + j)).map fun j => D.tup [.int (a : Int), .int ((a + 1 + j : Nat) : Int)]) (fun a => [("a", .int (a : Int))]) rfl (fun o _ => (BindT.name (.inl rfl)).assigns) (fun _ => rfl) rfl (fun o _ => Tests.nil) fun a ha _ => ?_) ?_
      · have ha5 := List.mem_range.mp ha
        refine ⟨(List.range (5 - a)).map fun j => D.int ((a + 1 + j : Nat) : Int), rfl, fun _ _ => rfl, TriI.eq (TriI.range2 k.ok (k.builtin rfl rfl rfl (by decide) rfl KeepOk.type) (TriE.bin' (a := .int (a : Int)) (b := .int 1) (by exact .nm rfl rfl) TriE.int rfl) TriE.int (range_lim ha5).1 (range_lim ha5).2 (by decide) (by decide)) (range26 ha5), ?_⟩
        refine CompOk.eq (CompOk.mkB ["b"] (List.range (5 - a)) (fun j => D.int ((a + 1 + j : Nat) : Int)) (fun j => isRunL (marksOf q.1 order) (a, a + 1 + j)) (fun j => [.tup [.int (a : Int), .int ((a + 1 + j : Nat) : Int)]]) (fun j => [("b", .int ((a + 1 + j : Nat) : Int))]) rfl (fun o _ => (BindT.name (.inl rfl)).assigns) (fun _ => rfl) rfl (fun j hj => ?_) fun j hj _ => ⟨_, TriE.tuple (TriL.cons (by exact .nm rfl rfl) (TriL.cons (by exact .nm rfl rfl) TriL.nil)) (by show 2 ≤ sizeLine; decide), rfl⟩) ?_
        · have hj5 := List.mem_range.mp hj
          obtain ⟨hk, hk1, hk2, hk3⟩ := ones_lim hj5
          refine Tests.one (TriB.cmp (a := dInts (sliceL ([0] ++ marksOf q.1 order ++ [0]) (some (a : Int)) (some (((a + 1 + j : Nat) : Int) + 2)))) (b := dInts ([0] ++ List.replicate ((a + 1 + j) - a) 1 ++ [0])) (TriE.slice2 (by exact .nm rfl rfl) (by exact .nm rfl rfl) (TriE.bin' (a := .int ((a + 1 + j : Nat) : Int)) (b := .int 2) (by exact .nm rfl rfl) TriE.int rfl) (szLe (Nat.le_of_eq hM5) (by decide))) (TriE.addL (xs := [0] ++ List.replicate ((a + 1 + j) - a) 1) (ys := [0]) (TriE.addL (xs := [0]) (ys := List.replicate ((a + 1 + j) - a) 1) (TriE.list (TriL.cons TriE.int TriL.nil) (by show 1 ≤ sizeLine; decide)) (TriE.eq (TriE.bin' (a := .list [.int 1]) (b := .int (((a + 1 + j : Nat) : Int) - (a : Int))) (TriE.list (TriL.cons TriE.int TriL.nil) (by show 1 ≤ sizeLine; decide)) (TriE.bin' (a := .int ((a + 1 + j : Nat) : Int)) (b := .int (a : Int)) (by exact .nm rfl rfl) (by exact .nm rfl rfl) rfl) (binD_ones hk1 hk2)) (by rw [hk])) (by rw [List.length_replicate]; exact szLe (Nat.le_of_succ_le hk3) (by decide))) (TriE.list (TriL.cons TriE.int TriL.nil) (by show 1 ≤ sizeLine; decide)) (by rw [List.length_append, List.length_replicate]; exact szLe hk3 (by decide))) (EqD.ints.eq (by decide) rfl rfl) rfl)
        · rw [← List.map_eq_flatMap]
      · rw [List.filter_eq_self.mpr (fun _ _ => rfl)]
        exact runs_eq _
    refine TriSS.mu (μ := some ("entries", dTups s)) ?_ rfl
    refine TriSS.eq (TriSS.cons (TriS.iadd (zs := (runsP (marksOf q.1 order)).map fun p => .tup ((entry4 cells order q.2 p).map .int)) ?_ ?_) TriSS.nil) ?_
    · refine TriN.toE ?_
      refine TriN.eq (TriN.comp1B ["b", "a"] (runsP (marksOf q.1 order)) (fun p => .tup [.int (p.1 : Int), .int (p.2 : Int)]) (fun _ => true) (fun p => .tup ((entry4 cells order q.2 p).map .int)) (fun p => [("b", .int (p.2 : Int)), ("a", .int (p.1 : Int))]) (.ok rfl (by decide +kernel)) (TriI.of (d := .list ((runsP (marksOf q.1 order)).map fun p => .tup [.int (p.1 : Int), .int (p.2 : Int)])) (by exact .nm rfl rfl) rfl) rfl (fun p _ => .consT (.inl rfl) (.consT (.inl rfl) .nilT)) (fun _ => rfl) rfl (fun _ _ => Tests.nil) (fun p hp _ => ?_) ?_) (by rw [List.filter_eq_self.mpr (fun _ _ => rfl)])
      · obtain ⟨p1, p2, p3⟩ := runs_ok hp
        have p1 := at_item (f := atOf cells order) (Nat.lt_succ_of_lt p1)
        have p3 := at_item (f := atOf cells order) (Nat.lt_succ_of_le p3)
        have hcell : itemD (dInts cells) (.int (q.2 : Int)) = some (.int (cells.getD q.2 0)) := itemD_list (Int.natCast_nonneg _) hcz (by rw [Int.toNat_natCast]; exact getD_map_int (lt_len hcl (Nat.lt_trans hq2 (by decide))))
        exact TriE.tuple (TriL.cons (TriE.item' (i := .int (p.1 : Int)) (by exact .nm rfl rfl) (by exact .nm rfl rfl) p1) (TriL.cons (TriE.bin' (a := .int (atOf cells order p.2)) (b := .int (atOf cells order p.1)) (TriE.item' (i := .int (p.2 : Int)) (by exact .nm rfl rfl) (by exact .nm rfl rfl) p3) (TriE.item' (i := .int (p.1 : Int)) (by exact .nm rfl rfl) (by exact .nm rfl rfl) p1) rfl) (TriL.cons (TriE.bin' (a := .int (5 * cells.getD q.2 0)) (b := .int (q.2 : Int)) (TriE.bin' (a := .int 5) (b := .int (cells.getD q.2 0)) TriE.int (TriE.item' (i := .int (q.2 : Int)) (by exact .nm rfl rfl) (by exact .nm rfl rfl) hcell) (mulI (by decide))) (by exact .nm rfl rfl) rfl) (TriL.cons (TriE.bin' (a := .int (cells.getD q.2 0)) (b := .int 243) (TriE.item' (i := .int (q.2 : Int)) (by exact .nm rfl rfl) (by exact .nm rfl rfl) hcell) TriE.int rfl) TriL.nil)))) (by show 4 ≤ sizeLine; decide)
      · exact szLe (runs_len (marksOf q.1 order)) (by decide)
    · rw [List.length_map, List.length_map]
      have := runs_len (marksOf q.1 order)
      lia
    · show Out.next _ _ = Out.next _ _
      congr 2
      unfold entryStep dTups
      rw [List.map_append, List.map_map]
      rfl
  · intro xs s a s' h e; cases e
  · intro xs s a d h e; cases e
  · intro s h
    exact ⟨TriSS.nil, fun ρ' μ' => ⟨by simp, by simp⟩⟩
  obtain ⟨g₄, v₄⟩ := v₃.freeze
  have v₄ : TSt W (n + 8) (A.deeper env) env _ [("entries", .list (dTups (entriesOf cells order handlers))), ("at", dInts ((List.range 6).map (atOf cells order))), ("order", dInts order), ("handlers", dInts handlers), ("cells", dInts cells), ("torn", dInts torn)] none g s₀ (339 :: l.filterMap (·.frame)) s g₄ s₃ := v₄
  have hE4 : ∀ e ∈ entriesOf cells order handlers, e.length = 4 := entries_four cells order handlers.zipIdx [] (fun e he => by cases he)
  have hEl := entries_75 cells order hhl
  generalize hEg : entriesOf cells order handlers = Es at *
  have hOl : (Es.flatMap octetsOf).length ≤ 1500 := Nat.le_trans (octetsFlat_len Es hE4) (Nat.mul_le_mul_left 20 hEl)
  have hol : (Es.flatMap octetsOf ++ torn).length ≤ 1510 := by rw [List.length_append]; exact Nat.add_le_add hOl htl
  have hoAll : octetsAll cells order handlers torn = Es.flatMap octetsOf ++ torn := by unfold octetsAll; rw [hEg]
  rw [hoAll] at hp hoct
  refine v₄.run (TriS.assign (d := dInts (Es.flatMap octetsOf ++ torn)) (TriE.addL (xs := Es.flatMap octetsOf) (ys := torn) (TriN.toE (TriN.comp (T := ["entry", "octet"]) (xs := dTups Es) (outs := (Es.flatMap octetsOf).map .int) (.ok rfl (by decide +kernel)) (TriI.of (d := .list (dTups Es)) (by exact .nm rfl rfl) rfl) ?_ (by rw [List.length_map]; exact szLe hOl (by decide)))) (by exact .nm rfl rfl) (by rw [← List.length_append]; exact szLe hol (by decide))) (.inl rfl) fun _ _ => rfl) fun g₅ s₅ v₅ => ?_
  · refine CompOk.eq (CompOk.mkB ["entry"] Es (fun e => D.tup (e.map .int)) (fun _ => true) (fun e => (octetsOf e).map .int) (fun e => [("entry", .tup (e.map .int))]) rfl (fun o _ => (BindT.name (.inl rfl)).assigns) (fun _ => rfl) rfl (fun o _ => Tests.nil) fun e he _ => ?_) ?_
    · refine ⟨(octetsOf e).map D.int, rfl, fun _ _ => rfl, TriI.of (d := dInts (octetsOf e)) (TriE.callK k rfl rfl rfl rfl rfl (TriL.cons (by exact .nm rfl rfl) TriL.nil) (fn_octets (n := n + 3) k e (by rw [hE4 e he]; decide))) rfl, ?_⟩
      refine CompOk.eq (CompOk.mkB ["octet"] (octetsOf e) D.int (fun _ => true) (fun o => [.int o]) (fun o => [("octet", .int o)]) rfl (fun o _ => (BindT.name (.inl rfl)).assigns) (fun _ => rfl) rfl (fun _ _ => Tests.nil) fun o _ _ => ⟨_, by exact .nm rfl rfl, rfl⟩) ?_
      · rw [List.filter_eq_self.mpr (fun _ _ => rfl), ← List.map_eq_flatMap]
    · rw [List.filter_eq_self.mpr (fun _ _ => rfl), List.map_flatMap]
  have v₅ : TSt W (n + 8) (A.deeper env) env _ [("octets", dInts (Es.flatMap octetsOf ++ torn)), ("entries", .list (dTups Es)), ("at", dInts ((List.range 6).map (atOf cells order)))] none g s₀ (339 :: l.filterMap (·.frame)) s g₅ s₅ := v₅.sub (SubR.of rfl)
  have hlf : ∀ b ∈ l.filterMap (·.frame), b ≠ 339 := fun b hb e => by
    obtain ⟨m, o, es, ep, ho', hd, _⟩ := hl.mem hb
    rw [e, h339] at ho'; cases ho'; cases hd
  have tab5 := v₅.keep 339 List.mem_cons_self _ h339
  refine wpAny_execs_cons (assignF v₅.fra (.inl rfl) (lamEval k hbm v₅.fra.cx hcode tab5 rfl (.ok rfl (by decide +kernel)) rfl fun fd h' tk hx ⟨ps, hps⟩ => ?_) (fun _ _ => rfl))
  have hG5 := v₅.fra.cx.good
  have h9 : 339 < h'.objs.size := Heap.lt_size hps
  have fresh5 : s₅.heap.get? h'.objs.size = none := none_of fun o q => Nat.lt_irrefl _ (Heap.lt_size (hx _ o (Nat.ne_of_gt h9) q))
  have sx6 : StepX (· = 339) g₅ s₅ g₅ { s₅ with heap := h'.push { cls := .type "function", data := .func fd }, toks := tk } := .at1 hG5 (v₅.hid _ List.mem_cons_self) (fun b o hb e => Heap.get?_push_of_some _ (hx b o hb e)) ⟨_, Heap.get?_push_of_some _ hps⟩
  have f₆ := v₅.fra.stepX sx6 (fun x e => e ▸ hs0 _ List.mem_cons_self) (fun e => v₅.fra.offL (e ▸ List.mem_cons_self)) (fun x b hx' e => v₅.fra.offC x b hx' (e ▸ List.mem_cons_self))
  have hfun : (h'.push { cls := .type "function", data := .func fd }).get? h'.objs.size = some { cls := .type "function", data := .func fd } := Heap.get?_push_size _ rfl
  have hgf : g₅ h'.objs.size = none := hG5.fresh fresh5
  have lv6 : ∀ b ∈ 339 :: l.filterMap (·.frame), ∃ o, (h'.push { cls := .type "function", data := .func fd }).get? b = some o := fun b hb => let ⟨_, ho'⟩ := v₅.fra.live b hb; sx6.live _ _ ho'
  have f₆ := f₆.reF (F' := h'.objs.size :: 339 :: l.filterMap (·.frame)) (fun hm => (List.mem_cons.mp hm).elim (fun e => let ⟨m, ⟨o, _, _, ho', _⟩, _⟩ := v₅.fra.cx.en.loc; by rw [e, fresh5] at ho'; cases ho') v₅.fra.offL)
    (fun x a hx' hm => (List.mem_cons.mp hm).elim (fun e => let ⟨u, o, ho', _⟩ := v₅.fra.cx.en.isC x a hx'; by rw [e, fresh5] at ho'; cases ho') (v₅.fra.offC x a hx')) (fun b hb => (List.mem_cons.mp hb).elim (fun e => ⟨_, e ▸ hfun⟩) (lv6 b))
  have hne : ∀ b ∈ 339 :: l.filterMap (·.frame), b ≠ h'.objs.size := fun b hb e => by
    obtain ⟨o, ho'⟩ := v₅.fra.live b hb
    rw [e, fresh5] at ho'; cases ho'
  have keep6 : ∀ b ∈ l.filterMap (·.frame), ∀ o, s.heap.get? b = some o → (h'.push { cls := .type "function", data := .func fd }).get? b = some o := fun b hb o e => sx6.keep b o (hlf b hb) (v₅.keep b (List.mem_cons_of_mem _ hb) o e)
  have tab6 : (h'.push { cls := .type "function", data := .func fd }).get? 339 = some (tabObj ps) := Heap.get?_push_of_some _ hps
  have new6 : s₀.heap.get? h'.objs.size = none := none_of fun o q => by rw [v₅.fra.st.keep _ _ q] at fresh5; cases fresh5
  generalize h'.objs.size = fa at *
  generalize h'.push { cls := .type "function", data := .func fd } = h6 at *
  refine ⟨.ptr fa, g₅, fa :: 339 :: l.filterMap (·.frame), f₆, rep_ptr.mpr rfl, fun s₇ sf f₇ => ?_⟩
  have tab7 := sf.keep 339 (List.mem_cons_of_mem _ List.mem_cons_self) _ tab6
  have hfun7 := sf.keep fa List.mem_cons_self _ hfun
  have keep7 : ∀ b ∈ l.filterMap (·.frame), ∀ o, s.heap.get? b = some o → s₇.heap.get? b = some o := fun b hb o e => sf.keep b (List.mem_cons_of_mem _ (List.mem_cons_of_mem _ hb)) o (keep6 b hb o e)
  have lv7 : ∀ b ∈ 339 :: l.filterMap (·.frame), ∃ o, s₇.heap.get? b = some o := fun b hb => let ⟨o, ho'⟩ := lv6 b hb; ⟨o, sf.keep b (List.mem_cons_of_mem _ hb) o ho'⟩
  clear v₄ v₃ v₂ v₁
  have hbl : (bytesL (Es.flatMap octetsOf ++ torn)).length ≤ 1510 := by
    unfold bytesL
    rw [List.length_map, List.length_zipIdx]
    exact hol
  refine wpAny_execs_cons (plainObj_wpAny_Assign_Attribute (wp_mono' ((?_ : TriE W (n + 8) _ _ _ (.bytes (byteArr (bytesL (Es.flatMap octetsOf ++ torn))))) _ env g₅ s₇ _ f₇.cx) fun u s₈ ⟨g₈, st₈, r₈⟩ => ?_) ?_)
  · refine TriE.callB k rfl rfl rfl (by decide) rfl KeepOk.type (TriL.cons (TriE.eq (TriN.toE (TriN.comp1B ["octet", "place"] (Es.flatMap octetsOf ++ torn).zipIdx (enumA D.int) (fun _ => true) (fun p => .int (p.1 + 128 * ((p.2 : Int)).fmod 2)) (fun p => [("octet", .int p.1), ("place", .int (p.2 : Int))]) (.ok rfl (by decide +kernel)) (TriI.eq (TriI.enumerate k.ok (k.builtin rfl rfl rfl (by decide) rfl KeepOk.type) (by exact .nm rfl rfl)) (enumL_map D.int (Es.flatMap octetsOf ++ torn))) rfl (fun p _ => .consT (.inl rfl) (.consT (.inl rfl) .nilT)) (fun _ => rfl) rfl (fun _ _ => Tests.nil) (fun p hp _ => ?_) (by rw [List.length_zipIdx]; exact szLe hol (by decide)))) ?_) TriL.nil) (fn_bytes (fun b hb => ?_) (szLe hbl (by decide)))
    · exact TriE.bin' (a := .int p.1) (b := .int (128 * ((p.2 : Int)).fmod 2)) (by exact .nm rfl rfl) (TriE.bin' (a := .int 128) (b := .int (((p.2 : Int)).fmod 2)) TriE.int (TriE.bin' (a := .int (p.2 : Int)) (b := .int 2) (by exact .nm rfl rfl) TriE.int rfl) (mulI (by decide))) rfl
    · rw [List.filter_eq_self.mpr (fun _ _ => rfl)]
      unfold bytesL
      rw [List.map_map]
      rfl
    · unfold bytesL at hb
      obtain ⟨p, hp', rfl⟩ := List.mem_map.mp hb
      have h1 := hoct p.1 (by have := List.mem_zipIdx' hp'; rw [this.2]; exact List.getElem_mem _)
      exact oct_byte h1 p.2
  rotate_left
  · rfl
  obtain ⟨tb, rfl⟩ := rep_bytes.mp r₈
  have f₈ := f₇.step st₈
  refine wp_mono' ((show TriE W (n + 8) _ _ (.Name "code" _) (.ptr fa) from by exact .nm rfl rfl) _ env g₈ s₈ _ f₈.cx) fun w s₉ ⟨g₉, st₉, r₉⟩ => ?_
  cases rep_ptr.mp r₉
  have f₉ := f₈.step st₉
  have st79 := st₈.trans st₉
  have hfun9 := st79.keep _ _ hfun7
  have hgf9 : g₉ fa = none := st79.hid hgf hfun7
  refine fattr_set hfun9 fun h₁₀ dx key tk₁ q₁ hkey e1 e2 e3 e4 => ?_
  have sx10 : StepX (· = fa) g₉ s₉ g₉ { s₉ with heap := h₁₀, toks := tk₁ } := .at1 f₉.cx.good hgf9 e4 ⟨_, e1⟩
  have f₁₀ := f₉.stepX sx10 (fun x e => e ▸ new6) (fun e => f₉.offL (e ▸ List.mem_cons_self)) (fun x b hx' e => f₉.offC x b hx' (e ▸ List.mem_cons_self))
  have keep10 : ∀ b ∈ l.filterMap (·.frame), ∀ o, s.heap.get? b = some o → h₁₀.get? b = some o := fun b hb o e => e4 b o (hne b (List.mem_cons_of_mem _ hb)) (st79.keep _ _ (keep7 b hb o e))
  have hEx : ExAt h₁₀ fa (byteArr (bytesL (Es.flatMap octetsOf ++ torn))) := by
    obtain ⟨tkey, hkey⟩ := hkey
    exact ⟨fd, dx, _, q₁, tb, e1, e3, by rw [hkey]; rfl⟩
  have tab10 : h₁₀.get? 339 = some (tabObj ps) := e4 339 _ (hne 339 List.mem_cons_self) (st79.keep _ _ tab7)
  have lv10 : ∀ b ∈ 339 :: l.filterMap (·.frame), ∃ o, h₁₀.get? b = some o := fun b hb => let ⟨o, ho'⟩ := lv7 b hb; ⟨o, e4 b o (hne b hb) (st79.keep _ _ ho')⟩
  have hid10 : ∀ b ∈ 339 :: l.filterMap (·.frame), g₉ b = none := fun b hb => let ⟨_, ho'⟩ := lv7 b hb; st79.hid (v₅.hid b hb) ho'
  refine wpAny_execs_cons (assignF f₁₀ (.inr rfl) (evalCall1 k.ok f₁₀.cx (k.callee rfl rfl rfl rfl rfl) (show TriE W (n + 8) _ _ (.Name "code" _) (.ptr fa) from by exact .nm rfl rfl) fun w g₁₁ s₁₁ st₁₁ r₁₁ => ?_) (fun _ _ => rfl))
  cases rep_ptr.mp r₁₁
  have f₁₁ := f₁₀.step st₁₁
  have keep11 : ∀ b ∈ l.filterMap (·.frame), ∀ o, s.heap.get? b = some o → s₁₁.heap.get? b = some o := fun b hb o e => st₁₁.keep _ _ (keep10 b hb o e)
  have tab11 := st₁₁.keep _ _ tab10
  have lv11 : ∀ b ∈ 339 :: l.filterMap (·.frame), ∃ o, s₁₁.heap.get? b = some o := fun b hb => let ⟨o, ho'⟩ := lv10 b hb; ⟨o, st₁₁.keep _ _ ho'⟩
  have hid11 : ∀ b ∈ 339 :: l.filterMap (·.frame), g₁₁ b = none := fun b hb => let ⟨_, ho'⟩ := lv10 b hb; st₁₁.hid (hid10 b hb) ho'
  have hfr' := Around.frames_deeper (env := env) hfr
  have hFr : Frames s₁₁.heap (env :: l) := by
    obtain ⟨m, hm, _⟩ := f₁₁.cx.en.loc
    refine ⟨by rw [f₁₁.cx.en.kind]; decide, ⟨_, m, hf, hm⟩, hl.mono fun env' he L m hfe hn => ⟨m, hn.at' fun o e => keep11 L (List.mem_filterMap.mpr ⟨env', he, hfe⟩) o e⟩⟩
  have hlg' : ∀ a ∈ (env :: l).filterMap (·.frame), g₁₁ a = none := fun a ha => by
    rw [List.filterMap_cons, hf] at ha
    rcases List.mem_cons.mp ha with rfl | ha
    · exact f₁₁.cx.en.hidL
    · exact hid11 a (List.mem_cons_of_mem _ ha)
  have hEx11 : ExAt s₁₁.heap fa (byteArr (bytesL (Es.flatMap octetsOf ++ torn))) := hEx.keeps st₁₁.keep
  refine call_ptable (n := n + 3) k f₁₁.cx.room f₁₁.cx.good hfr' hFr hlg' hEx11 hp (by rw [List.length_map]; lia) fun w g₁₂ s₁₂ sx sl rv => ?_
  have f₁₂ := f₁₁.slots sx sl (fun x hx' => hs0 x (List.mem_cons_of_mem _ hx')) hf
  have tab12 : s₁₂.heap.get? 339 = some (tabObj ps) := sx.keep 339 _ (fun hm => by
    rw [List.filterMap_cons, hf] at hm
    rcases List.mem_cons.mp hm with e | hm
    · exact v₅.fra.offL (by rw [← e]; exact List.mem_cons_self)
    · exact hlf 339 hm rfl) tab11
  have f₁₃ := f₁₂.reF (F' := 339 :: l.filterMap (·.frame)) v₅.fra.offL v₅.fra.offC (fun b hb => let ⟨o, ho'⟩ := lv11 b hb; sx.live _ _ ho')
  refine ⟨.list ((Es.map entOf4).map entD), g₁₂, 339 :: l.filterMap (·.frame), f₁₃, rv, fun s₁₄ sf₁₄ f₁₄ => ?_⟩
  have v₁₄ : TSt W (n + 8) (A.deeper env) env _ [("told", .list ((Es.map entOf4).map entD)), ("entries", .list (dTups Es)), ("at", dInts ((List.range 6).map (atOf cells order)))] none g s₀ (339 :: l.filterMap (·.frame)) s₁₂ g₁₂ s₁₄ :=
    ⟨f₁₄.sub (SubR.of rfl), fun b hb o e => sf₁₄.keep b hb o e, fun b hb => by
      obtain ⟨o, ho'⟩ := lv11 b hb
      exact sx.hid (hid11 b hb) ho'⟩
  have hEnd : ∀ ns' v g' s', TSt W (n + 8) (A.deeper env) env ns' [] none g s₀ (339 :: l.filterMap (·.frame)) s₁₂ g' s' → Rep g' v (tableD cells order (Es.map entOf4)) → Q v s' := fun ns' v g' s' vt rv => by
    have held : ∀ a o, s.heap.get? a = some o → a ≠ 339 → a ∉ l.filterMap (·.frame) → s'.heap.get? a = some o := fun a o e h1 h2 => vt.fra.st.keep _ _ (hkeep0 _ _ e (by simp only [List.mem_cons, not_or]; exact ⟨h1, h2⟩))
    have slot : ∀ a o, s.heap.get? a = some o → a ≠ 339 → (∀ vs, o.data ≠ .fields vs) → ∃ sl, s'.heap.get? a = some { o with slots := sl } := fun a o e h1 hd => by
      by_cases h2 : a ∈ l.filterMap (·.frame)
      · obtain ⟨q, hq⟩ := sl a o (keep11 a h2 o e) hd
        exact ⟨q, vt.keep a (List.mem_cons_of_mem _ h2) _ hq⟩
      · exact ⟨o.slots, held a o e h1 h2⟩
    refine hQ v g' s' ⟨vt.fra.st.view, fun b o e => ?_, vt.fra.st.sub, fun b o hb e => held b o e (fun h => hb (.inl h)) (fun h => hb (.inr h)), fun b o e => ?_, ⟨vt.fra.st.rest.1.trans hrest0.1.symm, vt.fra.st.rest.2.1.trans hrest0.2.1.symm, vt.fra.st.rest.2.2.trans hrest0.2.2.symm⟩⟩ slot rv ⟨ps, vt.keep 339 List.mem_cons_self _ tab12⟩
    · rcases vt.fra.st.fresh _ _ e with h | h
      · exact .inl h
      · refine .inr ?_
        cases q : s.heap.get? b with
        | none => rfl
        | some o' =>
          by_cases hb : b ∈ 339 :: l.filterMap (·.frame)
          · rw [vt.hid b hb] at e; cases e
          · rw [show s₀.heap.get? b = some o' from hkeep0 _ _ q hb] at h; cases h
    · by_cases hb : b ∈ 339 :: l.filterMap (·.frame)
      · exact vt.fra.live b hb
      · exact ⟨o, held b o e (fun h => hb (by rw [h]; exact List.mem_cons_self)) (fun h => hb (List.mem_cons_of_mem _ h))⟩
  have hESz : (Es.map entOf4).length ≤ sizeLine := by rw [List.length_map]; exact szLe hEl (by decide)
  generalize hES : Es.map entOf4 = ES at *
  refine v₁₄.run (TriS.assignComp (T := ["start", "size", "target", "depth"]) (outs := Es.map fun e => rowD (entOf4 e)) ?_ rfl (.ok rfl (by decide +kernel)) (TriI.of (d := .list (dTups Es)) (by exact .nm rfl rfl) rfl) ?_ (by rw [List.length_map]; lia)) fun g₁₅ s₁₅ v₁₅ => ?_
  · exact envEq fun _ _ => by rfl
  · refine CompOk.eq (CompOk.mkB ["depth", "target", "size", "start"] Es (fun e => D.tup (e.map .int)) (fun _ => true) (fun e => [rowD (entOf4 e)]) (fun e => [("depth", .int (e.getD 3 0)), ("target", .int (e.getD 2 0)), ("size", .int (e.getD 1 0)), ("start", .int (e.getD 0 0))]) rfl (fun e he => ?_) (fun _ => rfl) rfl (fun o _ => Tests.nil) fun e he _ => ⟨_, ?_, rfl⟩) ?_
    · exact len4 (P := fun e => AssignsTo _ _ _ _ (D.tup (e.map .int)) [("depth", .int (e.getD 3 0)), ("target", .int (e.getD 2 0)), ("size", .int (e.getD 1 0)), ("start", .int (e.getD 0 0))]) (fun _ _ _ _ => (BindT.consT (.inl rfl) (.consT (.inl rfl) (.consT (.inl rfl) (.consT (.inl rfl) .nilT)))).assigns) e (hE4 e he)
    · exact TriE.tuple (TriL.cons (TriE.bin' (a := .int 2) (b := .int (e.getD 0 0)) TriE.int (by exact .nm rfl rfl) (mulI (by decide))) (TriL.cons (TriE.bin' (a := .int 2) (b := .int (e.getD 0 0 + e.getD 1 0)) TriE.int (TriE.bin' (a := .int (e.getD 0 0)) (b := .int (e.getD 1 0)) (by exact .nm rfl rfl) (by exact .nm rfl rfl) rfl) (mulI (by decide))) (TriL.cons (TriE.bin' (a := .int 2) (b := .int (e.getD 2 0)) TriE.int (by exact .nm rfl rfl) (mulI (by decide))) (TriL.cons (TriE.bin' (a := .int (e.getD 3 0)) (b := .int 2) (by exact .nm rfl rfl) TriE.int rfl) (TriL.cons (TriE.cmp' (a := .int ((e.getD 3 0).fmod 2)) (b := .int 1) (TriE.bin' (a := .int (e.getD 3 0)) (b := .int 2) (by exact .nm rfl rfl) TriE.int rfl) TriE.int rfl) TriL.nil))))) (by show 5 ≤ sizeLine; decide)
    · rw [List.filter_eq_self.mpr (fun _ _ => rfl), ← List.map_eq_flatMap]
  have hrow : (Es.map fun e => rowD (entOf4 e)) = ES.map rowD := by rw [← hES, List.map_map]; rfl
  rw [hrow] at v₁₅
  have v₁₅ : TSt W (n + 8) (A.deeper env) env _ [("due", .list (ES.map rowD)), ("told", .list (ES.map entD)), ("at", dInts ((List.range 6).map (atOf cells order)))] none g s₀ (339 :: l.filterMap (·.frame)) s₁₂ g₁₅ s₁₅ := v₁₅.sub (SubR.of rfl)
  refine v₁₅.run (TriS.skipIf (TriB.eq (TriB.boolOp (OrB.cons (TriB.cmp (a := .list (ES.map rowD)) (b := .list (ES.map rowD)) ?_ (by exact .nm rfl rfl) (due_ne ES) rfl) fun _ => OrB.cons (TriB.cmp (a := .list (ES.map rowD)) (b := .list (ES.map rowD)) ?_ (by exact .nm rfl rfl) (due_ne ES) rfl) fun _ => OrB.nil)) rfl)) fun g₁₆ s₁₆ v₁₆ => ?_
  · refine TriN.toE (TriN.comp (T := ["a", "b", "c", "d", "e"]) (xs := ES.map entD) (outs := ES.map rowD) (.ok rfl (by decide +kernel)) (TriI.of (d := .list (ES.map entD)) (by exact .nm rfl rfl) rfl) ?_ (by rw [List.length_map]; lia))
    refine CompOk.eq (CompOk.mkB ["e", "d", "c", "b", "a"] ES entD (fun _ => true) (fun e => [rowD e]) (fun e => [("e", .bool e.lasti), ("d", .int e.depth), ("c", .int e.target), ("b", .int e.stop), ("a", .int e.start)]) rfl (fun e he => AssignsTo.ent k (.consT (.inl rfl) (.consT (.inl rfl) (.consT (.inl rfl) (.consT (.inl rfl) (.consT (.inl rfl) .nilT)))))) (fun _ => rfl) rfl (fun o _ => Tests.nil) fun e he _ => ⟨_, ?_, rfl⟩) ?_
    · exact TriE.tuple (TriL.cons (by exact .nm rfl rfl) (TriL.cons (by exact .nm rfl rfl) (TriL.cons (by exact .nm rfl rfl) (TriL.cons (by exact .nm rfl rfl) (TriL.cons (by exact .nm rfl rfl) TriL.nil))))) (by show 5 ≤ sizeLine; decide)
    · rw [List.filter_eq_self.mpr (fun _ _ => rfl), ← List.map_eq_flatMap]
  · refine TriN.toE (TriN.eq (TriN.mapInts ES entD rowD (.ok rfl (by decide +kernel)) (.inl rfl) (TriI.of (d := .list (ES.map entD)) (by exact .nm rfl rfl) rfl) rfl rfl (fun e he => ?_) hESz) rfl)
    exact TriE.tuple (TriL.cons (TriE.attrEnt k (by exact .nm rfl rfl) get_start rfl (by show 5 ≤ 1000; decide)) (TriL.cons (TriE.attrEnt k (by exact .nm rfl rfl) get_stop rfl (by show 5 ≤ 1000; decide)) (TriL.cons (TriE.attrEnt k (by exact .nm rfl rfl) get_target rfl (by show 5 ≤ 1000; decide)) (TriL.cons (TriE.attrEnt k (by exact .nm rfl rfl) get_depth rfl (by show 5 ≤ 1000; decide)) (TriL.cons (TriE.attrEnt k (by exact .nm rfl rfl) get_lasti rfl (by show 5 ≤ 1000; decide)) TriL.nil))))) (by show 5 ≤ sizeLine; decide)
  refine v₁₆.run (TriS.skipIf (TriB.eq (TriB.not (TriB.ofE (d := .bool true) (TriE.eq (TriE.callB k rfl rfl rfl (by decide) rfl KeepOk.builtin (TriL.cons (TriE.eq (TriN.toE (TriN.mapInts ES entD (fun _ => .bool true) (.ok rfl (by decide +kernel)) (.inl rfl) (TriI.of (d := .list (ES.map entD)) (by exact .nm rfl rfl) rfl) rfl rfl (fun e he => ?_) hESz)) ?_) TriL.nil) (fn_all (bs := ES.map fun _ => true))) ?_) rfl)) rfl)) fun g₁₇ s₁₇ v₁₇ => ?_
  · exact TriE.callB k rfl rfl rfl (by decide) rfl KeepOk.builtin (TriL.cons (TriE.attrEnt k (by exact .nm rfl rfl) get_lasti (d := .bool e.lasti) rfl (by show 5 ≤ 1000; decide)) (TriL.cons (TriE.tyBool k rfl) TriL.nil)) fn_isi_bool
  · rw [List.map_map]; rfl
  · exact congrArg D.bool (all_trues ES)
  refine TriSS.stop (TriS.ret (d := tableD cells order ES) (TriE.tuple (TriL.cons (TriE.eq (TriE.callB k rfl rfl rfl (by decide) rfl KeepOk.builtin (TriL.cons (by exact .nm rfl rfl) TriL.nil) (fn_len_list (xs := ES.map entD) (by rw [List.length_map]; lia))) (by rw [List.length_map])) (TriL.cons (TriN.toE (TriN.mapInts (List.range 5) (fun (i : Nat) => .int (i : Int)) (fun i => dInts (guardAt ES (atOf cells order i))) (.ok rfl (by decide +kernel)) (.inr rfl) (TriI.eq (TriI.range1 (b := 5) k.ok (k.builtin rfl rfl rfl (by decide) rfl KeepOk.type) TriE.int (by decide) (by decide)) (rangeL_zero _)) rfl rfl (fun i hi => ?_) (by rw [List.length_range]; decide))) TriL.nil)) (by show 2 ≤ sizeLine; decide))) rfl _ _ _ _ _ _ _ _ _ v₁₇.fra fun fl g₁₈ s₁₈ sf ⟨vv, e, rr, f'⟩ => ?_
  · have hi5 := List.mem_range.mp hi
    refine TriE.eq (TriN.toE (TriN.compInts ES entD (fun e => decide (e.start ≤ 2 * atOf cells order i) && decide (2 * atOf cells order i < e.stop)) (fun e => .int ((e.target.fdiv 2).fmod 5)) (.ok rfl (by decide +kernel)) (.inl rfl) (TriI.of (d := .list (ES.map entD)) (by exact .nm rfl rfl) rfl) rfl rfl (fun e he => ?_) (fun e he _ => ?_) hESz)) (by unfold guardAt dInts; rw [List.map_map]; rfl)
    · exact Tests.one (TriE.cmp2 (a := .int e.start) (b := .int (2 * atOf cells order i)) (c := .int e.stop) (TriE.attrEnt k (by exact .nm rfl rfl) get_start rfl (by show 5 ≤ 1000; decide)) (TriE.bin' (a := .int 2) (b := .int (atOf cells order i)) TriE.int (TriE.item' (i := .int (i : Int)) (by exact .nm rfl rfl) (by exact .nm rfl rfl) (at_item (Nat.lt_succ_of_lt hi5))) (mulI (by decide))) (TriE.attrEnt k (by exact .nm rfl rfl) get_stop rfl (by show 5 ≤ 1000; decide)) (cmpD_sound rfl) (cmpD_sound rfl))
    · exact TriE.bin' (a := .int (e.target.fdiv 2)) (b := .int 5) (TriE.bin' (a := .int e.target) (b := .int 2) (TriE.attrEnt k (by exact .nm rfl rfl) get_target rfl (by show 5 ≤ 1000; decide)) TriE.int rfl) TriE.int rfl
  subst e
  exact hQQ _ _ (hEnd _ vv g₁₈ s₁₈ (v₁₇.safe sf f') rr)
end
end Mine
end
section
open Builtin.Str (glued)
namespace Mine
noncomputable def handBits (c : Int) : List Nat := (List.range 5).filter fun b => (c.fdiv (3 ^ b)).fmod 3 == 0
noncomputable def handOf (c : Int) : Int := ((handBits c).map fun b => (2 : Int) ^ b).sum
noncomputable def handsOf (cells : List Int) : List Int := (cells.take 5).map handOf
noncomputable def tornOf (c : Int) : List Int := [[], [70], [1, 2, 3], [5, 66]].getD (c.fmod 4).toNat []
noncomputable def orderOf (hs : List Int) (c : Int) : List Int := if laidOf hs c = [] then orderAt c 0 else laidOf hs c
noncomputable def subAt (hs order : List Int) (i : Nat) : List Nat := (List.range 5).filter fun h => markAt (hs.getD h 0) (order.getD i 0) != 0
section
variable {W : Wo} {n : Nat} {ns : Names} {ρ : Rho} {μ : Mu}
theorem evalCallL (O : W.Ok) {A env g s} {E : Value → Shared → Prop} {x : PySem.Str} {p pos : Pos} {f : Value} {es : List Expr} {ds : List D} {Q : Value → Shared → Prop} (c : Cx W (n + 1) A env ns ρ g s) (hc : Callee W ns x f) (hl : TriL W (n + 1) ns ρ es ds)
    (h : ∀ vs g₁ s₁, Step g s g₁ s₁ → RepL g₁ vs ds → wpAny W.M A (PySem.call f vs) Q E s₁) (hs : ∀ env, (starEach es env).any (·.1) = false := by intro _; rfl) : wpAny W.M A (eval (.Call (.Name x p) es [] pos) env) Q E s := by
  show wpAny _ A (do callWith pos (← eval (.Name x p) env) [] (backTo pos (starEach es env)) []) _ E s
  refine wpAny_bind (nameGlobal O c hc ?_)
  refine callWith_of (P := fun h => ∀ b o, W.hs.get? b = some o → h.get? b = some o) (by rw [backTo_any, hs]; rfl) hc.keep ?_
  refine wp_mono' (evalArgsR c hl (hs env)) fun a s₁ ⟨e', g₁, st₁, r₁⟩ => ?_
  have G := (c.step st₁).good
  refine ⟨fun b o q => G.sub _ _ (G.stat _ _ q), ?_⟩
  rw [e', List.nil_append]
  exact h _ g₁ s₁ st₁ r₁
theorem Fra.slotsX {A env g₀ s₀ F g s g' s'} {X : Addr → Prop} {P : Addr} (f : Fra W n A env ns ρ none g₀ s₀ F g s) (a : StepX X g s g' s') (sl : ∀ b o, s.heap.get? b = some o → b ≠ P → (∀ vs, o.data ≠ .fields vs) → ∃ sl, s'.heap.get? b = some { o with slots := sl })
    (hX : ∀ x, X x → s₀.heap.get? x = none) (hP : P ∈ F) : Fra W n A env ns ρ none g₀ s₀ F g' s' := by
  have hns : ∀ b m, b ≠ P → s.heap.Ns b m → s'.heap.Ns b m := fun b m hb ⟨o, es, ep, ho, hd, r⟩ => by
    obtain ⟨q, h⟩ := sl b o ho hb fun vs e => by rw [hd] at e; cases e
    exact ⟨_, es, ep, h, hd, r⟩
  have hcell : ∀ b v, b ≠ P → s.heap.IsCell b v → s'.heap.IsCell b v := fun b v hb ⟨o, ho, hd⟩ => by
    obtain ⟨q, h⟩ := sl b o ho hb fun vs e => by rw [hd] at e; cases e
    exact ⟨_, h, hd⟩
  have c := f.cx
  have hL : env.locals ≠ P := fun e => f.offL (e ▸ hP)
  have hC : ∀ x b, env.cells.lookup x = some b → b ≠ P := fun x b hx e => f.offC x b hx (e ▸ hP)
  refine { cx := ⟨c.room, a.good c.good, c.en.names, c.en.kind, c.en.globals, c.en.builtins, ?_, fun x hx => ?_, fun x b hx => ?_, fun x b hx => ?_, c.en.apart, ?_, fun x d hx hk => ?_⟩, st := StepX.strict f.st a hX, loc := f.loc, cel := f.cel, offL := f.offL, offC := f.offC, live := fun b hb => let ⟨o, ho⟩ := f.live b hb; a.live _ _ ho, own := fun z zs e => (by cases e) }
  · obtain ⟨m, ⟨o, es, ep, ho, _⟩, _⟩ := c.en.loc
    exact a.hid c.en.hidL ho
  · obtain ⟨b, v, h1, h2⟩ := c.en.cells x hx
    exact ⟨b, v, h1, hcell _ _ (hC x b h1) h2⟩
  · obtain ⟨v, o, ho, _⟩ := c.en.isC x b hx
    exact a.hid (c.en.hidC x b hx) ho
  · obtain ⟨v, h⟩ := c.en.isC x b hx
    exact ⟨v, hcell _ _ (hC x b hx) h⟩
  · obtain ⟨m, h1, h2⟩ := c.en.loc
    refine ⟨m, hns _ _ hL h1, fun x d hx hk => ?_⟩
    obtain ⟨v, h3, h4⟩ := h2 x d hx hk
    exact ⟨v, h3, h4.mono a.view⟩
  · obtain ⟨b, v, h1, h2, h3⟩ := c.en.cv x d hx hk
    exact ⟨b, v, h1, hcell _ _ (hC x b h1) h2, h3.mono a.view⟩
end
end Mine
end
section
open Builtin.Str (glued)
namespace Mine
theorem glued_ok (sep : PySem.Str) (hs : PyData.strOk sep = true) (xs : List PySem.Str) (h : ∀ x ∈ xs, PyData.strOk x = true) : PyData.strOk (glued sep xs) = true := by
  have key : ∀ (l : List PySem.Str) (acc : Array Nat), (∀ x ∈ l, PyData.strOk x = true) → acc.all (· < 0x110000) = true → (l.foldl (fun acc p => acc ++ sep.cps ++ p.cps) acc).all (· < 0x110000) = true := fun l => by
    induction l with
    | nil => intro acc _ ha; exact ha
    | cons x l ih =>
      intro acc hl ha
      rw [List.foldl_cons]
      refine ih _ (fun y hy => hl y (List.mem_cons_of_mem _ hy)) ?_
      have hx := hl x List.mem_cons_self
      unfold PyData.strOk at hx hs
      rw [Array.all_append, Array.all_append, ha, hs, hx]; rfl
  unfold glued PyData.strOk
  dsimp only
  refine key _ _ (fun x hx => h x (List.mem_of_mem_drop hx)) ?_
  cases xs with
  | nil => decide +kernel
  | cons a l => exact h a List.mem_cons_self
theorem word_ok : ∀ f ∈ List.range 32, PyData.strOk (wordOf f) = true := by decide +kernel
theorem top_ok : ∀ a ∈ [(-2 : Int), -1, 0, 1, 2], ∀ x ∈ tops a, PyData.strOk x = true := by decide +kernel
theorem words_ok (fs : List Nat) (a : Int) (hf : ∀ f ∈ fs, f < 32) (ha : a ∈ [(-2 : Int), -1, 0, 1, 2]) : PyData.strOk (wordsOf fs a) = true := by
  unfold wordsOf
  refine glued_ok _ (by decide +kernel) _ fun x hx => ?_
  unfold wordsL at hx
  split at hx
  · rw [List.mem_singleton] at hx; subst hx; decide +kernel
  · rcases List.mem_append.mp hx with hx | hx
    · obtain ⟨f, hf', rfl⟩ := List.mem_map.mp hx
      exact word_ok f (List.mem_range.mpr (hf f hf'))
    · exact top_ok a ha x hx
theorem top_hex : ∀ a ∈ [(-2 : Int), -1, 0, 1, 2], (baseText "0x" 16 (a * 2 ^ 32)).length ≤ 24 := by decide +kernel
theorem subs_lt : ∀ sub ∈ subs5, (∀ h ∈ sub, h < 5) ∧ sub.length ≤ 5 := by decide +kernel
section
variable {W : Wo} {n : Nat}
theorem fn_prettyW (k : Kit W) {base : Nat} (hb : base < 28) {a : Int} (ha : a ∈ [(-2 : Int), -1, 0, 1, 2]) {sub : List Nat} (hs : sub ∈ subs5) : FnE W (n + 2) (.ref 89) [.int (flagsVal (sub.map (base + ·)) a)] (.str (wordsOf (sub.map (base + ·)) a)) := by
  have hsl : sizeLine = 2 ^ 24 := rfl
  have hw := pretty_words hb ha hs
  have hf : ∀ f ∈ sub.map (base + ·), f < 32 := fun f hf => by
    obtain ⟨h, hh, rfl⟩ := List.mem_map.mp hf
    have := (subs_lt sub hs).1 h hh
    lia
  have hlen := (subs_lt sub hs).2
  have h := flags_run base (List.mem_range.mpr hb) a ha sub hs
  unfold flagGood at h
  have h := eq_of_beq h
  have := fn_pretty (n := n) k (flagsVal (sub.map (base + ·)) a) (by rw [hw]; exact wordsL_len _ a hf ha) (by
    rw [hw]
    have ht : (tops a).length ≤ 1 := by unfold tops; split <;> simp
    unfold wordsL
    split
    · decide
    · rw [List.length_append, List.length_map, List.length_map]
      lia) (fun _ => by
    rw [h]
    have := top_hex a ha
    dsimp only
    lia)
  rw [hw] at this
  exact this
end
end Mine
end
section
open Builtin.Str (glued)
namespace Mine
noncomputable def lawBody (W : Wo) : List Stmt := match (KK W).lookup 362 with
  | some ⟨_, _, .func fd, _⟩ => (match fd.body with | .stmts b => b | _ => [])
  | _ => []
noncomputable def lawNames : Names := [("script", .local), ("cells", .cell), ("handlers", .cell), ("laid", .local), ("order", .cell), ("table", .local), ("base", .cell), ("above", .cell), ("named", .local), ("single", .local), ("_law_cells", .globalImplicit), ("_law_laid", .globalImplicit), ("_law_orders", .globalImplicit), ("all", .globalImplicit), ("_law_table", .globalImplicit), ("len", .globalImplicit), ("_law_three", .globalImplicit)]
theorem fdivN (c : Int) {b : Nat} (hb : b < 5) : binD .FloorDiv (.int c) (.int (3 ^ b)) = some (.int (c.fdiv (3 ^ b))) := by
  have : ∀ b ∈ List.range 5, ((3 : Int) ^ b) ≠ 0 ∧ ((3 : Int) ^ b).natAbs < 1073741824 := by decide
  exact if_pos (this b (List.mem_range.mpr hb))
theorem powN {a : Int} (ha : a.natAbs < 2 ^ 64) (b : Nat) (hb : b ≤ 1000000) : binD .Pow (.int a) (.int (b : Int)) = some (.int (a ^ b)) := by
  have e : binD .Pow (.int a) (.int (b : Int)) = some (.int (a ^ (b : Int).toNat)) := if_pos ⟨by lia, by lia, ha⟩
  rw [Int.toNat_natCast] at e
  exact e
theorem cellItem {cells : List Int} (i : Nat) (h : i < cells.length) (hz : cells.length ≤ 100) : itemD (dInts cells) (.int (i : Int)) = some (.int (cells.getD i 0)) := by
  have hsl : sizeLine = 2 ^ 24 := rfl
  refine itemD_list (by lia) (by rw [List.length_map]; lia) ?_
  rw [Int.toNat_natCast]
  exact getD_map_int h
theorem fmod_cases4 (c : Int) : c.fmod 4 = 0 ∨ c.fmod 4 = 1 ∨ c.fmod 4 = 2 ∨ c.fmod 4 = 3 :=
  fmodAt (P := fun x => x = 0 ∨ x = 1 ∨ x = 2 ∨ x = 3) c 4 (by decide) (by decide)
theorem tornItem (c : Int) : itemD (.tup [.list [], .list [.int 70], .list [.int 1, .int 2, .int 3], .list [.int 5, .int 66]]) (.int (c.fmod 4)) = some (dInts (tornOf c)) := by
  unfold tornOf
  rcases fmod_cases4 c with h | h | h | h <;> rw [h] <;> rfl
theorem torn_len (c : Int) : (tornOf c).length ≤ 10 := by
  unfold tornOf
  rcases fmod_cases4 c with h | h | h | h <;> rw [h] <;> decide
theorem orderOf_mem (hs : List Int) (c : Int) : orderOf hs c ∈ allOrders := by
  unfold orderOf
  by_cases h0 : laidOf hs c = []
  · rw [if_pos h0]; exact orderAt_mem c 0
  · rw [if_neg h0]
    revert h0
    unfold laidOf
    cases h : (List.range 60).find? fun turn => !partsAny hs (orderAt c turn) with
    | none => intro h0; exact absurd rfl h0
    | some t => intro _; exact orderAt_mem c t
theorem fmod3m (c : Int) : c.fmod 3 ∈ [(0 : Int), 1, 2] := fmodAt (P := fun x => x ∈ [(0 : Int), 1, 2]) c 3 (by decide) (by decide)
theorem fmod5 (c : Int) : c.fmod 5 - 2 ∈ [(-2 : Int), -1, 0, 1, 2] := fmodAt (P := fun x => x - 2 ∈ [(-2 : Int), -1, 0, 1, 2]) c 5 (by decide) (by decide)
theorem small_above : ∀ a ∈ [(-2 : Int), -1, 0, 1, 2], smallI a = true := by decide
theorem handOf_nonneg (c : Int) : 0 ≤ handOf c := by
  unfold handOf
  have : ∀ l : List Nat, 0 ≤ (l.map fun b => (2 : Int) ^ b).sum := fun l => by
    induction l with
    | nil => exact Int.le_refl 0
    | cons a l ih =>
      rw [List.map_cons, List.sum_cons]
      have : 0 ≤ (2 : Int) ^ a := Int.le_of_lt (Int.pow_pos (by decide))
      lia
  exact this _
theorem filter_mem_subs : ∀ l ∈ [0, 1].flatMap (fun a => [0, 1].flatMap fun b => [0, 1].flatMap fun c => [0, 1].flatMap fun d => [0, 1].map fun e => [a, b, c, d, e]), (List.range 5).filter (fun h => l.getD h 0 != 0) ∈ subs5 := by decide +kernel
theorem filter5_mem (p : Nat → Bool) : (List.range 5).filter p ∈ subs5 := by
  have e : (List.range 5).filter p = (List.range 5).filter (fun h => ((List.range 5).map fun h => if p h then 1 else 0).getD h 0 != 0) := by
    refine List.filter_congr fun h hh => ?_
    have h5 := List.mem_range.mp hh
    rw [List.getD_eq_getElem?_getD, List.getElem?_map, List.getElem?_range h5]
    cases q : p h <;> simp [q]
  rw [e]
  have b : ∀ h, (if p h then 1 else 0) ∈ [0, 1] := fun h => by split <;> simp
  refine filter_mem_subs _ ?_
  exact List.mem_flatMap.mpr ⟨_, b 0, List.mem_flatMap.mpr ⟨_, b 1, List.mem_flatMap.mpr ⟨_, b 2, List.mem_flatMap.mpr ⟨_, b 3, List.mem_map.mpr ⟨_, b 4, rfl⟩⟩⟩⟩⟩
theorem ints_at {order : List Int} (h : order.length = 5) : order.map D.int = (List.range 5).map fun i => .int (order.getD i 0) := by
  exact len5 (P := fun order : List Int => order.map D.int = (List.range 5).map fun i => .int (order.getD i 0)) (fun _ _ _ _ _ => rfl) order h
section
variable {W : Wo} {n : Nat}
set_option maxHeartbeats 4000000 in
theorem law_walk (k : Kit W) {A : Around} {env : Env} {g₀ g : View} {s₀ s : Shared} {E : Value → Shared → Prop} {Q : Flow → Shared → Prop} {js cells hs order : List Int} {c5 c6 : Int}
    (f : Fra W (n + 15) A env (lawNames) [("script", .list (js.map .int))] none g₀ s₀ [339] g s)
    (hA : A.frames = some [env]) (hfe : env.frame = some env.locals) (h339 : s.heap.get? 339 = some (tabObj #[])) (hg : g 339 = none) (hs0 : s₀.heap.get? 339 = none) (hbm : W.hs.BuiltinsAt W.mg 339) (hints : js.length ≤ 63)
    (ecells : cellsOf js = cells) (ehs : handsOf cells = hs) (ec5 : cells.getD 5 0 = c5) (ec6 : cells.getD 6 0 = c6) (eord : orderOf hs c6 = order) (hcl : cells.length = 7)
    (hoct : ∀ o ∈ octetsAll cells order hs (tornOf c5), 0 ≤ o ∧ o < 128) (hp : Parse (KBw.bInts (byteArr (bytesL (octetsAll cells order hs (tornOf c5))))) ((entriesOf cells order hs).map entOf4))
    (hG : ∀ i < 5, guardAt ((entriesOf cells order hs).map entOf4) (atOf cells order i) = (subAt hs order i).map fun (h : Nat) => (h : Int))
    (hS : ((((entriesOf cells order hs).map entOf4).length : Int) == ((hs.filter fun b => b != 0).length : Int)) = !decide (laidOf hs c6 = []))
    (hT : threeOf hs = decide (laidOf hs c6 = []))
    (hQ : ∀ g' s', Step g₀ s₀ g' s' → (∃ ps, s'.heap.get? 339 = some (tabObj ps)) → Q (.ret (.bool true)) s') : wpAny W.M A (execs (lawBody W) env) Q E s := by
  have hsl : sizeLine = 2 ^ 24 := rfl
  have hom : order ∈ allOrders := eord ▸ orderOf_mem hs c6
  have ho := orders_ok _ hom
  have hhl : hs.length = 5 := by rw [← ehs]; unfold handsOf; rw [List.length_map, List.length_take, hcl]; rfl
  have hcz : cells.length ≤ sizeLine := szLe (Nat.le_of_eq hcl) (by decide)
  have hhz : hs.length ≤ sizeLine := szLe (Nat.le_of_eq hhl) (by decide)
  have hoz : order.length ≤ sizeLine := szLe (Nat.le_of_eq ho.1) (by decide)
  have hc100 : cells.length ≤ 100 := by rw [hcl]; decide
  have hh0 : ∀ b ∈ hs, 0 ≤ b := fun b hb => by
    rw [← ehs] at hb
    unfold handsOf at hb
    obtain ⟨c, _, rfl⟩ := List.mem_map.mp hb
    exact handOf_nonneg c
  have i6 : itemD (dInts cells) (.int 6) = some (.int c6) := by
    have := cellItem (cells := cells) 6 (by rw [hcl]; decide) hc100
    rw [ec6] at this; exact this
  have i5 : itemD (dInts cells) (.int 5) = some (.int c5) := by
    have := cellItem (cells := cells) 5 (by rw [hcl]; decide) hc100
    rw [ec5] at this; exact this
  have v₁ : TSt W (n + 15) A env (lawNames) [("script", .list (js.map .int))] none g₀ s₀ [339] s g s := ⟨f, fun _ _ _ e => e, fun b hb => List.mem_singleton.mp hb ▸ hg⟩
  refine v₁.run (TriS.assign (x := "cells") (d := dInts cells) (TriE.callK k rfl rfl rfl rfl rfl (TriL.cons (by exact .nm rfl rfl) TriL.nil) (ecells ▸ fn_law_cells (n := n + 12) k js hints)) (.inr rfl) fun _ _ => rfl) fun g₂ s₂ v₂ => ?_
  refine v₂.run (TriS.assign (x := "handlers") (d := dInts hs) (TriE.eq (TriN.toE (TriN.mapInts (cells.take 5) .int (fun c => .int (handOf c)) (.ok rfl (by decide +kernel)) (.inr rfl) (TriI.of (d := dInts (cells.take 5)) (TriE.prefix_ (i := 5) (by exact .nm rfl rfl) TriE.int hcz) rfl) rfl rfl (fun c hc => ?_) (by rw [List.length_take]; exact Nat.le_trans (Nat.min_le_right _ _) hcz))) (by rw [← ehs]; unfold handsOf dInts; rw [List.map_map]; rfl)) (.inr rfl) ?_) fun g₃ s₃ v₃ => ?_
  · refine TriE.callB k rfl rfl rfl (by decide) rfl KeepOk.builtin (TriL.cons (TriE.eq (TriN.toE (TriN.compInts (List.range 5) (fun (i : Nat) => .int (i : Int)) (fun b => (c.fdiv (3 ^ b)).fmod 3 == 0) (fun b => .int (2 ^ b)) (.ok rfl (by decide +kernel)) (.inl rfl) (TriI.eq (TriI.range1 (b := 5) k.ok (k.builtin rfl rfl rfl (by decide) rfl KeepOk.type) TriE.int (by decide) (by decide)) (rangeL_zero _)) rfl rfl (fun b hb => ?_) (fun b hb _ => ?_) (by rw [List.length_range]; decide))) (d' := .list (((handBits c).map fun b => (2 : Int) ^ b).map D.int)) (by unfold handBits; rw [List.map_map]; rfl)) TriL.nil) fn_sum
    · have hb5 := List.mem_range.mp hb
      exact Tests.one (TriB.cmp' (a := .int ((c.fdiv (3 ^ b)).fmod 3)) (b := .int 0) (TriE.bin' (a := .int (c.fdiv (3 ^ b))) (b := .int 3) (TriE.bin' (a := .int c) (b := .int (3 ^ b)) (by exact .nm rfl rfl) (TriE.bin' (a := .int 3) (b := .int (b : Int)) TriE.int (by exact .nm rfl rfl) (powN (by decide) b (Nat.le_trans (Nat.le_of_lt hb5) (by decide)))) (fdivN c hb5)) TriE.int rfl) TriE.int rfl)
    · have hb5 := List.mem_range.mp hb
      exact TriE.bin' (a := .int 2) (b := .int (b : Int)) TriE.int (by exact .nm rfl rfl) (powN (by decide) b (Nat.le_trans (Nat.le_of_lt hb5) (by decide)))
  · exact envEq fun _ _ => by rfl
  refine v₃.run (TriS.assign (x := "laid") (d := dInts (laidOf hs c6)) (TriE.callK k rfl rfl rfl rfl rfl (TriL.cons (by exact .nm rfl rfl) (TriL.cons (TriE.item' (by exact .nm rfl rfl) TriE.int i6) (TriL.cons (TriE.bin' (a := .int c6) (b := .int 60) (TriE.item' (by exact .nm rfl rfl) TriE.int i6) TriE.int rfl) TriL.nil))) (fn_laid (n := n) k hs c6 _ (Nat.le_of_eq hhl) hh0)) (.inl rfl) fun _ _ => rfl) fun g₄ s₄ v₄ => ?_
  refine v₄.run (TriS.skipIf (TriB.cmp' (a := dInts (laidOf hs c6)) (b := .none) (by exact .nm rfl rfl) TriE.noneC rfl)) fun g₅ s₅ v₅ => ?_
  refine v₅.run (TriS.assign (x := "order") (d := dInts order) (TriE.ite (c := !decide (laidOf hs c6 = [])) (TriB.cmp (a := dInts (laidOf hs c6)) (b := dInts []) (by exact .nm rfl rfl) (TriE.list TriL.nil (by decide)) (EqD.ints.ne (by decide) rfl rfl) rfl) (fun h => ?_) (fun h => ?_)) (.inr rfl) fun _ _ => rfl) fun g₆ s₆ v₆ => ?_
  · have hne : laidOf hs c6 ≠ [] := by simpa using h
    have e : order = laidOf hs c6 := by rw [← eord]; unfold orderOf; rw [if_neg hne]
    rw [e]; exact .nm rfl rfl
  · have hne : laidOf hs c6 = [] := by simpa using h
    have e : order = orderAt c6 0 := by rw [← eord]; unfold orderOf; rw [if_pos hne]
    have hi := orderItem c6 0
    rw [show c6 + ((0 : Nat) : Int) = c6 from Int.add_zero c6, ← e] at hi
    exact TriE.item' (TriE.callK k rfl rfl rfl rfl rfl TriL.nil (fn_orders (n := n + 10) k)) (TriE.bin' (a := .int c6) (b := .int 60) (TriE.item' (by exact .nm rfl rfl) TriE.int i6) TriE.int rfl) hi
  have v₆ : TSt W (n + 15) A env (lawNames) [("order", dInts order), ("laid", dInts (laidOf hs c6)), ("handlers", dInts hs), ("cells", dInts cells)] none g₀ s₀ [339] s g₆ s₆ := v₆.sub (SubR.of rfl)
  refine v₆.run (TriS.skipIf (TriB.eq (TriB.not (TriB.ofE (d := .bool true) (TriE.eq (TriE.callB k rfl rfl rfl (by decide) rfl KeepOk.builtin (TriL.cons (TriE.eq (TriN.toE (TriN.mapInts hs .int (fun _ => .bool true) (.ok rfl (by decide +kernel)) (.inr rfl) (TriI.of (d := dInts hs) (by exact .nm rfl rfl) rfl) rfl rfl (fun b hb => ?_) hhz)) (d' := .list ((hs.map fun _ => true).map D.bool)) (by rw [List.map_map]; rfl)) TriL.nil) (fn_all (bs := hs.map fun _ => true))) ?_) rfl)) rfl)) fun g₇ s₇ v₇ => ?_
  · refine TriE.callK k rfl rfl rfl rfl rfl (TriL.cons (TriE.eq (TriN.toE (TriN.mapInts order .int (fun x => .int (markAt b x)) (.ok rfl (by decide +kernel)) (.inl rfl) (TriI.of (d := dInts order) (by exact .nm rfl rfl) rfl) rfl rfl (fun x hx => TriE.bin' (a := .int (b.fdiv (2 ^ x.toNat))) (b := .int 1) (TriE.bin' (by exact .nm rfl rfl) (by exact .nm rfl rfl) (rshiftI b x ((ho.2 x hx).1))) TriE.int rfl) hoz)) (dInts_marks _ _).symm) (TriL.cons (TriE.bin' (a := .int (c6.fdiv 180)) (b := .int 3) (TriE.bin' (a := .int c6) (b := .int 180) (TriE.item' (by exact .nm rfl rfl) TriE.int i6) TriE.int rfl) TriE.int rfl) TriL.nil)) (fn_whole (n := n + 7) k (marks_Small (hh0 b hb) ho.1) (fmod3m _))
  · exact congrArg D.bool (all_trues hs)
  have hFr : Frames s₇.heap [env] := by
    obtain ⟨m, hm, _⟩ := v₇.fra.cx.en.loc
    exact ⟨by rw [v₇.fra.cx.en.kind]; decide, ⟨_, m, hfe, hm⟩, trivial⟩
  have hfl : [env].filterMap (·.frame) = [env.locals] := by rw [List.filterMap_cons, hfe]; rfl
  refine wpAny_execs_cons (assignF v₇.fra (.inl rfl) (evalCallL k.ok v₇.fra.cx (k.callee rfl rfl rfl rfl rfl) (ds := [dInts order, dInts hs, dInts cells, dInts (tornOf c5)]) (TriL.cons (by exact .nm rfl rfl) (TriL.cons (by exact .nm rfl rfl) (TriL.cons (by exact .nm rfl rfl) (TriL.cons (TriE.item' (o := .tup [.list [], .list [.int 70], .list [.int 1, .int 2, .int 3], .list [.int 5, .int 66]]) (i := .int (c5.fmod 4)) (TriE.tuple (TriL.cons (TriE.list TriL.nil (by decide)) (TriL.cons (TriE.list (TriL.cons TriE.int TriL.nil) (by show 1 ≤ sizeLine; decide)) (TriL.cons (TriE.list (TriL.cons TriE.int (TriL.cons TriE.int (TriL.cons TriE.int TriL.nil))) (by show 3 ≤ sizeLine; decide)) (TriL.cons (TriE.list (TriL.cons TriE.int (TriL.cons TriE.int TriL.nil)) (by show 2 ≤ sizeLine; decide)) TriL.nil)))) (by show 4 ≤ sizeLine; decide)) (TriE.bin' (a := .int c5) (b := .int 4) (TriE.item' (by exact .nm rfl rfl) TriE.int i5) TriE.int rfl) (tornItem c5)) TriL.nil)))) fun vs g₈ s₈ st₈ r₈ => ?_) (fun _ _ => rfl))
  have v₈f := v₇.fra.step st₈
  have sf₈ := v₇.fra.safe st₈
  have v₈ := v₇.safe sf₈ v₈f
  have h339' : s₈.heap.get? 339 = some (tabObj #[]) := v₈.keep 339 List.mem_cons_self _ h339
  refine call_ltable (n := n + 6) (l := [env]) k v₈.fra.cx.room v₈.fra.cx.good hA ?_ ?_ h339' r₈ hom (Nat.le_of_eq hhl) hh0 hcl (torn_len c5) hbm hoct hp fun w g₉ s₉ sx sl rv ⟨ps, tab9⟩ => ?_
  · obtain ⟨m, hm, _⟩ := v₈.fra.cx.en.loc
    exact ⟨by rw [v₈.fra.cx.en.kind]; decide, ⟨_, m, hfe, hm⟩, trivial⟩
  · intro a ha
    rw [hfl] at ha
    exact mem2 (P := fun a => g₈ a = none) (v₈.hid 339 List.mem_cons_self) v₈.fra.cx.en.hidL a ha
  have hX0 : ∀ a, a = 339 ∨ a ∈ [env].filterMap (·.frame) → s₀.heap.get? a = none := fun a ha => by
    rw [hfl] at ha
    exact ha.elim (fun e => e ▸ hs0) fun ha => List.mem_singleton.mp ha ▸ v₈.fra.loc
  have f₉ := (v₈.fra.slotsX (P := 339) sx sl hX0 List.mem_cons_self)
  refine ⟨tableD cells order ((entriesOf cells order hs).map entOf4), g₉, [339], f₉, rv, fun s₁₀ sf₁₀ f₁₀ => ?_⟩
  have v₁₀ : TSt W (n + 15) A env lawNames [("table", tableD cells order ((entriesOf cells order hs).map entOf4)), ("order", dInts order), ("laid", dInts (laidOf hs c6)), ("handlers", dInts hs), ("cells", dInts cells)] none g₀ s₀ [339] s₉ g₉ s₁₀ :=
    ⟨f₁₀.sub (SubR.of rfl), fun b hb o e => sf₁₀.keep b hb o e, fun b hb => by
      rw [List.mem_singleton.mp hb]
      exact sx.hid (v₈.hid 339 List.mem_cons_self) h339'⟩
  refine v₁₀.run (TriS.skipIf (TriB.cmp' (a := tableD cells order ((entriesOf cells order hs).map entOf4)) (b := .none) (by exact .nm rfl rfl) TriE.noneC rfl)) fun g₁₁ s₁₁ v₁₁ => ?_
  have hab := fmod5 (c5.fdiv 112)
  have hb1 : 0 ≤ (c5.fdiv 4).fmod 28 := Int.fmod_nonneg_of_pos _ (by decide)
  have hb2 : (c5.fdiv 4).fmod 28 < 28 := Int.fmod_lt_of_pos _ (by decide)
  obtain ⟨bN, hbN⟩ : ∃ bN : Nat, (c5.fdiv 4).fmod 28 = (bN : Int) := ⟨((c5.fdiv 4).fmod 28).toNat, (Int.toNat_of_nonneg hb1).symm⟩
  have hb28 : bN < 28 := Int.ofNat_lt.mp (hbN ▸ hb2)
  generalize hab' : (c5.fdiv 112).fmod 5 - 2 = ab at hab
  refine v₁₁.run (TriS.assignTup (ds := [.int (bN : Int), .int ab]) (TriE.tuple (TriL.cons (TriE.eq (TriE.bin' (a := .int (c5.fdiv 4)) (b := .int 28) (TriE.bin' (a := .int c5) (b := .int 4) (TriE.item' (by exact .nm rfl rfl) TriE.int i5) TriE.int rfl) TriE.int rfl) (by rw [hbN])) (TriL.cons (TriE.eq (TriE.bin' (a := .int ((c5.fdiv 112).fmod 5)) (b := .int 2) (TriE.bin' (a := .int (c5.fdiv 112)) (b := .int 5) (TriE.bin' (a := .int c5) (b := .int 112) (TriE.item' (by exact .nm rfl rfl) TriE.int i5) TriE.int rfl) TriE.int rfl) TriE.int rfl) (by rw [hab'])) TriL.nil)) (by show 2 ≤ sizeLine; decide)) (.consT (.inr rfl) (.consT (.inr rfl) .nilT)) (fun _ _ => rfl) ?_) fun g₁₂ s₁₂ v₁₂ => ?_
  · exact envEq fun _ _ => by rfl
  have v₁₂ : TSt W (n + 15) A env lawNames [("above", .int ab), ("base", .int (bN : Int)), ("table", tableD cells order ((entriesOf cells order hs).map entOf4)), ("order", dInts order), ("laid", dInts (laidOf hs c6)), ("handlers", dInts hs), ("cells", dInts cells)] none g₀ s₀ [339] s₉ g₁₂ s₁₂ := v₁₂.sub (SubR.of rfl)
  have hsub : ∀ i, subAt hs order i ∈ subs5 := fun i => filter5_mem _
  have hfl5 : ∀ i, ∀ f ∈ (subAt hs order i).map (bN + ·), f < 32 := fun i f hf => by
    obtain ⟨h, hh, rfl⟩ := List.mem_map.mp hf
    exact Nat.add_lt_add_of_le_of_lt (Nat.le_of_lt_succ hb28) ((subs_lt _ (hsub i)).1 h hh)
  refine v₁₂.run (TriS.assignComp (y := "named") (T := ["some"]) (outs := (List.range 5).map fun i => .str (wordsOf ((subAt hs order i).map (bN + ·)) ab)) ?_ rfl (.ok rfl (by decide +kernel)) (TriI.of (d := .list ((List.range 5).map fun i => dInts (guardAt ((entriesOf cells order hs).map entOf4) (atOf cells order i)))) (TriE.item' (o := tableD cells order ((entriesOf cells order hs).map entOf4)) (i := .int 1) (by exact .nm rfl rfl) TriE.int rfl) rfl) ?_ (by rw [List.length_map]; decide)) fun g₁₃ s₁₃ v₁₃ => ?_
  · exact envEq fun _ _ => by rfl
  · refine CompOk.eq (CompOk.mkB ["some"] (List.range 5) (fun (i : Nat) => dInts (guardAt ((entriesOf cells order hs).map entOf4) (atOf cells order i))) (fun _ => true) (fun i => [.str (wordsOf ((subAt hs order i).map (bN + ·)) ab)]) (fun i => [("some", dInts (guardAt ((entriesOf cells order hs).map entOf4) (atOf cells order i)))]) rfl (fun o _ => (BindT.name (.inl rfl)).assigns) (fun _ => rfl) rfl (fun o _ => Tests.nil) fun i hi _ => ⟨_, TriE.callK k rfl rfl rfl rfl rfl (TriL.cons (TriE.bin' (a := .int (((subAt hs order i).map fun h => (2 : Int) ^ (bN + h)).sum)) (b := .int (ab * 2 ^ 32)) (d := .int (flagsVal ((subAt hs order i).map (bN + ·)) ab)) (TriE.callB k rfl rfl rfl (by decide) rfl KeepOk.builtin (TriL.cons (TriE.eq (TriN.toE (TriN.mapInts (subAt hs order i) (fun (h : Nat) => .int (h : Int)) (fun h => .int (2 ^ (bN + h))) (.ok rfl (by decide +kernel)) (.inl rfl) (TriI.of (d := dInts (guardAt ((entriesOf cells order hs).map entOf4) (atOf cells order i))) (by exact .nm rfl rfl) rfl) (by rw [hG i (List.mem_range.mp hi), List.map_map]; rfl) rfl (fun h hh => TriE.bin' (a := .int 2) (b := .int ((bN + h : Nat) : Int)) TriE.int (TriE.bin' (a := .int (bN : Int)) (b := .int (h : Int)) (by exact .nm rfl rfl) (by exact .nm rfl rfl) rfl) (powN (by decide) _ (Nat.le_trans (Nat.le_of_lt (hfl5 i _ (List.mem_map_of_mem hh))) (by decide)))) (szLe (subs_lt _ (hsub i)).2 (by decide)))) (d' := .list (((subAt hs order i).map fun h => (2 : Int) ^ (bN + h)).map D.int)) (by rw [List.map_map]; rfl)) TriL.nil) fn_sum) (TriE.bin' (a := .int ab) (b := .int (2 ^ 32)) (by exact .nm rfl rfl) (TriE.bin' (a := .int 2) (b := .int ((32 : Nat) : Int)) TriE.int TriE.int (powN (by decide) 32 (by decide))) (mulI (small_above ab hab))) ?_) TriL.nil) (fn_prettyW (n := n + 12) k hb28 hab (hsub i)), rfl⟩) ?_
    · show some (D.int _) = _
      unfold flagsVal
      rw [List.map_map]
      rfl
    · rw [List.filter_eq_self.mpr (fun _ _ => rfl), ← List.map_eq_flatMap]
  have v₁₃ : TSt W (n + 15) A env lawNames [("named", .list (((List.range 5).map fun i => wordsOf ((subAt hs order i).map (bN + ·)) ab).map D.str)), ("above", .int ab), ("base", .int (bN : Int)), ("table", tableD cells order ((entriesOf cells order hs).map entOf4)), ("order", dInts order), ("laid", dInts (laidOf hs c6)), ("handlers", dInts hs)] none g₀ s₀ [339] s₉ g₁₃ s₁₃ := v₁₃.sub (SubR.cons (by rw [List.map_map]; rfl) (SubR.of rfl))
  have hwok : ((List.range 5).map fun i => wordsOf ((subAt hs order i).map (bN + ·)) ab).all PyData.strOk = true := by
    rw [List.all_map, List.all_eq_true]
    exact fun i _ => words_ok _ _ (hfl5 i) hab
  refine v₁₃.run (TriS.skipIf (TriB.eq (TriB.cmp (b := .list (((List.range 5).map fun i => wordsOf ((subAt hs order i).map (bN + ·)) ab).map D.str)) (by exact .nm rfl rfl) (TriE.eq (TriN.toE (TriN.mapInts (List.range 5) (fun i => .int (order.getD i 0)) (fun i => .str (wordsOf ((subAt hs order i).map (bN + ·)) ab)) (.ok rfl (by decide +kernel)) (.inr rfl) (TriI.of (d := dInts order) (by exact .nm rfl rfl) rfl) (ints_at ho.1) rfl (fun i hi => ?_) (by rw [List.length_range]; decide))) (by rw [List.map_map]; rfl)) ((EqD.str.list).ne (by decide) hwok hwok) rfl) (by rw [decide_eq_true rfl]; rfl))) fun g₁₄ s₁₄ v₁₄ => ?_
  · refine TriE.callK k rfl rfl rfl rfl rfl (TriL.cons (TriE.eq (TriN.toE (TriN.compInts (List.range 5) (fun (i : Nat) => .int (i : Int)) (fun h => markAt (hs.getD h 0) (order.getD i 0) != 0) (fun h => .int ((bN + h : Nat) : Int)) (.ok rfl (by decide +kernel)) (.inl rfl) (TriI.eq (TriI.range1 (b := 5) k.ok (k.builtin rfl rfl rfl (by decide) rfl KeepOk.type) TriE.int (by decide) (by decide)) (rangeL_zero _)) rfl rfl (fun h hh => ?_) (fun h hh _ => ?_) (by rw [List.length_range]; decide))) (d' := .list (((subAt hs order i).map (bN + ·)).map fun (f : Nat) => .int (f : Int))) (by unfold subAt; rw [List.map_map]; rfl)) (TriL.cons (by exact .nm rfl rfl) TriL.nil)) (fn_words (n := n + 12) k _ ab (by rw [List.length_map]; exact (subs_lt _ (hsub i)).2) (hfl5 i) hab)
    · have h5 := List.mem_range.mp hh
      have i5' := List.mem_range.mp hi
      have hb0 : 0 ≤ order.getD i 0 := by
        rw [List.getD_eq_getElem?_getD, List.getElem?_eq_getElem (by rw [ho.1]; exact i5')]
        exact (ho.2 _ (List.getElem_mem _)).1
      exact Tests.one (TriB.ofE (TriE.bin' (a := .int ((hs.getD h 0).fdiv (2 ^ (order.getD i 0).toNat))) (b := .int 1) (TriE.bin' (a := .int (hs.getD h 0)) (b := .int (order.getD i 0)) (TriE.item' (o := dInts hs) (i := .int (h : Int)) (by exact .nm rfl rfl) (by exact .nm rfl rfl) (cellItem h (by rw [hhl]; exact h5) (by rw [hhl]; decide))) (by exact .nm rfl rfl) (rshiftI _ _ hb0)) TriE.int rfl) rfl)
    · exact TriE.bin' (a := .int (bN : Int)) (b := .int (h : Int)) (by exact .nm rfl rfl) (by exact .nm rfl rfl) rfl
  refine v₁₄.run (TriS.assign (x := "single") (d := .bool (!decide (laidOf hs c6 = []))) (TriE.eq (TriE.cmp' (a := .int (((entriesOf cells order hs).map entOf4).length : Int)) (b := .int ((hs.filter fun b => b != 0).length : Int)) (TriE.item' (o := tableD cells order ((entriesOf cells order hs).map entOf4)) (i := .int 0) (by exact .nm rfl rfl) TriE.int rfl) (TriE.eq (TriE.callB k rfl rfl rfl (by decide) rfl KeepOk.builtin (TriL.cons (TriN.toE (TriN.compInts hs .int (fun b => b != 0) .int (.ok rfl (by decide +kernel)) (.inl rfl) (TriI.of (d := dInts hs) (by exact .nm rfl rfl) rfl) rfl rfl (fun b hb => Tests.one (TriB.ofE (d := .int b) (by exact .nm rfl rfl) rfl)) (fun b hb _ => by exact .nm rfl rfl) hhz)) TriL.nil) (fn_len_list (by rw [List.length_map]; exact Nat.le_trans (List.length_filter_le ..) hhz))) (by rw [List.length_map])) rfl) (by rw [hS])) (.inl rfl) fun _ _ => rfl) fun g₁₅ s₁₅ v₁₅ => ?_
  refine TriSS.stop (TriS.ret (d := .bool true) (TriE.eq (TriE.and2 (a := .bool true) (b := .bool true) (t := true) (TriE.eq (TriE.cmp' (a := .bool (!decide (laidOf hs c6 = []))) (b := .bool (!decide (laidOf hs c6 = []))) (by exact .nm rfl rfl) (TriE.cmp (a := dInts (laidOf hs c6)) (b := dInts []) (by exact .nm rfl rfl) (TriE.list TriL.nil (by decide)) (EqD.ints.ne (by decide) rfl rfl) rfl) rfl) (by rw [beq_self_eq_true])) (truD_sound rfl) fun _ => TriE.eq (TriE.cmp' (a := .bool (!decide (laidOf hs c6 = []))) (b := .bool (threeOf hs)) (by exact .nm rfl rfl) (TriE.callK k rfl rfl rfl rfl rfl (TriL.cons (by exact .nm rfl rfl) TriL.nil) (fn_three (n := n + 8) k hs (Nat.le_of_eq hhl))) rfl) (by rw [hT]; cases decide (laidOf hs c6 = []) <;> rfl)) rfl)) rfl _ _ _ _ _ _ _ _ _ v₁₅.fra fun fl g₁₆ s₁₆ sf ⟨vv, e, rr, f'⟩ => ?_
  subst e
  cases rep_bool.mp rr
  exact hQ g₁₆ s₁₆ f'.st ⟨ps, sf.keep 339 List.mem_cons_self _ (v₁₅.keep 339 List.mem_cons_self _ tab9)⟩
end
end Mine
end
section
namespace Mine
structure Plain (js : List Int) : Prop where
  len : (cellsOf js).length = 7
  oct : ∀ o ∈ octetsAll (cellsOf js) (orderOf (handsOf (cellsOf js)) ((cellsOf js).getD 6 0)) (handsOf (cellsOf js)) (tornOf ((cellsOf js).getD 5 0)), 0 ≤ o ∧ o < 128
  parse : Parse (KBw.bInts (byteArr (bytesL (octetsAll (cellsOf js) (orderOf (handsOf (cellsOf js)) ((cellsOf js).getD 6 0)) (handsOf (cellsOf js)) (tornOf ((cellsOf js).getD 5 0)))))) ((entriesOf (cellsOf js) (orderOf (handsOf (cellsOf js)) ((cellsOf js).getD 6 0)) (handsOf (cellsOf js))).map entOf4)
  guards : ∀ i < 5, guardAt ((entriesOf (cellsOf js) (orderOf (handsOf (cellsOf js)) ((cellsOf js).getD 6 0)) (handsOf (cellsOf js))).map entOf4) (atOf (cellsOf js) (orderOf (handsOf (cellsOf js)) ((cellsOf js).getD 6 0)) i) = (subAt (handsOf (cellsOf js)) (orderOf (handsOf (cellsOf js)) ((cellsOf js).getD 6 0)) i).map fun (h : Nat) => (h : Int)
  single : ((((entriesOf (cellsOf js) (orderOf (handsOf (cellsOf js)) ((cellsOf js).getD 6 0)) (handsOf (cellsOf js))).map entOf4).length : Int) == (((handsOf (cellsOf js)).filter fun b => b != 0).length : Int)) = !decide (laidOf (handsOf (cellsOf js)) ((cellsOf js).getD 6 0) = [])
  three : threeOf (handsOf (cellsOf js)) = decide (laidOf (handsOf (cellsOf js)) ((cellsOf js).getD 6 0) = [])
theorem ints_rep {g : View} : ∀ {vs : List Value} {js : List Int}, IntsAre vs js → RepL g vs (js.map .int)
  | _, _, .nil => RepL.nil
  | _, _, .cons n t h => RepL.cons (rep_int.mpr ⟨t, rfl⟩) (ints_rep h)
theorem mem_lookup {α : Type} {x : PySem.Str} {a : α} : ∀ {l : List (PySem.Str × α)}, l.lookup x = some a → (x, a) ∈ l
  | [], h => by cases h
  | (y, b) :: l, h => by
    rw [List.lookup_cons] at h
    by_cases e : x = y
    · subst e; rw [beq_self_eq_true] at h; cases h; exact List.mem_cons_self
    · rw [beq_eq_false_iff_ne.mpr e] at h; exact List.mem_cons_of_mem _ (mem_lookup h)
noncomputable def cellPlaces : List (PySem.Str × Nat) := [("above", 5), ("base", 4), ("order", 3), ("handlers", 2), ("cells", 1)]
noncomputable def lawCellsL (L : Addr) : List (PySem.Str × Addr) := cellPlaces.map fun p => (p.1, L + p.2)
theorem places_inj : ∀ p ∈ cellPlaces, ∀ q ∈ cellPlaces, p.2 = q.2 → p.1 = q.1 := by decide +kernel
theorem cells_inj {L c : Addr} {x y : PySem.Str} (hx : (x, c) ∈ lawCellsL L) (hy : (y, c) ∈ lawCellsL L) : x = y := by
  obtain ⟨p, hp, e⟩ := List.mem_map.mp hx
  obtain ⟨q, hq, e'⟩ := List.mem_map.mp hy
  cases e
  have h : (q.1, L + q.2) = (y, L + p.2) := e'
  have h1 : q.1 = y := congrArg Prod.fst h
  have h2 : L + q.2 = L + p.2 := congrArg Prod.snd h
  rw [← h1]
  exact places_inj p hp q hq (Nat.add_left_cancel h2).symm
theorem lawCells (L : Addr) : cellsFrom (L + 1) lawNames [] = lawCellsL L := rfl
theorem cell_names : ∀ p ∈ lawNames, (p.2 = .cell ∨ p.2 = .free) → cellPlaces.lookup p.1 ≠ none := by decide +kernel
theorem lookup_map (L : Addr) (x : PySem.Str) : ∀ l : List (PySem.Str × Nat), (l.map fun p => (p.1, L + p.2)).lookup x = (l.lookup x).map (L + ·)
  | [] => rfl
  | (y, b) :: l => by
    rw [List.map_cons, List.lookup_cons, List.lookup_cons, lookup_map L x l]
    cases x == y <;> rfl
theorem cell_named (L : Addr) {x : PySem.Str} (h : lawNames.lookup x = some .cell ∨ lawNames.lookup x = some .free) : ∃ c, (lawCellsL L).lookup x = some c := by
  have h' : cellPlaces.lookup x ≠ none := h.elim (fun h => cell_names _ (mem_lookup h) (.inl rfl)) fun h => cell_names _ (mem_lookup h) (.inr rfl)
  unfold lawCellsL
  rw [lookup_map]
  cases q : cellPlaces.lookup x with
  | none => exact absurd q h'
  | some i => exact ⟨_, rfl⟩
noncomputable def cellNews (L : Addr) (o1 o2 o3 o4 o5 : Obj) : List (Addr × Obj) := [(L + 1 + 1 + 1 + 1 + 1, o5), (L + 1 + 1 + 1 + 1, o4), (L + 1 + 1 + 1, o3), (L + 1 + 1, o2), (L + 1, o1), (339, tabObj #[])]
theorem cell_news (L : Addr) {o1 o2 o3 o4 o5 : Obj} (d1 : ∃ v, o1.data = .cell v) (d2 : ∃ v, o2.data = .cell v) (d3 : ∃ v, o3.data = .cell v) (d4 : ∃ v, o4.data = .cell v) (d5 : ∃ v, o5.data = .cell v) :
    ∀ p ∈ cellPlaces, ∃ o, (L + p.2, o) ∈ cellNews L o1 o2 o3 o4 o5 ∧ ∃ v, o.data = .cell v :=
  List.forall_mem_cons.mpr ⟨⟨o5, .head _, d5⟩, List.forall_mem_cons.mpr ⟨⟨o4, .tail _ (.head _), d4⟩, List.forall_mem_cons.mpr ⟨⟨o3, .tail _ (.tail _ (.head _)), d3⟩, List.forall_mem_cons.mpr ⟨⟨o2, .tail _ (.tail _ (.tail _ (.head _))), d2⟩, List.forall_mem_cons.mpr ⟨⟨o1, .tail _ (.tail _ (.tail _ (.tail _ (.head _)))), d1⟩, fun _ h => nomatch h⟩⟩⟩⟩⟩
set_option maxHeartbeats 1000000 in
theorem law_start {prog : Program} {w : World} {gh hh : Heap} {p : Program} {loose : List PySem.Str} {mean : ExcName → Option Value} {mg mb m : PySem.Str → Option Value} {L fa lst : Addr} {h₁ : Heap} {tk : Tok} {s₁ : Shared} {name : PySem.Str} {scope : Scope} {cd : Value} {js : List Int} {us : List Value} {o1 o2 o3 o4 o5 : Obj} {E : Value → Shared → Prop} {Q : Flow → Shared → Prop}
    (hgh : ∀ b o, gh.get? b = some o → hh.get? b = some o) (X : (KM w.params).In gh) (Z : NoThird gh) (T : Top p loose mean mg mb gh) (F : Fr gh L h₁ m)
    (N : News gh L h₁ (cellNews L o1 o2 o3 o4 o5))
    (hl : gh.IsList lst us.toArray) (hw : Well w.params hh (.ref lst) (ofPy (.list (js.map .int)))) (hI : IntsAre us js) (hm : m "script" = some (.ref lst))
    (d1 : ∃ v, o1.data = .cell v) (d2 : ∃ v, o2.data = .cell v) (d3 : ∃ v, o3.data = .cell v) (d4 : ∃ v, o4.data = .cell v) (d5 : ∃ v, o5.data = .cell v)
    (hn : scope.names = lawNames) (hk : scope.kind = .function) (hlen : js.length ≤ 63) (hpl : Plain js)
    (hQ : ∀ s', (∀ b o, gh.get? b = some o → s'.heap.get? b = some o) → s'.gens = s₁.gens → s'.os = s₁.os → (∃ ps, s'.heap.get? 339 = some (tabObj ps)) → Q (.ret (.bool true)) s') :
    wpAny (model prog w) (callerA.deeper (envOfC name scope L fa cd)) (execs (lawBody ⟨prog, w, gh, mg, mb⟩) (envOfC name scope L fa cd)) Q E { s₁ with heap := h₁, toks := tk } := by
  have k : Kit ⟨prog, w, gh, mg, mb⟩ := ⟨⟨T.g, T.b, T.nolimit, T.builtins⟩, X, Z⟩
  have gL : gh.get? L = none := Heap.get?_none_of_le F.above
  have c0 := N (339, tabObj #[]) (.tail _ (.tail _ (.tail _ (.tail _ (.tail _ (.head _))))))
  have cn := cell_news L d1 d2 d3 d4 d5
  have hcells : (envOfC name scope L fa cd).cells = lawCellsL L := by
    show cellsFrom (L + 1) scope.names [] = _
    rw [hn]; exact lawCells L
  have hlst : ∃ vs n, gh.get? lst = some { cls := .type "list", data := .seq vs n } ∧ RepL gh.get? vs.toList (js.map .int) := by
    obtain ⟨o, ho, hc, n, hd⟩ := hl
    have ho' := hgh _ _ ho
    cases hw with
    | list e _ =>
      rw [ho'] at e
      cases e
      cases hd
      exact ⟨_, _, ho, ints_rep hI⟩
  obtain ⟨vs, nn, q1, q2⟩ := hlst
  have hbm : gh.BuiltinsAt mg 339 := by
    obtain ⟨bm, ob, e1, e2, e3, e4, e5, e6⟩ := T.bmain
    refine ⟨bm, ob, e1, e2, fun h => ?_, fun h => ?_, e3, e4, e5, e6⟩
    · obtain ⟨o', es, ep, ho', hd', _⟩ := T.g
      rw [h, ho'] at e3; cases e3; rw [e6] at hd'; cases hd'
    · rw [h, c0.2.2] at e3; cases e3
  have hne9 : L ≠ 339 := fun h => by
    obtain ⟨o', es, ep, ho', hd', _⟩ := F.ns
    rw [h, c0.1] at ho'; cases ho'; cases hd'
  clear d1 d2 d3 d4 d5 hw hI hl hgh T
  have hall : ∀ x c, (envOfC name scope L fa cd).cells.lookup x = some c → (∃ v, h₁.IsCell c v) ∧ gh.get? c = none ∧ c ≠ 339 := fun x c hx => by
    rw [hcells] at hx
    obtain ⟨q, hq, e⟩ := List.mem_map.mp (mem_lookup hx)
    obtain ⟨o, ho, v, hv⟩ := cn q hq
    cases e
    have cq := N _ ho
    exact ⟨⟨v, o, cq.1, hv⟩, cq.2.2, fun hc => by rw [hc, c0.1] at cq; cases cq.1; cases hv⟩
  have f : Fra ⟨prog, w, gh, mg, mb⟩ (0 + 15) (callerA.deeper (envOfC name scope L fa cd)) (envOfC name scope L fa cd) lawNames [("script", .list (js.map .int))] none gh.get? { s₁ with heap := gh } [339] gh.get? { s₁ with heap := h₁, toks := tk } :=
    { cx := { room := ⟨rfl, by show callerA.depth + 1 + 30 ≤ 600; decide +kernel, by show callerA.units + 3 + 300 ≤ 6000; decide +kernel⟩, good := ⟨fun _ _ e => e, F.keep⟩
              en := { names := hn, kind := hk, globals := rfl, builtins := rfl, hidL := gL
                      cells := fun x hx => by
                        obtain ⟨c, hc⟩ := cell_named L hx
                        rw [← hcells] at hc
                        obtain ⟨v, hv⟩ := (hall x c hc).1
                        exact ⟨c, v, hc, hv⟩
                      hidC := fun x c hx => (hall x c hx).2.1
                      isC := fun x c hx => (hall x c hx).1
                      apart := fun x y c hx hy => by
                        rw [hcells] at hx hy
                        exact cells_inj (mem_lookup hx) (mem_lookup hy)
                      loc := ⟨m, F.ns, fun x d hx _ => by
                        cases List.mem_singleton.mp (mem_lookup hx)
                        exact ⟨_, hm, rep_list.mpr ⟨lst, vs, nn, rfl, q1, q2⟩⟩⟩
                      cv := fun x d hx hk' => by
                        cases List.mem_singleton.mp (mem_lookup hx)
                        exact hk'.elim (fun h => absurd h (by decide +kernel)) fun h => absurd h (by decide +kernel) } }
      st := ⟨fun _ _ e => e, fun _ _ e => .inl e, F.keep, F.keep, rfl, rfl, rfl⟩
      loc := gL, cel := fun x a hx => (hall x a hx).2.1, own := fun y xs e => (by cases e)
      offL := fun h => hne9 (List.mem_singleton.mp h)
      offC := fun x a hx h => (hall x a hx).2.2 (List.mem_singleton.mp h)
      live := fun b hb => by rw [List.mem_singleton.mp hb]; exact ⟨_, c0.1⟩ }
  exact law_walk k f (Around.frames_deeper rfl) rfl c0.1 c0.2.2 c0.2.2 hbm hlen rfl rfl rfl rfl rfl hpl.len hpl.oct hpl.parse hpl.guards hpl.single hpl.three fun g' s' st ex => hQ s' (fun b o e => st.keep _ _ e) st.rest.1 st.rest.2.2 ex
end Mine
end
section
namespace Mine
inductive Strip : List Int → List Int → Prop
  | nil : Strip [] []
  | cons {b o bs os} : (b = o ∨ b = o + 128) → Strip bs os → Strip (b :: bs) (o :: os)
theorem Strip.inv {o : Int} {os bs : List Int} (h : Strip bs (o :: os)) : ∃ b r, bs = b :: r ∧ (b = o ∨ b = o + 128) ∧ Strip r os := by
  cases h with | cons h1 h2 => exact ⟨_, _, rfl, h1, h2⟩
theorem Strip.inv0 {bs : List Int} (h : Strip bs []) : bs = [] := by cases h; rfl
theorem Strip.split : ∀ {xs ys bs : List Int}, Strip bs (xs ++ ys) → ∃ b1 b2, bs = b1 ++ b2 ∧ Strip b1 xs ∧ Strip b2 ys
  | [], ys, bs, h => ⟨[], bs, rfl, .nil, h⟩
  | x :: xs, ys, bs, h => by
    obtain ⟨b, r, rfl, hb, h⟩ := h.inv
    obtain ⟨b1, b2, rfl, h1, h2⟩ := Strip.split (xs := xs) h
    exact ⟨_ :: b1, b2, rfl, .cons hb h1, h2⟩
theorem strip_bytes : ∀ (os : List Int) (k : Nat), Strip ((os.zipIdx k).map fun p => p.1 + 128 * ((p.2 : Int)).fmod 2) os
  | [], k => .nil
  | o :: os, k => .cons (fmodAt (P := fun x => o + 128 * x = o ∨ o + 128 * x = o + 128) (k : Int) 2 (by decide) (List.forall_mem_cons.mpr ⟨.inl (Int.add_zero o), List.forall_mem_cons.mpr ⟨.inr rfl, fun _ h => nomatch h⟩⟩)) (strip_bytes os (k + 1))
theorem bits_hi : ∀ d ∈ List.range 64, (Builtin.bitAnd ((d : Int) + 64) 64 = 64 ∧ Builtin.bitAnd ((d : Int) + 64) 63 = d) ∧ (Builtin.bitAnd ((d : Int) + 64 + 128) 64 = 64 ∧ Builtin.bitAnd ((d : Int) + 64 + 128) 63 = d) := by decide +kernel
theorem bits_lo : ∀ d ∈ List.range 64, (Builtin.bitAnd (d : Int) 64 = 0 ∧ Builtin.bitAnd (d : Int) 63 = d) ∧ (Builtin.bitAnd ((d : Int) + 128) 64 = 0 ∧ Builtin.bitAnd ((d : Int) + 128) 63 = d) := by decide +kernel
theorem hiB {d b : Int} (h0 : 0 ≤ d) (h1 : d < 64) (h : b = d + 64 ∨ b = d + 64 + 128) : Builtin.bitAnd b 64 = 64 ∧ Builtin.bitAnd b 63 = d := by
  have := bits_hi d.toNat (List.mem_range.mpr (by lia))
  rw [Int.toNat_of_nonneg h0] at this
  rcases h with rfl | rfl
  · exact this.1
  · exact this.2
theorem loB {d b : Int} (h0 : 0 ≤ d) (h1 : d < 64) (h : b = d ∨ b = d + 128) : Builtin.bitAnd b 64 = 0 ∧ Builtin.bitAnd b 63 = d := by
  have := bits_lo d.toNat (List.mem_range.mpr (by lia))
  rw [Int.toNat_of_nonneg h0] at this
  rcases h with rfl | rfl
  · exact this.1
  · exact this.2
theorem bitOr_nat (m e : Nat) : Builtin.bitOr (m : Int) (e : Int) = ((m ||| e : Nat) : Int) := by
  unfold Builtin.bitOr Builtin.bitAnd Builtin.bitNot
  rw [decide_eq_false (show ¬ (0 ≤ -(m : Int) - 1) by lia), decide_eq_false (show ¬ (0 ≤ -(e : Int) - 1) by lia)]
  dsimp only
  have e1 : (-(-(m : Int) - 1) - 1).toNat = m := by lia
  have e2 : (-(-(e : Int) - 1) - 1).toNat = e := by lia
  rw [e1, e2]
  lia
theorem bitOr_add {v d : Int} (hv : 0 ≤ v) (h0 : 0 ≤ d) (h1 : d < 64) : Builtin.bitOr (v * 2 ^ 6) d = v * 64 + d := by
  obtain ⟨m, rfl⟩ := Int.eq_ofNat_of_zero_le hv
  obtain ⟨e, rfl⟩ := Int.eq_ofNat_of_zero_le h0
  have h := Nat.two_pow_add_eq_or_of_lt (i := 6) (b := e) (by lia) m
  have e1 : ((m : Int) * 2 ^ 6) = ((2 ^ 6 * m : Nat) : Int) := by lia
  rw [e1, bitOr_nat, ← h]
  lia
theorem vgo_end {val b : Int} {r : List Int} (h : Builtin.bitAnd b 64 = 0) : vgo val b r = .ok val r := by
  cases r <;> unfold vgo <;> rw [h] <;> rfl
theorem vgo_next {val b b' : Int} {r : List Int} (h : Builtin.bitAnd b 64 = 64) (hv : val.natAbs < 2 ^ 64) : vgo val b (b' :: r) = vgo (Builtin.bitOr (val * 2 ^ 6) (Builtin.bitAnd b' 63)) b' r := by
  rw [vgo, h, if_pos (by decide), if_pos hv]
noncomputable def enc : List Int → List Int
  | [] => []
  | [d] => [d]
  | d :: d' :: r => (d + 64) :: enc (d' :: r)
noncomputable def valOf (v : Int) (ds : List Int) : Int := ds.foldl (fun v d => v * 64 + d) v
theorem enc_head {d : Int} {ds bs : List Int} (hd : 0 ≤ d ∧ d < 64) (h : Strip bs (enc (d :: ds))) : ∃ b r, bs = b :: r ∧ Builtin.bitAnd b 63 = d := by
  cases ds with
  | nil => exact let ⟨b, r, e, h1, _⟩ := h.inv; ⟨b, r, e, (loB hd.1 hd.2 h1).2⟩
  | cons x ds => exact let ⟨b, r, e, h1, _⟩ := Strip.inv (o := d + 64) (os := enc (x :: ds)) h; ⟨b, r, e, (hiB hd.1 hd.2 h1).2⟩
theorem small_val {v p : Int} (hv : 0 ≤ v) (hp : 1 ≤ p) (hb : (v + 1) * (p * 64) ≤ 2 ^ 64) : v.natAbs < 2 ^ 64 := by
  have : (v + 1) * 1 ≤ (v + 1) * (p * 64) := Int.mul_le_mul_of_nonneg_left (by lia) (by lia)
  lia
theorem next_val {v d p : Int} (hp : 1 ≤ p) (hd : d < 64) (hb : (v + 1) * (p * 64) ≤ 2 ^ 64) : (v * 64 + d + 1) * p ≤ 2 ^ 64 := by
  refine Int.le_trans ?_ hb
  rw [Int.mul_comm p 64, ← Int.mul_assoc]
  exact Int.mul_le_mul_of_nonneg_right (by lia) (by lia)
theorem vgo_digits : ∀ (ds : List Int) (d v b : Int) (bs r : List Int), (∀ x ∈ d :: ds, 0 ≤ x ∧ x < 64) → 0 ≤ v → (v + 1) * 64 ^ ds.length ≤ 2 ^ 64 → Strip (b :: bs) (enc (d :: ds)) → vgo v b (bs ++ r) = .ok (valOf v ds) r
  | [], d, v, b, bs, r, hd, hv, hb, h => by
    obtain ⟨b', r', e, h1, h2⟩ := h.inv
    cases e
    rw [h2.inv0]
    exact vgo_end (loB (hd d List.mem_cons_self).1 (hd d List.mem_cons_self).2 h1).1
  | d' :: ds, d, v, b, bs, r, hd, hv, hb, h => by
    obtain ⟨b', r', e, h1, h2⟩ := Strip.inv (o := d + 64) (os := enc (d' :: ds)) h
    cases e
    have hh := hiB (hd d List.mem_cons_self).1 (hd d List.mem_cons_self).2 h1
    have hd' := hd d' (List.mem_cons_of_mem _ List.mem_cons_self)
    obtain ⟨b', bs, rfl, hb'⟩ := enc_head hd' h2
    have hp : 1 ≤ (64 : Int) ^ ds.length := Int.pow_pos (by decide)
    rw [List.length_cons, Int.pow_succ] at hb
    have hvs := small_val hv hp hb
    rw [List.cons_append, vgo_next hh.1 hvs, hb', bitOr_add hv hd'.1 hd'.2]
    exact vgo_digits ds d' _ b' bs r (fun x hx => hd x (List.mem_cons_of_mem _ hx)) (Int.add_nonneg (Int.mul_nonneg hv (by decide)) hd'.1) (next_val hp hd'.2 hb) h2
theorem varint_digits (d : Int) (ds bs r : List Int) (hd : ∀ x ∈ d :: ds, 0 ≤ x ∧ x < 64) (hl : ds.length ≤ 4) (h : Strip bs (enc (d :: ds))) : varint (bs ++ r) = .ok (valOf d ds) r := by
  have hd0 := hd d List.mem_cons_self
  obtain ⟨b, bs, rfl, hb'⟩ := enc_head hd0 h
  rw [List.cons_append, varint, hb']
  refine vgo_digits ds d d b bs r hd hd0.1 ?_ h
  have h4 : (64 : Int) ^ ds.length ≤ 64 ^ 4 := by
    have : ∀ k ∈ List.range 5, (64 : Int) ^ k ≤ 64 ^ 4 := by decide
    exact this _ (List.mem_range.mpr (Nat.lt_succ_of_le hl))
  exact Int.le_trans (Int.mul_le_mul (show d + 1 ≤ 64 from hd0.2) h4 (Int.le_of_lt (Int.pow_pos (by decide))) (by decide)) (by decide)
noncomputable def desc : Nat → List Nat
  | 0 => [0]
  | k + 1 => (k + 1) :: desc k
noncomputable def digN (m j : Nat) : Int := ((m / 64 ^ j % 64 : Nat) : Int)
theorem desc_le (k : Nat) : ∀ j ∈ desc k, j ≤ k := by
  induction k with
  | zero => intro j hj; rw [List.mem_singleton.mp hj]; exact Nat.le_refl 0
  | succ k ih => intro j hj; exact (List.mem_cons.mp hj).elim (fun e => Nat.le_of_eq e) fun h => Nat.le_succ_of_le (ih j h)
theorem desc_filter (m : Nat) : ∀ k, m < 64 ^ (k + 1) → ∃ K, K ≤ k ∧ (desc k).filter (fun j => j == 0 || decide (64 ^ j ≤ m)) = desc K ∧ m < 64 ^ (K + 1) := by
  intro k
  induction k with
  | zero => exact fun h => ⟨0, Nat.le_refl _, rfl, h⟩
  | succ k ih =>
    intro h
    by_cases q : 64 ^ (k + 1) ≤ m
    · exact ⟨k + 1, Nat.le_refl _, List.filter_eq_self.mpr fun j hj => Bool.or_eq_true_iff.mpr (.inr (decide_eq_true (Nat.le_trans (Nat.pow_le_pow_right (by decide) (desc_le _ j hj)) q))), h⟩
    · obtain ⟨K, h1, h2, h3⟩ := ih (Nat.not_le.mp q)
      refine ⟨K, Nat.le_succ_of_le h1, ?_, h3⟩
      rw [desc, List.filter_cons_of_neg (by rw [decide_eq_false q]; exact Bool.false_ne_true)]
      exact h2
theorem enc_cons (x : Int) {l : List Int} (h : l ≠ []) : enc (x :: l) = (x + 64) :: enc l := by
  cases l with
  | nil => exact absurd rfl h
  | cons a l => rfl
theorem desc_ne (k : Nat) (m : Nat) : (desc k).map (digN m) ≠ [] := by cases k <;> exact List.cons_ne_nil _ _
theorem enc_desc (m k : Nat) : (desc k).map (fun j => digN m j + if j != 0 then 64 else 0) = enc ((desc k).map (digN m)) := by
  induction k with
  | zero => exact congrArg (fun x => [x]) (Int.add_zero _)
  | succ k ih => rw [desc, List.map_cons, List.map_cons, ih, enc_cons _ (desc_ne k m)]; rfl
theorem val_desc (m k : Nat) : ∀ v : Int, valOf v ((desc k).map (digN m)) = v * ((64 ^ (k + 1) : Nat) : Int) + ((m % 64 ^ (k + 1) : Nat) : Int) := by
  induction k with
  | zero => intro v; show v * 64 + ((m / 64 ^ 0 % 64 : Nat) : Int) = _; rw [Nat.pow_zero, Nat.div_one]; rfl
  | succ k ih =>
    intro v
    rw [desc, List.map_cons]
    refine (ih (v * 64 + digN m (k + 1))).trans ?_
    rw [Nat.pow_succ 64 (k + 1), Nat.mod_mul, Int.add_mul, Int.natCast_add, Int.natCast_mul, Int.natCast_mul, Int.mul_assoc, Int.mul_comm 64, Int.add_assoc, Int.mul_comm (digN m (k + 1)), Int.add_comm (_ * digN m (k + 1))]
    rfl
theorem digs_ok (m : Nat) (l : List Nat) : ∀ x ∈ l.map (digN m), 0 ≤ x ∧ x < 64 := fun x hx => by
  obtain ⟨j, _, rfl⟩ := List.mem_map.mp hx
  exact ⟨Int.natCast_nonneg _, Int.ofNat_lt.mpr (Nat.mod_lt _ (by decide))⟩
theorem octGo_desc (m : Nat) : octGo (m : Int) = ((desc 4).filter (fun j => j == 0 || decide (64 ^ j ≤ m))).map (fun j => digN m j + if j != 0 then 64 else 0) := by
  have e : ([4, 3, 2, 1, 0] : List Int) = (desc 4).map fun (j : Nat) => (j : Int) := by decide
  have z : ∀ j : Nat, ((j : Int) == 0) = (j == 0) := fun j => by cases j <;> rfl
  have c : ∀ j : Nat, (64 : Int) ^ j = ((64 ^ j : Nat) : Int) := fun j => (Int.natCast_pow 64 j).symm
  unfold octGo
  rw [e, List.filter_map, List.map_map]
  have ef : ((fun (k : Int) => k == 0 || decide ((m : Int) ≥ 64 ^ k.toNat)) ∘ fun (j : Nat) => (j : Int)) = fun j => j == 0 || decide (64 ^ j ≤ m) := by
    funext j
    show ((j : Int) == 0 || decide ((64 : Int) ^ j ≤ (m : Int))) = _
    rw [z, c, decide_eq_decide.mpr (Int.ofNat_le (m := 64 ^ j) (n := m))]
  rw [ef]
  refine List.map_congr_left fun j _ => ?_
  show ((m : Int).fdiv (64 ^ j)).fmod 64 + (if (!((j : Int) == 0)) = true then 64 else 0) = digN m j + if (!(j == 0)) = true then 64 else 0
  rw [z, c, Int.fdiv_eq_ediv_of_nonneg _ (Int.natCast_nonneg _), Int.fmod_eq_emod_of_nonneg _ (by decide)]
  rfl
theorem octGo_enc {N : Int} (h0 : 0 ≤ N) (h1 : N < 64 ^ 5) : ∃ d ds, octGo N = enc (d :: ds) ∧ (∀ x ∈ d :: ds, 0 ≤ x ∧ x < 64) ∧ ds.length ≤ 4 ∧ valOf d ds = N := by
  obtain ⟨m, rfl⟩ := Int.eq_ofNat_of_zero_le h0
  obtain ⟨K, k1, k2, k3⟩ := desc_filter m 4 (Int.ofNat_lt.mp h1)
  have e := octGo_desc m
  rw [k2, enc_desc] at e
  have hv := val_desc m K 0
  rw [Int.zero_mul, Int.zero_add, Nat.mod_eq_of_lt k3] at hv
  have hd := digs_ok m (desc K)
  have hl : ∀ k, (desc k).length = k + 1 := fun k => by
    induction k with
    | zero => rfl
    | succ k ih => rw [desc, List.length_cons, ih]
  have hl : ((desc K).map (digN m)).length ≤ 5 := by rw [List.length_map, hl]; exact Nat.succ_le_succ k1
  have hne := desc_ne K m
  generalize (desc K).map (digN m) = l at *
  cases l with
  | nil => exact absurd rfl hne
  | cons d ds => exact ⟨d, ds, e, hd, Nat.le_of_succ_le_succ hl, by rw [← hv]; show _ = valOf (0 * 64 + d) ds; rw [Int.zero_mul, Int.zero_add]⟩
theorem enc_small : ∀ ds : List Int, (∀ x ∈ ds, 0 ≤ x ∧ x < 64) → ∀ o ∈ enc ds, 0 ≤ o ∧ o < 128
  | [], _, o, ho => by cases ho
  | [d], h, o, ho => by
    rw [enc, List.mem_singleton] at ho; subst ho
    have := h _ List.mem_cons_self; lia
  | d :: d' :: r, h, o, ho => by
    rw [enc] at ho
    rcases List.mem_cons.mp ho with rfl | ho
    · have := h d List.mem_cons_self; lia
    · exact enc_small (d' :: r) (fun x hx => h x (List.mem_cons_of_mem _ hx)) o ho
theorem varint_dec {N : Int} (h0 : 0 ≤ N) (h1 : N < 64 ^ 5) {bs : List Int} (h : Strip bs (octGo N)) (r : List Int) : varint (bs ++ r) = .ok N r := by
  obtain ⟨d, ds, e, hd, hl, hv⟩ := octGo_enc h0 h1
  rw [e] at h
  rw [varint_digits d ds bs r hd hl h, hv]
noncomputable def In5 (e : List Int) : Prop := ∃ a b c d, e = [a, b, c, d] ∧ (0 ≤ a ∧ a < 64 ^ 5) ∧ (0 ≤ b ∧ b < 64 ^ 5) ∧ (0 ≤ c ∧ c < 64 ^ 5) ∧ (0 ≤ d ∧ d < 64 ^ 5)
theorem bit_lasti {d : Int} (h : 0 ≤ d) : (Builtin.bitAnd d 1 != 0) = (d.fmod 2 == 1) := by
  obtain ⟨m, rfl⟩ := Int.eq_ofNat_of_zero_le h
  have e1 : Builtin.bitAnd (m : Int) 1 = ((m &&& 1 : Nat) : Int) := rfl
  have e2 : ((m : Int)).fmod 2 = ((m % 2 : Nat) : Int) := by rw [Int.fmod_eq_emod_of_nonneg _ (by decide)]; rfl
  rw [e1, e2, Nat.and_one_is_mod]
  rcases Nat.mod_two_eq_zero_or_one m with h | h <;> rw [h] <;> rfl
theorem parse_all : ∀ (es : List (List Int)), (∀ e ∈ es, In5 e) → ∀ {bs tl : List Int}, Strip bs (es.flatMap octetsOf) → Parse tl [] → Parse (bs ++ tl) (es.map entOf4)
  | [], _, bs, tl, h, ht => by
    rw [List.flatMap_nil] at h
    cases h
    exact ht
  | e :: es, he, bs, tl, h, ht => by
    obtain ⟨a, b, c, d, rfl, ha, hb, hc, hd⟩ := he e List.mem_cons_self
    rw [List.flatMap_cons] at h
    have eo : octetsOf [a, b, c, d] = octGo a ++ (octGo b ++ (octGo c ++ octGo d)) := by simp [octetsOf]
    rw [eo] at h
    obtain ⟨b1, b2, rfl, h1, h2⟩ := h.split
    obtain ⟨x1, y1, rfl, k1, h1⟩ := h1.split
    obtain ⟨x2, y2, rfl, k2, h1⟩ := h1.split
    obtain ⟨x3, y3, rfl, k3, k4⟩ := h1.split
    have ih := parse_all es (fun e q => he e (List.mem_cons_of_mem _ q)) h2 ht
    have r : x1 ++ (x2 ++ (x3 ++ y3)) ++ b2 ++ tl = x1 ++ (x2 ++ (x3 ++ (y3 ++ (b2 ++ tl)))) := by simp [List.append_assoc]
    rw [r, List.map_cons]
    have := Parse.more (varint_dec ha.1 ha.2 k1 (x2 ++ (x3 ++ (y3 ++ (b2 ++ tl))))) (varint_dec hb.1 hb.2 k2 _) (varint_dec hc.1 hc.2 k3 _) (varint_dec hd.1 hd.2 k4 _) ih
    have ee : entOf4 [a, b, c, d] = ⟨a * 2, a * 2 + b * 2, c * 2, d.fdiv 2, Builtin.bitAnd d 1 != 0⟩ := by
      rw [bit_lasti hd.1]
      unfold entOf4
      simp only [List.getD_cons_zero, List.getD_cons_succ, Ent.mk.injEq, and_true]
      refine ⟨by lia, by lia, by lia⟩
    rw [ee]
    exact this
theorem one_dig {d b : Int} (hd : 0 ≤ d ∧ d < 64) (h : b = d ∨ b = d + 128) (r : List Int) : varint (b :: r) = .ok d r :=
  varint_digits d [] [b] r (fun x hx => List.mem_singleton.mp hx ▸ hd) (by decide) (.cons h .nil)
theorem parse_torn (c : Int) {tl : List Int} (h : Strip tl (tornOf c)) : Parse tl [] := by
  have e : tornOf c = [] ∨ tornOf c = [70] ∨ tornOf c = [1, 2, 3] ∨ tornOf c = [5, 66] := by
    unfold tornOf
    rcases fmod_cases4 c with h | h | h | h <;> rw [h]
    · exact .inl rfl
    · exact .inr (.inl rfl)
    · exact .inr (.inr (.inl rfl))
    · exact .inr (.inr (.inr rfl))
  rcases e with e | e | e | e <;> rw [e] at h
  · rw [h.inv0]; exact .s1 rfl
  · obtain ⟨b, r, rfl, h1, h⟩ := h.inv
    rw [h.inv0]
    exact .s1 (by rcases h1 with rfl | rfl <;> rfl)
  · obtain ⟨b1, r, rfl, h1, h⟩ := h.inv
    obtain ⟨b2, r, rfl, h2, h⟩ := h.inv
    obtain ⟨b3, r, rfl, h3, h⟩ := h.inv
    rw [h.inv0]
    exact .s4 (one_dig (by decide) h1 _) (one_dig (by decide) h2 _) (one_dig (by decide) h3 _) rfl
  · obtain ⟨b1, r, rfl, h1, h⟩ := h.inv
    obtain ⟨b2, r, rfl, h2, h⟩ := h.inv
    rw [h.inv0]
    exact .s2 (one_dig (by decide) h1 _) (by rcases h2 with rfl | rfl <;> rfl)
theorem torn_oct (c : Int) : ∀ o ∈ tornOf c, 0 ≤ o ∧ o < 128 := by
  unfold tornOf
  rcases fmod_cases4 c with h | h | h | h <;> rw [h] <;> decide
theorem octGo_small {N : Int} (h0 : 0 ≤ N) (h1 : N < 64 ^ 5) : ∀ o ∈ octGo N, 0 ≤ o ∧ o < 128 := by
  obtain ⟨d, ds, e, hd, _, _⟩ := octGo_enc h0 h1
  rw [e]
  exact enc_small _ hd
theorem octs_small {es : List (List Int)} (h : ∀ e ∈ es, In5 e) (c : Int) : ∀ o ∈ es.flatMap octetsOf ++ tornOf c, 0 ≤ o ∧ o < 128 := fun o ho => by
  rcases List.mem_append.mp ho with ho | ho
  · obtain ⟨e, he, ho⟩ := List.mem_flatMap.mp ho
    obtain ⟨a, b, c, d, rfl, ha, hb, hc, hd⟩ := h e he
    unfold octetsOf at ho
    obtain ⟨x, hx, ho'⟩ := List.mem_flatMap.mp ho
    have hx5 : 0 ≤ x ∧ x < 64 ^ 5 := by
      exact (List.forall_mem_cons.mpr ⟨ha, List.forall_mem_cons.mpr ⟨hb, List.forall_mem_cons.mpr ⟨hc, List.forall_mem_cons.mpr ⟨hd, fun _ h => nomatch h⟩⟩⟩⟩ : ∀ x ∈ [a, b, c, d], 0 ≤ x ∧ x < 64 ^ 5) x hx
    exact octGo_small hx5.1 hx5.2 o ho'
  · exact torn_oct c o ho
theorem parse_bytes {es : List (List Int)} (h : ∀ e ∈ es, In5 e) (c : Int) : Parse (KBw.bInts (byteArr (bytesL (es.flatMap octetsOf ++ tornOf c)))) (es.map entOf4) := by
  have hb : KBa.In (bytesL (es.flatMap octetsOf ++ tornOf c)) := fun b hb => by
    unfold bytesL at hb
    obtain ⟨p, hp', rfl⟩ := List.mem_map.mp hb
    have h1 := octs_small h c p.1 (by have := List.mem_zipIdx' hp'; rw [this.2]; exact List.getElem_mem _)
    exact oct_byte h1 p.2
  rw [KBa.ints_make hb]
  unfold bytesL
  obtain ⟨b1, b2, e, h1, h2⟩ := (strip_bytes (es.flatMap octetsOf ++ tornOf c) 0).split
  have e' : (es.flatMap octetsOf ++ tornOf c).zipIdx.map (fun p => p.1 + 128 * ((p.2 : Int)).fmod 2) = b1 ++ b2 := e
  rw [e']
  exact parse_all es h h1 (parse_torn c h2)
end Mine
end
section
namespace Mine
theorem cells_step (B : Int) : ∀ (l : List (Int × Nat)) (cs : List Int) (m : Nat), cs.length = 7 → (∀ c ∈ cs, 0 ≤ c ∧ c ≤ B + (m : Int) * 999999) → (l.foldl cellStep cs).length = 7 ∧ ∀ c ∈ l.foldl cellStep cs, 0 ≤ c ∧ c ≤ B + ((m + l.length : Nat) : Int) * 999999
  | [], cs, m, h, hb => ⟨h, hb⟩
  | p :: l, cs, m, h, hb => by
    rw [List.foldl_cons]
    have h1 : 0 ≤ p.1.fmod 1000000 := Int.fmod_nonneg_of_pos _ (by decide)
    have h2 : p.1.fmod 1000000 < 1000000 := Int.fmod_lt_of_pos _ (by decide)
    have hg : 0 ≤ cs.getD (p.2 % 7) 0 ∧ cs.getD (p.2 % 7) 0 ≤ B + (m : Int) * 999999 := by
      have hlt : p.2 % 7 < cs.length := by rw [h]; exact Nat.mod_lt _ (by decide)
      rw [List.getD_eq_getElem?_getD, List.getElem?_eq_getElem hlt]
      exact hb _ (List.getElem_mem _)
    have e : ((m + 1 : Nat) : Int) * 999999 = (m : Int) * 999999 + 999999 := (Int.add_mul (m : Int) 1 999999).trans (congrArg _ (Int.one_mul 999999))
    have := cells_step B l (cellStep cs p) (m + 1) (by unfold cellStep; rw [List.length_set, h]) (fun c hc => by
      unfold cellStep at hc
      rw [e, ← Int.add_assoc]
      rcases List.mem_or_eq_of_mem_set hc with hc | hc
      · exact ⟨(hb c hc).1, Int.le_trans (hb c hc).2 (Int.le_add_of_nonneg_right (by decide))⟩
      · rw [hc]; exact ⟨Int.add_nonneg hg.1 h1, Int.add_le_add hg.2 (Int.le_of_lt_add_one h2)⟩)
    rw [List.length_cons, Nat.add_comm l.length 1, ← Nat.add_assoc]
    exact this
theorem cells_bound (js : List Int) : (cellsOf js).length = 7 ∧ ∀ c ∈ cellsOf js, 0 ≤ c ∧ c < 100000000 := by
  have h := cells_step 497944 (js.take 60).zipIdx [18822, 31626, 497944, 4465, 95022, 143, 254] 0 rfl (by decide)
  have hl : (js.take 60).zipIdx.length ≤ 60 := by rw [List.length_zipIdx, List.length_take]; exact Nat.min_le_left _ _
  exact ⟨h.1, fun c hc => ⟨(h.2 c hc).1, Int.lt_of_le_of_lt (h.2 c hc).2 (Int.lt_of_le_of_lt (Int.add_le_add_left (Int.mul_le_mul_of_nonneg_right (Int.ofNat_le.mpr (by rw [Nat.zero_add]; exact hl)) (by decide)) _) (by decide : (497944 : Int) + ((60 : Nat) : Int) * 999999 < 100000000))⟩⟩
theorem subs_mask : ∀ s ∈ subs5, ∃ b ∈ List.range 32, ((s.map fun b => (2 : Int) ^ b).sum) = (b : Int) := by decide +kernel
theorem handOf_mask (c : Int) : ∃ b < 32, handOf c = ((b : Nat) : Int) := by
  obtain ⟨b, hb, e⟩ := subs_mask _ (filter5_mem fun b => (c.fdiv (3 ^ b)).fmod 3 == 0)
  exact ⟨b, List.mem_range.mp hb, e⟩
noncomputable def Masks (hs : List Int) : Prop := hs.length = 5 ∧ ∀ h ∈ hs, ∃ b < 32, h = ((b : Nat) : Int)
theorem handsOf_masks {cells : List Int} (h : cells.length = 7) : Masks (handsOf cells) := by
  refine ⟨by unfold handsOf; rw [List.length_map, List.length_take, h]; rfl, fun x hx => ?_⟩
  unfold handsOf at hx
  obtain ⟨c, _, rfl⟩ := List.mem_map.mp hx
  exact handOf_mask c
theorem foldl_app {α β : Type} (f : α → List β) : ∀ (l : List α) (s : List β), l.foldl (fun s q => s ++ f q) s = s ++ l.flatMap f
  | [], s => by simp
  | a :: l, s => by rw [List.foldl_cons, foldl_app f l, List.flatMap_cons, List.append_assoc]
theorem zip5 {hs : List Int} (h : hs.length = 5) : hs.zipIdx = (List.range 5).map fun i => (hs.getD i 0, i) := by
  exact len5 (P := fun hs : List Int => hs.zipIdx = (List.range 5).map fun i => (hs.getD i 0, i)) (fun _ _ _ _ _ => rfl) hs h
theorem entriesOf_eq (cells order : List Int) {hs : List Int} (h : hs.length = 5) : entriesOf cells order hs = (List.range 5).flatMap fun i => (runsP (marksOf (hs.getD i 0) order)).map (entry4 cells order i) := by
  unfold entriesOf
  have e : entryStep cells order = fun s q => s ++ (runsP (marksOf q.1 order)).map (entry4 cells order q.2) := rfl
  rw [e, foldl_app, zip5 h, List.flatMap_map]
  rfl
theorem len_pos (cells : List Int) (b : Int) : 1 ≤ lenOf cells b ∧ lenOf cells b ≤ 90 := by
  unfold lenOf
  have h1 : 0 ≤ ((cells.getD b.toNat 0).fdiv 243).fmod 90 := Int.fmod_nonneg_of_pos _ (by decide)
  have h2 : ((cells.getD b.toNat 0).fdiv 243).fmod 90 < 90 := Int.fmod_lt_of_pos _ (by decide)
  exact ⟨Int.add_le_add_right h1 1, h2⟩
theorem at_all (cells : List Int) {order : List Int} (h : order.length = 5) : atOf cells order 0 = 0 ∧ ∀ i < 5, atOf cells order i + 1 ≤ atOf cells order (i + 1) ∧ atOf cells order (i + 1) ≤ atOf cells order i + 90 := by
  refine ⟨by simp [atOf], fun i hi => ?_⟩
  have hs : atOf cells order (i + 1) = atOf cells order i + lenOf cells (order[i]'(by rw [h]; exact hi)) := by
    unfold atOf
    rw [List.take_succ, List.map_append, List.sum_append, List.getElem?_eq_getElem (by rw [h]; exact hi)]
    simp
  have := len_pos cells (order[i]'(by rw [h]; exact hi))
  rw [hs]
  exact ⟨Int.add_le_add_left this.1 _, Int.add_le_add_left this.2 _⟩
theorem at_lt (cells : List Int) {order : List Int} (h : order.length = 5) {i j : Nat} (hij : i < j) (hj : j ≤ 5) : atOf cells order i < atOf cells order j := by
  have := (at_all cells h).2
  induction j with
  | zero => exact absurd hij (Nat.not_lt_zero _)
  | succ j ih =>
    have h1 := this j hj
    exact (Nat.lt_or_eq_of_le (Nat.le_of_lt_succ hij)).elim (fun hlt => Int.lt_trans (ih hlt (Nat.le_of_succ_le hj)) h1.1) fun e => e ▸ h1.1
theorem at_lt_iff (cells : List Int) {order : List Int} (h : order.length = 5) {i j : Nat} (hi : i ≤ 5) (hj : j ≤ 5) : atOf cells order i < atOf cells order j ↔ i < j :=
  ⟨fun q => (Nat.lt_or_ge i j).elim id fun hge => (Nat.lt_or_eq_of_le hge).elim (fun hlt => absurd (Int.lt_trans q (at_lt cells h hlt hi)) (Int.lt_irrefl _)) fun e => by rw [e] at q; exact absurd q (Int.lt_irrefl _), fun q => at_lt cells h q hj⟩
theorem at_le_iff (cells : List Int) {order : List Int} (h : order.length = 5) {i j : Nat} (hi : i ≤ 5) (hj : j ≤ 5) : atOf cells order i ≤ atOf cells order j ↔ i ≤ j := by
  rw [← Int.not_lt, at_lt_iff cells h hj hi, Nat.not_lt]
theorem at_in (cells : List Int) {order : List Int} (h : order.length = 5) : ∀ i ≤ 5, 0 ≤ atOf cells order i ∧ atOf cells order i ≤ 90 * (i : Int)
  | 0, _ => by rw [(at_all cells h).1]; decide
  | i + 1, hi => by
    have h1 := (at_all cells h).2 i hi
    have h2 := at_in cells h i (Nat.le_of_succ_le hi)
    refine ⟨Int.le_trans h2.1 (Int.le_of_lt h1.1), Int.le_trans h1.2 ?_⟩
    show _ ≤ 90 * ((i : Int) + 1)
    rw [Int.mul_add]
    exact Int.add_le_add_right h2.2 _
theorem at_450 (cells : List Int) {order : List Int} (h : order.length = 5) {i : Nat} (hi : i ≤ 5) : 0 ≤ atOf cells order i ∧ atOf cells order i ≤ 450 :=
  ⟨(at_in cells h i hi).1, Int.le_trans (at_in cells h i hi).2 (Int.mul_le_mul_of_nonneg_left (Int.ofNat_le.mpr hi) (by decide : (0 : Int) ≤ 90))⟩
theorem cell_in {cells : List Int} (hc : ∀ c ∈ cells, 0 ≤ c ∧ c < 100000000) (i : Nat) : 0 ≤ cells.getD i 0 ∧ cells.getD i 0 < 100000000 := by
  rw [List.getD_eq_getElem?_getD]
  cases q : cells[i]? with
  | none => exact ⟨Int.le_refl _, by decide⟩
  | some c => exact hc c (List.mem_of_getElem? q)
theorem entries_in5 {cells order hs : List Int} (hc : ∀ c ∈ cells, 0 ≤ c ∧ c < 100000000) (ho : order.length = 5) (hh : hs.length = 5) : ∀ e ∈ entriesOf cells order hs, In5 e := fun e he => by
  rw [entriesOf_eq cells order hh] at he
  obtain ⟨i, hi, he⟩ := List.mem_flatMap.mp he
  obtain ⟨p, hp, rfl⟩ := List.mem_map.mp he
  have hi5 := List.mem_range.mp hi
  have hp' := runs_ok hp
  have a1 := at_450 cells ho (Nat.le_of_lt hp'.1)
  have a2 := at_450 cells ho hp'.2.2
  have a3 := at_lt cells ho hp'.2.1 hp'.2.2
  have c1 := cell_in hc i
  have c3 : (cells.getD i 0).fdiv 243 ≤ cells.getD i 0 := by
    rw [Int.fdiv_eq_ediv_of_nonneg _ (by decide)]
    exact Int.ediv_le_self _ c1.1
  exact ⟨_, _, _, _, rfl, ⟨a1.1, Int.lt_of_le_of_lt a1.2 (by decide)⟩, ⟨Int.sub_nonneg.mpr (Int.le_of_lt a3), Int.lt_of_le_of_lt (Int.sub_le_self _ a1.1) (Int.lt_of_le_of_lt a2.2 (by decide))⟩,
    ⟨Int.add_nonneg (Int.mul_nonneg (by decide) c1.1) (Int.natCast_nonneg i), Int.lt_trans (Int.add_lt_add_of_le_of_lt (Int.mul_le_mul_of_nonneg_left (Int.le_of_lt c1.2) (by decide)) (Int.ofNat_lt.mpr hi5)) (by decide)⟩,
    ⟨Int.fdiv_nonneg c1.1 (by decide), Int.lt_of_le_of_lt c3 (Int.lt_trans c1.2 (by decide))⟩⟩
theorem cov_tab : ∀ m ∈ allMarks, ∀ i ∈ List.range 5, ((runsP m).filter fun p => decide (p.1 ≤ i) && decide (i < p.2)).map (fun _ => ()) = if m.getD i 0 != 0 then [()] else [] := by decide +kernel
theorem filter_flat {α β : Type} (p : α → Bool) (f : α → β) : ∀ l : List α, (l.filter p).map f = l.flatMap fun a => if p a then [f a] else []
  | [] => rfl
  | a :: l => by
    rw [List.filter_cons, List.flatMap_cons, ← filter_flat p f l]
    cases p a <;> rfl
theorem flat_congr {α β : Type} {f g : α → List β} : ∀ {l : List α}, (∀ a ∈ l, f a = g a) → l.flatMap f = l.flatMap g
  | [], _ => rfl
  | a :: l, h => by rw [List.flatMap_cons, List.flatMap_cons, h a List.mem_cons_self, flat_congr fun b hb => h b (List.mem_cons_of_mem _ hb)]
theorem marksOf_at (m : Int) {order : List Int} (ho : order.length = 5) {i : Nat} (hi : i < 5) : (marksOf m order).getD i 0 = markAt m (order.getD i 0) := by
  unfold marksOf
  rw [List.getD_eq_getElem?_getD, List.getD_eq_getElem?_getD, List.getElem?_map, List.getElem?_eq_getElem (by rw [ho]; exact hi)]
  rfl
theorem guards_all {cells order hs : List Int} (ho : order.length = 5) (hh : Masks hs) (i : Nat) (hi : i < 5) : guardAt ((entriesOf cells order hs).map entOf4) (atOf cells order i) = (subAt hs order i).map fun (h : Nat) => (h : Int) := by
  unfold guardAt subAt
  rw [entriesOf_eq cells order hh.1, filter_flat, List.map_flatMap, List.flatMap_assoc, filter_flat]
  refine flat_congr fun h h5 => ?_
  have h5 := List.mem_range.mp h5
  have hm : Small (marksOf (hs.getD h 0) order) := by
    refine marks_Small ?_ ho
    obtain ⟨b, _, e⟩ := hh.2 (hs.getD h 0) (by rw [List.getD_eq_getElem?_getD, List.getElem?_eq_getElem (by rw [hh.1]; exact h5)]; exact List.getElem_mem _)
    rw [e]; exact Int.natCast_nonneg b
  have tab := cov_tab _ hm.all i (List.mem_range.mpr hi)
  have eg : (marksOf (hs.getD h 0) order).getD i 0 = markAt (hs.getD h 0) (order.getD i 0) := by
    exact marksOf_at _ ho hi
  rw [eg] at tab
  rw [← filter_flat, List.filter_map, List.filter_map, List.map_map, List.map_map]
  have e1 : (runsP (marksOf (hs.getD h 0) order)).filter (((fun e : Ent => decide (e.start ≤ 2 * atOf cells order i) && decide (2 * atOf cells order i < e.stop)) ∘ entOf4) ∘ entry4 cells order h) = (runsP (marksOf (hs.getD h 0) order)).filter fun p => decide (p.1 ≤ i) && decide (i < p.2) := by
    refine List.filter_congr fun p hp => ?_
    have hp' := runs_ok hp
    show (decide (2 * atOf cells order p.1 ≤ 2 * atOf cells order i) && decide (2 * atOf cells order i < 2 * (atOf cells order p.1 + (atOf cells order p.2 - atOf cells order p.1)))) = _
    have d1 : (2 * atOf cells order p.1 ≤ 2 * atOf cells order i) ↔ p.1 ≤ i := (Int.mul_le_mul_left (by decide)).trans (at_le_iff cells ho (Nat.le_of_lt hp'.1) (Nat.le_of_lt hi))
    have d2 : (2 * atOf cells order i < 2 * (atOf cells order p.1 + (atOf cells order p.2 - atOf cells order p.1))) ↔ i < p.2 := by
      rw [← Int.add_sub_assoc, Int.add_comm (atOf cells order p.1), Int.add_sub_cancel]
      exact (Int.mul_lt_mul_left (by decide)).trans (at_lt_iff cells ho (Nat.le_of_lt hi) hp'.2.2)
    rw [decide_eq_decide.mpr d1, decide_eq_decide.mpr d2]
  rw [e1]
  have e2 : ((runsP (marksOf (hs.getD h 0) order)).filter fun p => decide (p.1 ≤ i) && decide (i < p.2)).map (((fun e : Ent => (e.target.fdiv 2).fmod 5) ∘ entOf4) ∘ entry4 cells order h) = (((runsP (marksOf (hs.getD h 0) order)).filter fun p => decide (p.1 ≤ i) && decide (i < p.2)).map (fun _ => ())).map fun _ => (h : Int) := by
    rw [List.map_map]
    refine List.map_congr_left fun p _ => ?_
    show ((2 * (5 * cells.getD h 0 + (h : Int))).fdiv 2).fmod 5 = (h : Int)
    rw [Int.fdiv_eq_ediv_of_nonneg _ (by decide), Int.fmod_eq_emod_of_nonneg _ (by decide)]
    lia
  rw [e2, tab]
  cases (markAt (hs.getD h 0) (order.getD i 0) != 0) <;> rfl
end Mine
end
section
namespace Mine
theorem runs_stretch : ∀ m ∈ allMarks, (runsP m).length = stretches m := by decide +kernel
theorem mask_tab : ∀ o ∈ allOrders, ∀ b ∈ List.range 32, (stretches (marksOf (b : Int) o) = 0 ↔ b = 0) ∧ (big (b : Int) = true ∨ stretches (marksOf (b : Int) o) ≤ 1) := by decide +kernel
noncomputable def runsN (o : List Int) (h : Int) : Nat := (runsP (marksOf h o)).length
noncomputable def oneN (h : Int) : Nat := if h != 0 then 1 else 0
theorem mask_runs {o : List Int} (ho : o ∈ allOrders) {h : Int} (hh : ∃ b < 32, h = ((b : Nat) : Int)) : runsN o h = stretches (marksOf h o) ∧ (runsN o h = 0 ↔ h = 0) ∧ (big h = true ∨ runsN o h ≤ 1) := by
  obtain ⟨b, hb, rfl⟩ := hh
  have hm := marks_Small (b := (b : Int)) (by lia) (orders_ok o ho).1
  have e := runs_stretch _ hm.all
  have t := mask_tab o ho b (List.mem_range.mpr hb)
  unfold runsN
  rw [e]
  refine ⟨rfl, ?_, t.2⟩
  rw [t.1]
  lia
theorem parts_iff {o hs : List Int} (ho : o ∈ allOrders) (hh : Masks hs) : partsAny hs o = false ↔ ∀ h ∈ hs, runsN o h = oneN h := by
  have key : ∀ h ∈ hs, (runsN o h = oneN h ↔ runsN o h ≤ 1) := fun h hm => by
    have t := mask_runs ho (hh.2 h hm)
    unfold oneN
    by_cases h0 : h = 0
    · have := t.2.1.mpr h0
      rw [this, h0]; decide
    · have : runsN o h ≠ 0 := fun e => h0 (t.2.1.mp e)
      rw [if_pos (by simpa using h0)]
      lia
  unfold partsAny
  rw [List.any_eq_false]
  constructor
  · intro hp h hm
    rw [key h hm]
    have t := mask_runs ho (hh.2 h hm)
    rcases t.2.2 with hb | hb
    · have := hp h (List.mem_filter.mpr ⟨hm, hb⟩)
      unfold partedM at this
      rw [t.1]
      simp only [decide_eq_true_eq] at this
      lia
    · exact hb
  · intro hp h hm
    have hm' := (List.mem_filter.mp hm).1
    have t := mask_runs ho (hh.2 h hm')
    have := (key h hm').mp (hp h hm')
    unfold partedM
    rw [t.1] at this
    simp only [decide_eq_true_eq]
    lia
theorem sum_iff (f g : Int → Nat) : ∀ l : List Int, (∀ x ∈ l, f x ≤ g x) → (l.map f).sum ≤ (l.map g).sum ∧ ((l.map g).sum = (l.map f).sum ↔ ∀ x ∈ l, g x = f x)
  | [], _ => ⟨Nat.le_refl _, by simp⟩
  | a :: l, h => by
    have ih := sum_iff f g l fun x hx => h x (List.mem_cons_of_mem _ hx)
    have ha := h a List.mem_cons_self
    rw [List.map_cons, List.map_cons, List.sum_cons, List.sum_cons]
    refine ⟨by lia, ?_, ?_⟩
    · intro e x hx
      have e1 : (l.map g).sum = (l.map f).sum := by lia
      rcases List.mem_cons.mp hx with rfl | hx
      · lia
      · exact ih.2.mp e1 x hx
    · intro hx
      have e1 := hx a List.mem_cons_self
      have e2 := ih.2.mpr fun x q => hx x (List.mem_cons_of_mem _ q)
      lia
theorem entries_sum (cells o : List Int) {hs : List Int} (h : hs.length = 5) : (entriesOf cells o hs).length = (hs.map (runsN o)).sum := by
  rw [entriesOf_eq cells o h, List.length_flatMap]
  simp only [List.length_map]
  exact len5 (P := fun hs : List Int => ((List.range 5).map fun i => (runsP (marksOf (hs.getD i 0) o)).length).sum = (hs.map (runsN o)).sum) (fun _ _ _ _ _ => rfl) hs h
theorem ones_sum (hs : List Int) : (hs.filter fun b => b != 0).length = (hs.map oneN).sum := by
  induction hs with
  | nil => rfl
  | cons a l ih =>
    rw [List.filter_cons, List.map_cons, List.sum_cons, ← ih]
    unfold oneN
    by_cases h : (a != 0) = true
    · rw [if_pos h, if_pos h, List.length_cons]; lia
    · rw [if_neg h, if_neg h]; lia
theorem laid_parts (hs : List Int) (c : Int) : (laidOf hs c = [] → partsAny hs (orderOf hs c) = true) ∧ (laidOf hs c ≠ [] → partsAny hs (orderOf hs c) = false) := by
  have key : ∀ r, (List.range 60).find? (fun turn => !partsAny hs (orderAt c turn)) = r → (match r with | some turn => orderAt c turn | none => []) = laidOf hs c := fun r e => by subst e; rfl
  cases q : (List.range 60).find? fun turn => !partsAny hs (orderAt c turn) with
  | none =>
    have e := key _ q
    have e : laidOf hs c = [] := e.symm
    refine ⟨fun _ => ?_, fun h => absurd e h⟩
    unfold orderOf
    rw [if_pos e]
    have := List.find?_eq_none.mp q 0 (by decide)
    simpa using this
  | some t =>
    have e := key _ q
    have e : laidOf hs c = orderAt c t := e.symm
    have hne : laidOf hs c ≠ [] := fun h => by
      have h5 := (orders_ok _ (orderAt_mem c t)).1
      rw [← e, h] at h5
      cases h5
    refine ⟨fun h => absurd h hne, fun _ => ?_⟩
    unfold orderOf
    rw [if_neg hne, e]
    have := List.find?_some q
    simpa using this
theorem laid_all (hs : List Int) (c : Int) : laidOf hs c = [] ↔ ∀ o ∈ allOrders, partsAny hs o = true := by
  constructor
  · intro h o ho
    cases q : (List.range 60).find? fun turn => !partsAny hs (orderAt c turn) with
    | none =>
      obtain ⟨j, hj, rfl⟩ := List.mem_iff_getElem.mp ho
      rw [orders_len] at hj
      have h1 : 0 ≤ ((j : Int) - c).fmod 60 := Int.fmod_nonneg_of_pos _ (by decide)
      have h2 : ((j : Int) - c).fmod 60 < 60 := Int.fmod_lt_of_pos _ (by decide)
      have ht := List.find?_eq_none.mp q (((j : Int) - c).fmod 60).toNat (List.mem_range.mpr (fmod60 _).1)
      have e : orderAt c (((j : Int) - c).fmod 60).toNat = allOrders[j]'(by rw [orders_len]; exact hj) := by
        unfold orderAt
        have : ((c + (((((j : Int) - c).fmod 60).toNat : Nat) : Int)).fmod 60).toNat = j := by
          rw [Int.toNat_of_nonneg h1]
          rw [Int.fmod_eq_emod_of_nonneg _ (by decide), Int.fmod_eq_emod_of_nonneg _ (by decide), Int.add_comm, Int.emod_add_emod, Int.sub_add_cancel, Int.emod_eq_of_lt (b := 60) (Int.natCast_nonneg j) (Int.ofNat_lt.mpr hj)]
          rfl
        rw [this, List.getD_eq_getElem?_getD, List.getElem?_eq_getElem (by rw [orders_len]; exact hj)]
        rfl
      rw [e] at ht
      simpa using ht
    | some t =>
      have e : laidOf hs c = orderAt c t := by unfold laidOf; rw [q]
      have h5 := (orders_ok _ (orderAt_mem c t)).1
      rw [← e, h] at h5
      cases h5
  · intro h
    have := (laid_parts hs c).2
    by_cases h0 : laidOf hs c = []
    · exact h0
    · have h1 := this h0
      rw [h _ (orderOf_mem hs c)] at h1
      cases h1
theorem single_all (cells : List Int) {hs : List Int} (hh : Masks hs) (c : Int) : ((((entriesOf cells (orderOf hs c) hs).map entOf4).length : Int) == ((hs.filter fun b => b != 0).length : Int)) = !decide (laidOf hs c = []) := by
  have ho := orderOf_mem hs c
  rw [List.length_map, entries_sum cells _ hh.1, ones_sum]
  have hle : ∀ x ∈ hs, oneN x ≤ runsN (orderOf hs c) x := fun x hx => by
    have t := mask_runs ho (hh.2 x hx)
    unfold oneN
    split
    · rename_i h0
      have : runsN (orderOf hs c) x ≠ 0 := fun e => by
        rw [t.2.1] at e; subst e; simp at h0
      lia
    · lia
  have s := (sum_iff oneN (runsN (orderOf hs c)) hs hle).2
  rw [← parts_iff ho hh] at s
  have l := laid_parts hs c
  by_cases h0 : laidOf hs c = []
  · rw [decide_eq_true h0]
    have h1 := l.1 h0
    rw [h1] at s
    refine beq_eq_false_iff_ne.mpr fun e => ?_
    have := s.mp (by lia)
    cases this
  · rw [decide_eq_false h0]
    have h1 := s.mpr (l.2 h0)
    rw [h1]
    exact beq_self_eq_true _
end Mine
end
section
namespace Mine
theorem erase_cons_all {a : Int} : ∀ (xs r : List Int), (∀ x ∈ xs, x ≠ a) → xs.foldl (fun l x => l.erase x) (a :: r) = a :: xs.foldl (fun l x => l.erase x) r
  | [], r, _ => rfl
  | x :: xs, r, h => by
    rw [List.foldl_cons, List.foldl_cons, List.erase_cons_tail (by simpa using Ne.symm (h x List.mem_cons_self))]
    exact erase_cons_all xs _ fun y hy => h y (List.mem_cons_of_mem _ hy)
theorem foldl_erase (p : Int → Bool) : ∀ l : List Int, (l.filter p).foldl (fun l x => l.erase x) l = l.filter fun x => !p x
  | [] => rfl
  | a :: r => by
    rw [List.filter_cons, List.filter_cons]
    cases h : p a with
    | true =>
      rw [if_pos rfl, List.foldl_cons, List.erase_cons_head, foldl_erase p r]
      rfl
    | false =>
      rw [if_neg (by decide), erase_cons_all _ _ (fun x hx e => by
        have := (List.mem_filter.mp hx).2
        rw [e, h] at this; cases this), foldl_erase p r]
      rfl
theorem merge_fold : ∀ (xs l : List Int) (b : Int), xs.foldl mergeStep (l, b) = (xs.foldl (fun l x => l.erase x) l, xs.foldl Builtin.bitOr b)
  | [], l, b => rfl
  | x :: xs, l, b => by
    rw [List.foldl_cons, List.foldl_cons, List.foldl_cons]
    show xs.foldl mergeStep (l.eraseIdx (l.idxOf x), Builtin.bitOr b x) = _
    rw [← List.erase_eq_eraseIdx_of_idxOf rfl]
    exact merge_fold xs _ _
theorem link_closed (t : Int) (l : List Int) (b : Int) : linkStep t l b = if guards b t then l else (l.filter fun one => !hits one b) ++ [(l.filter fun one => hits one b).foldl Builtin.bitOr b] := by
  unfold linkStep
  rw [merge_fold, foldl_erase]
theorem bit0 (k : Nat) : (Builtin.bitAnd (k : Int) 1 != 0) = k.testBit 0 := by
  have e1 : Builtin.bitAnd (k : Int) 1 = ((k &&& 1 : Nat) : Int) := rfl
  rw [e1, Nat.and_one_is_mod, Nat.testBit_zero]
  rcases Nat.mod_two_eq_zero_or_one k with h | h <;> rw [h] <;> rfl
theorem fdiv_nat (b y : Nat) : (b : Int).fdiv (2 ^ y) = ((b / 2 ^ y : Nat) : Int) := by
  rw [Int.ofNat_fdiv, Int.natCast_pow]
  rfl
theorem guards_cast (b y : Nat) : guards (b : Int) (y : Int) = b.testBit y := by
  unfold guards
  rw [Int.toNat_natCast, fdiv_nat, bit0, Nat.testBit_div_two_pow, Nat.zero_add]
theorem both_cast (x z g : Nat) : both x z (g : Int) = (g.testBit x && g.testBit z) := by
  unfold both
  rw [fdiv_nat, fdiv_nat]
  have e : Builtin.bitAnd ((g / 2 ^ x : Nat) : Int) ((g / 2 ^ z : Nat) : Int) = (((g / 2 ^ x) &&& (g / 2 ^ z) : Nat) : Int) := rfl
  rw [e, bit0, Nat.testBit_and, Nat.testBit_div_two_pow, Nat.testBit_div_two_pow, Nat.zero_add, Nat.zero_add]
theorem hits_cast (g b : Nat) : hits (g : Int) (b : Int) = (g &&& b != 0) := by
  unfold hits
  have e : Builtin.bitAnd (g : Int) (b : Int) = ((g &&& b : Nat) : Int) := rfl
  rw [e]
  cases h : g &&& b <;> rfl
theorem or_cast : ∀ (xs : List Nat) (b : Nat), (xs.map fun (g : Nat) => (g : Int)).foldl Builtin.bitOr (b : Int) = ((xs.foldl (· ||| ·) b : Nat) : Int)
  | [], b => rfl
  | x :: xs, b => by
    rw [List.map_cons, List.foldl_cons, List.foldl_cons, bitOr_nat]
    exact or_cast xs _
noncomputable def linkN (y : Nat) (l : List Nat) (b : Nat) : List Nat := if b.testBit y then l else (l.filter fun g => !(g &&& b != 0)) ++ [(l.filter fun g => g &&& b != 0).foldl (· ||| ·) b]
noncomputable def linkedN (ns : List Nat) (y : Nat) : List Nat := ns.foldl (linkN y) []
theorem link_cast (y : Nat) (l : List Nat) (b : Nat) : linkStep (y : Int) (l.map fun (g : Nat) => (g : Int)) (b : Int) = (linkN y l b).map fun (g : Nat) => (g : Int) := by
  rw [link_closed, guards_cast]
  unfold linkN
  cases h : b.testBit y with
  | true => rfl
  | false =>
    rw [if_neg (by decide), if_neg (by decide), List.map_append, List.filter_map, List.filter_map, or_cast]
    have e1 : ((fun one => !hits one (b : Int)) ∘ fun (g : Nat) => (g : Int)) = fun (g : Nat) => !(g &&& b != 0) := by funext g; show (!hits (g : Int) (b : Int)) = _; rw [hits_cast]
    have e2 : ((fun one => hits one (b : Int)) ∘ fun (g : Nat) => (g : Int)) = fun (g : Nat) => (g &&& b != 0) := by funext g; show hits (g : Int) (b : Int) = _; rw [hits_cast]
    rw [e1, e2]
    rfl
theorem linked_cast (ns : List Nat) (y : Nat) : linkedOf (ns.map fun (g : Nat) => (g : Int)) (y : Int) = (linkedN ns y).map fun (g : Nat) => (g : Int) := by
  unfold linkedOf linkedN
  have : ∀ (ns l : List Nat), (ns.map fun (g : Nat) => (g : Int)).foldl (linkStep (y : Int)) (l.map fun (g : Nat) => (g : Int)) = (ns.foldl (linkN y) l).map fun (g : Nat) => (g : Int) := fun ns => by
    induction ns with
    | nil => intro l; rfl
    | cons b ns ih => intro l; rw [List.map_cons, List.foldl_cons, List.foldl_cons, link_cast]; exact ih _
  exact this ns []
theorem hit_iff (g b : Nat) : (g &&& b != 0) = true ↔ ∃ i, g.testBit i = true ∧ b.testBit i = true := by
  constructor
  · intro h
    have h : g &&& b ≠ 0 := by simpa using h
    obtain ⟨i, hi⟩ := Nat.exists_testBit_of_ne_zero h
    rw [Nat.testBit_and, Bool.and_eq_true] at hi
    exact ⟨i, hi⟩
  · rintro ⟨i, h1, h2⟩
    have : (g &&& b).testBit i = true := by rw [Nat.testBit_and, h1, h2]; rfl
    have hne : g &&& b ≠ 0 := fun e => by rw [e, Nat.zero_testBit] at this; cases this
    simpa using hne
theorem or_bits : ∀ (xs : List Nat) (b i : Nat), (xs.foldl (· ||| ·) b).testBit i = true ↔ b.testBit i = true ∨ ∃ g ∈ xs, g.testBit i = true
  | [], b, i => by simp
  | x :: xs, b, i => by
    rw [List.foldl_cons, or_bits xs, Nat.testBit_or, Bool.or_eq_true]
    constructor
    · rintro ((h | h) | ⟨g, hg, h⟩)
      · exact .inl h
      · exact .inr ⟨x, List.mem_cons_self, h⟩
      · exact .inr ⟨g, List.mem_cons_of_mem _ hg, h⟩
    · rintro (h | ⟨g, hg, h⟩)
      · exact .inl (.inl h)
      · rcases List.mem_cons.mp hg with rfl | hg
        · exact .inl (.inr h)
        · exact .inr ⟨g, hg, h⟩
theorem link_mem {y : Nat} {l : List Nat} {b g : Nat} (hb : b.testBit y = false) : g ∈ linkN y l b ↔ (g ∈ l ∧ ¬ ∃ i, g.testBit i = true ∧ b.testBit i = true) ∨ g = (l.filter fun g => g &&& b != 0).foldl (· ||| ·) b := by
  unfold linkN
  rw [hb, if_neg (by decide), List.mem_append, List.mem_singleton, List.mem_filter, ← hit_iff]
  simp
theorem new_bits {l : List Nat} {b i : Nat} : ((l.filter fun g => g &&& b != 0).foldl (· ||| ·) b).testBit i = true ↔ b.testBit i = true ∨ ∃ g ∈ l, (∃ j, g.testBit j = true ∧ b.testBit j = true) ∧ g.testBit i = true := by
  rw [or_bits]
  constructor
  · rintro (h | ⟨g, hg, h⟩)
    · exact .inl h
    · have := List.mem_filter.mp hg
      exact .inr ⟨g, this.1, (hit_iff g b).mp this.2, h⟩
  · rintro (h | ⟨g, hg, hj, h⟩)
    · exact .inl h
    · exact .inr ⟨g, List.mem_filter.mpr ⟨hg, (hit_iff g b).mpr hj⟩, h⟩
noncomputable def Uniq (l : List Nat) : Prop := ∀ g ∈ l, ∀ g' ∈ l, ∀ i, g.testBit i = true → g'.testBit i = true → g = g'
noncomputable def Within (b : Nat) (l : List Nat) : Prop := ∃ g ∈ l, ∀ i, b.testBit i = true → g.testBit i = true
theorem link_uniq {y : Nat} {l : List Nat} {b : Nat} (h : Uniq l) : Uniq (linkN y l b) := by
  cases hb : b.testBit y with
  | true => unfold linkN; rw [hb]; exact h
  | false =>
    have clash : ∀ g ∈ l, (¬ ∃ i, g.testBit i = true ∧ b.testBit i = true) → ∀ i, g.testBit i = true → ((l.filter fun g => g &&& b != 0).foldl (· ||| ·) b).testBit i = true → False := fun g hg hn i h1 h2 => by
      rcases new_bits.mp h2 with h3 | ⟨g', hg', ⟨j, h4, h5⟩, h3⟩
      · exact hn ⟨i, h1, h3⟩
      · have := h g hg g' hg' i h1 h3
        subst this
        exact hn ⟨j, h4, h5⟩
    intro g hg g' hg' i h1 h2
    rcases (link_mem hb).mp hg with ⟨hg, hn⟩ | rfl
    · rcases (link_mem hb).mp hg' with ⟨hg', _⟩ | rfl
      · exact h g hg g' hg' i h1 h2
      · exact (clash g hg hn i h1 h2).elim
    · rcases (link_mem hb).mp hg' with ⟨hg', hn⟩ | rfl
      · exact (clash g' hg' hn i h2 h1).elim
      · rfl
theorem link_within {y : Nat} {l : List Nat} {b c : Nat} (h : Within c l) : Within c (linkN y l b) := by
  cases hb : b.testBit y with
  | true => unfold linkN; rw [hb]; exact h
  | false =>
    obtain ⟨g, hg, hi⟩ := h
    by_cases hn : ∃ i, g.testBit i = true ∧ b.testBit i = true
    · exact ⟨_, (link_mem hb).mpr (.inr rfl), fun i h1 => new_bits.mpr (.inr ⟨g, hg, hn, hi i h1⟩)⟩
    · exact ⟨g, (link_mem hb).mpr (.inl ⟨hg, hn⟩), hi⟩
theorem link_new {y : Nat} {l : List Nat} {b : Nat} (hb : b.testBit y = false) : Within b (linkN y l b) := ⟨_, (link_mem hb).mpr (.inr rfl), fun i h => new_bits.mpr (.inl h)⟩
theorem linked_inv (y : Nat) : ∀ (ns l : List Nat), Uniq l → Uniq (ns.foldl (linkN y) l) ∧ (∀ c, Within c l → Within c (ns.foldl (linkN y) l)) ∧ ∀ b ∈ ns, b.testBit y = false → Within b (ns.foldl (linkN y) l)
  | [], l, h => ⟨h, fun _ q => q, fun b hb => by cases hb⟩
  | a :: ns, l, h => by
    rw [List.foldl_cons]
    obtain ⟨i1, i2, i3⟩ := linked_inv y ns (linkN y l a) (link_uniq h)
    refine ⟨i1, fun c hc => i2 c (link_within hc), fun b hb hy => ?_⟩
    rcases List.mem_cons.mp hb with rfl | hb
    · exact i2 b (link_new hy)
    · exact i3 b hb hy
noncomputable def Lk (ns : List Nat) (y x z : Nat) : Prop := ∃ g ∈ linkedN ns y, g.testBit x = true ∧ g.testBit z = true
theorem Lk.edge {ns : List Nat} {y x z b : Nat} (hb : b ∈ ns) (hy : b.testBit y = false) (hx : b.testBit x = true) (hz : b.testBit z = true) : Lk ns y x z := by
  obtain ⟨g, hg, h⟩ := (linked_inv y ns [] (fun g hg => by cases hg)).2.2 b hb hy
  exact ⟨g, hg, h x hx, h z hz⟩
theorem Lk.trans {ns : List Nat} {y x u z : Nat} (h1 : Lk ns y x u) (h2 : Lk ns y u z) : Lk ns y x z := by
  obtain ⟨g, hg, a1, a2⟩ := h1
  obtain ⟨g', hg', b1, b2⟩ := h2
  have := (linked_inv y ns [] (fun g hg => by cases hg)).1 g hg g' hg' u a2 b1
  subst this
  exact ⟨g, hg, a1, b2⟩
noncomputable def OneSide (L g : Nat) : Prop := (∀ i, g.testBit i = true → L.testBit i = true) ∨ (∀ i, g.testBit i = true → L.testBit i = false)
theorem link_side {L y : Nat} {l : List Nat} {b : Nat} (h : ∀ g ∈ l, OneSide L g) (hb' : b.testBit y = false → OneSide L b) : ∀ g ∈ linkN y l b, OneSide L g := by
  cases hb : b.testBit y with
  | true => unfold linkN; rw [hb]; exact h
  | false =>
    intro g hg
    rcases (link_mem hb).mp hg with ⟨hg, _⟩ | rfl
    · exact h g hg
    · rcases hb' hb with hs | hs
      · refine .inl fun i hi => ?_
        rcases new_bits.mp hi with h3 | ⟨g', hg', ⟨j, h4, h5⟩, h3⟩
        · exact hs i h3
        · rcases h g' hg' with h6 | h6
          · exact h6 i h3
          · have e1 := h6 j h4
            rw [hs j h5] at e1; cases e1
      · refine .inr fun i hi => ?_
        rcases new_bits.mp hi with h3 | ⟨g', hg', ⟨j, h4, h5⟩, h3⟩
        · exact hs i h3
        · rcases h g' hg' with h6 | h6
          · have e1 := h6 j h4
            rw [hs j h5] at e1; cases e1
          · exact h6 i h3
theorem linked_side {L y : Nat} : ∀ (ns l : List Nat), (∀ g ∈ l, OneSide L g) → (∀ b ∈ ns, b.testBit y = false → OneSide L b) → ∀ g ∈ ns.foldl (linkN y) l, OneSide L g
  | [], l, h, _ => h
  | a :: ns, l, h, hs => linked_side ns (linkN y l a) (link_side h (hs a List.mem_cons_self)) fun b hb => hs b (List.mem_cons_of_mem _ hb)
theorem Lk.side {ns : List Nat} {L y x z : Nat} (h : Lk ns y x z) (hs : ∀ b ∈ ns, b.testBit y = false → OneSide L b) : L.testBit x = L.testBit z := by
  obtain ⟨g, hg, h1, h2⟩ := h
  rcases linked_side ns [] (fun g hg => by cases hg) hs g hg with h3 | h3
  · rw [h3 x h1, h3 z h2]
  · rw [h3 x h1, h3 z h2]
theorem up_iff (ns : List Nat) (y x z : Nat) : linkedUp (linkedOf (ns.map fun (g : Nat) => (g : Int)) (y : Int), x, z) = true ↔ Lk ns y x z := by
  unfold linkedUp
  rw [linked_cast]
  dsimp only
  rw [Bool.not_eq_true', decide_eq_false_iff_not]
  constructor
  · intro h
    obtain ⟨g, hg⟩ := List.exists_mem_of_ne_nil _ h
    obtain ⟨h1, h2⟩ := List.mem_filter.mp hg
    obtain ⟨g, hg', rfl⟩ := List.mem_map.mp h1
    rw [both_cast, Bool.and_eq_true] at h2
    exact ⟨g, hg', h2⟩
  · rintro ⟨g, hg, h1, h2⟩ e
    have : (g : Int) ∈ ((linkedN ns y).map fun (g : Nat) => (g : Int)).filter (both x z) := List.mem_filter.mpr ⟨List.mem_map_of_mem hg, by rw [both_cast, h1, h2]; rfl⟩
    rw [e] at this
    cases this
theorem three_iff (ns : List Nat) : threeOf (ns.map fun (g : Nat) => (g : Int)) = true ↔ ∃ p ∈ triples, Lk ns p.1 p.2.1 p.2.2 ∧ Lk ns p.2.1 p.1 p.2.2 ∧ Lk ns p.2.2 p.1 p.2.1 := by
  unfold threeOf
  rw [List.any_eq_true]
  have key : ∀ p : Nat × Nat × Nat, roundAt (ns.map fun (g : Nat) => (g : Int)) p = true ↔ Lk ns p.1 p.2.1 p.2.2 ∧ Lk ns p.2.1 p.1 p.2.2 ∧ Lk ns p.2.2 p.1 p.2.1 := fun p => by
    unfold roundAt aroundOf
    rw [← up_iff, ← up_iff, ← up_iff]
    simp [and_assoc]
  constructor
  · rintro ⟨p, hp, h⟩; exact ⟨p, hp, (key p).mp h⟩
  · rintro ⟨p, hp, h⟩; exact ⟨p, hp, (key p).mpr h⟩
end Mine
end
section
namespace Mine
noncomputable def tabS : List (Nat × Nat × Nat) := [(3, 1077515897663226615, 43100121692243521272028239757312), (5, 1027600217115, 1303144855871361779858607626518528), (6, 973612977346314240, 2758407788303582911451610054920320), (7, 900741675209228307, 4104652765867188174301614594588672), (9, 1052233631297376, 41548516073080483765952390713311232), (10, 31350090501970944, 83401268290215742858477768278081792), (11, 29054594764623456, 124992884483703986462360543952896000), (12, 854558059190551485, 176538093190184139370041548118040576), (13, 27708647225, 219389754080299206058237237546450944), (14, 706608418533670912, 262697769186496435330964798656686464), (15, 632247276719883825, 305592530197019261818810241719992320), (17, 111576347371051404, 39614686900651646412189073408), (18, 223364027076993816, 79247507689137873847467377152), (19, 260098271643894684, 118863479073511106215076167680), (20, 460238188217207910, 159075295048171506611785842688), (21, 248049277966, 198728817510168637904781312000), (22, 505419589014781952, 238405007331283331768763042432), (23, 540465456061317150, 278059814276963768385851621376), (24, 878417169828556995, 10035029075165167747072), (25, 253987428252096, 11252541241912442486784), (26, 16256172043431936, 12470863684956123104000), (27, 17432756859403200, 13688414096015539306496), (28, 1040331529424732391, 445027344605184), (29, 16625188335, 481346514321408), (30, 1115697502947901440, 15428480)]
noncomputable def triM : List (List (List Nat)) := [[[36028797018963968, 37181718523570814976, 1181168081469714726912, 1771175661452268666880, 9482202914639012954112], [34359738368, 1374389534720, 35734127902720, 53051436040192, 283124244152320], [2048, 73728, 2113536, 2629632, 8470528]], [[1208925819614629174706176, 43521329506126650289422336, 39633424070246002863567273984, 40237886980053317450920361984, 158514353467870177387473797120], [1099511627776, 4432406249472, 52776558133248, 40132174413824, 158364034138112], [65536, 133120, 2621440, 2244608, 4720640]], [[38685626227668133590597632, 78580178274950896355901440, 40233051276774858934221537280, 39710795322701339130748469248, 79848341459726642360168218624], [36893488147419103232, 73823005091857170432, 1770887431076116955136, 1254955057764552933376, 2951515080590547222528], [131072, 65664, 4718592, 4260352, 2621568]], [[77371252455336267181195264, 38761184091394047914016768, 79847132533907027730993512448, 79267452603401813041721901056, 40233126834638584848544956416], [73786976294838206464, 36895739947232788480, 2951479051793528258560, 2398094743980751192064, 1770889682875930640384], [4398046511104, 1099645845504, 158329674399744, 141837536854016, 52776692350976]], [[40564819207303340847894502572032, 1460333491462920270524202092593152, 41862893421937047755027126654337024, 52085227862177489648696541302489088, 167776092241406617746891662637924352], [35184372088832, 140771848093696, 282574488338432, 142111877890048, 285907382960128], [2097152, 4196352, 8454144, 4268032, 8521728]], [[1298074214633706907132624082305024, 2636713248474717155113142667182080, 51922968585348276285304963292200960, 44459041851204461569292374818947072, 93501908272834200654396828428533760], [1180591620717411303424, 2361219270231841570816, 9481626453886709530624, 2398364959958393421824, 9518555970831147597824], [4194304, 2097280, 8519680, 2228480, 8454272]], [[2596148429267413814265248164610048, 1300609515834163365935617488715776, 93461343453626897313548933925961728, 84384965155992774798832538975469568, 51925503886548732744107956698611712], [2361183241434822606848, 1180593872517224988672, 9518519942034128633856, 1254387604211504250880, 9481628705686523215872], [140737488355328, 35184506306560, 285873023221760, 39582687035392, 282574622556160]], [[41538374868278621028243970633760768, 83117314555764545397335835770093568, 167451573687748191020108506617348096, 84537083228020162327012143360114688, 168790212721589201268089025202225152], [39614081257132168796771975168, 79229371440083952222718656512, 158495010654756343320678498304, 79271683843770464243833372672, 158534905206803626083443802112], [8388608, 2097408, 4202496, 2105472, 4196608]], [[83076749736557242056487941267521536, 41540910169479077487046964040171520, 168749647902381897927241130699653120, 44139593899946947760115205611192320, 167454108988948647478911500023758848], [79228162514264337593543950336, 39614156814995894711095394304, 158533696280984011454269095936, 39691603625314956892600008704, 158495086212620069235001917440], [281474976710656, 35184640524288, 141012366262272, 35459384213504, 140772116529152]], [[166153499473114484112975882535043072, 41543445470679533945849957446582272, 83239009013386455419879519277809664, 41703169446308290850438542050459648, 83122385158165458314941822582915072], [158456325028528675187087900672, 39614232372859620625418813440, 79232998217542796110242775040, 39618992518274353227794219008, 79229522555811404051365494784], [9444732965739290427392, 1180600627916666044416, 2361471471810974318592, 1180882102893376700416, 2361228277431096311808]]]
noncomputable def anyR {α : Type} (p : α → Bool) (l : List α) : Bool := List.rec (motive := fun _ => Bool) false (fun a _ ih => cond (p a) true ih) l
noncomputable def allR {α : Type} (p : α → Bool) (l : List α) : Bool := List.rec (motive := fun _ => Bool) true (fun a _ ih => cond (p a) ih false) l
noncomputable def threeM (e : Nat) : Bool := anyR (fun cs => allR (fun ms => anyR (fun m => Nat.beq (Nat.land e m) m) ms) cs) triM
noncomputable def srch (l : List (Nat × Nat × Nat)) : Nat → Nat → Nat → Bool :=
  List.rec (motive := fun _ => Nat → Nat → Nat → Bool)
    (fun k v e => Nat.rec (motive := fun _ => Bool) (threeM e) (fun _ _ => true) v)
    (fun t r ih k v e => Nat.rec (motive := fun _ => Bool) (threeM e) (fun n _ => cond (ih k (n + 1) e) (Nat.rec (motive := fun _ => Bool) true (fun k' _ => ih k' (Nat.land (n + 1) t.2.1) (Nat.lor e t.2.2)) k) false) v) l
theorem srch_ok : srch tabS 5 (2 ^ 60 - 1) 0 = true := by decide +kernel
end Mine
end
section
namespace Mine
noncomputable def Wit (ns : List Nat) (e : Nat) : Prop := ∀ y x z, y < 5 → x < 5 → z < 5 → e.testBit (25 * y + 5 * x + z) = true → ∃ b ∈ ns, b.testBit y = false ∧ b.testBit x = true ∧ b.testBit z = true
theorem edges_ok : ∀ t ∈ tabS, ∀ y ∈ List.range 5, ∀ x ∈ List.range 5, ∀ z ∈ List.range 5, t.2.2.testBit (25 * y + 5 * x + z) = true → t.1.testBit y = false ∧ t.1.testBit x = true ∧ t.1.testBit z = true := by decide +kernel
theorem valid_ok : ∀ p ∈ allOrders.zipIdx, ∀ t ∈ tabS, t.2.1.testBit p.2 = true → stretches (marksOf (t.1 : Int) p.1) ≤ 1 := by decide +kernel
theorem bigs_tab : ∀ b ∈ List.range 32, big (b : Int) = true → b ∈ tabS.map (·.1) := by decide +kernel
theorem tab_nodup : (tabS.map (·.1)).Nodup := by decide +kernel
noncomputable def endOf : Nat → List Nat → Nat
  | x, [] => x
  | _, u :: r => endOf u r
noncomputable def tailsOf (q : Nat × Nat × Nat) : List (List Nat) := match (List.range 5).filter fun t => !(t == q.1 || t == q.2.1 || t == q.2.2) with
  | [u, v] => [[q.2.2], [u, q.2.2], [v, q.2.2], [u, v, q.2.2], [v, u, q.2.2]]
  | _ => []
noncomputable def mkP (y : Nat) (p : List Nat) : Nat := (p.zip p.tail).foldl (fun m q => m ||| 2 ^ (25 * y + 5 * q.1 + q.2)) 0
noncomputable def spun (p : Nat × Nat × Nat) : List (Nat × Nat × Nat) := [(p.1, p.2.1, p.2.2), (p.2.1, p.1, p.2.2), (p.2.2, p.1, p.2.1)]
theorem tri_eq : triM = triples.map fun p => (spun p).map fun q => (tailsOf q).map fun r => mkP q.1 (q.2.1 :: r) := by decide +kernel
theorem tri_tab : ∀ p ∈ triples, ∀ q ∈ spun p, ∀ r ∈ tailsOf q, r ≠ [] ∧ endOf q.2.1 r = q.2.2 ∧ q.1 < 5 ∧ ∀ d ∈ (q.2.1 :: r).zip r, d.1 < 5 ∧ d.2 < 5 ∧ (mkP q.1 (q.2.1 :: r)).testBit (25 * q.1 + 5 * d.1 + d.2) = true := by decide +kernel
theorem path_lk {ns : List Nat} {e y : Nat} (hw : Wit ns e) (hy : y < 5) : ∀ (r : List Nat) (x : Nat), r ≠ [] → (∀ d ∈ (x :: r).zip r, d.1 < 5 ∧ d.2 < 5 ∧ e.testBit (25 * y + 5 * d.1 + d.2) = true) → Lk ns y x (endOf x r)
  | [], x, h, _ => absurd rfl h
  | u :: r, x, _, h => by
    have h0 := h (x, u) (by rw [List.zip_cons_cons]; exact List.mem_cons_self)
    obtain ⟨b, hb, h1, h2, h3⟩ := hw y x u hy h0.1 h0.2.1 h0.2.2
    have e1 : Lk ns y x u := Lk.edge hb h1 h2 h3
    cases r with
    | nil => exact e1
    | cons w r =>
      have ih := path_lk hw hy (w :: r) u (by simp) fun d hd => h d (by rw [List.zip_cons_cons]; exact List.mem_cons_of_mem _ hd)
      exact e1.trans ih
theorem anyR_eq {α : Type} (p : α → Bool) : ∀ l : List α, anyR p l = l.any p
  | [] => rfl
  | a :: l => by
    show cond (p a) true (anyR p l) = _
    rw [anyR_eq p l, List.any_cons]
    cases p a <;> rfl
theorem allR_eq {α : Type} (p : α → Bool) : ∀ l : List α, allR p l = l.all p
  | [] => rfl
  | a :: l => by
    show cond (p a) (allR p l) false = _
    rw [allR_eq p l, List.all_cons]
    cases p a <;> rfl
theorem three_sound {ns : List Nat} {e : Nat} (hw : Wit ns e) (h : threeM e = true) : ∃ p ∈ triples, Lk ns p.1 p.2.1 p.2.2 ∧ Lk ns p.2.1 p.1 p.2.2 ∧ Lk ns p.2.2 p.1 p.2.1 := by
  unfold threeM at h
  simp only [anyR_eq, allR_eq] at h
  rw [tri_eq, List.any_map, List.any_eq_true] at h
  obtain ⟨p, hp, h⟩ := h
  refine ⟨p, hp, ?_⟩
  have h : ∀ q ∈ spun p, ∃ r ∈ tailsOf q, Nat.beq (Nat.land e (mkP q.1 (q.2.1 :: r))) (mkP q.1 (q.2.1 :: r)) = true := fun q hq => by
    have h : (((spun p).map fun q => (tailsOf q).map fun r => mkP q.1 (q.2.1 :: r)).all fun ms => ms.any fun m => Nat.beq (Nat.land e m) m) = true := h
    rw [List.all_map, List.all_eq_true] at h
    have h := h q hq
    have h : (((tailsOf q).map fun r => mkP q.1 (q.2.1 :: r)).any fun m => Nat.beq (Nat.land e m) m) = true := h
    rw [List.any_map, List.any_eq_true] at h
    exact h
  have key : ∀ q ∈ spun p, Lk ns q.1 q.2.1 q.2.2 := fun q hq => by
    obtain ⟨r, hr, hm⟩ := h q hq
    obtain ⟨t1, t2, t3, t4⟩ := tri_tab p hp q hq r hr
    rw [← t2]
    refine path_lk hw t3 r q.2.1 t1 fun d hd => ?_
    obtain ⟨d1, d2, d3⟩ := t4 d hd
    refine ⟨d1, d2, ?_⟩
    have hm : e &&& mkP q.1 (q.2.1 :: r) = mkP q.1 (q.2.1 :: r) := Nat.eq_of_beq_eq_true hm
    rw [← hm, Nat.testBit_and, Bool.and_eq_true] at d3
    exact d3.1
  exact ⟨key (p.1, p.2.1, p.2.2) (by simp [spun]), key (p.2.1, p.1, p.2.2) (by simp [spun]), key (p.2.2, p.1, p.2.1) (by simp [spun])⟩
theorem srch_sound {ns : List Nat} (H : ∀ v : Nat, (∀ j, v.testBit j = true → j < 60 ∧ ∀ t ∈ tabS, t.1 ∈ ns → t.2.1.testBit j = true) → v = 0) : ∀ (bs : List (Nat × Nat × Nat)) (k v e : Nat), srch bs k v e = true → (∀ t ∈ bs, t ∈ tabS) → Wit ns e →
    (∀ j, v.testBit j = true → j < 60 ∧ ∀ t ∈ tabS, t.1 ∈ ns → t ∈ bs ∨ t.2.1.testBit j = true) → ((bs.map (·.1)).filter fun b => decide (b ∈ ns)).length ≤ k → ∃ e', Wit ns e' ∧ threeM e' = true
  | bs, k, 0, e, h, hb, hw, hv, hk => by
    refine ⟨e, hw, ?_⟩
    cases bs with
    | nil => exact h
    | cons t r => exact h
  | [], k, n + 1, e, h, hb, hw, hv, hk => by
    have := H (n + 1) fun j hj => ⟨(hv j hj).1, fun t ht hn => by
      rcases (hv j hj).2 t ht hn with h1 | h1
      · cases h1
      · exact h1⟩
    cases this
  | t :: r, k, n + 1, e, h, hb, hw, hv, hk => by
    have h : cond (srch r k (n + 1) e) (Nat.rec (motive := fun _ => Bool) true (fun k' _ => srch r k' (Nat.land (n + 1) t.2.1) (Nat.lor e t.2.2)) k) false = true := h
    have h2 : srch r k (n + 1) e = true ∧ (Nat.rec (motive := fun _ => Bool) true (fun k' _ => srch r k' (Nat.land (n + 1) t.2.1) (Nat.lor e t.2.2)) k : Bool) = true := by
      cases q : srch r k (n + 1) e with
      | true => rw [q] at h; exact ⟨rfl, h⟩
      | false => rw [q] at h; cases h
    rw [List.map_cons, List.filter_cons] at hk
    by_cases hm : t.1 ∈ ns
    · rw [if_pos (decide_eq_true hm), List.length_cons] at hk
      cases k with
      | zero => lia
      | succ k =>
        refine srch_sound H r k _ _ h2.2 (fun t ht => hb t (List.mem_cons_of_mem _ ht)) ?_ ?_ (by lia)
        · intro y x z hy hx hz hbit
          have hbit : (e ||| t.2.2).testBit (25 * y + 5 * x + z) = true := hbit
          rw [Nat.testBit_or, Bool.or_eq_true] at hbit
          rcases hbit with hbit | hbit
          · exact hw y x z hy hx hz hbit
          · exact ⟨t.1, hm, edges_ok t (hb t List.mem_cons_self) y (List.mem_range.mpr hy) x (List.mem_range.mpr hx) z (List.mem_range.mpr hz) hbit⟩
        · intro j hj
          have hj : ((n + 1) &&& t.2.1).testBit j = true := hj
          rw [Nat.testBit_and, Bool.and_eq_true] at hj
          refine ⟨(hv j hj.1).1, fun t' ht' hn' => ?_⟩
          rcases (hv j hj.1).2 t' ht' hn' with h1 | h1
          · rcases List.mem_cons.mp h1 with rfl | h1
            · exact .inr hj.2
            · exact .inl h1
          · exact .inr h1
    · rw [if_neg (by simpa using hm)] at hk
      refine srch_sound H r k _ _ h2.1 (fun t ht => hb t (List.mem_cons_of_mem _ ht)) hw ?_ hk
      intro j hj
      refine ⟨(hv j hj).1, fun t' ht' hn' => ?_⟩
      rcases (hv j hj).2 t' ht' hn' with h1 | h1
      · rcases List.mem_cons.mp h1 with rfl | h1
        · exact absurd hn' hm
        · exact .inl h1
      · exact .inr h1
theorem nodup_len : ∀ (ns l : List Nat), l.Nodup → (∀ x ∈ l, x ∈ ns) → l.length ≤ ns.length
  | [], l, _, h => by
    cases l with
    | nil => exact Nat.le_refl _
    | cons a l => cases h a List.mem_cons_self
  | a :: ns, l, hn, h => by
    have h1 := nodup_len ns (l.erase a) (hn.erase a) fun x hx => by
      have hx' := (List.Nodup.mem_erase_iff hn).mp hx
      rcases List.mem_cons.mp (h x hx'.2) with rfl | h2
      · exact absurd rfl hx'.1
      · exact h2
    have h2 : l.length ≤ (l.erase a).length + 1 := by
      rw [List.length_erase]
      split <;> lia
    rw [List.length_cons]
    lia
theorem three_of_none {ns : List Nat} (hl : ns.length = 5) (h32 : ∀ b ∈ ns, b < 32) (h : ∀ o ∈ allOrders, partsAny (ns.map fun (b : Nat) => (b : Int)) o = true) : threeOf (ns.map fun (b : Nat) => (b : Int)) = true := by
  rw [three_iff]
  have H : ∀ v : Nat, (∀ j, v.testBit j = true → j < 60 ∧ ∀ t ∈ tabS, t.1 ∈ ns → t.2.1.testBit j = true) → v = 0 := fun v hv => by
    by_cases h0 : v = 0
    · exact h0
    · obtain ⟨j, hj⟩ := Nat.exists_testBit_of_ne_zero h0
      obtain ⟨h60, ht⟩ := hv j hj
      have hj' : j < allOrders.length := by rw [orders_len]; exact h60
      have hp := h allOrders[j] (List.getElem_mem _)
      unfold partsAny at hp
      rw [List.any_eq_true] at hp
      obtain ⟨b, hb, hpt⟩ := hp
      obtain ⟨hb0, hbig⟩ := List.mem_filter.mp hb
      obtain ⟨b, hbn, rfl⟩ := List.mem_map.mp hb0
      obtain ⟨t, ht', rfl⟩ := List.mem_map.mp (bigs_tab b (List.mem_range.mpr (h32 b hbn)) hbig)
      have := valid_ok (allOrders[j], j) (by rw [List.mem_zipIdx_iff_getElem?]; exact List.getElem?_eq_getElem hj') t ht' (ht t ht' hbn)
      unfold partedM at hpt
      have hpt := of_decide_eq_true hpt
      exact absurd hpt (by have : stretches (marksOf ((t.1 : Nat) : Int) allOrders[j]) ≤ 1 := this; lia)
  obtain ⟨e, hw, he⟩ := srch_sound H tabS 5 (2 ^ 60 - 1) 0 srch_ok (fun t ht => ht) (fun y x z _ _ _ hb => by rw [Nat.zero_testBit] at hb; cases hb) (fun j hj => by
    rw [Nat.testBit_two_pow_sub_one] at hj
    exact ⟨of_decide_eq_true hj, fun t ht _ => .inl ht⟩) (by
    rw [← hl]
    exact nodup_len ns _ (tab_nodup.filter _) fun x hx => of_decide_eq_true (List.mem_filter.mp hx).2)
  exact three_sound hw he
noncomputable def leftOf (o : List Int) (y : Nat) : Nat := (o.takeWhile fun x => x != (y : Int)).foldl (fun m x => m ||| 2 ^ x.toNat) 0
theorem side_tab : ∀ o ∈ allOrders, ∀ b ∈ List.range 32, 2 ≤ stretches (marksOf (b : Int) o) ∨ ∀ y ∈ List.range 5, b.testBit y = true ∨ b &&& leftOf o y = b ∨ b &&& leftOf o y = 0 := by decide +kernel
theorem mid_tab : ∀ o ∈ allOrders, ∀ p ∈ triples, (leftOf o p.1).testBit p.2.1 ≠ (leftOf o p.1).testBit p.2.2 ∨ (leftOf o p.2.1).testBit p.1 ≠ (leftOf o p.2.1).testBit p.2.2 ∨ (leftOf o p.2.2).testBit p.1 ≠ (leftOf o p.2.2).testBit p.2.1 := by decide +kernel
theorem three_not {ns : List Nat} (h32 : ∀ b ∈ ns, b < 32) {o : List Int} (ho : o ∈ allOrders) (h : partsAny (ns.map fun (b : Nat) => (b : Int)) o = false) : threeOf (ns.map fun (b : Nat) => (b : Int)) = false := by
  have hs : ∀ y < 5, ∀ b ∈ ns, b.testBit y = false → OneSide (leftOf o y) b := fun y hy b hb hby => by
    have hle : ¬ 2 ≤ stretches (marksOf (b : Int) o) := fun hle => by
      unfold partsAny at h
      rw [List.any_eq_false] at h
      rcases (mask_tab o ho b (List.mem_range.mpr (h32 b hb))).2 with hbig | h1
      · exact h (b : Int) (List.mem_filter.mpr ⟨List.mem_map_of_mem hb, hbig⟩) (decide_eq_true hle)
      · lia
    rcases side_tab o ho b (List.mem_range.mpr (h32 b hb)) with h1 | h1
    · exact absurd h1 hle
    · rcases h1 y (List.mem_range.mpr hy) with h2 | h2 | h2
      · rw [hby] at h2; cases h2
      · refine .inl fun i hi => ?_
        rw [← h2, Nat.testBit_and, Bool.and_eq_true] at hi
        exact hi.2
      · refine .inr fun i hi => ?_
        have : (b &&& leftOf o y).testBit i = false := by rw [h2, Nat.zero_testBit]
        rw [Nat.testBit_and, hi] at this
        exact this
  cases q : threeOf (ns.map fun (b : Nat) => (b : Int)) with
  | false => rfl
  | true =>
    obtain ⟨p, hp, l1, l2, l3⟩ := (three_iff ns).mp q
    have h5 := triples_lt p hp
    rcases mid_tab o ho p hp with h1 | h1 | h1
    · exact absurd (l1.side (hs p.1 h5.1)) h1
    · exact absurd (l2.side (hs p.2.1 h5.2.1)) h1
    · exact absurd (l3.side (hs p.2.2 h5.2.2)) h1
theorem three_all {hs : List Int} (hh : Masks hs) (c : Int) : threeOf hs = decide (laidOf hs c = []) := by
  obtain ⟨hl, hb⟩ := hh
  have e : hs = (hs.map Int.toNat).map fun (b : Nat) => (b : Int) := by
    rw [List.map_map]
    refine (List.map_id hs).symm.trans (List.map_congr_left fun x hx => ?_)
    obtain ⟨b, _, rfl⟩ := hb x hx
    rfl
  have h32 : ∀ b ∈ hs.map Int.toNat, b < 32 := fun b hb' => by
    obtain ⟨x, hx, rfl⟩ := List.mem_map.mp hb'
    obtain ⟨b, h, rfl⟩ := hb x hx
    exact h
  have hl' : (hs.map Int.toNat).length = 5 := by rw [List.length_map, hl]
  generalize hs.map Int.toNat = ns at e h32 hl'
  subst e
  by_cases h0 : laidOf (ns.map fun (b : Nat) => (b : Int)) c = []
  · rw [decide_eq_true h0]
    exact three_of_none hl' h32 ((laid_all _ c).mp h0)
  · rw [decide_eq_false h0]
    exact three_not h32 (orderOf_mem _ c) ((laid_parts _ c).2 h0)
theorem plain (js : List Int) : Plain js := by
  obtain ⟨hl, hc⟩ := cells_bound js
  have hh := handsOf_masks hl
  have ho := orders_ok _ (orderOf_mem (handsOf (cellsOf js)) ((cellsOf js).getD 6 0))
  have h5 := entries_in5 (order := orderOf (handsOf (cellsOf js)) ((cellsOf js).getD 6 0)) hc ho.1 hh.1
  exact ⟨hl, octs_small h5 _, parse_bytes h5 _, fun i hi => guards_all ho.1 hh i hi, single_all _ hh _, three_all hh _⟩
end Mine
end
end
namespace Mine.main
def tw11156056980113079860 : Unit := ()
def tw1525882026095042805 : Unit := ()
def tw14510055921401542917 : Unit := ()
def tw12564604832814323664 : Unit := ()
def tw16826212616301561204 : Unit := ()
def tw10410412231051534670 : Unit := ()
def tw1061441046056639807 : Unit := ()
def tw9431090334080647435 : Unit := ()
def tw838615400304003986 : Unit := ()
def tw418385165871502715 : Unit := ()
def tw3535554277328711279 : Unit := ()
def tw17516193472806638330 : Unit := ()
def tw4816531377298285970 : Unit := ()
def tw4235993794536146220 : Unit := ()
def tw15869946155478371720 : Unit := ()
def tw16641786646906312760 : Unit := ()
def tw7153082081811710619 : Unit := ()
def tw2110754180369666209 : Unit := ()
def tw4044139247061151142 : Unit := ()
def tw4152749987461121259 : Unit := ()
def tw1118068078248606362 : Unit := ()
def tw3706830351922483016 : Unit := ()
def tw8561170505333791620 : Unit := ()
def tw10444660934056057700 : Unit := ()
def tw17292265741698999316 : Unit := ()
def tw12431561837914552411 : Unit := ()
def tw13642826006792871662 : Unit := ()
def tw16035907590883218939 : Unit := ()
def tw7293298908176781663 : Unit := ()
def tw12670839924663504800 : Unit := ()
def tw4650958065196391918 : Unit := ()
def tw1628013610222277130 : Unit := ()
def tw4585930131862741453 : Unit := ()
def tw961187720498965250 : Unit := ()
def tw11120327062377616369 : Unit := ()
def tw14788915703135433725 : Unit := ()
def tw1156462466702112376 : Unit := ()
def tw9756827057097773860 : Unit := ()
def tw1306636233014830658 : Unit := ()
def tw9986019674649008433 : Unit := ()
def tw10204856939554784155 : Unit := ()
def tw12900284412222446716 : Unit := ()
def tw3829396358689915599 : Unit := ()
def tw15513328568306737418 : Unit := ()
def tw17958375852430007124 : Unit := ()
def tw656089360051881306 : Unit := ()
def tw9361300454564663673 : Unit := ()
def tw18302796317244248524 : Unit := ()
def tw9381682351294752495 : Unit := ()
def tw11710404883906591787 : Unit := ()
def tw2714283472998740243 : Unit := ()
def tw11403851563620829512 : Unit := ()
def tw6511744376749373798 : Unit := ()
def tw10463206416058312583 : Unit := ()
def tw1099256609624015869 : Unit := ()
def tw16320729459185622934 : Unit := ()
def tw15734660467963936456 : Unit := ()
def tw750237026923860459 : Unit := ()
def tw2354262462317623899 : Unit := ()
def tw16965079339398995527 : Unit := ()
def tw14097447854668400296 : Unit := ()
def tw15017983477296125989 : Unit := ()
def tw14793117695081215449 : Unit := ()
def tw13350764725976880583 : Unit := ()
def tw16452447596832230105 : Unit := ()
def tw13591255225166038476 : Unit := ()
def tw2821470743931037460 : Unit := ()
def tw7436448052282571913 : Unit := ()
def tw2496676261509829067 : Unit := ()
def tw18315214858253571532 : Unit := ()
def tw6222487380544312443 : Unit := ()
def tw5243159528196176124 : Unit := ()
def tw2279707942289718827 : Unit := ()
def tw12361340156312767134 : Unit := ()
def tw302440914744352476 : Unit := ()
def tw1615956725737779560 : Unit := ()
def tw13348322127785295214 : Unit := ()
def tw13224007501803129859 : Unit := ()
def tw18234761425742761375 : Unit := ()
def tw11086099901593105684 : Unit := ()
def tw3532412968194664532 : Unit := ()
def tw14457758005677747962 : Unit := ()
def tw12922898485456448571 : Unit := ()
def tw6519269512792494810 : Unit := ()
def tw5571399437266216444 : Unit := ()
def tw146625434495716318 : Unit := ()
def tw4000297624352050223 : Unit := ()
def tw2852251193174398662 : Unit := ()
def tw16411370214107742406 : Unit := ()
def tw7093617532817203218 : Unit := ()
def tw15514936471743626214 : Unit := ()
def tw2921621734765799159 : Unit := ()
def tw773767117563974971 : Unit := ()
def tw1241764111160808401 : Unit := ()
def tw16436866848214144513 : Unit := ()
def tw17297283025540448806 : Unit := ()
def tw11857135199678951331 : Unit := ()
def tw8436210846270712021 : Unit := ()
def tw7380652910202371479 : Unit := ()
def tw8211959896082780389 : Unit := ()
def tw65644731488775911 : Unit := ()
def tw15270170921892066516 : Unit := ()
def tw5240779543111244032 : Unit := ()
def tw11485005889615345042 : Unit := ()
def tw8952462522180670554 : Unit := ()
def tw10234815189450012239 : Unit := ()
def tw5518243967957118194 : Unit := ()
def tw11181722664286889309 : Unit := ()
def tw9800874449034162761 : Unit := ()
def tw7332330508316399935 : Unit := ()
def tw16798622893749714585 : Unit := ()
def tw9268297945177815525 : Unit := ()
def tw8707812797481193996 : Unit := ()
def tw6696893160125735727 : Unit := ()
def tw15510692781650021527 : Unit := ()
def tw13724616953566380437 : Unit := ()
def tw2724176850512262202 : Unit := ()
def tw7698036289167662538 : Unit := ()
def tw1632041292262086317 : Unit := ()
def tw3562595001068472590 : Unit := ()
def tw4544244032028310869 : Unit := ()
def tw10750994468655217958 : Unit := ()
def tw9561784451562097942 : Unit := ()
def tw387501639795913443 : Unit := ()
def tw9656510801202774680 : Unit := ()
def tw1714950047550659301 : Unit := ()
def tw4039676971129161736 : Unit := ()
def tw12077450504624328385 : Unit := ()
def tw18418235949754561950 : Unit := ()
def tw14276552872853689276 : Unit := ()
def tw13777938177461255882 : Unit := ()
def tw6183352029847204284 : Unit := ()
def tw9190990891756207365 : Unit := ()
def tw2647654807098235363 : Unit := ()
def tw1270039299266317192 : Unit := ()
def tw4365514962571936147 : Unit := ()
def tw10114013102757674387 : Unit := ()
def tw11595355409239048105 : Unit := ()
def tw17057053908230417247 : Unit := ()
def tw4261964983698606537 : Unit := ()
def tw14009396871252706886 : Unit := ()
def tw17336282652733537790 : Unit := ()
def tw2007339730380871907 : Unit := ()
def tw10896356407431480244 : Unit := ()
def tw17403364634526059139 : Unit := ()
def tw16251939892948500945 : Unit := ()
def tw341453280667917650 : Unit := ()
def tw834873547066669988 : Unit := ()
def tw3027586509356016917 : Unit := ()
def tw17699438841360665129 : Unit := ()
def tw11962923498438245051 : Unit := ()
def tw9467819958616349556 : Unit := ()
def tw15554039934745177238 : Unit := ()
def tw31828345220925962 : Unit := ()
def tw5372645768047454471 : Unit := ()
def tw2566753976717531306 : Unit := ()
def tw1130211791997205004 : Unit := ()
def tw16187894506366716058 : Unit := ()
def tw765107192605250810 : Unit := ()
def tw3137596982192898869 : Unit := ()
def tw16952715711813285254 : Unit := ()
def tw10660814488641296832 : Unit := ()
def tw10665469846841522134 : Unit := ()
def tw1980160206288974728 : Unit := ()
def tw7590696779544312186 : Unit := ()
def tw8663697691656813868 : Unit := ()
def tw5585478044538960755 : Unit := ()
def tw2406621943657119228 : Unit := ()
def tw11982392923317675503 : Unit := ()
def tw9682133043923132273 : Unit := ()
def tw12483276189755474720 : Unit := ()
def tw12298629886278197574 : Unit := ()
def tw9840939614602229412 : Unit := ()
def tw8652556701797213591 : Unit := ()
def tw13626721169425172152 : Unit := ()
def tw2287757881348798766 : Unit := ()
def tw2906824675625879941 : Unit := ()
def tw8930851030842425676 : Unit := ()
def tw3905226178654972811 : Unit := ()
def tw3626430660855392483 : Unit := ()
def tw8947760058931562597 : Unit := ()
def tw15467891735981029475 : Unit := ()
def tw7268301785047649679 : Unit := ()
def tw14909365282108701170 : Unit := ()
def tw5665735395497279834 : Unit := ()
def tw4900431672193113347 : Unit := ()
def tw10609540516017602915 : Unit := ()
def tw16008457594558532635 : Unit := ()
def tw14161005256144132680 : Unit := ()
def tw10363585996791799541 : Unit := ()
def tw18063282731904131703 : Unit := ()
def tw16049902774474827687 : Unit := ()
def tw18031918436515192882 : Unit := ()
def tw15984706205718930553 : Unit := ()
def tw5613160597433933154 : Unit := ()
def tw18325589031809861271 : Unit := ()
def tw15768048840197415361 : Unit := ()
def tw17974016328880235120 : Unit := ()
def tw7113585516715319716 : Unit := ()
def tw16519101796099990279 : Unit := ()
def tw17679725944135375923 : Unit := ()
def tw10876375607700338302 : Unit := ()
def tw11554813239044494598 : Unit := ()
def tw8729708805864041840 : Unit := ()
def tw73751810991705359 : Unit := ()
def tw3627144658338631552 : Unit := ()
def tw11261727412033496967 : Unit := ()
def tw7074144079889050967 : Unit := ()
def tw4324958949535026087 : Unit := ()
def tw2895952525429962455 : Unit := ()
def tw17223442867436993403 : Unit := ()
def tw2729793432009153956 : Unit := ()
def tw1545906260438175962 : Unit := ()
def tw14439473939278146460 : Unit := ()
def tw13693970394777133609 : Unit := ()
def tw2583023086579268501 : Unit := ()
def tw15624239662980076321 : Unit := ()
def tw9069182735580402390 : Unit := ()
def tw15485851114877660061 : Unit := ()
def tw12343854547171428336 : Unit := ()
def tw14539993770535171780 : Unit := ()
def tw6545385358150927430 : Unit := ()
def tw5995161000843957690 : Unit := ()
def tw8905464785575363620 : Unit := ()
def tw4651154628705390771 : Unit := ()
def tw6418098437765475518 : Unit := ()
def tw5665406974723832613 : Unit := ()
def tw4126091431370883743 : Unit := ()
def tw14911211905192064255 : Unit := ()
def tw8079908401900000222 : Unit := ()
def tw52199770228462824 : Unit := ()
def tw10140136200207757160 : Unit := ()
def tw5160751907100791332 : Unit := ()
def tw14064073609400967072 : Unit := ()
def tw8557395850702784662 : Unit := ()
def tw2544328076492683441 : Unit := ()
def tw10924716458440934090 : Unit := ()
def tw4072190877284726289 : Unit := ()
def tw14672674291997333471 : Unit := ()
def tw3994622017586750766 : Unit := ()
def tw452746233719593009 : Unit := ()
def tw13402765919934010277 : Unit := ()
def tw9515011664573035354 : Unit := ()
def tw223528310411579522 : Unit := ()
def tw13962693860625380366 : Unit := ()
def tw8478376212529829071 : Unit := ()
def tw9808303207383738048 : Unit := ()
def tw15342904991969174519 : Unit := ()
def tw12273490649430754879 : Unit := ()
def tw7875838824674609581 : Unit := ()
def tw3394367416137920725 : Unit := ()
def tw15734200111481486640 : Unit := ()
def tw12702744160499308131 : Unit := ()
def tw16923884221124529275 : Unit := ()
def tw6044114016751833949 : Unit := ()
def tw9976160756891316704 : Unit := ()
def tw11544348965984651327 : Unit := ()
def tw66260789543402106 : Unit := ()
def tw2629084897520917108 : Unit := ()
def tw451873465583785326 : Unit := ()
def tw104360540948158410 : Unit := ()
def tw17715262827843222689 : Unit := ()
def tw13406003279186336099 : Unit := ()
def tw17767330081159143506 : Unit := ()
def tw10298723112805639129 : Unit := ()
end Mine.main
section
open PySem PySem.W PyProof.Rows PySem.Spec
set_option maxRecDepth 100000
set_option maxHeartbeats 8000000
theorem Mine.main : PySem.Challenge.rw_kl0449_01.Holds := by
  w_on; o_law; k_head; (case hw => w_witness2)
  w_strict (k_go0; (
  refine Mine.law_start (fun b o e => of_hideAll _ e) (Mine.SubK.in ?msub (by assumption)) (Mine.NoThird.of ?mst (by assumption)) (by assumption) (by assumption) (by assumption) (by assumption) (by assumption) (by assumption) rfl ⟨_, by assumption⟩ ⟨_, by assumption⟩ ⟨_, by assumption⟩ ⟨_, by assumption⟩ ⟨_, by assumption⟩ rfl rfl ?mlen (Mine.plain _) ?mQ
  case msub => exact rfl
  case mst => exact rfl
  case mlen => omega
  case mQ =>
    intro s' keep hg ho ex
    refine ⟨⟨.inl ⟨_, _, _, rfl, fun _ => rfl, .bool true, ?mpost, unshared_nil⟩, keep, ho, hg.trans (by assumption)⟩, ex, trivial⟩
    first | wrow_post | kc_post))
end
theorem PySem.Challenge.cw_kl0449_01_holds : PySem.Challenge.rw_kl0449_01.Holds := by
  exact Mine.main
