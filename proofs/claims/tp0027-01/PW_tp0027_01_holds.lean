import PyProof.Rows.All
import Wide.All
import OpenK.AllK
import Wide.FinOn
import PySem.Challenge.RW_tp0027_01
open PySem PySem.Calls PyProof.Rows
set_option Elab.async false
set_option maxRecDepth 100000
set_option linter.unusedVariables false
namespace Mine
-- C1

/-- plain data -/
inductive D where
  | none
  | bool (b : Bool)
  | int (i : Int)
  | flt (x : UInt64)
  | nzf (x : UInt64)
  | str (s : Str)
  | byt (b : Array UInt8)
  | list (ds : List D)
  | tup (ds : List D)
  | rng (n : Nat)
  | hdr (hs : List (Str × Str))
  | val (v : Value)
  | inst (l : Addr)
  | mat (b : Array UInt8) (P : Addr) (sp : List Int)

/-- a part of a heap that stays as it is -/
abbrev Part := Addr → Option Obj

/-- the world of the walk: its program, what its top has bound, the written part, the class of headers -/
structure Wd where
  prog : Program
  w : World
  K : W.Frag
  mg : Str → Option Value
  mb : Str → Option Value
  C : Addr

structure Base (W : Wd) (h : Heap) : Prop where
  nolimit : h.NoLimit
  g : h.Ns mainGlobals W.mg
  b : h.Ns builtinsNs W.mb
  kin : W.K.In h

theorem Base.keeps {W : Wd} {h h' : Heap} (x : Base W h) (k : ∀ b o, h.get? b = some o → h'.get? b = some o) : Base W h' :=
  ⟨x.nolimit.keeps k, x.g.keeps k, x.b.keeps k, fun a o e => k a o (x.kin a o e)⟩

mutual
inductive Den (C : Addr) (G : Part) : Value → D → Prop
  | none : Den C G .none .none
  | bool (b : Bool) : Den C G (.bool b) (.bool b)
  | int (i : Int) (t : Tok) : Den C G (.int i t) (.int i)
  | flt (x : UInt64) (t : Tok) : Den C G (.float x t) (.flt x)
  | nzf (x : UInt64) (t : Tok) : (t == 0) = false → Den C G (.float x t) (.nzf x)
  | str (x : Str) (t : Tok) : Den C G (.str x t) (.str x)
  | byt (b : Array UInt8) (t : Tok) : Den C G (.bytes b t) (.byt b)
  | list {a : Addr} {o : Obj} {n : Nat} {vs : List Value} {ds : List D} : G a = some o → o.cls = .type "list" → o.data = .seq vs.toArray n → DenAll C G vs ds → Den C G (.ref a) (.list ds)
  | tup {a : Addr} {n : Nat} {vs : List Value} {ds : List D} : G a = some { cls := .type "tuple", data := .seq vs.toArray n } → DenAll C G vs ds → Den C G (.ref a) (.tup ds)
  | val (v : Value) : Den C G v (.val v)
  | rng {a : Addr} {n : Nat} {t u v : Tok} : G a = some { cls := .type "range", data := .fields #[.int 0 t, .int n u, .int 1 v] } → Den C G (.ref a) (.rng n)
  | inst {a dx l : Addr} {e : DictEntry} {n : Nat} {t : Tok} : G a = some (W.instObj C dx) → G dx = some (W.dictOf [e] n) → e.key = .str (Str.ofString "_headers") t → e.val = .ref l → Den C G (.ref a) (.inst l)
  | hdr {v : Value} {l : Addr} {o : Obj} {n : Nat} {vs : List Value} {hs : List (Str × Str)} : Den C G v (.inst l) → G l = some o → o.cls = .type "list" → o.data = .seq vs.toArray n → DenAll C G vs (hs.map fun p => .tup [.str p.1, .str p.2]) → Den C G v (.hdr hs)
  | mat {a l P : Addr} {b : Array UInt8} {t : Tok} {p q i : Int} {n : Nat} {sp : List Int} : G a = some { cls := .type "re.Match", data := .fields #[.bytes b t, .ref P, rawInt p, rawInt q, rawInt i, .ref l] } →
      G l = some { cls := .type "tuple", data := .seq (sp.map rawInt).toArray n } → Den C G (.ref a) (.mat b P sp)
inductive DenAll (C : Addr) (G : Part) : List Value → List D → Prop
  | nil : DenAll C G [] []
  | cons {v : Value} {vs : List Value} {d : D} {ds : List D} : Den C G v d → DenAll C G vs ds → DenAll C G (v :: vs) (d :: ds)
end

/-- what a datum tells of its value -/
def DenInv (C : Addr) (G : Part) (v : Value) : D → Prop
  | .none => v = .none
  | .bool b => v = .bool b
  | .int i => ∃ t, v = .int i t
  | .flt x => ∃ t, v = .float x t
  | .nzf x => ∃ t, v = .float x t ∧ (t == 0) = false
  | .str x => ∃ t, v = .str x t
  | .byt b => ∃ t, v = .bytes b t
  | .list ds => ∃ a o n vs, v = .ref a ∧ G a = some o ∧ o.cls = .type "list" ∧ o.data = .seq vs.toArray n ∧ DenAll C G vs ds
  | .tup ds => ∃ a n vs, v = .ref a ∧ G a = some { cls := .type "tuple", data := .seq vs.toArray n } ∧ DenAll C G vs ds
  | .rng n => ∃ a t u x, v = .ref a ∧ G a = some { cls := .type "range", data := .fields #[.int 0 t, .int n u, .int 1 x] }
  | .hdr hs => ∃ l o n vs, Den C G v (.inst l) ∧ G l = some o ∧ o.cls = .type "list" ∧ o.data = .seq vs.toArray n ∧ DenAll C G vs (hs.map fun p => .tup [.str p.1, .str p.2])
  | .val w => v = w
  | .inst l => ∃ a dx e n t, v = .ref a ∧ G a = some (W.instObj C dx) ∧ G dx = some (W.dictOf [e] n) ∧ e.key = .str (Str.ofString "_headers") t ∧ e.val = .ref l
  | .mat b P sp => ∃ a l t p q i n, v = .ref a ∧ G a = some { cls := .type "re.Match", data := .fields #[.bytes b t, .ref P, rawInt p, rawInt q, rawInt i, .ref l] } ∧ G l = some { cls := .type "tuple", data := .seq (sp.map rawInt).toArray n }
theorem Den.inv {C : Addr} {G : Part} {v : Value} {d : D} (h : Den C G v d) : DenInv C G v d := by
  cases h with
  | none => exact rfl
  | bool b => exact rfl
  | int i t => exact ⟨t, rfl⟩
  | flt x t => exact ⟨t, rfl⟩
  | nzf x t h => exact ⟨t, rfl, h⟩
  | str x t => exact ⟨t, rfl⟩
  | byt b t => exact ⟨t, rfl⟩
  | list e c d r => exact ⟨_, _, _, _, rfl, e, c, d, r⟩
  | tup e r => exact ⟨_, _, _, rfl, e, r⟩
  | val v => exact rfl
  | rng e => exact ⟨_, _, _, _, rfl, e⟩
  | inst e1 e2 e3 e4 => exact ⟨_, _, _, _, _, rfl, e1, e2, e3, e4⟩
  | hdr e1 e2 e3 e4 r => exact ⟨_, _, _, _, e1, e2, e3, e4, r⟩
  | mat e1 e2 => exact ⟨_, _, _, _, _, _, _, rfl, e1, e2⟩
theorem DenAll.nil_inv {C : Addr} {G : Part} {vs : List Value} (h : DenAll C G vs []) : vs = [] := by
  cases h; rfl
theorem DenAll.cons_inv {C : Addr} {G : Part} {vs : List Value} {d : D} {ds : List D} (h : DenAll C G vs (d :: ds)) : ∃ v ws, vs = v :: ws ∧ Den C G v d ∧ DenAll C G ws ds := by
  cases h with
  | cons h r => exact ⟨_, _, rfl, h, r⟩
theorem DenAll.one {C : Addr} {G : Part} {vs : List Value} {d : D} (h : DenAll C G vs [d]) : ∃ v, vs = [v] ∧ Den C G v d := by
  obtain ⟨v, ws, rfl, h1, r⟩ := h.cons_inv
  obtain rfl := r.nil_inv
  exact ⟨v, rfl, h1⟩
theorem DenAll.two {C : Addr} {G : Part} {vs : List Value} {d e : D} (h : DenAll C G vs [d, e]) : ∃ v w, vs = [v, w] ∧ Den C G v d ∧ Den C G w e := by
  obtain ⟨v, ws, rfl, h1, r⟩ := h.cons_inv
  obtain ⟨w, rfl, h2⟩ := r.one
  exact ⟨v, w, rfl, h1, h2⟩
theorem DenAll.three {C : Addr} {G : Part} {vs : List Value} {d e f : D} (h : DenAll C G vs [d, e, f]) : ∃ u v w, vs = [u, v, w] ∧ Den C G u d ∧ Den C G v e ∧ Den C G w f := by
  obtain ⟨v, ws, rfl, h1, r⟩ := h.cons_inv
  obtain ⟨w, x, rfl, h2, h3⟩ := r.two
  exact ⟨v, w, x, rfl, h1, h2, h3⟩

theorem Den.mono {C : Addr} {G G' : Part} (k : ∀ b o, G b = some o → G' b = some o) {v : Value} {d : D} (h : Den C G v d) : Den C G' v d :=
  Den.rec (motive_1 := fun v d _ => Den C G' v d) (motive_2 := fun vs ds _ => DenAll C G' vs ds) .none .bool .int .flt .nzf .str .byt (fun e c d _ r => .list (k _ _ e) c d r) (fun e _ r => .tup (k _ _ e) r) .val (fun e => .rng (k _ _ e))
    (fun e1 e2 e3 e4 => .inst (k _ _ e1) (k _ _ e2) e3 e4) (fun _ e5 e6 e7 _ e1 r => .hdr e1 (k _ _ e5) e6 e7 r) (fun e1 e2 => .mat (k _ _ e1) (k _ _ e2)) .nil (fun _ _ a r => .cons a r) h
theorem DenAll.mono {C : Addr} {G G' : Part} (k : ∀ b o, G b = some o → G' b = some o) {vs : List Value} {ds : List D} (h : DenAll C G vs ds) : DenAll C G' vs ds := by
  induction ds generalizing vs with
  | nil => obtain rfl := h.nil_inv; exact .nil
  | cons d ds ih => obtain ⟨_, _, rfl, a, r⟩ := h.cons_inv; exact .cons (a.mono k) (ih r)
section
variable {C : Addr} {G : Part} {vs ws : List Value} {ds es : List D}
theorem DenAll.append (h : DenAll C G vs ds) (h' : DenAll C G ws es) : DenAll C G (vs ++ ws) (ds ++ es) := by
  induction ds generalizing vs with
  | nil => obtain rfl := h.nil_inv; exact h'
  | cons d ds ih => obtain ⟨_, _, rfl, a, r⟩ := h.cons_inv; exact .cons a (ih r)
theorem DenAll.length (h : DenAll C G vs ds) : vs.length = ds.length := by
  induction ds generalizing vs with
  | nil => obtain rfl := h.nil_inv; rfl
  | cons d ds ih => obtain ⟨_, _, rfl, a, r⟩ := h.cons_inv; exact congrArg (· + 1) (ih r)
theorem DenAll.at (h : DenAll C G vs ds) {i : Nat} {v : Value} (e : vs[i]? = some v) : ∃ d, ds[i]? = some d ∧ Den C G v d := by
  induction ds generalizing vs i with
  | nil => obtain rfl := h.nil_inv; cases e
  | cons d ds ih =>
    obtain ⟨_, _, rfl, a, r⟩ := h.cons_inv
    cases i with
    | zero => cases e; exact ⟨_, rfl, a⟩
    | succ i => exact ih r e
theorem DenAll.get (h : DenAll C G vs ds) {i : Nat} {d : D} (e : ds[i]? = some d) : ∃ v, vs[i]? = some v ∧ Den C G v d := by
  have hl : i < vs.length := by rw [h.length]; exact (List.getElem?_eq_some_iff.mp e).1
  obtain ⟨d', e', a⟩ := h.at (List.getElem?_eq_getElem hl)
  rw [e] at e'
  cases e'
  exact ⟨_, List.getElem?_eq_getElem hl, a⟩
end

/-- growth: nothing that stood is changed; what is new in the part is new in the heap -/
structure Gr (s : Shared) (G : Part) (s' : Shared) (G' : Part) : Prop where
  same : ∃ h' tk, s' = { s with heap := h', toks := tk }
  keep : ∀ b o, s.heap.get? b = some o → s'.heap.get? b = some o
  ext : ∀ b o, G b = some o → G' b = some o
  sub : ∀ b o, G' b = some o → s'.heap.get? b = some o
  new : ∀ b o, G' b = some o → G b = some o ∨ s.heap.get? b = none

theorem Gr.refl {s : Shared} {G : Part} (h : ∀ b o, G b = some o → s.heap.get? b = some o) : Gr s G s G :=
  ⟨⟨s.heap, s.toks, rfl⟩, fun _ _ e => e, fun _ _ e => e, h, fun _ _ e => .inl e⟩
theorem get_none {h h' : Heap} (k : ∀ b o, h.get? b = some o → h'.get? b = some o) {b : Addr} (e : h'.get? b = none) : h.get? b = none := by
  cases q : h.get? b with
  | none => rfl
  | some o => rw [k b o q] at e; cases e
theorem Gr.trans {s s' s'' : Shared} {G G' G'' : Part} (x : Gr s G s' G') (y : Gr s' G' s'' G'') : Gr s G s'' G'' := by
  refine ⟨?_, fun b o e => y.keep b o (x.keep b o e), fun b o e => y.ext b o (x.ext b o e), y.sub, fun b o e => ?_⟩
  · obtain ⟨h, t, rfl⟩ := x.same
    obtain ⟨h', t', rfl⟩ := y.same
    exact ⟨h', t', rfl⟩
  · rcases y.new b o e with q | q
    · exact x.new b o q
    · exact .inr (get_none x.keep q)
theorem Gr.tok {s s' : Shared} {G G' : Part} (x : Gr s G s' G') (t : Nat) : Gr s G { s' with toks := t } G' := by
  obtain ⟨h, t', rfl⟩ := x.same
  exact ⟨⟨h, t, rfl⟩, x.keep, x.ext, x.sub, x.new⟩
/-- the heap grows by what the part does not name -/
theorem Gr.heap {s : Shared} {G : Part} (hs : ∀ b o, G b = some o → s.heap.get? b = some o) {h' : Heap} {t : Nat} (k : ∀ b o, s.heap.get? b = some o → h'.get? b = some o) : Gr s G { s with heap := h', toks := t } G :=
  ⟨⟨h', t, rfl⟩, k, fun _ _ e => e, fun b o e => k b o (hs b o e), fun _ _ e => .inl e⟩
/-- one new object is named -/
def put (G : Part) (a : Addr) (o : Obj) : Part := fun b => if b = a then some o else G b
theorem put_self (G : Part) (a : Addr) (o : Obj) : put G a o a = some o := if_pos rfl
theorem put_ext {G : Part} {a : Addr} {o : Obj} (h : G a = none) : ∀ b p, G b = some p → put G a o b = some p := fun b p e => by
  unfold put
  by_cases q : b = a
  · subst q; rw [h] at e; cases e
  · rw [if_neg q]; exact e
theorem Gr.put {s : Shared} {G : Part} (hs : ∀ b o, G b = some o → s.heap.get? b = some o) {h' : Heap} {t : Nat} (k : ∀ b o, s.heap.get? b = some o → h'.get? b = some o) {a : Addr} {o : Obj} (hn : s.heap.get? a = none) (ha : h'.get? a = some o) :
    Gr s G { s with heap := h', toks := t } (put G a o) := by
  have hG : G a = none := by
    cases q : G a with
    | none => rfl
    | some p => rw [hs a p q] at hn; cases hn
  refine ⟨⟨h', t, rfl⟩, k, put_ext hG, fun b p e => ?_, fun b p e => ?_⟩
  · unfold Mine.put at e
    by_cases q : b = a
    · subst q; rw [if_pos rfl] at e; cases e; exact ha
    · rw [if_neg q] at e; exact k b p (hs b p e)
  · unfold Mine.put at e
    by_cases q : b = a
    · subst q; exact .inr hn
    · rw [if_neg q] at e; exact .inl e

/-- room for k calls more -/
structure OkA (k : Nat) (A : Around) : Prop where
  handled : A.handled = none
  depth : A.depth + k < recursionLimit
  units : A.units + 10 * k < 9000
theorem OkA.deeper {k : Nat} {A : Around} (x : OkA (k + 1) A) (env : Env) : OkA k (A.deeper env) :=
  ⟨x.handled, by show A.depth + 1 + k < _; have := x.depth; omega, by show A.units + 3 + 10 * k < _; have := x.units; omega⟩
theorem OkA.le {k j : Nat} {A : Around} (x : OkA k A) (h : j ≤ k) : OkA j A := ⟨x.handled, by have := x.depth; omega, by have := x.units; omega⟩

abbrev nay : Value → Shared → Prop := fun _ _ => False
abbrev Md (W : Wd) : Model := model W.prog W.w

/-- what a value tree hands on -/
abbrev Gives (W : Wd) (s : Shared) (G : Part) (d : D) : Value → Shared → Prop := fun v s' => ∃ G', Gr s G s' G' ∧ Den W.C G' v d

structure VarAt (W : Wd) (env : Env) (h : Heap) (G : Part) (x : Str) (d : D) : Prop where
  is : (env.scope.names.lookup x = some .local ∧ ∃ m v, h.Ns env.locals m ∧ m x = some v ∧ Den W.C G v d) ∨
    ((env.scope.names.lookup x = some .cell ∨ env.scope.names.lookup x = some .free) ∧ ∃ c v, env.cells.lookup x = some c ∧ h.IsCell c (some v) ∧ Den W.C G v d)

structure EnvOk (W : Wd) (names : List (Str × NameKind)) (ρ : List (Str × D)) (env : Env) (s : Shared) (G : Part) : Prop where
  kind : env.scope.kind = .function
  names : env.scope.names = names
  globals : env.globals = mainGlobals
  builtins : env.builtins = builtinsNs
  base : Base W s.heap
  sub : ∀ b o, G b = some o → s.heap.get? b = some o
  vars : ∀ x d, ρ.lookup x = some d → VarAt W env s.heap G x d

theorem VarAt.grow {W : Wd} {env : Env} {s s' : Shared} {G G' : Part} {x : Str} {d : D} (v : VarAt W env s.heap G x d) (g : Gr s G s' G') : VarAt W env s'.heap G' x d :=
  ⟨v.is.imp (fun ⟨l, m, v, n, e, q⟩ => ⟨l, m, v, n.keeps g.keep, e, q.mono g.ext⟩) fun ⟨l, c, v, n, e, q⟩ => ⟨l, c, v, n, e.keeps g.keep, q.mono g.ext⟩⟩
theorem EnvOk.grow {W : Wd} {names : List (Str × NameKind)} {ρ : List (Str × D)} {env : Env} {s s' : Shared} {G G' : Part} (x : EnvOk W names ρ env s G) (g : Gr s G s' G') : EnvOk W names ρ env s' G' :=
  ⟨x.kind, x.names, x.globals, x.builtins, x.base.keeps g.keep, g.sub, fun y d e => (x.vars y d e).grow g⟩

/-- an expression's datum -/
def Ev (W : Wd) (k : Nat) (names : List (Str × NameKind)) (ρ : List (Str × D)) (e : Expr) (d : D) : Prop :=
  ∀ A env s G, OkA k A → EnvOk W names ρ env s G → wpAny (Md W) A (eval e env) (Gives W s G d) nay s

theorem wpAny_nay {α : Type} {M : Model} {A : Around} {t : Sem α} {Q Q' : α → Shared → Prop} {E : Value → Shared → Prop} {s : Shared} (h : wpAny M A t Q nay s) (hQ : ∀ a s', Q a s' → Q' a s') : wpAny M A t Q' E s :=
  wpAny_mono h hQ fun _ _ f => f.elim

section
variable {W : Wd} {k : Nat} {names : List (Str × NameKind)} {ρ : List (Str × D)}

theorem Ev.name {x : Str} {p : Pos} {d : D} (h : ρ.lookup x = some d) (hd : (x == ("__debug__" : Str)) = false := by decide) (hc : (x == ("__classdict__" : Str)) = false := by decide) : Ev W k names ρ (.Name x p) d := by
  intro A env s G hA hE
  rcases (hE.vars x d h).is with ⟨l, m, v, n, e, q⟩ | ⟨l, c, v, n, e, q⟩
  · exact wpAny_Name (wpAny_loadName_local hE.kind l n e ⟨G, Gr.refl hE.sub, q⟩) hd
  · rcases l with l | l
    · exact wpAny_Name (wpAny_loadName_cell hE.kind l n e ⟨G, Gr.refl hE.sub, q⟩) hd
    · exact wpAny_Name (wpAny_loadName_free hE.kind l n e ⟨G, Gr.refl hE.sub, q⟩ hc) hd

theorem Ev.int {i : Int} {n : Nat} {p : Pos} : Ev W k names ρ (.Constant (.int i) n p) (.int i) := by
  intro A env s G hA hE
  exact wpAny_Constant_int ⟨G, (Gr.refl hE.sub).tok _, .int _ _⟩

/-- a binary operation upon two data -/
def Bin (W : Wd) (k : Nat) (op : Operator) (a b d : D) : Prop :=
  ∀ A s G u v, OkA k A → Base W s.heap → (∀ b o, G b = some o → s.heap.get? b = some o) → Den W.C G u a → Den W.C G v b → wpAny (Md W) A (binaryOp op u v) (Gives W s G d) nay s

theorem Ev.bin {l r : Expr} {op : Operator} {p : Pos} {a b d : D} (hl : Ev W k names ρ l a) (hr : Ev W k names ρ r b) (ho : Bin W k op a b d) : Ev W k names ρ (.BinOp l op r p) d := by
  intro A env s G hA hE
  refine wpAny_BinOp (wpAny_nay (hl A env s G hA hE) fun u s1 ⟨G1, g1, d1⟩ => ?_)
  refine wpAny_nay (hr A env s1 G1 hA (hE.grow g1)) fun v s2 ⟨G2, g2, d2⟩ => ?_
  refine wpAny_nay (ho A s2 G2 u v hA ((hE.grow g1).grow g2).base g2.sub (d1.mono g2.ext) d2) fun r s3 ⟨G3, g3, d3⟩ => ?_
  exact ⟨G3, (g1.trans g2).trans g3, d3⟩
end
-- C2
section
variable {W : Wd} {k : Nat} {names : List (Str × NameKind)} {ρ : List (Str × D)}

theorem line_small {n : Nat} (h : n ≤ 1000) : n ≤ sizeLine := by
  show n ≤ 2 ^ 24
  omega

theorem Ev.str {x : Str} {n : Nat} {p : Pos} : Ev W k names ρ (.Constant (.str x) n p) (.str x) := by
  intro A env s G hA hE
  exact wpAny_Constant_str ⟨G, (Gr.refl hE.sub).tok _, .str _ _⟩
theorem Ev.flt {x : UInt64} {n : Nat} {p : Pos} : Ev W k names ρ (.Constant (.float x) n p) (.flt x) := by
  intro A env s G hA hE
  exact PySem.wpAny_Constant_float ⟨G, (Gr.refl hE.sub).tok _, .flt _ _⟩
theorem Ev.none {n : Nat} {p : Pos} : Ev W k names ρ (.Constant .none n p) .none := by
  intro A env s G hA hE
  exact wpAny_Constant_none ⟨G, Gr.refl hE.sub, .none⟩
theorem Ev.bool {b : Bool} {n : Nat} {p : Pos} : Ev W k names ρ (.Constant (.bool b) n p) (.bool b) := by
  intro A env s G hA hE
  exact wpAny_Constant_bool ⟨G, Gr.refl hE.sub, .bool b⟩
theorem Ev.byt {x : List UInt8} {n : Nat} {p : Pos} : Ev W k names ρ (.Constant (.bytes x) n p) (.byt x.toArray) := by
  intro A env s G hA hE
  show wpAny _ _ (constValue env (.bytes x)) _ _ _
  have : constValue env (.bytes x) = (do return Value.bytes x.toArray (← fresh)) := rfl
  rw [this]
  exact wpAny_bind (wpAny_fresh (wpAny_pure ⟨G, (Gr.refl hE.sub).tok _, .byt _ _⟩))

/-- the arguments of a call, the items of a display -/
def EvAll (W : Wd) (k : Nat) (names : List (Str × NameKind)) (ρ : List (Str × D)) (es : List Expr) (ds : List D) : Prop :=
  ∀ A env s G pos, OkA k A → EnvOk W names ρ env s G → wpAny (Md W) A (spliced (backTo pos (starEach es env))) (fun vs s' => ∃ G', Gr s G s' G' ∧ DenAll W.C G' vs ds) nay s
theorem EvAll.nil : EvAll W k names ρ [] [] := by
  intro A env s G pos hA hE
  exact args_nil ⟨G, Gr.refl hE.sub, .nil⟩
theorem EvAll.cons {e : Expr} {es : List Expr} {d : D} {ds : List D} (h : Ev W k names ρ e d) (r : EvAll W k names ρ es ds) (he : ∀ env, starEach (e :: es) env = (false, eval e env) :: starEach es env := by intro _; rfl) : EvAll W k names ρ (e :: es) (d :: ds) := by
  intro A env s G pos hA hE
  refine args_cons (wpAny_nay (h A env s G hA hE) fun v s1 ⟨G1, g1, d1⟩ => ?_) (he env)
  refine wpAny_nay (r A env s1 G1 pos hA (hE.grow g1)) fun vs s2 ⟨G2, g2, d2⟩ => ?_
  exact ⟨G2, g1.trans g2, .cons (d1.mono g2.ext) d2⟩

theorem new_none {h : Heap} : h.get? h.objs.size = none := Heap.get?_none_of_le (Nat.le_refl _)
theorem gr_new {s : Shared} {G : Part} (hs : ∀ b o, G b = some o → s.heap.get? b = some o) {o : Obj} (hf : o.isFreed = false) : Gr s G { s with heap := s.heap.push o } (put G s.heap.objs.size o) :=
  Gr.put (t := s.toks) hs (fun _ _ e => Heap.get?_push_of_some _ e) new_none (Heap.get?_push_size _ hf)

theorem mk_list {s : Shared} {G : Part} {A : Around} {vs : List Value} {ds : List D} (hs : ∀ b o, G b = some o → s.heap.get? b = some o) (hd : DenAll W.C G vs ds) (hn : ds.length ≤ 1000) : wpAny (Md W) A (newList vs) (Gives W s G (.list ds)) nay s := by
  refine wpAny_newList ?_ (line_small (by rw [hd.length]; exact hn))
  have g := gr_new hs (o := { cls := .type "list", data := .seq vs.toArray }) rfl
  exact ⟨_, g, .list (put_self ..) rfl rfl (hd.mono g.ext)⟩
theorem mk_tup {s : Shared} {G : Part} {A : Around} {vs : List Value} {ds : List D} (hs : ∀ b o, G b = some o → s.heap.get? b = some o) (hd : DenAll W.C G vs ds) (hn : ds.length ≤ 1000) : wpAny (Md W) A (newTuple vs) (Gives W s G (.tup ds)) nay s := by
  refine wpAny_newTuple ?_ (line_small (by rw [hd.length]; exact hn))
  have g := gr_new hs (o := { cls := .type "tuple", data := .seq vs.toArray }) rfl
  exact ⟨_, g, .tup (put_self ..) (hd.mono g.ext)⟩

theorem Ev.list {es : List Expr} {ds : List D} {p : Pos} (h : EvAll W k names ρ es ds) (hn : ds.length ≤ 1000 := by decide) : Ev W k names ρ (.List es p) (.list ds) := by
  intro A env s G hA hE
  refine List_ (wpAny_nay (h A env s G p hA hE) fun vs s1 ⟨G1, g1, d1⟩ => ?_)
  exact wpAny_nay (mk_list g1.sub d1 hn) fun v s2 ⟨G2, g2, d2⟩ => ⟨G2, g1.trans g2, d2⟩
theorem Ev.tup {es : List Expr} {ds : List D} {n : Nat} {p : Pos} (h : EvAll W k names ρ es ds) (hn : ds.length ≤ 1000 := by decide) : Ev W k names ρ (.Tuple es n p) (.tup ds) := by
  intro A env s G hA hE
  refine Tuple_ (wpAny_nay (h A env s G p hA hE) fun vs s1 ⟨G1, g1, d1⟩ => ?_)
  exact wpAny_nay (mk_tup g1.sub d1 hn) fun v s2 ⟨G2, g2, d2⟩ => ⟨G2, g1.trans g2, d2⟩

/-- a comparison of two data -/
def Cmp (W : Wd) (k : Nat) (op : CmpOp) (a b : D) (c : Bool) : Prop :=
  ∀ A s G u v, OkA k A → Base W s.heap → (∀ b o, G b = some o → s.heap.get? b = some o) → Den W.C G u a → Den W.C G v b → wpAny (Md W) A (compareOp op u v) (Gives W s G (.bool c)) nay s
theorem Ev.cmp {l r : Expr} {op : CmpOp} {p : Pos} {a b : D} {c : Bool} (hl : Ev W k names ρ l a) (hr : Ev W k names ρ r b) (ho : Cmp W k op a b c) (hm : behindInMarks op r = false := by with_unfolding_all rfl) : Ev W k names ρ (.Compare l [op] [r] p) (.bool c) := by
  intro A env s G hA hE
  refine wpAny_Compare1 (wpAny_nay (hl A env s G hA hE) fun u s1 ⟨G1, g1, d1⟩ => ?_) hm
  refine wpAny_nay (hr A env s1 G1 hA (hE.grow g1)) fun v s2 ⟨G2, g2, d2⟩ => ?_
  refine wpAny_nay (ho A s2 G2 u v hA ((hE.grow g1).grow g2).base g2.sub (d1.mono g2.ext) d2) fun r s3 ⟨G3, g3, d3⟩ => ?_
  exact ⟨G3, (g1.trans g2).trans g3, d3⟩
/-- a chain of two comparisons -/
theorem Ev.cmp2 {l r q : Expr} {op op' : CmpOp} {p : Pos} {a b e : D} {c c' : Bool} (hl : Ev W k names ρ l a) (hr : Ev W k names ρ r b) (hq : Ev W k names ρ q e) (ho : Cmp W k op a b c) (ho' : Cmp W k op' b e c')
    (hm : lastMarks (op :: op' :: []) (r :: q :: []) = false := by with_unfolding_all rfl) : Ev W k names ρ (.Compare l [op, op'] [r, q] p) (.bool (c && c')) := by
  intro A env s G hA hE
  refine Compare_chain (wpAny_nay (hl A env s G hA hE) fun u s1 ⟨G1, g1, d1⟩ => ?_) hm
  refine chain_link (wpAny_nay (hr A env s1 G1 hA (hE.grow g1)) fun v s2 ⟨G2, g2, d2⟩ => ?_)
  refine wpAny_nay (ho A s2 G2 u v hA ((hE.grow g1).grow g2).base g2.sub (d1.mono g2.ext) d2) fun r1 s3 ⟨G3, g3, d3⟩ => ?_
  obtain rfl := d3.inv
  refine wpAny_truthy_bool ?_
  have g := (g1.trans g2).trans g3
  cases c with
  | false => exact ⟨G3, g, .bool false⟩
  | true =>
    refine chain_last (wpAny_nay (hq A env s3 G3 hA (hE.grow g)) fun y s4 ⟨G4, g4, d4⟩ => ?_)
    refine wpAny_nay (ho' A s4 G4 v y hA ((hE.grow g).grow g4).base g4.sub ((d2.mono g3.ext).mono g4.ext) d4) fun r s5 ⟨G5, g5, d5⟩ => ?_
    exact ⟨G5, (g.trans g4).trans g5, d5⟩

/-- a test -/
def Test (W : Wd) (k : Nat) (names : List (Str × NameKind)) (ρ : List (Str × D)) (e : Expr) (c : Bool) : Prop :=
  ∀ A env s G, OkA k A → EnvOk W names ρ env s G → wpAny (Md W) A (isTrue e env (eval e env)) (fun b s' => b = c ∧ ∃ G', Gr s G s' G') nay s
theorem Test.cmp {l r : Expr} {op : CmpOp} {p : Pos} {a b : D} {c : Bool} (hl : Ev W k names ρ l a) (hr : Ev W k names ρ r b) (ho : Cmp W k op a b c) (hm : behindInMarks op r = false := by with_unfolding_all rfl) : Test W k names ρ (.Compare l [op] [r] p) c := by
  intro A env s G hA hE
  refine wpAny_isTrue_Compare1 (wpAny_nay (hl A env s G hA hE) fun u s1 ⟨G1, g1, d1⟩ => ?_) hm
  refine wpAny_nay (hr A env s1 G1 hA (hE.grow g1)) fun v s2 ⟨G2, g2, d2⟩ => ?_
  refine wpAny_nay (ho A s2 G2 u v hA ((hE.grow g1).grow g2).base g2.sub (d1.mono g2.ext) d2) fun r s3 ⟨G3, g3, d3⟩ => ?_
  obtain rfl := d3.inv
  exact wpAny_truthy_bool ⟨rfl, G3, (g1.trans g2).trans g3⟩
/-- a test of a plain value -/
def Tru (W : Wd) (k : Nat) (a : D) (c : Bool) : Prop :=
  ∀ A s G u, OkA k A → Base W s.heap → (∀ b o, G b = some o → s.heap.get? b = some o) → Den W.C G u a → wpAny (Md W) A (truthy u) (fun b s' => b = c ∧ ∃ G', Gr s G s' G') nay s
theorem Tru.bool {b : Bool} : Tru W k (.bool b) b := by
  intro A s G u hA hB hs hd
  cases hd
  exact wpAny_truthy_bool ⟨rfl, G, Gr.refl hs⟩
theorem Test.plain {e : Expr} {a : D} {c : Bool} (h : Ev W k names ρ e a) (ht : Tru W k a c) (he : ∀ env whole, isTrue e env whole = (do let v ← whole; standAt e.pos; holding [v] (truthy v)) := by intro _ _; rfl) : Test W k names ρ e c := by
  intro A env s G hA hE
  refine isTrue_plain (wpAny_nay (h A env s G hA hE) fun v s1 ⟨G1, g1, d1⟩ => ?_) (he env _)
  exact wpAny_nay (ht A s1 G1 v hA (hE.grow g1).base g1.sub d1) fun b s2 ⟨e, G2, g2⟩ => ⟨e, G2, g1.trans g2⟩
theorem Test.or {a b : Expr} {p : Pos} {c c' : Bool} (ha : Test W k names ρ a c) (hb : Test W k names ρ b c') : Test W k names ρ (.BoolOp .Or [a, b] p) (c || c') := by
  intro A env s G hA hE
  refine isTrue_or (wpAny_nay (ha A env s G hA hE) fun x s1 ⟨e, G1, g1⟩ => ?_)
  subst e
  cases x with
  | true => exact ⟨rfl, G1, g1⟩
  | false =>
    refine isTrue_or (wpAny_nay (hb A env s1 G1 hA (hE.grow g1)) fun y s2 ⟨e, G2, g2⟩ => ?_)
    subst e
    cases y with
    | true => exact ⟨rfl, G2, g1.trans g2⟩
    | false => exact isTrue_or_nil ⟨rfl, G2, g1.trans g2⟩
theorem Test.not {a : Expr} {p : Pos} {c : Bool} (ha : Test W k names ρ a c) : Test W k names ρ (.UnaryOp .Not a p) (!c) := by
  intro A env s G hA hE
  exact isTrue_not (wpAny_nay (ha A env s G hA hE) fun x s1 ⟨e, G1, g1⟩ => ⟨by rw [e], G1, g1⟩)
/-- two bools joined by or -/
theorem Ev.or {a b : Expr} {p : Pos} {c c' : Bool} (ha : Ev W k names ρ a (.bool c)) (hb : Ev W k names ρ b (.bool c')) : Ev W k names ρ (.BoolOp .Or [a, b] p) (.bool (c || c')) := by
  intro A env s G hA hE
  refine BoolOp_or (wpAny_nay (ha A env s G hA hE) fun x s1 ⟨G1, g1, d1⟩ => ?_)
  obtain rfl := d1.inv
  refine wpAny_truthy_bool ?_
  cases c with
  | true => exact ⟨G1, g1, .bool true⟩
  | false => exact BoolOp_one (wpAny_nay (hb A env s1 G1 hA (hE.grow g1)) fun y s2 ⟨G2, g2, d2⟩ => ⟨G2, g1.trans g2, d2⟩)
theorem Ev.ife {t a b : Expr} {p : Pos} {c : Bool} {d e : D} (ht : Test W k names ρ t c) (ha : c = true → Ev W k names ρ a d) (hb : c = false → Ev W k names ρ b e) : Ev W k names ρ (.IfExp t a b p) (if c = true then d else e) := by
  intro A env s G hA hE
  refine IfExp_ (wpAny_nay (ht A env s G hA hE) fun x s1 ⟨q, G1, g1⟩ => ?_)
  subst q
  cases x with
  | true => exact wpAny_nay (ha rfl A env s1 G1 hA (hE.grow g1)) fun y s2 ⟨G2, g2, d2⟩ => ⟨G2, g1.trans g2, d2⟩
  | false => exact wpAny_nay (hb rfl A env s1 G1 hA (hE.grow g1)) fun y s2 ⟨G2, g2, d2⟩ => ⟨G2, g1.trans g2, d2⟩

/-- an item -/
def Item (W : Wd) (k : Nat) (a b d : D) : Prop :=
  ∀ A s G u v value slice, OkA k A → Base W s.heap → (∀ b o, G b = some o → s.heap.get? b = some o) → Den W.C G u a → Den W.C G v b → (∀ u v, subscripted slice false u v = operate [u, v] (getItem u v)) → wpAny (Md W) A (subscriptTail value slice u v) (Gives W s G d) nay s
theorem Ev.item {l r : Expr} {p : Pos} {a b d : D} (hl : Ev W k names ρ l a) (hr : Ev W k names ρ r b) (ho : Item W k a b d) (hs : ∀ u v, subscripted r false u v = operate [u, v] (getItem u v) := by intro _ _; rfl) : Ev W k names ρ (.Subscript l r p) d := by
  intro A env s G hA hE
  refine Subscript_ (wpAny_nay (hl A env s G hA hE) fun u s1 ⟨G1, g1, d1⟩ => ?_)
  refine wpAny_nay (hr A env s1 G1 hA (hE.grow g1)) fun v s2 ⟨G2, g2, d2⟩ => ?_
  refine wpAny_nay (ho A s2 G2 u v _ _ hA ((hE.grow g1).grow g2).base g2.sub (d1.mono g2.ext) d2 hs) fun r s3 ⟨G3, g3, d3⟩ => ?_
  exact ⟨G3, (g1.trans g2).trans g3, d3⟩
theorem Item.list {ds : List D} {i : Int} {d : D} (h0 : 0 ≤ i) (h1 : i < 1000) (h : ds[i.toNat]? = some d) : Item W k (.list ds) (.int i) d := by
  intro A s G u v value slice hA hB hs ha hb hsub
  obtain ⟨_, rfl⟩ := hb.inv
  obtain ⟨_, _, _, _, rfl, e, c, dt, r⟩ := ha.inv
  obtain ⟨x, hx, hd⟩ := r.get h
  have hl : s.heap.IsList _ _ := ⟨_, hs _ _ e, c, _, dt⟩
  exact tail_any hl.typeIs slot_list_getitem.lookup (wpAny_getItem_list hl h0 (Int.lt_of_lt_of_le h1 (by decide)) (by simpa using hx) ⟨G, Gr.refl hs, hd⟩) (hsub _ _)
theorem Item.tup {ds : List D} {i : Int} {d : D} (h0 : 0 ≤ i) (h1 : i < ds.length) (hn : ds.length < 1000) (h : ds[i.toNat]? = some d) : Item W k (.tup ds) (.int i) d := by
  intro A s G u v value slice hA hB hs ha hb hsub
  obtain ⟨_, rfl⟩ := hb.inv
  obtain ⟨_, _, _, rfl, e, r⟩ := ha.inv
  obtain ⟨x, hx, hd⟩ := r.get h
  have hl : IsTup s.heap _ _ := ⟨_, hs _ _ e, rfl, _, rfl⟩
  have hlen := r.length
  refine item_tupleT (j := i.toNat) hl (by omega) (by omega) ?_ hx ⟨G, Gr.refl hs, hd⟩ (hsub _ _)
  have h2 : ¬ i < 0 := by omega
  simp only [seqIndex?, h2, if_false, hlen, h0, h1, decide_true, Bool.and_self, if_true]
end
-- C3

def relabelN (outer sc : List (Str × NameKind)) : List (Str × NameKind) :=
  sc.map fun p => (p.1, if (p.2 == .free && outer.lookup p.1 == some .cell) = true then .cell else p.2)
theorem relabel_names {scope : Scope} {env : Env} (hk : env.scope.kind = .function) : (relabel scope env).names = relabelN env.scope.names scope.names := by
  show (scope.names.map _) = scope.names.map _
  refine List.map_congr_left fun p _ => ?_
  obtain ⟨n, k⟩ := p
  have h1 : (env.scope.kind == ScopeKind.function) = true := by rw [hk]; rfl
  show (if (k == .free && env.scope.kind == .function && env.scope.names.lookup n == some .cell) = true then (n, NameKind.cell) else (n, k)) = _
  rw [h1, Bool.and_true]
  split <;> rfl
theorem relabelN_lookup (outer : List (Str × NameKind)) (y : Str) : ∀ sc : List (Str × NameKind), (relabelN outer sc).lookup y = (sc.lookup y).map fun k => if (k == .free && outer.lookup y == some .cell) = true then .cell else k
  | [] => rfl
  | (n, k) :: r => by
    have ih := relabelN_lookup outer y r
    show List.lookup y ((n, _) :: relabelN outer r) = _
    rw [List.lookup_cons, List.lookup_cons]
    cases hb : y == n with
    | true => rw [beq_iff_eq.mp hb]; rfl
    | false => exact ih

theorem cellsFrom_app : ∀ (names : List (Str × NameKind)) (n : Nat) (acc cl : List (Str × Addr)), cellsFrom n names (acc ++ cl) = cellsFrom n names acc ++ cl
  | [], _, _, _ => rfl
  | (x, kd) :: r, n, acc, cl => by
    unfold cellsFrom
    split
    · exact cellsFrom_app r (n + 1) ((x, n) :: acc) cl
    · exact cellsFrom_app r n acc cl
theorem lookup_app {α : Type} (y : Str) : ∀ (a b : List (Str × α)), (a ++ b).lookup y = (a.lookup y).or (b.lookup y)
  | [], _ => rfl
  | (n, v) :: r, b => by
    rw [List.cons_append, List.lookup_cons, List.lookup_cons]
    cases y == n with
    | true => rfl
    | false => exact lookup_app y r b
theorem cellsFrom_none {y : Str} : ∀ (names : List (Str × NameKind)) (n : Nat) (acc : List (Str × Addr)), acc.lookup y = none → (names.all fun q => q.2 != .cell || !(y == q.1)) = true → (cellsFrom n names acc).lookup y = none
  | [], _, _, h, _ => h
  | (x, kd) :: r, n, acc, h, hq => by
    rw [List.all_cons, Bool.and_eq_true] at hq
    unfold cellsFrom
    split
    · rename_i hk
      refine cellsFrom_none r _ _ ?_ hq.2
      have h1 := hq.1
      have hk' : kd = .cell := by simpa using hk
      subst hk'
      have hy : (y == x) = false := by simpa using h1
      rw [List.lookup_cons, hy]
      exact h
    · exact cellsFrom_none r _ _ h hq.2
theorem cellsFrom_has {y : Str} : ∀ (names : List (Str × NameKind)) (n : Nat) (acc : List (Str × Addr)), (acc.lookup y).isSome = true ∨ names.lookup y = some .cell → ((cellsFrom n names acc).lookup y).isSome = true
  | [], _, _, h => h.elim id fun e => by cases e
  | (x, kd) :: r, n, acc, h => by
    unfold cellsFrom
    split
    · rename_i hk
      refine cellsFrom_has r _ _ ?_
      cases hb : y == x with
      | true => exact .inl (by rw [List.lookup_cons, hb]; rfl)
      | false =>
        rw [List.lookup_cons, hb]
        refine h.imp id fun e => ?_
        rw [List.lookup_cons, hb] at e
        exact e
    · rename_i hk
      refine cellsFrom_has r _ _ (h.imp id fun e => ?_)
      rw [List.lookup_cons] at e
      cases hb : y == x with
      | true =>
        rw [hb] at e
        cases e
        exact absurd rfl hk
      | false => rw [hb] at e; exact e

/-- the cells that a comprehension closes over -/
def cloOf (cells : List (Str × Addr)) : List (Str × NameKind) → List (Str × Addr) → List (Str × Addr)
  | [], acc => acc
  | (n, k) :: r, acc => cloOf cells r (if (k == .free) = true then (n, (cells.lookup n).getD 0) :: acc else acc)
theorem closure_go {env : Env} (f : Str × NameKind → List (Str × Addr) → Sem (ForInStep (List (Str × Addr)))) (hf : ∀ n k cs, f (n, k) cs = if (k == .free) = true then (do let c ← cellOf env n; pure (.yield ((n, c) :: cs))) else pure (.yield cs)) :
    ∀ (sc : List (Str × NameKind)) (acc : List (Str × Addr)), (∀ p ∈ sc, p.2 = .free → (env.cells.lookup p.1).isSome = true) → forIn sc acc f = pure (cloOf env.cells sc acc)
  | [], acc, _ => rfl
  | (n, k) :: r, acc, h => by
    rw [List.forIn_cons, hf]
    unfold cloOf
    have hr := fun p hp => h p (List.mem_cons_of_mem _ hp)
    by_cases hk : (k == .free) = true
    · rw [if_pos hk, if_pos hk]
      obtain ⟨c, hc⟩ := Option.isSome_iff_exists.mp (h (n, k) List.mem_cons_self (by simpa using hk))
      have hc' : env.cells.lookup n = some c := hc
      have e : cellOf env n = pure c := by unfold cellOf; rw [hc']
      rw [e, hc']
      exact closure_go f hf r _ hr
    · rw [if_neg hk, if_neg hk]
      exact closure_go f hf r _ hr
theorem closureFor_is {scope : Scope} {env : Env} (h : ∀ p ∈ scope.names, p.2 = .free → (env.cells.lookup p.1).isSome = true) : closureFor scope env = pure (cloOf env.cells scope.names []) := by
  simp only [closureFor]
  rw [closure_go (env := env) _ (fun n k cs => by cases hk : k == NameKind.free <;> simp [hk]) scope.names [] h]
  rfl
theorem cloOf_lookup {cells : List (Str × Addr)} {y : Str} : ∀ (sc : List (Str × NameKind)) (acc : List (Str × Addr)), (cells.lookup y).isSome = true → ((∃ p ∈ sc, p.1 = y ∧ p.2 = .free) ∨ acc.lookup y = cells.lookup y) → (acc.lookup y = none ∨ acc.lookup y = cells.lookup y) → (cloOf cells sc acc).lookup y = cells.lookup y
  | [], acc, _, h, _ => h.elim (fun ⟨_, hp, _⟩ => nomatch hp) id
  | (n, k) :: r, acc, hs, h, hq => by
    unfold cloOf
    obtain ⟨c, hc⟩ := Option.isSome_iff_exists.mp hs
    by_cases hk : (k == .free) = true
    · rw [if_pos hk]
      by_cases hy : (y == n) = true
      · have : n = y := (beq_iff_eq.mp hy).symm
        subst this
        have e : List.lookup n ((n, (cells.lookup n).getD 0) :: acc) = cells.lookup n := by rw [List.lookup_cons, hy, hc]; rfl
        exact cloOf_lookup r _ hs (.inr e) (.inr e)
      · have hy' : (y == n) = false := by simpa using hy
        have e : List.lookup y ((n, (cells.lookup n).getD 0) :: acc) = acc.lookup y := by rw [List.lookup_cons, hy']
        refine cloOf_lookup r _ hs ?_ (by rw [e]; exact hq)
        rw [e]
        refine h.imp (fun ⟨p, hp, h1, h2⟩ => ?_) id
        rcases List.mem_cons.mp hp with rfl | hp
        · exact absurd (by rw [← h1]; exact beq_self_eq_true _) hy
        · exact ⟨p, hp, h1, h2⟩
    · rw [if_neg hk]
      refine cloOf_lookup r _ hs (h.imp (fun ⟨p, hp, h1, h2⟩ => ?_) id) hq
      rcases List.mem_cons.mp hp with rfl | hp
      · exact absurd (by rw [show k = .free from h2]; rfl) hk
      · exact ⟨p, hp, h1, h2⟩

section
variable {M : Model} {A : Around} {E : Value → Shared → Prop} {s : Shared}
theorem newEnv_comp {scope : Scope} {globals : Addr} {cl : List (Str × Addr)} {qual : Str} {env : Env} {Q : Env → Shared → Prop}
    (h : Q { scope, locals := s.heap.objs.size, globals, cells := cellsFrom (s.heap.objs.size + 1) scope.names [] ++ cl, qual, func := none, code := env.code, frame := env.frame, builtins := env.builtins }
      { s with heap := pushCells (s.heap.push { cls := .type "dict", data := .dict #[] }) scope.names }) :
    wpAny M A (newFunctionEnv scope globals cl [] qual none .none (some env)) Q E s := by
  simp only [newFunctionEnv, Option.isSome_some, if_true]
  refine wpAny_bind (wpAny_alloc ?_)
  refine wpAny_bind (wpAny_layCells _ (fun name kind cells => by cases hkc : kind == NameKind.cell <;> simp [hkc]) _ _ _ _ ?_)
  rw [show ({ s with heap := s.heap.push { cls := .type "dict", data := .dict #[] } } : Shared).heap.objs.size = s.heap.objs.size + 1 from Heap.size_push ..]
  rw [List.forIn_nil]
  refine wpAny_bind (wpAny_pure (wpAny_pure ?_))
  rw [show cl = [] ++ cl from rfl, cellsFrom_app]
  exact h
end
-- C4

theorem filter_lookup {f : Str → Bool} {y : Str} {e : D} : ∀ {ρ : List (Str × D)}, (ρ.filter fun p => f p.1).lookup y = some e → f y = true ∧ ρ.lookup y = some e
  | [], h => nomatch h
  | (n, d) :: r, h => by
    rw [List.filter_cons] at h
    rw [List.lookup_cons]
    cases hf : f n with
    | true =>
      have h' : List.lookup y ((n, d) :: r.filter fun p => f p.1) = some e := by simpa [hf] using h
      rw [List.lookup_cons] at h'
      cases hb : y == n with
      | true => rw [hb] at h'; cases h'; exact ⟨by rw [beq_iff_eq.mp hb]; exact hf, rfl⟩
      | false => rw [hb] at h'; exact filter_lookup h'
    | false =>
      have h' : (r.filter fun p => f p.1).lookup y = some e := by simpa [hf] using h
      obtain ⟨q, e'⟩ := filter_lookup h'
      cases hb : y == n with
      | true => rw [beq_iff_eq.mp hb, hf] at q; cases q
      | false => exact ⟨q, e'⟩

def inh (sc : List (Str × NameKind)) (ρ : List (Str × D)) : List (Str × D) := ρ.filter fun p => sc.lookup p.1 == some .free

def scopeOk (outer : List (Str × NameKind)) (ρ : List (Str × D)) (sc : List (Str × NameKind)) (x : Str) : Bool :=
  (sc.all fun p => p.2 != .free || ((outer.lookup p.1 == some .cell || outer.lookup p.1 == some .free) && (ρ.lookup p.1).isSome && (sc.all fun q => q.2 != .cell || !(p.1 == q.1)))) &&
  (sc.lookup x == some .local || sc.lookup x == some .cell) && (sc.all fun p => p.2 != .local || sc.lookup p.1 == some .local)

/-- one turn of a comprehension: the item's datum goes in; the element's comes out, or none -/
def TurnOk (W : Wd) (k : Nat) (names : List (Str × NameKind)) (ρ : List (Str × D)) (x : Str) (ifs : List Expr) (elt : Expr) (d : D) : Option D → Prop
  | some r => (ifs = [] ∨ ∃ t, ifs = [t] ∧ Test W k names ((x, d) :: ρ) t true) ∧ Ev W k names ((x, d) :: ρ) elt r
  | none => ∃ t, ifs = [t] ∧ Test W k names ((x, d) :: ρ) t false
inductive Turns (T : D → Option D → Prop) : List D → List D → Prop
  | nil : Turns T [] []
  | keep {d r : D} {ds rs : List D} : T d (some r) → Turns T ds rs → Turns T (d :: ds) (r :: rs)
  | drop {d : D} {ds rs : List D} : T d none → Turns T ds rs → Turns T (d :: ds) rs
theorem Turns.length {T : D → Option D → Prop} : ∀ {ds rs : List D}, Turns T ds rs → rs.length ≤ ds.length
  | _, _, .nil => Nat.le_refl _
  | _, _, .keep _ r => Nat.succ_le_succ r.length
  | _, _, .drop _ r => Nat.le_succ_of_le r.length

/-- an iterator that hands out the data, its own object alone turned -/
structure Iter (W : Wd) (A : Around) (s₁ : Shared) (G : Part) (ds : List D) (I : Addr) (s₂ : Shared) where
  fp : List Addr
  P : Nat → Value → Prop
  St : Nat → Heap → Prop
  n : Nat
  hn : n = ds.length
  walks : Walks W.prog W.w A I fp [I] n P St
  st : St 0 s₂.heap
  same : ∃ h' tk, s₂ = { s₁ with heap := h', toks := tk }
  keep : ∀ b o, s₁.heap.get? b = some o → s₂.heap.get? b = some o
  low : ∀ b ∈ fp, b < s₂.heap.objs.size
  new : s₁.heap.get? I = none
  live : ∀ i h, St i h → ∃ o, h.get? I = some o
  fpG : ∀ b ∈ fp, b = I ∨ ∃ o, G b = some o
  is : ∀ i v, i < n → P i v → ∃ d, ds[i]? = some d ∧ Den W.C G v d

theorem iter_list {W : Wd} {A : Around} {s : Shared} {G : Part} {v : Value} {ds : List D} {Q : Value → Shared → Prop} (hA : A.handled = none) (hs : ∀ b o, G b = some o → s.heap.get? b = some o) (hd : Den W.C G v (.list ds)) 
    (h : ∀ I s₂ (it : Iter W A s G ds I s₂), (∀ i h, it.St i h → ∃ l j, h.IsListIter I l j) → Q (.ref I) s₂) : wpAny (Md W) A (pyIter v) Q nay s := by
  obtain ⟨a, o, n, vs, rfl, e, c, dt, r⟩ := hd.inv
  have hl : s.heap.IsList a vs.toArray := ⟨_, hs _ _ e, c, _, dt⟩
  have hlt : a < s.heap.objs.size := Heap.lt_size (hs _ _ e)
  have hsz : (vs.toArray).size = ds.length := by rw [List.size_toArray]; exact r.length
  refine wpAny_pyIter_list hl (h _ _ { fp := [s.heap.objs.size, a], P := _, St := _, n := _, hn := hsz, walks := Walks.list hA s.heap.objs.size a (Nat.ne_of_lt hlt) vs.toArray, st := ⟨⟨_, Heap.get?_push_size _ rfl, rfl, rfl⟩, hl.push _⟩, same := ⟨_, s.toks, rfl⟩, keep := fun _ _ e => Heap.get?_push_of_some _ e, low := fun b hb => ?_, new := new_none, live := fun i h st => ⟨_, st.1.choose_spec.1⟩, fpG := fun b hb => (List.mem_cons.mp hb).imp id (fun q => ⟨_, List.mem_singleton.mp q ▸ e⟩), is := fun i v _ hv => ?_ } fun i h st => ⟨_, _, st.1⟩)
  · show b < (s.heap.push _).objs.size
    rw [Heap.size_push]
    rcases List.mem_cons.mp hb with rfl | hb
    · exact Nat.lt_succ_self _
    · rw [List.mem_singleton.mp hb]; exact Nat.lt_succ_of_lt hlt
  · exact r.at (i := i) (by simpa using hv)

def rngD (n : Nat) : List D := (List.range n).map fun i => .int (i : Nat)
theorem iter_rng {W : Wd} {A : Around} {s : Shared} {G : Part} {v : Value} {n : Nat} {Q : Value → Shared → Prop} (hz : Builtin.Range.rangeSize 0 (n : Int) 1 = n) (hsm : Builtin.Range.small 0 n 1 = true) (hA : A.handled = none) (hs : ∀ b o, G b = some o → s.heap.get? b = some o) (hd : Den W.C G v (.rng n)) 
    (h : ∀ I s₂, Nonempty (Iter W A s G (rngD n) I s₂) → Q (.ref I) s₂) : wpAny (Md W) A (pyIter v) Q nay s := by
  obtain ⟨a, t, u, v, rfl, e⟩ := hd.inv
  have hr : IsRange s.heap a 0 n 1 t u v := hs _ _ e
  have hlen : (rngD n).length = n := by rw [rngD, List.length_map, List.length_range]
  refine wpAny_pyIter_range hr hsm (h _ _ ⟨{ fp := [s.heap.objs.size], P := _, St := _, n := n, hn := hlen.symm, walks := Walks.range hA s.heap.objs.size 0 1 n, st := ?_, same := ⟨_, s.toks, rfl⟩, keep := fun _ _ e => Heap.get?_push_of_some _ e, low := fun b hb => ?_, new := new_none, live := fun i h st => ⟨_, st⟩, fpG := fun b hb => .inl (List.mem_singleton.mp hb), is := fun i v hi hv => ?_ }⟩)
  · show IsRangeIter _ _ _ _ _
    rw [hz]
    rw [Int.mul_one]
    exact Heap.get?_push_size s.heap (o := { cls := .type "range_iterator", data := .fields #[rawInt 0, rawInt n, rawInt 1] }) rfl
  · rw [List.mem_singleton.mp hb]
    show s.heap.objs.size < (s.heap.push _).objs.size
    rw [Heap.size_push]; exact Nat.lt_succ_self _
  · obtain ⟨t, rfl⟩ := hv
    refine ⟨.int (i : Nat), by rw [rngD, List.getElem?_map, List.getElem?_range hi]; rfl, ?_⟩
    rw [Int.mul_one, Int.zero_add]
    exact .int _ _
-- C5

/-- where a comprehension's own variable lies -/
inductive Slot (cenv : Env) (x : Str) (tx : Addr) : Prop
  | loc : cenv.scope.names.lookup x = some .local → tx = cenv.locals → Slot cenv x tx
  | cell : cenv.scope.names.lookup x = some .cell → cenv.cells.lookup x = some tx → Slot cenv x tx
def SlotLive (cenv : Env) (x : Str) (tx : Addr) (h : Heap) : Prop := (cenv.scope.names.lookup x = some .local → ∃ m, h.Ns tx m) ∧ (cenv.scope.names.lookup x = some .cell → ∃ v, h.IsCell tx v)
theorem SlotLive.live {cenv : Env} {x : Str} {tx : Addr} {h : Heap} (l : SlotLive cenv x tx h) (s : Slot cenv x tx) : ∃ o, h.get? tx = some o := by
  cases s with
  | loc e _ => obtain ⟨m, o, es, ep, ho, _⟩ := l.1 e; exact ⟨o, ho⟩
  | cell e _ => obtain ⟨v, o, ho, _⟩ := l.2 e; exact ⟨o, ho⟩
theorem SlotLive.keep {cenv : Env} {x : Str} {tx : Addr} {h h' : Heap} (l : SlotLive cenv x tx h) (k : ∀ o, h.get? tx = some o → h'.get? tx = some o) : SlotLive cenv x tx h' :=
  ⟨fun e => let ⟨m, n⟩ := l.1 e; ⟨m, n.at' k⟩, fun e => let ⟨v, o, ho, hd⟩ := l.2 e; ⟨v, o, k o ho, hd⟩⟩

theorem slot_store {W : Wd} {A : Around} {cenv : Env} {x : Str} {tx : Addr} {s : Shared} {v : Value} {G : Part} {d : D} {E : Value → Shared → Prop} {Q : Unit → Shared → Prop} (hk : cenv.scope.kind = .function) (S : Slot cenv x tx) (l : SlotLive cenv x tx s.heap) (hd : Den W.C G v d)
    (h : ∀ h' tk, Heap.SameBut tx s.heap h' → SlotLive cenv x tx h' → VarAt W cenv h' G x d → Q () { s with heap := h', toks := tk }) : wpAny (Md W) A (storeName cenv x v) Q E s := by
  cases S with
  | loc e he =>
    subst he
    obtain ⟨m, hn⟩ := l.1 e
    refine wpAny_storeName_local e hn (fun h' hn' hs => h h' _ hs ⟨fun _ => ⟨_, hn'⟩, fun q => by rw [e] at q; cases q⟩ ⟨.inl ⟨e, _, v, hn', by simp, hd⟩⟩) (by rw [hk]; rfl)
  | cell e he =>
    obtain ⟨v₀, hc⟩ := l.2 e
    refine wpAny_storeName_cell hk e he hc fun h' hc' hs => h h' s.toks hs ⟨fun q => (by rw [e] at q; cases q), fun _ => ⟨_, hc'⟩⟩ ⟨.inr ⟨.inl e, tx, v, he, hc', hd⟩⟩

/-- a variable of the blocks around -/
def OldVar (W : Wd) (cenv : Env) (h : Heap) (G : Part) (y : Str) (d : D) : Prop :=
  (cenv.scope.names.lookup y = some .cell ∨ cenv.scope.names.lookup y = some .free) ∧ ∃ c v, cenv.cells.lookup y = some c ∧ h.IsCell c (some v) ∧ Den W.C G v d

theorem none_of_new {G G' : Part} {h : Heap} (hn : ∀ b o, G' b = some o → G b = some o ∨ h.get? b = none) {b : Addr} (hg : G b = none) (hl : ∃ o, h.get? b = some o) : G' b = none := by
  cases q : G' b with
  | none => rfl
  | some o =>
    obtain ⟨p, hp⟩ := hl
    rcases hn b o q with e | e
    · rw [hg] at e; cases e
    · rw [hp] at e; cases e


/-- what does not change while a comprehension's loop runs -/
structure LoopFix (W : Wd) (cenv : Env) (x : Str) (tx I D : Addr) (h₁ : Heap) (fp : List Addr) (St : Nat → Heap → Prop) : Prop where
  slot : Slot cenv x tx
  frame : ∀ i h h', St i h → (∀ b ∈ fp, ∀ o, h.get? b = some o → h'.get? b = some o) → St i h'
  iD : I ≠ D
  iC : I ≠ cenv.locals
  it : I ≠ tx
  fD : ∀ b ∈ fp, b ≠ D
  ft : ∀ b ∈ fp, b ≠ tx
  sI : h₁.get? I = none
  sD : h₁.get? D = none
  sC : h₁.get? cenv.locals = none
  st : h₁.get? tx = none
  cD : cenv.locals ≠ D
  tD : tx ≠ D
structure LoopAt (W : Wd) (cenv : Env) (x : Str) (tx I D : Addr) (h₁ : Heap) (G : Part) (St : Nat → Heap → Prop) (i : Nat) (h : Heap) (Gi : Part) (ys : List Value) (ds : List Mine.D) : Prop where
  keep : ∀ b o, h₁.get? b = some o → h.get? b = some o
  st : St i h
  ns : ∃ m, h.Ns cenv.locals m
  slot : SlotLive cenv x tx h
  acc : h.PlainList D ys.toArray
  den : DenAll W.C Gi ys ds
  ext : ∀ b o, G b = some o → Gi b = some o
  sub : ∀ b o, Gi b = some o → h.get? b = some o
  new : ∀ b o, Gi b = some o → G b = some o ∨ h₁.get? b = none
  gI : Gi I = none
  gC : Gi cenv.locals = none
  gD : Gi D = none
  gt : Gi tx = none
structure LoopInv (W : Wd) (cenv : Env) (x : Str) (tx I D : Addr) (s₁ : Shared) (G : Part) (St : Nat → Heap → Prop) (T : Mine.D → Option Mine.D → Prop) (n : Nat) (ds rs : List Mine.D) (i : Nat) (s : Shared) : Prop where
  le : i ≤ n
  same : ∃ h' tk, s = { s₁ with heap := h', toks := tk }
  rest : ∃ Gi ys done rest, LoopAt W cenv x tx I D s₁.heap G St i s.heap Gi ys done ∧ Turns T (ds.drop i) rest ∧ done ++ rest = rs ∧ done.length ≤ i
theorem some_ne {h : Heap} {a b : Addr} {o : Obj} (e : h.get? b = some o) (n : h.get? a = none) : b ≠ a := fun q => by rw [q, n] at e; cases e
theorem part_ne {G : Part} {a b : Addr} {o : Obj} (e : G b = some o) (n : G a = none) : b ≠ a := fun q => by rw [q, n] at e; cases e
section
variable {W : Wd} {k : Nat} {cenv : Env} {x : Str} {tx I D : Addr} {h₁ h h' : Heap} {fp : List Addr} {St : Nat → Heap → Prop} {G Gi : Part} {i j : Nat} {ys : List Value} {ds : List Mine.D}
theorem LoopAt.next (F : LoopFix W cenv x tx I D h₁ fp St) (c : LoopAt W cenv x tx I D h₁ G St i h Gi ys ds) (hk : ∀ b o, b ≠ I → h.get? b = some o → h'.get? b = some o) (st : St j h') : LoopAt W cenv x tx I D h₁ G St j h' Gi ys ds :=
  ⟨fun b o e => hk b o (some_ne e F.sI) (c.keep b o e), st, let ⟨m, q⟩ := c.ns; ⟨m, q.at' fun o e => hk _ o (Ne.symm F.iC) e⟩, c.slot.keep fun o e => hk _ o (Ne.symm F.it) e, let ⟨q, hq⟩ := c.acc; ⟨q, hk _ _ (Ne.symm F.iD) hq⟩, c.den, c.ext, fun b o e => hk b o (part_ne e c.gI) (c.sub b o e), c.new, c.gI, c.gC, c.gD, c.gt⟩
theorem LoopAt.store (F : LoopFix W cenv x tx I D h₁ fp St) (c : LoopAt W cenv x tx I D h₁ G St i h Gi ys ds) (hk : ∀ b o, b ≠ tx → h.get? b = some o → h'.get? b = some o) (sl : SlotLive cenv x tx h') (hns : ∃ m, h'.Ns cenv.locals m) : LoopAt W cenv x tx I D h₁ G St i h' Gi ys ds :=
  ⟨fun b o e => hk b o (some_ne e F.st) (c.keep b o e), F.frame _ _ _ c.st fun b hb o e => hk b o (F.ft b hb) e, hns, sl, let ⟨q, hq⟩ := c.acc; ⟨q, hk _ _ (Ne.symm F.tD) hq⟩, c.den, c.ext, fun b o e => hk b o (part_ne e c.gt) (c.sub b o e), c.new, c.gI, c.gC, c.gD, c.gt⟩
theorem LoopFix.any (F : LoopFix W cenv x tx I D h₁ fp St) : LoopFix W cenv x tx I D h₁ [] fun _ _ => True := ⟨F.slot, fun _ _ _ _ _ => trivial, F.iD, F.iC, F.it, fun _ h => (nomatch h), fun _ h => (nomatch h), F.sI, F.sD, F.sC, F.st, F.cD, F.tD⟩
theorem LoopAt.any (c : LoopAt W cenv x tx I D h₁ G St i h Gi ys ds) : LoopAt W cenv x tx I D h₁ G (fun _ _ => True) i h Gi ys ds := ⟨c.keep, trivial, c.ns, c.slot, c.acc, c.den, c.ext, c.sub, c.new, c.gI, c.gC, c.gD, c.gt⟩
theorem LoopAt.ns' (F : LoopFix W cenv x tx I D h₁ fp St) (c : LoopAt W cenv x tx I D h₁ G St i h Gi ys ds) (hk : ∀ b o, b ≠ tx → h.get? b = some o → h'.get? b = some o) (sl : SlotLive cenv x tx h') : ∃ m, h'.Ns cenv.locals m := by
  obtain ⟨m, hm⟩ := c.ns
  cases F.slot with
  | loc e he => subst he; exact sl.1 e
  | cell e he =>
    by_cases q : cenv.locals = tx
    · exfalso
      obtain ⟨v₁, o₁, ho₁, hd₁⟩ := c.slot.2 e
      obtain ⟨o₂, es, ep, ho₂, hd₂, _⟩ := hm
      rw [q, ho₁] at ho₂
      cases ho₂
      rw [hd₁] at hd₂
      cases hd₂
    · exact ⟨m, hm.at' fun o e => hk _ o q e⟩
theorem LoopAt.grow {s s' : Shared} {G' : Part} (F : LoopFix W cenv x tx I D h₁ fp St) (c : LoopAt W cenv x tx I D h₁ G St i s.heap Gi ys ds) (live : ∀ i h, St i h → ∃ o, h.get? I = some o) (g : Gr s Gi s' G') : LoopAt W cenv x tx I D h₁ G St i s'.heap G' ys ds :=
  ⟨fun b o e => g.keep b o (c.keep b o e), F.frame _ _ _ c.st fun b _ o e => g.keep b o e, let ⟨m, q⟩ := c.ns; ⟨m, q.keeps g.keep⟩, c.slot.keep fun o e => g.keep _ o e, let ⟨q, hq⟩ := c.acc; ⟨q, g.keep _ _ hq⟩, c.den.mono g.ext, fun b o e => g.ext b o (c.ext b o e), g.sub,
    fun b o e => (g.new b o e).elim (c.new b o) fun q => .inr (get_none c.keep q), none_of_new g.new c.gI (live _ _ c.st), none_of_new g.new c.gC (let ⟨_, o, _, _, q, _⟩ := c.ns; ⟨o, q⟩), none_of_new g.new c.gD (let ⟨_, hq⟩ := c.acc; ⟨_, hq⟩), none_of_new g.new c.gt (c.slot.live F.slot)⟩
theorem LoopAt.push {y : Value} {r : Mine.D} (F : LoopFix W cenv x tx I D h₁ fp St) (c : LoopAt W cenv x tx I D h₁ G St i h Gi ys ds) (hk : ∀ b o, b ≠ D → h.get? b = some o → h'.get? b = some o) (acc : h'.PlainList D (ys.toArray.push y)) (hr : Den W.C Gi y r) : LoopAt W cenv x tx I D h₁ G St i h' Gi (ys ++ [y]) (ds ++ [r]) :=
  ⟨fun b o e => hk b o (some_ne e F.sD) (c.keep b o e), F.frame _ _ _ c.st fun b hb o e => hk b o (F.fD b hb) e, let ⟨m, q⟩ := c.ns; ⟨m, q.at' fun o e => hk _ o F.cD e⟩, c.slot.keep fun o e => hk _ o F.tD e, by rw [← List.push_toArray]; exact acc, c.den.append (.cons hr .nil), c.ext, fun b o e => hk b o (part_ne e c.gD) (c.sub b o e), c.new, c.gI, c.gC, c.gD, c.gt⟩
end

/-- the turn of a comprehension: the tests and the element; the turn from the iterator's answer -/
def AfterBind (W : Wd) (A : Around) (ifs : List Expr) (elt : Expr) (acc : Value) (env : Env) (P : Shared → Prop) (s : Shared) : Prop :=
  wpAny (Md W) A (forIn ifs true fun c r => if r = true then do let ok ← isTrue c env (eval c env); pure (ForInStep.yield ok) else pure (ForInStep.yield r)) (fun ok s₃ =>
    if ok = true then wpAny (Md W) A (eval elt env) (fun x s₄ => wpAny (Md W) A (call (.builtin "list.append") [acc, x]) (fun _ s₅ => P s₅) nay s₄) nay s₃ else P s₃) nay s
def AfterNext (W : Wd) (A : Around) (target : Expr) (ifs : List Expr) (elt : Expr) (it acc : Value) (env : Env) (R : Result → Shared → Prop) (n i : Nat) (P : Shared → Prop) (r : Option Value) (s : Shared) : Prop :=
  match r with
  | none => R (.ok .next) s
  | some v => i < n ∧ wpAny (Md W) A (letOwnedTupleGo target it v) (fun _ s₁ => wpAny (Md W) A (assign target env v) (fun _ s₂ => AfterBind W A ifs elt acc env P s₂) nay s₁) nay s
section
variable {W : Wd} {A : Around} {R : Result → Shared → Prop} {s : Shared}
/-- the loop of a comprehension, turn by turn -/
theorem comp_turns {elt target iter : Expr} {ifs : List Expr} {scope : Scope} {pos : Pos} {it acc : Value} {env : Env} (n : Nat) (Inv : Nat → Shared → Prop)
    (turn : ∀ i s, Inv i s → wpAny (Md W) A (pyNext it) (AfterNext W A target ifs elt it acc env R n i (Inv (i + 1))) nay s)
    (h : Inv 0 s) : codeAny (Md W) A (.compLoop (.ListComp elt [⟨target, iter, ifs, 0⟩] scope pos) 0 it acc env) R s := by
  refine codeAny_loop rfl (fun j s => ∃ i, i ≤ n ∧ j = n - i ∧ Inv i s) (fun j s hI => ?_) n ⟨0, Nat.zero_le _, rfl, h⟩
  obtain ⟨i, hi, rfl, hI⟩ := hI
  refine wpAny_noted (E := fun e s' => R (.error e) s') ?_
  rw [compTurn_list]
  refine wpAny_bind (wpAny_standAt (wpAny_bind (wpAny_nay (turn i s hI) fun r s₁ h₁ => ?_)))
  clear turn hI h
  cases r with
  | none => exact wpAny_pure h₁
  | some v =>
    obtain ⟨hlt, h₁⟩ := h₁
    have fin : ∀ s, Inv (i + 1) s → ∃ m, m < n - i ∧ ∃ i, i ≤ n ∧ m = n - i ∧ Inv i s := fun s h => ⟨n - (i + 1), Nat.sub_lt_sub_left hlt (Nat.lt_succ_self i), i + 1, hlt, rfl, h⟩
    refine wpAny_bind (wpAny_nay h₁ fun _ s₁' h₁' => wpAny_bind (wpAny_nay h₁' fun _ s₂ h₂ => wpAny_bind (wpAny_nay h₂ fun ok s₃ h₃ => ?_)))
    cases ok with
    | false => exact wpAny_pure ⟨rfl, fin _ h₃⟩
    | true => exact wpAny_bind (wpAny_bind (wpAny_nay h₃ fun x s₄ h₄ => wpAny_bind (wpAny_nay h₄ fun _ s₅ h₅ => wpAny_pure (wpAny_pure ⟨rfl, fin _ h₅⟩))))
end
def TurnPr (W : Wd) (k : Nat) (names : List (Str × NameKind)) (ρ : List (Str × D)) (x : Str) (ifs : List Expr) (elt : Expr) (pr : D → D) (d : D) (r : Option D) : Prop := TurnOk W k names ρ x ifs elt (pr d) r
/-- the target of a comprehension binds one name to a part of the item -/
def Binds (W : Wd) (A : Around) (nm : List (Str × NameKind)) (x : Str) (target : Expr) (pr : D → D) (ds : List D) (Own : Addr → (Nat → Heap → Prop) → Prop) : Prop :=
  ∀ (cenv : Env) (tx I : Addr) (St : Nat → Heap → Prop) (i : Nat) (s : Shared) (Gi : Part) (v : Value) (d : D) (Q : Unit → Shared → Prop), cenv.scope.kind = .function → cenv.scope.names = nm → Slot cenv x tx → Own I St → d ∈ ds → Den W.C Gi v d → (∀ b o, Gi b = some o → s.heap.get? b = some o) → SlotLive cenv x tx s.heap → St i s.heap →
    (∀ h' tk, (∀ b o, b ≠ tx → s.heap.get? b = some o → h'.get? b = some o) → SlotLive cenv x tx h' → VarAt W cenv h' Gi x (pr d) → Q () { s with heap := h', toks := tk }) →
    wpAny (Md W) A (letOwnedTupleGo target (.ref I) v) (fun _ s₁ => wpAny (Md W) A (assign target cenv v) Q nay s₁) nay s
theorem Binds.name {W : Wd} {A : Around} {nm : List (Str × NameKind)} {x : Str} {px : Pos} {ds : List D} : Binds W A nm x (.Name x px) id ds fun _ _ => True := by
  intro cenv tx I St i s Gi v d Q hk _ S _ _ hd _ l _ h
  exact wpAny_pure (wpAny_assign_Name (slot_store hk S l hd fun h' tk hs l' v' => h h' tk (fun b o hb e => (hs.2 b hb).trans e) l' v'))

section
variable {W : Wd} {k : Nat}
theorem comp_item {A : Around} {s₁ : Shared} {G Gi : Part} {ds rs done rest : List D} {I D tx : Addr} {elt : Expr} {x : Str} {ifs : List Expr} {cenv : Env} {ρ : List (Str × Mine.D)} {pr : Mine.D → Mine.D} {fp : List Addr} {St : Nat → Heap → Prop} {n i tk₃ : Nat} {h₃ : Heap} {ys : List Value} {d : Mine.D}
    (hA : OkA k A) (hn : ds.length ≤ 1000) (F : LoopFix W cenv x tx I D s₁.heap fp St) (live : ∀ i h, St i h → ∃ o, h.get? I = some o) (c₃ : LoopAt W cenv x tx I D s₁.heap G St (i + 1) h₃ Gi ys done) (env₃ : EnvOk W cenv.scope.names ((x, pr d) :: ρ) cenv { s₁ with heap := h₃, toks := tk₃ } Gi)
    (hlt : i < n) (hnn : n = ds.length) (hd : ds[i]? = some d) (hT : Turns (TurnPr W k cenv.scope.names ρ x ifs elt pr) (ds.drop i) rest) (hrs : done ++ rest = rs) (hdl : done.length ≤ i) :
    AfterBind W A ifs elt (.ref D) cenv (LoopInv W cenv x tx I D s₁ G St (TurnPr W k cenv.scope.names ρ x ifs elt pr) n ds rs (i + 1)) { s₁ with heap := h₃, toks := tk₃ } := by
  obtain ⟨hi', he⟩ := List.getElem?_eq_some_iff.mp hd
  rw [List.drop_eq_getElem_cons hi', he] at hT
  generalize ht : ({ s₁ with heap := h₃, toks := tk₃ } : Shared) = s₃ at env₃ ⊢
  have c₃' : LoopAt W cenv x tx I D s₁.heap G St (i + 1) s₃.heap Gi ys done := by rw [← ht]; exact c₃
  have hs : ∀ s', (∃ h' tk, s' = { s₃ with heap := h', toks := tk }) → ∃ h' tk, s' = { s₁ with heap := h', toks := tk } := fun s' ⟨h', tk, e⟩ => ⟨h', tk, by rw [e, ← ht]⟩
  clear ht c₃
  cases hT with
  | @keep _ r _ rest' t1 t2 =>
    have el : ∀ (s' : Shared) (G' : Part), Gr s₃ Gi s' G' → wpAny (Md W) A (eval elt cenv) (fun y s₄ => wpAny (Md W) A (call (.builtin "list.append") [.ref D, y]) (fun _ s₅ => LoopInv W cenv x tx I D s₁ G St (TurnPr W k cenv.scope.names ρ x ifs elt pr) n ds rs (i + 1) s₅) nay s₄) nay s' := by
      intro s' G' g
      refine wpAny_nay (t1.2 A cenv s' G' hA (env₃.grow g)) fun y s₄ ⟨G₄, g₄, d₄⟩ => ?_
      have c₄ := c₃'.grow F live (g.trans g₄)
      obtain ⟨h₄, tk₄, rfl⟩ := hs _ (g.trans g₄).same
      refine wpAny_list_append_plain c₄.acc (fun h₅ acc₅ hs₅ => ?_) (by rw [List.size_toArray, c₄.den.length]; exact line_small (Nat.le_trans hdl (Nat.le_trans (Nat.le_of_lt hlt) (hnn ▸ hn))))
      exact ⟨hlt, ⟨h₅, tk₄, rfl⟩, G₄, ys ++ [y], done ++ [r], rest', c₄.push F (fun b o hb e => (hs₅.2 b hb).trans e) acc₅ d₄, t2, (List.append_assoc ..).trans hrs, by rw [List.length_append]; exact Nat.succ_le_succ hdl⟩
    rcases t1.1 with rfl | ⟨t, rfl, ht⟩
    · exact wpAny_tests_nil (el _ Gi (Gr.refl c₃'.sub))
    · refine wpAny_tests_one (wpAny_nay (ht A cenv _ Gi hA env₃) fun b s' ⟨hb, G', g⟩ => ?_)
      subst hb
      exact el s' G' g
  | drop t1 t2 =>
    obtain ⟨t, rfl, ht⟩ := t1
    refine wpAny_tests_one (wpAny_nay (ht A cenv _ Gi hA env₃) fun b s' ⟨hb, G', g⟩ => ?_)
    subst hb
    exact ⟨hlt, hs _ g.same, G', ys, done, _, c₃'.grow F live g, t2, hrs, Nat.le_succ_of_le hdl⟩
theorem comp_env {s₁ : Shared} {G Gi : Part} {done : List D} {I D tx : Addr} {x : Str} {cenv : Env} {ρ : List (Str × Mine.D)} {St : Nat → Heap → Prop} {i tk₃ : Nat} {h₃ : Heap} {ys : List Value} {d : Mine.D}
    (hB : Base W s₁.heap) (hk : cenv.scope.kind = .function) (hgl : cenv.globals = mainGlobals) (hbl : cenv.builtins = builtinsNs) (hvars : ∀ y d, ρ.lookup y = some d → OldVar W cenv s₁.heap G y d)
    (c₃ : LoopAt W cenv x tx I D s₁.heap G St i h₃ Gi ys done) (hv₃ : VarAt W cenv h₃ Gi x d) : EnvOk W cenv.scope.names ((x, d) :: ρ) cenv { s₁ with heap := h₃, toks := tk₃ } Gi :=
  ⟨hk, rfl, hgl, hbl, hB.keeps c₃.keep, c₃.sub, fun y dy hy => by
    rw [List.lookup_cons] at hy
    cases hb : y == x with
    | true => rw [hb] at hy; cases hy; rw [beq_iff_eq.mp hb]; exact hv₃
    | false =>
      rw [hb] at hy
      obtain ⟨hc, c, v', e1, e2, e3⟩ := hvars y dy hy
      exact ⟨.inr ⟨hc, c, v', e1, e2.keeps c₃.keep, e3.mono c₃.ext⟩⟩⟩
theorem comp_loop {A : Around} {s₁ s₂ s : Shared} {G : Part} {ds rs : List D} {I D tx : Addr} {elt iter target : Expr} {x : Str} {pos : Pos} {ifs : List Expr} {scope : Scope} {cenv : Env} {R : Result → Shared → Prop} {ρ : List (Str × Mine.D)} {pr : Mine.D → Mine.D} {Own : Addr → (Nat → Heap → Prop) → Prop}
    (hA : OkA k A) (hB : Base W s₁.heap) (hk : cenv.scope.kind = .function) (hgl : cenv.globals = mainGlobals) (hbl : cenv.builtins = builtinsNs) (S : Slot cenv x tx) (hbind : Binds W A cenv.scope.names x target pr ds Own)
    (hvars : ∀ y d, ρ.lookup y = some d → OldVar W cenv s₁.heap G y d)
    (T : Turns (TurnPr W k cenv.scope.names ρ x ifs elt pr) ds rs) (hn : ds.length ≤ 1000) (it : Iter W A s₁ G ds I s₂) (own : Own I it.St)
    (hs : ∃ h' tk, s = { s₂ with heap := h', toks := tk }) (hkp : ∀ b o, s₂.heap.get? b = some o → s.heap.get? b = some o)
    (hG : ∀ b o, G b = some o → s₁.heap.get? b = some o) (hGI : G I = none)
    (hD : s.heap.PlainList D #[]) (hDn : s₂.heap.objs.size ≤ D) (hCn : s₂.heap.objs.size ≤ cenv.locals) (htn : s₂.heap.objs.size ≤ tx) (hCD : cenv.locals ≠ D) (htD : tx ≠ D) (hns : ∃ m, s.heap.Ns cenv.locals m) (hlive : SlotLive cenv x tx s.heap)
    (hR : ∀ h' tk m' G' vs, h'.Ns cenv.locals m' → Gr s₁ G { s₁ with heap := h', toks := tk } G' → h'.PlainList D (List.toArray vs) → DenAll W.C G' vs rs → G' D = none → G' cenv.locals = none → s₁.heap.get? D = none → s₁.heap.get? cenv.locals = none → R (.ok .next) { s₁ with heap := h', toks := tk }) :
    codeAny (Md W) A (.compLoop (.ListComp elt [⟨target, iter, ifs, 0⟩] scope pos) 0 (.ref I) (.ref D) cenv) R s := by
  obtain ⟨fp, P, St, n, hnn, walks, st, same, keep, low, new, live, _, is⟩ := it
  have off2 : ∀ a, s₂.heap.objs.size ≤ a → s₁.heap.get? a = none := fun a ha => get_none keep (Heap.get?_none_of_le ha)
  have offG : ∀ a, s₁.heap.get? a = none → G a = none := fun a ha => by
    cases q : G a with
    | none => rfl
    | some o => rw [hG a o q] at ha; cases ha
  have hI : ∀ a, s₂.heap.objs.size ≤ a → I ≠ a := fun a ha e => by obtain ⟨o, ho⟩ := live _ _ st; rw [e] at ho; exact absurd (Heap.lt_size ho) (Nat.not_lt.mpr ha)
  have hfp : ∀ a, s₂.heap.objs.size ≤ a → ∀ b ∈ fp, b ≠ a := fun a ha b hb e => by have := low b hb; rw [e] at this; exact absurd this (Nat.not_lt.mpr ha)
  have F : LoopFix W cenv x tx I D s₁.heap fp St := ⟨S, walks.frame, hI D hDn, hI _ hCn, hI _ htn, hfp D hDn, hfp tx htn, new, off2 D hDn, off2 _ hCn, off2 tx htn, hCD, htD⟩
  refine comp_turns (n := n) (LoopInv W cenv x tx I D s₁ G St (TurnPr W k cenv.scope.names ρ x ifs elt pr) n ds rs) ?_ ?_
  · rintro i s' ⟨hle, ⟨h', tk, rfl⟩, Gi, ys, done, rest, c, hT, hrs, hdl⟩
    rcases Nat.lt_or_eq_of_le hle with hlt | hin
    · refine walks.item i _ _ _ hlt c.st fun v h₂ tk₂ hPv st₂ hk₂ => ⟨hlt, ?_⟩
      obtain ⟨d, hd, hdv⟩ := is i v hlt hPv
      have c₂ := c.next F (fun b o hb e => hk₂ b o (fun q => hb (List.mem_singleton.mp q)) e) st₂
      refine hbind cenv tx I St (i + 1) _ Gi v d _ hk rfl S own (List.mem_of_getElem? hd) (hdv.mono c.ext) c₂.sub c₂.slot st₂ fun h₃ tk₃ e₃ hl₃ hv₃ => ?_
      have c₃ := c₂.store F e₃ hl₃ (c₂.ns' F e₃ hl₃)
      exact comp_item hA hn F live c₃ (comp_env hB hk hgl hbl hvars c₃ hv₃) hlt hnn hd hT hrs hdl
    · subst hin
      refine walks.done _ _ _ c.st fun h₂ tk₂ hk₂ => ?_
      have c₂ := c.any.next (j := i) (h' := h₂) F.any (fun b o hb e => hk₂ b o (fun q => hb (List.mem_singleton.mp q)) e) trivial
      rw [hnn, List.drop_length] at hT
      cases hT
      rw [List.append_nil] at hrs
      subst hrs
      obtain ⟨m, hm⟩ := c₂.ns
      exact hR h₂ tk₂ m Gi ys hm ⟨⟨h₂, tk₂, rfl⟩, c₂.keep, c₂.ext, c₂.sub, c₂.new⟩ c₂.acc c₂.den c₂.gD c₂.gC F.sD F.sC
  · obtain ⟨h₂, tk₂, rfl⟩ := same
    obtain ⟨h₃, tk₃, rfl⟩ := hs
    exact ⟨Nat.zero_le _, ⟨h₃, tk₃, rfl⟩, G, [], [], rs, ⟨fun b o e => hkp b o (keep b o e), walks.frame _ _ _ st fun b _ o e => hkp b o e, hns, hlive, hD, .nil, fun _ _ e => e, fun b o e => hkp b o (keep b o (hG b o e)), fun _ _ e => .inl e, hGI, offG _ F.sC, offG _ F.sD, offG _ F.st⟩, T, rfl, Nat.zero_le _⟩
end
-- C6
section
variable {W : Wd} {k : Nat} {names : List (Str × NameKind)} {ρ : List (Str × D)}

/-- an expression that is gone through: its items; what its iterator owns -/
def ItEvO (Own : Addr → (Nat → Heap → Prop) → Prop) (W : Wd) (k : Nat) (names : List (Str × NameKind)) (ρ : List (Str × D)) (e : Expr) (ds : List D) : Prop :=
  ∀ A env s G, OkA k A → EnvOk W names ρ env s G → wpAny (Md W) A (eval e env) (fun v s₁ => ∃ G₁, Gr s G s₁ G₁ ∧ ∀ Q : Value → Shared → Prop, (∀ I s₂ (it : Iter W A s₁ G₁ ds I s₂), Own I it.St → Q (.ref I) s₂) → wpAny (Md W) A (pyIter v) Q nay s₁) nay s
def ListOwn (I : Addr) (St : Nat → Heap → Prop) : Prop := ∀ i h, St i h → ∃ l j, h.IsListIter I l j
def ItEv := ItEvO fun _ _ => True
theorem ItEvO.list {e : Expr} {ds : List D} (h : Ev W k names ρ e (.list ds)) : ItEvO ListOwn W k names ρ e ds := by
  intro A env s G hA hE
  exact wpAny_nay (h A env s G hA hE) fun v s₁ ⟨G₁, g₁, d₁⟩ => ⟨G₁, g₁, fun Q hQ => iter_list hA.handled g₁.sub d₁ hQ⟩
theorem ItEv.list {e : Expr} {ds : List D} (h : Ev W k names ρ e (.list ds)) : ItEv W k names ρ e ds :=
  fun A env s G hA hE => wpAny_nay (ItEvO.list h A env s G hA hE) fun _ _ ⟨G₁, g₁, q⟩ => ⟨G₁, g₁, fun Q hQ => q Q fun I s₂ it _ => hQ I s₂ it trivial⟩
theorem ItEv.rng {e : Expr} {n : Nat} (h : Ev W k names ρ e (.rng n)) (hz : Builtin.Range.rangeSize 0 (n : Int) 1 = n := by rfl) (hsm : Builtin.Range.small 0 n 1 = true := by rfl) : ItEv W k names ρ e (rngD n) := by
  intro A env s G hA hE
  exact wpAny_nay (h A env s G hA hE) fun v s₁ ⟨G₁, g₁, d₁⟩ => ⟨G₁, g₁, fun Q hQ => iter_rng hz hsm hA.handled g₁.sub d₁ fun I s₂ ⟨it⟩ => hQ I s₂ it trivial⟩

theorem pushCells_size : ∀ (names : List (Str × NameKind)) (h : Heap), h.objs.size ≤ (pushCells h names).objs.size
  | [], h => Nat.le_refl _
  | (x, kd) :: r, h => by
    unfold pushCells
    split
    · refine Nat.le_trans ?_ (pushCells_size r _)
      rw [Heap.size_push]; exact Nat.le_succ _
    · exact pushCells_size r h

/-- the heap behind a comprehension's frame, and its environment -/
def compHeap (h : Heap) (names : List (Str × NameKind)) : Heap := pushCells ((h.push { cls := .type "list", data := .seq ([] : List Value).toArray }).push { cls := .type "dict", data := .dict #[] }) names
def compEnv (scope : Scope) (env : Env) (n : Nat) : Env := { scope := relabel scope env, locals := n + 1, globals := env.globals, cells := cellsFrom (n + 1 + 1) scope.names [] ++ cloOf env.cells scope.names [], qual := env.qual, func := none, code := env.code, frame := env.frame, builtins := env.builtins }
/-- a free name of the block is a cell of the blocks around -/
def FreeOk (names : List (Str × NameKind)) (ρ : List (Str × D)) (sc : List (Str × NameKind)) : Prop := ∀ p ∈ sc, p.2 = .free → (names.lookup p.1 = some .cell ∨ names.lookup p.1 = some .free) ∧ (∃ d, ρ.lookup p.1 = some d) ∧ (sc.all fun q => q.2 != .cell || !(p.1 == q.1)) = true
theorem scope_free {sc : List (Str × NameKind)} {x : Str} (hok : scopeOk names ρ sc x = true) : FreeOk names ρ sc ∧ (sc.lookup x = some .local ∨ sc.lookup x = some .cell) ∧ ∀ y ∈ sc, y.2 = .local → sc.lookup y.1 = some .local := by
  unfold scopeOk at hok
  rw [Bool.and_eq_true, Bool.and_eq_true, Bool.or_eq_true] at hok
  obtain ⟨⟨hfree, hx⟩, hloc⟩ := hok
  refine ⟨fun p hp e => ?_, hx.imp eq_of_beq eq_of_beq, fun y hy e => ?_⟩
  · have h := List.all_eq_true.mp hfree p hp
    rw [e] at h
    have h' : ((names.lookup p.1 == some .cell || names.lookup p.1 == some .free) && (ρ.lookup p.1).isSome && (sc.all fun q => q.2 != .cell || !(p.1 == q.1))) = true := h
    rw [Bool.and_eq_true, Bool.and_eq_true, Bool.or_eq_true] at h'
    exact ⟨h'.1.1.imp eq_of_beq eq_of_beq, Option.isSome_iff_exists.mp h'.1.2, h'.2⟩
  · have h := List.all_eq_true.mp hloc y hy
    rw [e] at h
    exact eq_of_beq h
theorem free_cell {env : Env} {s : Shared} {G : Part} {sc : List (Str × NameKind)} (hE : EnvOk W names ρ env s G) (hfree : FreeOk names ρ sc) (p : Str × NameKind) (hp : p ∈ sc) (e : p.2 = .free) : ∃ d c v, ρ.lookup p.1 = some d ∧ env.cells.lookup p.1 = some c ∧ s.heap.IsCell c (some v) ∧ Den W.C G v d := by
  obtain ⟨h1, ⟨d, hd⟩, _⟩ := hfree p hp e
  rcases (hE.vars p.1 d hd).is with ⟨l, _⟩ | ⟨l, c, v, e1, e2, e3⟩
  · rw [hE.names] at l
    rcases h1 with h1 | h1 <;> (rw [l] at h1; cases h1)
  · exact ⟨d, c, v, hd, e1, e2, e3⟩
theorem relabel_lookup {env : Env} {s : Shared} {G : Part} {scope : Scope} {x : Str} {kd : NameKind} (hE : EnvOk W names ρ env s G) (e : scope.names.lookup x = some kd) (hne : (kd == NameKind.free) = false) : (relabel scope env).names.lookup x = some kd := by
  rw [relabel_names hE.kind, hE.names, relabelN_lookup, e]
  show some (if (kd == NameKind.free && _) = true then NameKind.cell else kd) = some kd
  rw [hne, Bool.false_and]
  rfl
theorem comp_ns (h : Heap) (sc : List (Str × NameKind)) : Heap.Ns (compHeap h sc) (h.objs.size + 1) (fun _ => none) := by
  have := (Heap.Ns.new (h.push { cls := .type "list", data := .seq ([] : List Value).toArray }) (.type "dict")).keeps (pushCells_keeps sc _)
  rw [Heap.size_push] at this
  exact this
theorem comp_slot {env : Env} {s : Shared} {G : Part} {scope : Scope} {x : Str} {h : Heap} (hE : EnvOk W names ρ env s G) (hx : scope.names.lookup x = some .local ∨ scope.names.lookup x = some .cell) :
    ∃ tx, Slot (compEnv scope env h.objs.size) x tx ∧ h.objs.size ≤ tx ∧ tx ≠ h.objs.size ∧ SlotLive (compEnv scope env h.objs.size) x tx (compHeap h scope.names) := by
  rcases hx with q | q
  · have h1 := relabel_lookup hE q rfl
    refine ⟨h.objs.size + 1, .loc h1 rfl, Nat.le_succ _, Nat.ne_of_gt (Nat.lt_succ_self _), fun _ => ⟨_, comp_ns h _⟩, fun e => ?_⟩
    have h2 : (relabel scope env).names.lookup x = some .cell := e
    rw [h1] at h2; cases h2
  · have h1 := relabel_lookup hE q rfl
    have ok := cellsFrom_ok scope.names ((h.push { cls := .type "list", data := .seq ([] : List Value).toArray }).push { cls := .type "dict", data := .dict #[] }) (h.objs.size + 2) [] ⟨fun _ _ hm => (nomatch hm), List.Pairwise.nil⟩ (by rw [Heap.size_push, Heap.size_push]; exact Nat.le_refl _)
    rw [Heap.size_push, Heap.size_push] at ok
    obtain ⟨c, hc⟩ := Option.isSome_iff_exists.mp (cellsFrom_has scope.names (h.objs.size + 1 + 1) [] (.inr q))
    have hm := ok.empty x c (mem_of_lookup hc)
    have hle : h.objs.size + 2 ≤ c := hm.2
    refine ⟨c, .cell h1 (by show List.lookup x (_ ++ _) = _; rw [lookup_app, hc]; rfl), Nat.le_trans (Nat.le_add_right _ 2) hle, Nat.ne_of_gt (Nat.lt_of_lt_of_le (Nat.lt_succ_of_lt (Nat.lt_succ_self _)) hle), fun e => ?_, fun _ => ⟨_, hm.1⟩⟩
    have h2 : (relabel scope env).names.lookup x = some .local := e
    rw [h1] at h2; cases h2
theorem comp_old {env : Env} {s s₁ : Shared} {G G₁ : Part} {scope : Scope} {n : Nat} (hE : EnvOk W names ρ env s G) (g₁ : Gr s G s₁ G₁) (hfree : FreeOk names ρ scope.names) (y : Str) (d : D) (hy : (inh scope.names ρ).lookup y = some d) : OldVar W (compEnv scope env n) s₁.heap G₁ y d := by
  obtain ⟨hfy, hyd⟩ := filter_lookup (f := fun n => scope.names.lookup n == some .free) hy
  have hfy' : scope.names.lookup y = some .free := eq_of_beq hfy
  obtain ⟨d', c, v', e1, e2, e3, e4⟩ := free_cell hE hfree (y, .free) (mem_of_lookup hfy') rfl
  obtain ⟨h1, _, h3⟩ := hfree (y, .free) (mem_of_lookup hfy') rfl
  cases (Option.some.inj (e1.symm.trans hyd) : d' = d)
  refine ⟨?_, c, v', ?_, e3.keeps g₁.keep, e4.mono g₁.ext⟩
  · show (relabel scope env).names.lookup y = _ ∨ (relabel scope env).names.lookup y = _
    rw [relabel_names hE.kind, hE.names, relabelN_lookup, hfy']
    rcases h1 with h1 | h1
    · left
      have h1' : names.lookup y = some .cell := h1
      rw [h1']; rfl
    · right
      have h1' : names.lookup y = some .free := h1
      rw [h1']; rfl
  · show List.lookup y (_ ++ _) = _
    rw [lookup_app, cellsFrom_none scope.names _ [] rfl h3]
    rw [Option.none_or, cloOf_lookup scope.names [] (by show (List.lookup y _).isSome = true; rw [show List.lookup y env.cells = some c from e2]; rfl) (.inl ⟨(y, .free), mem_of_lookup hfy', rfl, rfl⟩) (.inl rfl)]
    exact e2
theorem gr_put {s s' : Shared} {G G' : Part} {a : Addr} {o : Obj} (g : Gr s G s' G') (hn : G' a = none) (h : s.heap.get? a = none) (ho : s'.heap.get? a = some o) : Gr s G s' (put G' a o) := by
  refine ⟨g.same, g.keep, fun b o e => put_ext hn b o (g.ext b o e), fun b o e => ?_, fun b o e => ?_⟩
  · unfold put at e
    by_cases z : b = a
    · subst z; rw [if_pos rfl] at e; cases e; exact ho
    · rw [if_neg z] at e; exact g.sub b o e
  · unfold put at e
    by_cases z : b = a
    · subst z; exact .inr h
    · rw [if_neg z] at e; exact g.new b o e
theorem comp_core {A : Around} {env : Env} {s : Shared} {G : Part} {elt iter target : Expr} {x : Str} {ifs : List Expr} {scope : Scope} {pos p2 : Pos} {ds rs : List D} {pr : D → D} {Own : Addr → (Nat → Heap → Prop) → Prop} {use : Option (Value → Sem Unit)} {Q : Value → Shared → Prop}
    (hA : OkA k A) (hE : EnvOk W names ρ env s G) (hi : ItEvO Own W k names ρ iter ds) (hbind : Binds W A (relabelN names scope.names) x target pr ds Own) (hsc : scope.kind = .function) (hok : scopeOk names ρ scope.names x = true)
    (T : Turns (TurnPr W k (relabelN names scope.names) (inh scope.names ρ) x ifs elt pr) ds rs) (hn : ds.length ≤ 1000)
    (hf : ∀ x, foldedSetIterable iter env x = pure x)
    (fin : ∀ D C s' G', Gr s G s' G' → Den W.C G' (.ref D) (.list rs) → (∃ m, s'.heap.Ns C m) → G' C = none → s.heap.get? C = none → s.heap.get? D = none → compPost (Md W) A nay use Q (.ref D) C (.ok .next) s') :
    wpAny (Md W) A (comprehension (.ListComp elt [⟨target, iter, ifs, 0⟩] scope pos) scope env p2 (newList []) false (eval iter env) use) Q nay s := by
  obtain ⟨hfree, hx, hnames⟩ := scope_free hok
  have hclos := closureFor_is (scope := scope) (env := env) fun p hp e => by obtain ⟨d, c, v, _, h, _⟩ := free_cell hE hfree p hp e; rw [h]; rfl
  refine wpAny_comprehension_free (g := ⟨target, iter, ifs, 0⟩) (gs := []) rfl hf hclos hsc hnames ?_
  refine wpAny_nay (hi A env s G hA hE) fun v s₁ ⟨G₁, g₁, hit⟩ => ?_
  refine hit _ fun I s₂ it own => ?_
  clear hit hclos hnames hok hi
  obtain ⟨h₂, tk₂, e₂⟩ := it.same
  refine wpAny_newList ?_ (Nat.zero_le _)
  refine newEnv_comp ?_
  dsimp only
  rw [Heap.size_push]
  have kp : ∀ b o, s₂.heap.get? b = some o → (compHeap s₂.heap scope.names).get? b = some o := fun b o e => pushCells_keeps _ _ b o (Heap.get?_push_of_some _ (Heap.get?_push_of_some _ e))
  have hD : Heap.PlainList (compHeap s₂.heap scope.names) s₂.heap.objs.size #[] :=
    ⟨_, pushCells_keeps _ _ _ _ (Heap.get?_push_of_some _ (Heap.get?_push_size _ rfl))⟩
  have hE₁ := hE.grow g₁
  obtain ⟨tx, S, ht1, ht2, hl⟩ := comp_slot (h := s₂.heap) hE hx
  have hrel : (compEnv scope env s₂.heap.objs.size).scope.names = relabelN names scope.names := by show (relabel scope env).names = _; rw [relabel_names hE.kind, hE.names]
  have hGI : G₁ I = none := by
    cases q : G₁ I with
    | none => rfl
    | some o => have := g₁.sub I o q; rw [it.new] at this; cases this
  have loop : ∀ {s₃ : Shared}, s₃ = { s₂ with heap := compHeap s₂.heap scope.names } →
      codeAny (Md W) A (.compLoop (.ListComp elt [⟨target, iter, ifs, 0⟩] scope pos) 0 (.ref I) (.ref s₂.heap.objs.size) (compEnv scope env s₂.heap.objs.size))
        (compPost (Md W) A nay use Q (.ref s₂.heap.objs.size) (s₂.heap.objs.size + 1)) s₃ := by
    rintro s₃ rfl
    refine comp_loop (W := W) (k := k) (ρ := inh scope.names ρ) hA hE₁.base hsc hE.globals hE.builtins S (hrel ▸ hbind) (comp_old hE g₁ hfree) (hrel ▸ T) hn it own ⟨_, s₂.toks, rfl⟩ kp g₁.sub hGI hD (Nat.le_refl _) (Nat.le_succ _) ht1 (Nat.ne_of_gt (Nat.lt_succ_self _)) ht2 ⟨_, comp_ns s₂.heap _⟩ hl
      fun h' tk m' G' vs hn' g hpl hden hGD hGC hsD hsC => ?_
    obtain ⟨q, hq⟩ := hpl
    refine fin _ _ _ _ (g₁.trans (gr_put g hGD hsD hq)) (.list (put_self ..) rfl rfl (hden.mono fun b o e => put_ext hGD b o e)) ⟨m', hn'⟩ ?_ (get_none g₁.keep hsC) (get_none g₁.keep hsD)
    exact (if_neg (Nat.ne_of_gt (Nat.lt_succ_self _))).trans hGC
  subst e₂
  exact codeAny_compStart_list (loop rfl) (it.walks.self 0 _ _ _ (it.walks.frame _ _ _ it.st fun b _ o e => kp b o e) (loop rfl))

/-- a list comprehension -/
theorem Ev.compO {elt iter target : Expr} {x : Str} {ifs : List Expr} {scope : Scope} {pos : Pos} {ds rs : List D} {pr : D → D} {Own : Addr → (Nat → Heap → Prop) → Prop} (hi : ItEvO Own W k names ρ iter ds) (hbind : ∀ A, OkA k A → Binds W A (relabelN names scope.names) x target pr ds Own)
    (T : Turns (TurnPr W k (relabelN names scope.names) (inh scope.names ρ) x ifs elt pr) ds rs) (hn : ds.length ≤ 1000) (hok : scopeOk names ρ scope.names x = true) (hsc : scope.kind = .function)
    (hf : ∀ env x, foldedSetIterable iter env x = pure x) : Ev W k names ρ (.ListComp elt [⟨target, iter, ifs, 0⟩] scope pos) (.list rs) := by
  intro A env s G hA hE
  rw [eval_ListComp]
  refine comp_core hA hE hi (hbind A hA) hsc hok T hn (hf env) fun D C s' G' g hd hC hGC hsC hsD => ?_
  refine ⟨hC.choose, hC.choose_spec, fun h' hs' => ⟨G', ?_, hd⟩⟩
  obtain ⟨⟨h1, t1, rfl⟩, k1, x1, u1, n1⟩ := g
  exact ⟨⟨h', t1, rfl⟩, fun b o e => (hs'.2 b fun q => by rw [q, hsC] at e; cases e).trans (k1 b o e), x1, fun b o e => (hs'.2 b fun q => by rw [q, hGC] at e; cases e).trans (u1 b o e), n1⟩
theorem Ev.comp {elt iter : Expr} {x : Str} {px : Pos} {ifs : List Expr} {scope : Scope} {pos : Pos} {ds rs : List D} (hi : ItEv W k names ρ iter ds)
    (T : Turns (TurnOk W k (relabelN names scope.names) (inh scope.names ρ) x ifs elt) ds rs) (hn : ds.length ≤ 1000) (hok : scopeOk names ρ scope.names x = true) (hsc : scope.kind = .function := by rfl)
    (hf : ∀ env x, foldedSetIterable iter env x = pure x := by intro _ _; rfl) : Ev W k names ρ (.ListComp elt [⟨.Name x px, iter, ifs, 0⟩] scope pos) (.list rs) :=
  Ev.compO (pr := id) hi (fun _ _ => Binds.name) T hn hok hsc hf
end
-- C7

structure FrOk (W : Wd) (names : List (Str × NameKind)) (ρ : List (Str × D)) (env : Env) (s₀ : Shared) (G₀ : Part) (s : Shared) (G : Part) : Prop where
  kind : env.scope.kind = .function
  nms : env.scope.names = names
  globals : env.globals = mainGlobals
  builtins : env.builtins = builtinsNs
  base : Base W s₀.heap
  gr : Gr s₀ G₀ s G
  live : ∃ m cm, InCallC s₀ env.locals m env.cells cm s ∧ ∀ x d, ρ.lookup x = some d → (names.lookup x = some .local ∧ ∃ v, m x = some v ∧ Den W.C G v d) ∨ (names.lookup x = some .cell ∧ ∃ c v, env.cells.lookup x = some c ∧ cm x = some v ∧ Den W.C G v d)
  offL : G env.locals = none
  offC : ∀ n c, env.cells.lookup n = some c → G c = none
  allC : ∀ x, names.lookup x = some .cell → (env.cells.lookup x).isSome = true

theorem callC_kept {s₀ s : Shared} {L : Addr} {m cm : Str → Option Value} {cs : List (Str × Addr)} (x : InCallC s₀ L m cs cm s) {s' : Shared} (hs : ∃ h' tk, s' = { s with heap := h', toks := tk }) (k : ∀ b o, s.heap.get? b = some o → s'.heap.get? b = some o) : InCallC s₀ L m cs cm s' := by
  obtain ⟨h', tk, rfl⟩ := hs
  exact ⟨x.toInCall.kept k, fun n c e => (x.cell n c e).keeps k, x.apart, x.above⟩

section
variable {W : Wd} {k : Nat} {names : List (Str × NameKind)} {ρ : List (Str × D)} {env : Env} {s₀ s : Shared} {G₀ G : Part}

theorem FrOk.toEnv (x : FrOk W names ρ env s₀ G₀ s G) : EnvOk W names ρ env s G := by
  obtain ⟨m, cm, i, v⟩ := x.live
  refine ⟨x.kind, x.nms, x.globals, x.builtins, x.base.keeps x.gr.keep, x.gr.sub, fun y d e => ⟨?_⟩⟩
  rcases v y d e with ⟨l, u, q, hd⟩ | ⟨l, c, u, q, q', hd⟩
  · exact .inl ⟨x.nms ▸ l, m, u, i.toInCall.ns, q, hd⟩
  · exact .inr ⟨.inl (x.nms ▸ l), c, u, q, q' ▸ i.cell y c q, hd⟩
theorem FrOk.grow {s' : Shared} {G' : Part} (x : FrOk W names ρ env s₀ G₀ s G) (g : Gr s G s' G') : FrOk W names ρ env s₀ G₀ s' G' := by
  obtain ⟨m, cm, i, v⟩ := x.live
  have hL : ∃ o, s.heap.get? env.locals = some o := let ⟨o, _, _, ho, _⟩ := i.toInCall.ns; ⟨o, ho⟩
  refine ⟨x.kind, x.nms, x.globals, x.builtins, x.base, x.gr.trans g, ⟨m, cm, callC_kept i g.same g.keep, fun y d e => ?_⟩, none_of_new g.new x.offL hL, fun n c e => none_of_new g.new (x.offC n c e) (let ⟨o, ho, _⟩ := i.cell n c e; ⟨o, ho⟩), x.allC⟩
  exact (v y d e).imp (fun ⟨l, u, q, hd⟩ => ⟨l, u, q, hd.mono g.ext⟩) fun ⟨l, c, u, q, q', hd⟩ => ⟨l, c, u, q, q', hd.mono g.ext⟩

/-- a name is stored -/
theorem FrOk.store {A : Around} {x : Str} {v : Value} {d : D} {Q : Unit → Shared → Prop} {E : Value → Shared → Prop} (f : FrOk W names ρ env s₀ G₀ s G) (hx : names.lookup x = some .local ∨ names.lookup x = some .cell) (hd : Den W.C G v d)
    (h : ∀ s', FrOk W names ((x, d) :: ρ) env s₀ G₀ s' G → (∀ b o, b ≠ env.locals → (∀ c, env.cells.lookup x = some c → b ≠ c) → s.heap.get? b = some o → s'.heap.get? b = some o) → (∃ h' tk, s' = { s with heap := h', toks := tk }) → Q () s') : wpAny (Md W) A (storeName env x v) Q E s := by
  obtain ⟨m, cm, i, hv⟩ := f.live
  have sub := f.gr.sub
  have L0 : s₀.heap.get? env.locals = none := Heap.get?_none_of_le i.toInCall.fresh
  rcases hx with hx | hx
  · refine wpAny_storeName_local (by show env.scope.names.lookup x = _; rw [f.nms]; exact hx) i.toInCall.ns (fun h' hn' hs' => ?_) (by rw [f.kind]; rfl)
    have e' : ∀ b o, b ≠ env.locals → s.heap.get? b = some o → h'.get? b = some o := fun b o hb e => (hs'.2 b hb).trans e
    refine h _ ⟨f.kind, f.nms, f.globals, f.builtins, f.base, ?_, ⟨_, cm, ⟨⟨?_, hn', fun b o e => e' b o (fun q => by rw [q, L0] at e; cases e) (i.toInCall.keep b o e), i.toInCall.fresh⟩, fun n c e => (i.cell n c e).sameBut hs' (Nat.ne_of_gt (i.above n c (mem_of_lookup e))), i.apart, i.above⟩, fun y dy hy => ?_⟩, f.offL, f.offC, f.allC⟩ (fun b o hb _ e => e' b o hb e) ⟨h', _, rfl⟩
    · obtain ⟨⟨h1, t1, e1⟩, k1, x1, u1, n1⟩ := f.gr
      exact ⟨⟨h', s.toks + 1, by rw [e1]⟩, fun b o e => e' b o (fun q => by rw [q, L0] at e; cases e) (k1 b o e), x1, fun b o e => e' b o (fun q => by rw [q, f.offL] at e; cases e) (u1 b o e), n1⟩
    · obtain ⟨h1, t1, e1⟩ := i.toInCall.same
      exact ⟨h', s.toks + 1, by rw [e1]⟩
    · rw [List.lookup_cons] at hy
      cases hb : y == x with
      | true =>
        rw [hb] at hy; cases hy
        have hyx := beq_iff_eq.mp hb
        subst hyx
        exact .inl ⟨hx, v, by simp, hd⟩
      | false =>
        rw [hb] at hy
        have hne : y ≠ x := by intro q; subst q; simp at hb
        refine (hv y dy hy).imp (fun ⟨l, u, q, hd⟩ => ⟨l, u, by show (if y = x then _ else _) = _; rw [if_neg hne]; exact q, hd⟩) id
  · obtain ⟨c, hc⟩ := Option.isSome_iff_exists.mp (f.allC x hx)
    have hLc := i.above x c (mem_of_lookup hc)
    refine wpAny_storeName_cell f.kind (by show env.scope.names.lookup x = _; rw [f.nms]; exact hx) hc (i.cell x c hc) fun h' hc' hs' => ?_
    have e' : ∀ b o, b ≠ c → s.heap.get? b = some o → h'.get? b = some o := fun b o hb e => (hs'.2 b hb).trans e
    have c0 : s₀.heap.get? c = none := Heap.get?_none_of_le (Nat.le_trans i.toInCall.fresh (Nat.le_of_lt hLc))
    refine h _ ⟨f.kind, f.nms, f.globals, f.builtins, f.base, ?_, ⟨m, fun y => if y = x then some v else cm y, ⟨⟨?_, i.toInCall.ns.sameBut hs' (Nat.ne_of_lt hLc), fun b o e => e' b o (fun q => by rw [q, c0] at e; cases e) (i.toInCall.keep b o e), i.toInCall.fresh⟩, fun n c₁ e => ?_, i.apart, i.above⟩, fun y dy hy => ?_⟩, f.offL, f.offC, f.allC⟩ (fun b o _ hb e => e' b o (hb c hc) e) ⟨h', s.toks, rfl⟩
    · obtain ⟨⟨h1, t1, e1⟩, k1, x1, u1, n1⟩ := f.gr
      exact ⟨⟨h', s.toks, by rw [e1]⟩, fun b o e => e' b o (fun q => by rw [q, c0] at e; cases e) (k1 b o e), x1, fun b o e => e' b o (fun q => by rw [q, f.offC x c hc] at e; cases e) (u1 b o e), n1⟩
    · obtain ⟨h1, t1, e1⟩ := i.toInCall.same
      exact ⟨h', s.toks, by rw [e1]⟩
    · by_cases q : n = x
      · subst q
        rw [hc] at e; cases e
        simpa using hc'
      · rw [if_neg q]
        exact (i.cell n c₁ e).sameBut hs' fun z => q (name_of_addr i.apart (mem_of_lookup e) (z ▸ mem_of_lookup hc))
    · rw [List.lookup_cons] at hy
      cases hb : y == x with
      | true =>
        rw [hb] at hy; cases hy
        have hyx := beq_iff_eq.mp hb
        subst hyx
        exact .inr ⟨hx, c, v, hc, by simp, hd⟩
      | false =>
        rw [hb] at hy
        have hne : y ≠ x := by intro q; subst q; simp at hb
        refine (hv y dy hy).imp id fun ⟨l, c₁, u, q, q', hd⟩ => ⟨l, c₁, u, q, by show (if y = x then _ else _) = _; rw [if_neg hne]; exact q', hd⟩
end

inductive Out where
  | next (ρ : List (Str × D))
  | ret (d : D)

def Ends (W : Wd) (names : List (Str × NameKind)) (env : Env) (s₀ : Shared) (G₀ : Part) (o : Out) (fl : Flow) (s' : Shared) : Prop :=
  match o with
  | .next ρ' => fl = .next ∧ ∃ G', FrOk W names ρ' env s₀ G₀ s' G'
  | .ret d => ∃ v G', fl = .ret v ∧ Gr s₀ G₀ s' G' ∧ Den W.C G' v d

/-- what statements do -/
def Ex (W : Wd) (k : Nat) (names : List (Str × NameKind)) (ρ : List (Str × D)) (ss : List Stmt) (o : Out) : Prop :=
  ∀ A env s₀ G₀ s G, OkA k A → FrOk W names ρ env s₀ G₀ s G → wpAny (Md W) A (execs ss env) (Ends W names env s₀ G₀ o) nay s

section
variable {W : Wd} {k : Nat} {names : List (Str × NameKind)} {ρ : List (Str × D)} {o : Out}

theorem Ex.nil : Ex W k names ρ [] (.next ρ) := by
  intro A env s₀ G₀ s G hA f
  exact wpAny_execs_nil ⟨rfl, G, f⟩

theorem Ex.assign {e : Expr} {x : Str} {px p : Pos} {rest : List Stmt} {d : D} (h : Ev W k names ρ e d) (r : Ex W k names ((x, d) :: ρ) rest o) (hx : names.lookup x = some .local ∨ names.lookup x = some .cell)
    (hs : ∀ env : Env, env.scope.kind = .function → env.scope.names = names → swapsWith e (some (.Name x px)) p.line env = pure false := by intro _ _ _; rfl) : Ex W k names ρ (.Assign [.Name x px] e p :: rest) o := by
  intro A env s₀ G₀ s G hA f
  refine wpAny_execs_cons (wpAny_Assign_Name (wpAny_nay (h A env s G hA f.toEnv) fun v s1 ⟨G1, g1, d1⟩ => ?_) (hs env f.kind f.nms))
  exact (f.grow g1).store hx d1 fun s' f' _ _ => r A env s₀ G₀ s' G1 hA f'

/-- a cell takes a comprehension -/
theorem swaps_cell {elt : Expr} {gens : List Comprehension} {sc : Scope} {cp px : Pos} {x : Str} {n : Nat} (hx : names.lookup x = some .cell) : ∀ env : Env, env.scope.kind = .function → env.scope.names = names → swapsWith (.ListComp elt gens sc cp) (some (.Name x px)) n env = pure false := by
  intro env hk hn
  have : env.kindOf x = some .cell := by show env.scope.names.lookup x = _; rw [hn]; exact hx
  unfold swapsWith
  have h2 : (some NameKind.cell == some NameKind.local) = false := rfl
  simp only [this, h2, Bool.and_false, Bool.false_and]

theorem Ex.ret {e : Expr} {p : Pos} {rest : List Stmt} {d : D} (h : Ev W k names ρ e d) : Ex W k names ρ (.Return (some e) p :: rest) (.ret d) := by
  intro A env s₀ G₀ s G hA f
  refine wpAny_execs_cons (wpAny_Return_some (wpAny_nay (h A env s G hA f.toEnv) fun v s1 ⟨G1, g1, d1⟩ => ?_))
  exact ⟨v, G1, rfl, f.gr.trans g1, d1⟩


theorem execs_app (env : Env) (b : List Stmt) : ∀ a : List Stmt, execs (a ++ b) env = (execs a env >>= fun f => match f with | .next => execs b env | f => pure f)
  | [] => rfl
  | st :: r => by
    rw [List.cons_append, execs_cons, execs_cons, bind_assoc]
    refine congrArg (exec st env >>= ·) (funext fun f => ?_)
    cases f with
    | next => exact execs_app env b r
    | brk => rfl
    | cont => rfl
    | ret v => rfl

theorem exec_If_cons (env : Env) (t : Expr) (a b rest : List Stmt) (p : Pos) : execs (.If t a b p :: rest) env = (do standAt p; if ← isTrue t env (eval t env) then execs (a ++ rest) env else execs (b ++ rest) env) := by
  rw [execs_cons, exec_If, bind_assoc]
  refine congrArg (standAt p >>= ·) (funext fun _ => ?_)
  rw [bind_assoc]
  refine congrArg (isTrue t env (eval t env) >>= ·) (funext fun c => ?_)
  cases c with
  | true => rw [if_pos rfl, if_pos rfl, execs_app]; exact congrArg (execs a env >>= ·) (funext fun f => by cases f <;> rfl)
  | false => rw [if_neg (by decide), if_neg (by decide), execs_app]; exact congrArg (execs b env >>= ·) (funext fun f => by cases f <;> rfl)

/-- a branch -/
theorem Ex.ite {t : Expr} {a b : List Stmt} {p : Pos} {rest : List Stmt} {c : Bool} (ht : Test W k names ρ t c) (h1 : c = true → Ex W k names ρ (a ++ rest) o) (h2 : c = false → Ex W k names ρ (b ++ rest) o) : Ex W k names ρ (.If t a b p :: rest) o := by
  intro A env s₀ G₀ s G hA f
  rw [exec_If_cons]
  refine wpAny_bind (wpAny_standAt (wpAny_bind (wpAny_nay (ht A env s G hA f.toEnv) fun x s1 ⟨e, G1, g1⟩ => ?_)))
  subst e
  cases x with
  | true => exact h1 rfl A env s₀ G₀ s1 G1 hA (f.grow g1)
  | false => exact h2 rfl A env s₀ G₀ s1 G1 hA (f.grow g1)

/-- values are stored under names, one by one -/
theorem stores {xs : List (Str × Pos)} : ∀ {vs : List Value} {ds : List D} {ρ : List (Str × D)} {A : Around} {env : Env} {s₀ s : Shared} {G₀ G : Part} {Q : Unit → Shared → Prop}, FrOk W names ρ env s₀ G₀ s G → DenAll W.C G vs ds → vs.length = xs.length → (∀ p ∈ xs, names.lookup p.1 = some .local ∨ names.lookup p.1 = some .cell) →
    (∀ s', FrOk W names (((xs.map (·.1)).zip ds).reverse ++ ρ) env s₀ G₀ s' G → Q () s') → wpAny (Md W) A (assignInOrder (xs.map fun p => assign (.Name p.1 p.2) env) vs) Q nay s := by
  induction xs with
  | nil =>
    intro vs ds ρ A env s₀ s G₀ G Q f hd hl hx h
    obtain rfl : vs = [] := List.eq_nil_of_length_eq_zero hl
    obtain rfl : ds = [] := List.eq_nil_of_length_eq_zero hd.length.symm
    exact assignInOrder_nil (h s f)
  | cons p xs ih =>
    intro vs ds ρ A env s₀ s G₀ G Q f hd hl hx h
    cases hd with
    | nil => cases hl
    | @cons v vs d ds h1 h2 =>
      refine assignInOrder_cons (wpAny_assign_Name (f.store (hx p List.mem_cons_self) h1 fun s' f' _ _ => ?_))
      refine ih f' h2 (by simpa using hl) (fun q hq => hx q (List.mem_cons_of_mem _ hq)) fun s'' f'' => h s'' ?_
      have : ((((p :: xs).map (·.1)).zip (d :: ds)).reverse ++ ρ) = ((xs.map (·.1)).zip ds).reverse ++ ((p.1, d) :: ρ) := by
        simp
      rw [this]
      exact f''

/-- a tuple or list is unpacked -/
theorem unpack_any {A : Around} {s : Shared} {G : Part} {v : Value} {d : D} {ds : List D} {ts : List (Bool × (Value → Sem Unit))} {Q : Unit → Shared → Prop} (hA : A.handled = none) (hs : ∀ b o, G b = some o → s.heap.get? b = some o) (hd : Den W.C G v d) (hds : d = .tup ds ∨ d = .list ds) (hn : ts.length = ds.length) (hstar : ts.findIdx? (·.1) = none)
    (h : ∀ s' vs, DenAll W.C G vs ds → Gr s G s' G → wpAny (Md W) A (assignInOrder (ts.map (·.2)) vs) Q nay s') : wpAny (Md W) A (unpack v ts) Q nay s := by
  have gr : ∀ h', Heap.ExtBut s.heap.objs.size s.heap h' → Gr s G { s with heap := h' } G := fun h' he => Gr.heap (t := s.toks) hs fun b o e => he b o (Nat.ne_of_lt (Heap.lt_size e)) e
  unfold unpack
  rw [hstar]
  rcases hds with rfl | rfl
  · obtain ⟨_, _, _, rfl, e, r⟩ := hd.inv
    · have ht : IsTup s.heap _ _ := ⟨_, hs _ _ e, rfl, _, rfl⟩
      rw [hn, ← r.length, ← List.size_toArray]
      exact wpAny_bind (wpAny_holding (unpackItems_tuple hA ht fun h' he => h _ _ r (gr h' he)))
  · obtain ⟨_, _, _, _, rfl, e, c, dt, r⟩ := hd.inv
    · have hl : s.heap.IsList _ _ := ⟨_, hs _ _ e, c, _, dt⟩
      rw [hn, ← r.length, ← List.size_toArray]
      exact wpAny_bind (wpAny_holding (PySem.W.kun_itemsOf hA hl fun h' he => h _ _ r (gr h' he)))

theorem assignEach_names (env : Env) : ∀ xs : List (Str × Pos), assignEach (xs.map fun p => Expr.Name p.1 p.2) env = xs.map fun p => (false, assign (.Name p.1 p.2) env)
  | [] => rfl
  | p :: xs => congrArg ((false, assign (.Name p.1 p.2) env) :: ·) (assignEach_names env xs)

theorem Ex.assignTup {e : Expr} {xs : List (Str × Pos)} {es : List Expr} {n : Nat} {tp p : Pos} {rest : List Stmt} {d : D} {ds : List D} (h : Ev W k names ρ e d) (hds : d = .tup ds ∨ d = .list ds) (r : Ex W k names (((xs.map (·.1)).zip ds).reverse ++ ρ) rest o)
    (hes : es = xs.map fun p => Expr.Name p.1 p.2) (hl : ds.length = xs.length) (hx : ∀ p ∈ xs, names.lookup p.1 = some .local ∨ names.lookup p.1 = some .cell)
    (hs : ∀ env, swapsWithSole [.Tuple es n tp] e p.line env = pure false := by intro _; rfl) (hw : ∀ env, swappedStores [.Tuple es n tp] e env = pure none := by intro _; rfl) : Ex W k names ρ (.Assign [.Tuple es n tp] e p :: rest) o := by
  intro A env s₀ G₀ s G hA f
  refine wpAny_execs_cons (Assign_Tuple (wpAny_nay (h A env s G hA f.toEnv) fun v s1 ⟨G1, g1, d1⟩ => ?_) (hs env) (hw env))
  rw [assign_Tuple]
  refine wpAny_bind (wpAny_standAt ?_)
  subst hes
  rw [assignEach_names]
  refine unpack_any hA.handled g1.sub d1 hds (by rw [List.length_map, hl]) ?_ fun s2 vs hv g2 => ?_
  · clear hl r h hx hs hw
    induction xs with
    | nil => rfl
    | cons p xs ih => rw [List.map_cons, List.findIdx?_cons]; simp only [ih]; rfl
  · rw [List.map_map]
    exact stores ((f.grow g1).grow g2) hv (by rw [hv.length, hl]) hx fun s3 f3 => r A env s₀ G₀ s3 G1 hA f3
end
-- C8
section
variable {W : Wd} {k : Nat} {names : List (Str × NameKind)} {ρ : List (Str × D)}

/-- a name of the top or of the built-ins -/
def Resolve (W : Wd) (x : Str) (v : Value) : Prop := W.mg x = some v ∨ (W.mg x = none ∧ W.mb x = some v)
theorem eval_glob {A : Around} {env : Env} {s : Shared} {G : Part} {x : Str} {p : Pos} {v : Value} {Q : Value → Shared → Prop} {E : Value → Shared → Prop} (hE : EnvOk W names ρ env s G) (hr : Resolve W x v) (hx : names.lookup x = some .globalImplicit) (h : Q v s) (hd : (x == ("__debug__" : Str)) = false := by decide) :
    wpAny (Md W) A (eval (.Name x p) env) Q E s := by
  have hx' : env.kindOf x = some .globalImplicit := by show env.scope.names.lookup x = _; rw [hE.names]; exact hx
  have hg : s.heap.Ns env.globals W.mg := hE.globals ▸ hE.base.g
  have hb : s.heap.Ns env.builtins W.mb := hE.builtins ▸ hE.base.b
  rcases hr with e | ⟨e, e'⟩
  · exact Name_function_global hE.kind hx' (loadGlobal_global hg e h) hd
  · exact Name_function_global hE.kind hx' (loadGlobal_builtin hg e hb e' h) hd

/-- a call upon data -/
def CallB (W : Wd) (k : Nat) (f : Value) (ds : List D) (d : D) : Prop :=
  ∀ A s G vs, OkA k A → Base W s.heap → (∀ b o, G b = some o → s.heap.get? b = some o) → DenAll W.C G vs ds → wpAny (Md W) A (call f vs) (Gives W s G d) nay s

theorem Ev.callB {x : Str} {p pos : Pos} {id : String} {e : Expr} {es : List Expr} {ds : List D} {d : D} (hr : Resolve W x (.builtin id)) (hx : names.lookup x = some .globalImplicit) (ha : EvAll W k names ρ (e :: es) ds) (hc : CallB W k (.builtin id) ds d)
    (hd : (x == ("__debug__" : Str)) = false := by decide) (he : ∀ env, starEach (e :: es) env = (false, eval e env) :: starEach es env := by intro _; rfl) (hp : ∀ env, (backTo pos (starEach es env)).any (·.1) = false := by intro _; rfl) : Ev W k names ρ (.Call (.Name x p) (e :: es) [] pos) d := by
  intro A env s G hA hE
  refine Call_ (eval_glob hE hr hx (callWith_builtin1 ?_ (he env) (hp env)) hd)
  refine wpAny_nay (ha A env s G pos hA hE) fun vs s1 ⟨G1, g1, d1⟩ => ?_
  exact wpAny_nay (hc A s1 G1 vs hA (hE.base.keeps g1.keep) g1.sub d1) fun v s2 ⟨G2, g2, d2⟩ => ⟨G2, g1.trans g2, d2⟩
theorem Ev.callT {x : Str} {p pos : Pos} {T : String} {e : Expr} {es : List Expr} {ds : List D} {d : D} (hr : Resolve W x (.type T)) (hx : names.lookup x = some .globalImplicit) (ha : EvAll W k names ρ (e :: es) ds) (hc : CallB W k (.type T) ds d)
    (hd : (x == ("__debug__" : Str)) = false := by decide) (he : ∀ env, starEach (e :: es) env = (false, eval e env) :: starEach es env := by intro _; rfl) (hp : ∀ env, (backTo pos (starEach es env)).any (·.1) = false := by intro _; rfl) : Ev W k names ρ (.Call (.Name x p) (e :: es) [] pos) d := by
  intro A env s G hA hE
  refine Call_ (eval_glob hE hr hx (PyProof.Rows.callWith_type1 ?_ (he env) (hp env)) hd)
  refine wpAny_nay (ha A env s G pos hA hE) fun vs s1 ⟨G1, g1, d1⟩ => ?_
  exact wpAny_nay (hc A s1 G1 vs hA (hE.base.keeps g1.keep) g1.sub d1) fun v s2 ⟨G2, g2, d2⟩ => ⟨G2, g1.trans g2, d2⟩

/-- a def of the text's -/
structure FnAt (W : Wd) (a : Addr) (fd : FuncData) (body : List Stmt) : Prop where
  at' : ∀ h, Base W h → ∃ o, h.get? a = some o ∧ o.data = .func fd ∧ h.CodeRec fd.code fd.qualname
  body : fd.body = .stmts body
  closure : fd.closure = []
  globals : fd.globals = mainGlobals
  builtins : fd.builtins = builtinsNs
  co : fd.scope.isCoroutine = false
  gen : fd.scope.isGenerator = false
  kind : fd.scope.kind = .function

theorem Ev.callF {x : Str} {p pos : Pos} {a : Addr} {fd : FuncData} {body : List Stmt} {e : Expr} {es : List Expr} {ds : List D} {d : D} (hf : FnAt W a fd body) (hr : Resolve W x (.ref a)) (hx : names.lookup x = some .globalImplicit) (ha : EvAll W k names ρ (e :: es) ds) (hc : CallB W k (.ref a) ds d)
    (hd : (x == ("__debug__" : Str)) = false := by decide) (he : ∀ env, starEach (e :: es) env = (false, eval e env) :: starEach es env := by intro _; rfl) : Ev W k names ρ (.Call (.Name x p) (e :: es) [] pos) d := by
  intro A env s G hA hE
  obtain ⟨o, ho, hdat, _⟩ := hf.at' s.heap hE.base
  refine Call_ (eval_glob hE hr hx (callWith_def (o := o) hdat ?_ (he env)) hd)
  refine wpAny_nay (ha A env s G pos hA hE) fun vs s1 ⟨G1, g1, d1⟩ => ⟨g1.keep _ _ ho, ?_⟩
  exact wpAny_nay (hc A s1 G1 vs hA (hE.base.keeps g1.keep) g1.sub d1) fun v s2 ⟨G2, g2, d2⟩ => ⟨G2, g1.trans g2, d2⟩

/-- the frame of a call -/
theorem fr_start {fd : FuncData} {a : Addr} {s s₁ : Shared} {G : Part} {binds : List (Str × Value)} {ds : List D} {L : Addr} (hB : Base W s.heap) (hs : ∀ b o, G b = some o → s.heap.get? b = some o) (hL : L = s.heap.objs.size)
    (hk : fd.scope.kind = .function) (hgl : fd.globals = mainGlobals) (hbt : fd.builtins = builtinsNs) (hd : DenAll W.C G (binds.map (·.2)) ds) (hx : ∀ x ∈ binds, fd.scope.names.lookup x.1 = some .local ∨ fd.scope.names.lookup x.1 = some .cell)
    (i : InCallC s (callEnvC fd L a).locals (bindL (callEnvC fd L a).kindOf binds fun _ => none) (callEnvC fd L a).cells (bindC (callEnvC fd L a).kindOf binds fun _ => none) s₁) :
    FrOk W fd.scope.names (((binds.map (·.1)).zip ds).reverse) (callEnvC fd L a) s G s₁ G := by
  have hG : ∀ b, s.heap.get? b = none → G b = none := fun b hb => by
    cases q : G b with
    | none => rfl
    | some o => rw [hs b o q] at hb; cases hb
  have fresh := i.toInCall.fresh
  refine ⟨hk, rfl, hgl, hbt, hB, ⟨i.toInCall.same, i.toInCall.keep, fun _ _ e => e, fun b o e => i.toInCall.keep b o (hs b o e), fun _ _ e => .inl e⟩, ⟨_, _, i, ?_⟩, hG _ (Heap.get?_none_of_le fresh), fun n c e => hG _ (Heap.get?_none_of_le (Nat.le_trans fresh (Nat.le_of_lt (i.above n c (mem_of_lookup e))))), fun x e => cellsFrom_has fd.scope.names _ [] (.inr e)⟩
  -- the parameters
  have key : ∀ (binds : List (Str × Value)) (ds : List D) (m cm : Str → Option Value) (ρ : List (Str × D)), DenAll W.C G (binds.map (·.2)) ds → (∀ x ∈ binds, fd.scope.names.lookup x.1 = some .local ∨ fd.scope.names.lookup x.1 = some .cell) →
      (∀ x d, ρ.lookup x = some d → (fd.scope.names.lookup x = some .local ∧ ∃ v, m x = some v ∧ Den W.C G v d) ∨ (fd.scope.names.lookup x = some .cell ∧ ∃ c v, (callEnvC fd L a).cells.lookup x = some c ∧ cm x = some v ∧ Den W.C G v d)) →
      ∀ x d, (((binds.map (·.1)).zip ds).reverse ++ ρ).lookup x = some d → (fd.scope.names.lookup x = some .local ∧ ∃ v, bindL (callEnvC fd L a).kindOf binds m x = some v ∧ Den W.C G v d) ∨ (fd.scope.names.lookup x = some .cell ∧ ∃ c v, (callEnvC fd L a).cells.lookup x = some c ∧ bindC (callEnvC fd L a).kindOf binds cm x = some v ∧ Den W.C G v d) := by
    intro binds
    induction binds with
    | nil => intro ds m cm ρ hd hx hρ x d e; cases hd; exact hρ x d e
    | cons b binds ih =>
      intro ds m cm ρ hd hx hρ x d e
      obtain ⟨n, v⟩ := b
      cases hd with
      | @cons _ _ d₁ ds h1 h2 =>
        have e' : (((binds.map (·.1)).zip ds).reverse ++ ((n, d₁) :: ρ)).lookup x = some d := by simpa using e
        unfold bindL bindC
        refine ih ds _ _ ((n, d₁) :: ρ) h2 (fun y hy => hx y (List.mem_cons_of_mem _ hy)) (fun y dy hy => ?_) x d e'
        have hkn : (callEnvC fd L a).kindOf n = fd.scope.names.lookup n := rfl
        rw [hkn]
        rw [List.lookup_cons] at hy
        cases hb : y == n with
        | true =>
          rw [hb] at hy
          cases hy
          have hyn := beq_iff_eq.mp hb
          subst hyn
          rcases hx (y, v) List.mem_cons_self with l | l
          · have l' : fd.scope.names.lookup y = some .local := l
            exact .inl ⟨l', v, by rw [if_pos l']; simp, h1⟩
          · have l' : fd.scope.names.lookup y = some .cell := l
            have nl : ¬ fd.scope.names.lookup y = some .local := by rw [l']; decide
            obtain ⟨c, hc⟩ := Option.isSome_iff_exists.mp (cellsFrom_has (y := y) fd.scope.names (L + 1) [] (.inr l'))
            exact .inr ⟨l', c, v, hc, by rw [if_neg nl]; simp, h1⟩
        | false =>
          rw [hb] at hy
          have hne : y ≠ n := by intro q; subst q; simp at hb
          refine (hρ y dy hy).imp (fun ⟨l, u, q, hd⟩ => ⟨l, u, ?_, hd⟩) fun ⟨l, c, u, q, q', hd⟩ => ⟨l, c, u, q, ?_, hd⟩
          · split
            · show (if y = n then _ else _) = _; rw [if_neg hne]; exact q
            · exact q
          · split
            · exact q'
            · show (if y = n then _ else _) = _; rw [if_neg hne]; exact q'
  have := key binds ds (fun _ => none) (fun _ => none) [] hd hx (fun _ _ e => nomatch e)
  intro x d e
  exact this x d (by simpa using e)

theorem CallB.fn {a : Addr} {fd : FuncData} {body : List Stmt} {xs : List Str} {ds : List D} {d : D} (hf : FnAt W a fd body) (hbind : ∀ vs : List Value, vs.length = xs.length → bindArgs fd ⟨vs, []⟩ = pure (xs.zip vs)) (hl : ds.length = xs.length)
    (hx : ∀ x ∈ xs, fd.scope.names.lookup x = some .local ∨ fd.scope.names.lookup x = some .cell) (hrun : Ex W k fd.scope.names ((xs.zip ds).reverse) body (.ret d)) : CallB W (k + 1) (.ref a) ds d := by
  intro A s G vs hA hB hs hd
  obtain ⟨o, ho, hdat, hcd⟩ := hf.at' s.heap hB
  have hvl : vs.length = xs.length := by rw [hd.length, hl]
  have z1 : ((xs.zip vs).map (·.1)) = xs := by rw [List.map_fst_zip]; omega
  have z2 : ((xs.zip vs).map (·.2)) = vs := by rw [List.map_snd_zip]; omega
  have hx' : ∀ y ∈ xs.zip vs, fd.scope.names.lookup y.1 = some .local ∨ fd.scope.names.lookup y.1 = some .cell := fun y hy => hx y.1 (List.of_mem_zip hy).1
  refine wpAny_call (codeAny_call_cells (binds := xs.zip vs) (by have := hA.depth; omega) ho hdat hB.nolimit hcd hf.body (hbind vs hvl) hf.closure (fun y hy => ?_) (fun s₁ i => ?_) hf.co hf.gen hf.kind)
  · exact (hx' y hy).imp id fun l => ⟨l, cellsFrom_has fd.scope.names _ [] (.inr l)⟩
  · have f := fr_start (W := W) (ds := ds) hB hs rfl hf.kind hf.globals hf.builtins (by rw [z2]; exact hd) hx' i
    rw [z1] at f
    refine wpAny_nay (hrun (A.deeper _) _ s G s₁ G (hA.deeper _) f) fun fl s' h => ?_
    obtain ⟨v, G', rfl, g, hd'⟩ := h
    exact ⟨G', g, hd'⟩
end
-- C9
section
variable {W : Wd} {k : Nat}

theorem Bin.add {a b : Int} : Bin W k .Add (.int a) (.int b) (.int (a + b)) := by
  intro A s G u v hA hB hs ha hb
  obtain ⟨_, rfl⟩ := ha.inv; obtain ⟨_, rfl⟩ := hb.inv
  exact P.add_int ⟨G, (Gr.refl hs).tok _, .int _ _⟩
theorem Bin.sub {a b : Int} : Bin W k .Sub (.int a) (.int b) (.int (a - b)) := by
  intro A s G u v hA hB hs ha hb
  obtain ⟨_, rfl⟩ := ha.inv; obtain ⟨_, rfl⟩ := hb.inv
  exact P.sub_int ⟨G, (Gr.refl hs).tok _, .int _ _⟩
theorem Bin.mul {a b : Int} (hm : IntMulOk a b) : Bin W k .Mult (.int a) (.int b) (.int (a * b)) := by
  intro A s G u v hA hB hs ha hb
  obtain ⟨_, rfl⟩ := ha.inv; obtain ⟨_, rfl⟩ := hb.inv
  exact P.mul_int ⟨G, (Gr.refl hs).tok _, .int _ _⟩ hm
theorem Bin.mod {a b : Int} (hb : b ≠ 0) : Bin W k .Mod (.int a) (.int b) (.int (a.fmod b)) := by
  intro A s G u v hA hB hs ha hb'
  obtain ⟨_, rfl⟩ := ha.inv; obtain ⟨_, rfl⟩ := hb'.inv
  exact PyProof.Rows.mod_int' hb ⟨G, (Gr.refl hs).tok _, .int _ _⟩
theorem Bin.div {a b : Int} (hb : b ≠ 0) (h : a.natAbs < 1000000) (h' : b.natAbs < 1000000) : Bin W k .FloorDiv (.int a) (.int b) (.int (a.fdiv b)) := by
  intro A s G u v hA hB hs ha hb'
  obtain ⟨_, rfl⟩ := ha.inv; obtain ⟨_, rfl⟩ := hb'.inv
  exact PyProof.Rows.floordiv_int hb ⟨G, (Gr.refl hs).tok _, .int _ _⟩ (.inl (PyProof.noPylong_small (by omega)))
theorem Bin.pow {n : Int} (h0 : 0 ≤ n) (h1 : n ≤ 1000) : Bin W k .Pow (.int 2) (.int n) (.int (2 ^ n.toNat)) := by
  intro A s G u v hA hB hs ha hb
  obtain ⟨_, rfl⟩ := ha.inv; obtain ⟨_, rfl⟩ := hb.inv
  exact PyProof.Rows.pow_int_small h0 (by omega) (by decide) ⟨G, (Gr.refl hs).tok _, .int _ _⟩
theorem Bin.tdiv {a b : Int} (hb : b ≠ 0) (hi : Float64.isInf (Float64.ofFrac (decide (a < 0) != decide (b < 0)) a.natAbs b.natAbs) = false) : Bin W k .Div (.int a) (.int b) (.flt (Float64.ofFrac (decide (a < 0) != decide (b < 0)) a.natAbs b.natAbs)) := by
  intro A s G u v hA hB hs ha hb'
  obtain ⟨_, rfl⟩ := ha.inv; obtain ⟨_, rfl⟩ := hb'.inv
  exact AutoIntOps.truediv_2 (by simpa using hb) (by rw [hi]; decide) ⟨G, (Gr.refl hs).tok _, .flt _ _⟩
theorem Bin.fadd {a b : UInt64} : Bin W k .Add (.flt a) (.flt b) (.flt (Float64.add a b)) := by
  intro A s G u v hA hB hs ha hb
  obtain ⟨_, rfl⟩ := ha.inv; obtain ⟨_, rfl⟩ := hb.inv
  exact AutoFloatOps.add_0 ⟨G, (Gr.refl hs).tok _, .flt _ _⟩
theorem Bin.fsub {a b : UInt64} : Bin W k .Sub (.flt a) (.flt b) (.flt (Float64.sub a b)) := by
  intro A s G u v hA hB hs ha hb
  obtain ⟨_, rfl⟩ := ha.inv; obtain ⟨_, rfl⟩ := hb.inv
  exact AutoFloatOps.sub_0 ⟨G, (Gr.refl hs).tok _, .flt _ _⟩
theorem Bin.fmul {a b : UInt64} : Bin W k .Mult (.flt a) (.flt b) (.flt (Float64.mul a b)) := by
  intro A s G u v hA hB hs ha hb
  obtain ⟨_, rfl⟩ := ha.inv; obtain ⟨_, rfl⟩ := hb.inv
  exact AutoFloatOps.mul_0 ⟨G, (Gr.refl hs).tok _, .flt _ _⟩
theorem Bin.fdiv {a b : UInt64} (hz : Float64.isZero b = false) : Bin W k .Div (.flt a) (.flt b) (.flt (Float64.div a b)) := by
  intro A s G u v hA hB hs ha hb
  obtain ⟨_, rfl⟩ := ha.inv; obtain ⟨_, rfl⟩ := hb.inv
  exact AutoFloatOps.truediv_1 (by rw [hz]; decide) ⟨G, (Gr.refl hs).tok _, .flt _ _⟩
theorem Bin.fmodulo {a b : UInt64} (hz : Float64.isZero b = false) : Bin W k .Mod (.flt a) (.flt b) (.flt (Float64.divmod a b).2) := by
  intro A s G u v hA hB hs ha hb
  obtain ⟨_, rfl⟩ := ha.inv; obtain ⟨_, rfl⟩ := hb.inv
  exact AutoFloatOps.mod_1 (by rw [hz]; decide) ⟨G, (Gr.refl hs).tok _, .flt _ _⟩

theorem Cmp.eq {a b : Int} : Cmp W k .Eq (.int a) (.int b) (a == b) := by
  intro A s G u v hA hB hs ha hb
  obtain ⟨_, rfl⟩ := ha.inv; obtain ⟨_, rfl⟩ := hb.inv
  exact P.eq_int ⟨G, Gr.refl hs, .bool _⟩
theorem Cmp.ne {a b : Int} : Cmp W k .NotEq (.int a) (.int b) (a != b) := by
  intro A s G u v hA hB hs ha hb
  obtain ⟨_, rfl⟩ := ha.inv; obtain ⟨_, rfl⟩ := hb.inv
  exact P.ne_int ⟨G, Gr.refl hs, .bool _⟩
theorem Cmp.lt {a b : Int} : Cmp W k .Lt (.int a) (.int b) (decide (a < b)) := by
  intro A s G u v hA hB hs ha hb
  obtain ⟨_, rfl⟩ := ha.inv; obtain ⟨_, rfl⟩ := hb.inv
  exact P.lt_int ⟨G, Gr.refl hs, .bool _⟩
theorem Cmp.le {a b : Int} : Cmp W k .LtE (.int a) (.int b) (decide (a ≤ b)) := by
  intro A s G u v hA hB hs ha hb
  obtain ⟨_, rfl⟩ := ha.inv; obtain ⟨_, rfl⟩ := hb.inv
  exact P.le_int ⟨G, Gr.refl hs, .bool _⟩
theorem Cmp.gt {a b : Int} : Cmp W k .Gt (.int a) (.int b) (decide (a > b)) := by
  intro A s G u v hA hB hs ha hb
  obtain ⟨_, rfl⟩ := ha.inv; obtain ⟨_, rfl⟩ := hb.inv
  exact P.gt_int ⟨G, Gr.refl hs, .bool _⟩
theorem Cmp.ge {a b : Int} : Cmp W k .GtE (.int a) (.int b) (decide (a ≥ b)) := by
  intro A s G u v hA hB hs ha hb
  obtain ⟨_, rfl⟩ := ha.inv; obtain ⟨_, rfl⟩ := hb.inv
  exact P.ge_int ⟨G, Gr.refl hs, .bool _⟩
theorem Cmp.feq {a b : UInt64} : Cmp W k .Eq (.flt a) (.flt b) (Float64.cmp a b == some .eq) := by
  intro A s G u v hA hB hs ha hb
  obtain ⟨_, rfl⟩ := ha.inv; obtain ⟨_, rfl⟩ := hb.inv
  exact AutoFloatOps.eq_0 ⟨G, Gr.refl hs, .bool _⟩
theorem Cmp.seq {a b : Str} : Cmp W k .Eq (.str a) (.str b) (a == b) := by
  intro A s G u v hA hB hs ha hb
  obtain ⟨_, rfl⟩ := ha.inv; obtain ⟨_, rfl⟩ := hb.inv
  exact PyProof.Rows.eq_str ⟨G, Gr.refl hs, .bool _⟩
theorem Tru.int {a : Int} : Tru W k (.int a) (a != 0) := by
  intro A s G u hA hB hs ha
  obtain ⟨_, rfl⟩ := ha.inv
  exact PyProof.Rows.truthy_int ⟨rfl, G, Gr.refl hs⟩

theorem CallB.absI {a : Int} : CallB W k (.builtin "abs") [.int a] (.int (if a < 0 then -a else a)) := by
  intro A s G vs hA hB hs hd
  obtain ⟨_, rfl, h⟩ := hd.one
  obtain ⟨_, rfl⟩ := h.inv
  exact PyProof.Rows.call_abs_int fun u tk => ⟨G, (Gr.refl hs).tok _, .int _ _⟩
theorem CallB.intI {a : Int} : CallB W k (.type "int") [.int a] (.int a) := by
  intro A s G vs hA hB hs hd
  obtain ⟨_, rfl, h⟩ := hd.one
  obtain ⟨_, rfl⟩ := h.inv
  exact call_int_int ⟨G, Gr.refl hs, .int _ _⟩
theorem CallB.intF {x : UInt64} {sg : Bool} {m : Nat} {e : Int} (hx : Float64.decode x = .fin sg m e) : CallB W k (.type "int") [.flt x] (.int (Float64.truncOf sg m e)) := by
  intro A s G vs hA hB hs hd
  obtain ⟨_, rfl, h⟩ := hd.one
  obtain ⟨_, rfl⟩ := h.inv
  exact call_int_float hx ⟨G, (Gr.refl hs).tok _, .int _ _⟩
theorem CallB.max3 {a b c : Int} : CallB W k (.builtin "max") [.int a, .int b, .int c] (.int (max (max a b) c)) := by
  intro A s G vs hA hB hs hd
  obtain ⟨_, _, _, rfl, h, h', h''⟩ := hd.three
  obtain ⟨_, rfl⟩ := h.inv
  obtain ⟨_, rfl⟩ := h'.inv
  obtain ⟨_, rfl⟩ := h''.inv
  refine max_three_ints hA.handled fun h' tk hk => ⟨G, Gr.heap hs hk, ?_⟩
  have e2 : ∀ (m : Int) (t x : Tok), ∃ z, (if c > m then Value.int c x else Value.int m t) = Value.int (max m c) z := fun m t x => by
    by_cases h : c > m
    · rw [if_pos h, Int.max_eq_right (Int.le_of_lt h)]; exact ⟨_, rfl⟩
    · rw [if_neg h, Int.max_eq_left (Int.not_lt.mp h)]; exact ⟨_, rfl⟩
  have e : ∀ (t u x : Tok), ∃ z, (if b > a then if c > b then Value.int c x else Value.int b u else if c > a then Value.int c x else Value.int a t) = Value.int (max (max a b) c) z := fun t u x => by
    by_cases h : b > a
    · rw [if_pos h, Int.max_eq_right (Int.le_of_lt h)]; exact e2 b u x
    · rw [if_neg h, Int.max_eq_left (Int.not_lt.mp h)]; exact e2 a t x
  obtain ⟨z, hz⟩ := e _ _ _
  rw [hz]
  exact .int _ _
end
-- C10
section
variable {W : Wd} {k : Nat}

theorem CallB.range {n : Nat} : CallB W k (.type "range") [.int (n : Int)] (.rng n) := by
  intro A s G vs hA hB hs hd
  obtain ⟨_, rfl, h⟩ := hd.one
  obtain ⟨t, rfl⟩ := h.inv
  refine call_range_1 ?_
  have g := gr_new hs (o := { cls := .type "range", data := .fields #[.int 0 s.toks, .int n t, .int 1 (s.toks + 1)] }) rfl
  exact ⟨_, g.tok _, .rng (put_self ..)⟩
theorem CallB.divmodI {a b : Int} (hb : b ≠ 0) (h' : b.natAbs < 1000000) : CallB W k (.builtin "divmod") [.int a, .int b] (.tup [.int (a.fdiv b), .int (a.fmod b)]) := by
  intro A s G vs hA hB hs hd
  obtain ⟨_, _, rfl, h, h2⟩ := hd.two
  obtain ⟨_, rfl⟩ := h.inv
  obtain ⟨_, rfl⟩ := h2.inv
  refine PyProof.Rows.divmod_int hb ?_ (.inl (PyProof.noPylong_small (by omega)))
  have g := gr_new hs (o := { cls := .type "tuple", data := .seq #[.int (a.fdiv b) s.toks, .int (a.fmod b) (s.toks + 1)] }) rfl
  exact ⟨_, g.tok _, .tup (vs := [.int (a.fdiv b) s.toks, .int (a.fmod b) (s.toks + 1)]) (put_self ..) (.cons (.int _ _) (.cons (.int _ _) .nil))⟩

theorem argBest_at {num : Nat → Int} {n : Nat} : argBest (fun i j => decide (num i > num j)) n ≤ n ∧ ∀ j, j ≤ n → num j ≤ num (argBest (fun i j => decide (num i > num j)) n) := argBest_gt num n

/-- the greatest of some ints that are gone through -/
theorem max_of {A : Around} {s : Shared} {G : Part} {v : Value} {is : List Int} {m : Int} (hs : ∀ b o, G b = some o → s.heap.get? b = some o) (hne : is ≠ []) (hm : m ∈ is) (hle : ∀ x ∈ is, x ≤ m)
    (hi : ∀ Q : Value → Shared → Prop, (∀ I s₂, Nonempty (Iter W A.in1 s G (is.map D.int) I s₂) → Q (.ref I) s₂) → wpAny (Md W) A.in1 (pyIter v) Q nay s) : wpAny (Md W) A (call (.builtin "max") [v]) (Gives W s G (.int m)) nay s := by
  refine call_max_walk (hi _ fun I s₂ ⟨it⟩ => ?_)
  obtain ⟨fp, P, St, n, hn, walks, st, same, keep, low, new, live, _, is'⟩ := it
  have hpos : 0 < is.length := List.length_pos_iff.mpr hne
  have hlen : n = is.length := by rw [hn, List.length_map]
  have at' : ∀ i v, i < n → P i v → ∃ t, v = .int (is.getD i 0) t := fun i v hi hv => by
    obtain ⟨d, hd, hv'⟩ := is' i v hi hv
    rw [List.getElem?_map] at hd
    cases q : is[i]? with
    | none => rw [q] at hd; cases hd
    | some x =>
      rw [q] at hd
      cases hd
      obtain ⟨t, rfl⟩ := hv'.inv
      exact ⟨t, by rw [List.getD_eq_getElem?_getD, q]; rfl⟩
  have W2 : Walks W.prog W.w A.in1 I fp [I] n (fun i v => i < n ∧ P i v) St := walks.bound
  refine ⟨I, fp, [I], n, _, St, _, rfl, W2, st, low, by omega, CmpOf.ints_gt (fun i => is.getD i 0) (fun i v hv => at' i v hv.1 hv.2), fun v h' tk hP hk => ?_⟩
  obtain ⟨t, rfl⟩ := at' _ v hP.1 hP.2
  obtain ⟨h₂, t₂, rfl⟩ := same
  have e : is.getD (argBest (fun i j => decide (is.getD i 0 > is.getD j 0)) (n - 1)) 0 = m := by
    obtain ⟨q1, q2⟩ := argBest_at (num := fun i => is.getD i 0) (n := n - 1)
    have hlt : argBest (fun i j => decide (is.getD i 0 > is.getD j 0)) (n - 1) < is.length := by have q1' : argBest (fun i j => decide (is.getD i 0 > is.getD j 0)) (n - 1) ≤ n - 1 := q1; omega
    have h1 : is.getD (argBest (fun i j => decide (is.getD i 0 > is.getD j 0)) (n - 1)) 0 ∈ is := getD_mem hlt
    have h2 := hle _ h1
    obtain ⟨j, hj, hjm⟩ := mem_getD hm
    have h3 : is.getD j 0 ≤ is.getD (argBest (fun i j => decide (is.getD i 0 > is.getD j 0)) (n - 1)) 0 := q2 j (by omega)
    omega
  have g : Gr s G { s with heap := h', toks := tk } G := Gr.heap hs fun b o e => hk b o (by
    intro hm
    rw [List.mem_singleton.mp hm, new] at e
    cases e) (keep b o e)
  exact ⟨G, g, by rw [e]; exact .int _ _⟩
theorem max2_is (a b : Int) : max a b = a ∨ max a b = b := (Int.le_total a b).elim (fun h => .inr (Int.max_eq_right h)) fun h => .inl (Int.max_eq_left h)
theorem CallB.maxL4 {a b c d : Int} : CallB W k (.builtin "max") [.list [.int a, .int b, .int c, .int d]] (.int (max (max (max a b) c) d)) := by
  intro A s G vs hA hB hs hd
  obtain ⟨_, rfl, h⟩ := hd.one
  have h1 : ∀ x y : Int, x ≤ max x y := Int.le_max_left
  have h2 : ∀ x y : Int, y ≤ max x y := Int.le_max_right
  refine max_of (is := [a, b, c, d]) hs (List.cons_ne_nil _ _) ?_ ?_ fun Q hQ => iter_list (A := A.in1) hA.handled hs h fun I s₂ it _ => hQ I s₂ ⟨it⟩
  · rcases max2_is (max (max a b) c) d with e | e <;> rw [e]
    · rcases max2_is (max a b) c with e | e <;> rw [e]
      · rcases max2_is a b with e | e <;> rw [e]
        · exact .head _
        · exact .tail _ (.head _)
      · exact .tail _ (.tail _ (.head _))
    · exact .tail _ (.tail _ (.tail _ (.head _)))
  · exact List.forall_mem_cons.2 ⟨Int.le_trans (h1 a b) (Int.le_trans (h1 _ c) (h1 _ d)), List.forall_mem_cons.2 ⟨Int.le_trans (h2 a b) (Int.le_trans (h1 _ c) (h1 _ d)), List.forall_mem_cons.2 ⟨Int.le_trans (h2 _ c) (h1 _ d), List.forall_mem_cons.2 ⟨h2 _ d, fun _ h => nomatch h⟩⟩⟩⟩
theorem iter_tup {A : Around} {s : Shared} {G : Part} {v : Value} {ds : List D} {Q : Value → Shared → Prop} (hA : A.handled = none) (hs : ∀ b o, G b = some o → s.heap.get? b = some o) (hd : Den W.C G v (.tup ds)) 
    (h : ∀ I s₂, Nonempty (Iter W A s G ds I s₂) → Q (.ref I) s₂) : wpAny (Md W) A (pyIter v) Q nay s := by
  obtain ⟨a, n, vs, rfl, e, r⟩ := hd.inv
  have hl : s.heap.IsTuple a vs.toArray := ⟨_, hs _ _ e, rfl, n, rfl⟩
  have hlt : a < s.heap.objs.size := Heap.lt_size (hs _ _ e)
  have hsz : (vs.toArray).size = ds.length := by rw [List.size_toArray]; exact r.length
  refine wpAny_pyIter_tuple hl (h _ _ ⟨{ fp := [s.heap.objs.size, a], P := _, St := _, n := _, hn := hsz, walks := Walks.tuple hA s.heap.objs.size a (Nat.ne_of_lt hlt) vs.toArray, st := ⟨⟨_, Heap.get?_push_size _ rfl, rfl, rfl⟩, hl.push _⟩, same := ⟨_, s.toks, rfl⟩, keep := fun _ _ e => Heap.get?_push_of_some _ e, low := fun b hb => ?_, new := new_none, live := fun i h st => ⟨_, st.1.choose_spec.1⟩, fpG := fun b hb => (List.mem_cons.mp hb).imp id (fun q => ⟨_, List.mem_singleton.mp q ▸ e⟩), is := fun i v _ hv => ?_ }⟩)
  · show b < (s.heap.push _).objs.size
    rw [Heap.size_push]
    rcases List.mem_cons.mp hb with rfl | hb
    · exact Nat.lt_succ_self _
    · rw [List.mem_singleton.mp hb]; exact Nat.lt_succ_of_lt hlt
  · exact r.at (i := i) (by simpa using hv)
theorem CallB.maxT2 {a b : Int} : CallB W k (.builtin "max") [.tup [.int a, .int b]] (.int (max a b)) := by
  intro A s G vs hA hB hs hd
  obtain ⟨_, rfl, h⟩ := hd.one
  refine max_of (is := [a, b]) hs (List.cons_ne_nil _ _) ?_ ?_ fun Q hQ => iter_tup (A := A.in1) hA.handled hs h hQ
  · rcases max2_is a b with e | e <;> rw [e]
    · exact .head _
    · exact .tail _ (.head _)
  · exact List.forall_mem_cons.2 ⟨Int.le_max_left .., List.forall_mem_cons.2 ⟨Int.le_max_right .., fun _ h => nomatch h⟩⟩
theorem CallB.sumI {is : List Int} : CallB W k (.builtin "sum") [.list (is.map D.int)] (.int is.sum) := by
  intro A s G vs hA hB hs hd
  obtain ⟨_, rfl, h⟩ := hd.one
  refine call_sum_walkG (iter_list (A := A.in1) hA.handled hs h fun I s₂ it _ => ?_)
  obtain ⟨fp, P, St, n, hn, walks, st, same, keep, low, new, live, _, is'⟩ := it
  have hlen : n = is.length := by rw [hn, List.length_map]
  refine ⟨I, fp, [I], n, _, St, fun i => is.getD i 0, rfl, walks.bound, st, low, fun i v hv => ?_, fun h' tk t' hk => ?_⟩
  · obtain ⟨d, hd, hv'⟩ := is' i v hv.1 hv.2
    rw [List.getElem?_map] at hd
    cases q : is[i]? with
    | none => rw [q] at hd; cases hd
    | some x =>
      rw [q] at hd
      cases hd
      obtain ⟨t, rfl⟩ := hv'.inv
      exact ⟨t, by show Value.int x t = Value.int (is.getD i 0) t; rw [List.getD_eq_getElem?_getD, q]; rfl⟩
  · obtain ⟨h₂, t₂, rfl⟩ := same
    have g : Gr s G { s with heap := h', toks := tk } G := Gr.heap hs fun b o e => hk b o (by
      intro hm
      rw [List.mem_singleton.mp hm, new] at e
      cases e) (keep b o e)
    have e : ∀ m, m ≤ is.length → preSum (fun i => is.getD i 0) m = (is.take m).sum := by
      intro m
      induction m with
      | zero => intro _; rfl
      | succ m ih =>
        intro hm
        have hlt : m < is.length := hm
        show preSum (fun i => is.getD i 0) m + is.getD m 0 = _
        rw [ih (by omega), PySem.sum_take_succ]
    refine ⟨G, g, ?_⟩
    rw [hlen, e _ (Nat.le_refl _), List.take_length]
    exact .int _ _
end
-- C11
theorem hInts_of {C : Addr} {G : Part} {vs : List Value} {is : List Int} (h : DenAll C G vs (is.map D.int)) : IntsAre vs is := by
  induction is generalizing vs with
  | nil => obtain rfl := DenAll.nil_inv h; exact .nil
  | cons i is ih => obtain ⟨_, _, rfl, h1, r⟩ := DenAll.cons_inv h; obtain ⟨_, rfl⟩ := h1.inv; exact .cons _ _ (ih r)
theorem of_hInts {C : Addr} {G : Part} {vs : List Value} {is : List Int} (h : IntsAre vs is) : DenAll C G vs (is.map D.int) := by
  induction h with
  | nil => exact .nil
  | cons _ _ _ ih => exact .cons (.int _ _) ih
section
variable {W : Wd} {k : Nat} {names : List (Str × NameKind)} {ρ : List (Str × D)}

theorem Item.byt {l : List UInt8} {i : Int} (h0 : 0 ≤ i) (h1 : i < l.length) (hl : l.length ≤ 1000) : Item W k (.byt l.toArray) (.int i) (.int (l.getD i.toNat 0).toNat) := by
  intro A s G u v value slice hA hB hs ha hb hsub
  obtain ⟨_, rfl⟩ := hb.inv
  obtain ⟨_, rfl⟩ := ha.inv
  exact tail_any (PySem.W.typeIs_bytes s _ _) PySem.W.FB.slot_bytes_getitem.lookup (PySem.W.getItem_bytes (by omega) h0 h1 ⟨G, (Gr.refl hs).tok _, .int _ _⟩) (hsub _ _)
theorem Item.str {x : Str} {i : Int} {c : Nat} (h0 : 0 ≤ i) (h1 : i < 1000) (hc : (seqIndex? i x.length).bind (x.cps[·]?) = some c) : Item W k (.str x) (.int i) (.str ⟨#[c]⟩) := by
  intro A s G u v value slice hA hB hs ha hb hsub
  obtain ⟨_, rfl⟩ := hb.inv
  obtain ⟨_, rfl⟩ := ha.inv
  refine tail_any (PySem.typeIs_str s _ _) slot_str_getitem.lookup (getItem_str ?_ hc ⟨G, (Gr.refl hs).tok _, .str _ _⟩) (hsub _ _)
  simp only [Bool.or_eq_false_iff, decide_eq_false_iff_not]
  omega

theorem Bin.sadd {x y : Str} (h : x.length + y.length ≤ 1000) : Bin W k .Add (.str x) (.str y) (.str (x ++ y)) := by
  intro A s G u v hA hB hs ha hb
  obtain ⟨_, rfl⟩ := ha.inv; obtain ⟨_, rfl⟩ := hb.inv
  exact PyProof.Rows.add_str (fun t' tk => ⟨G, (Gr.refl hs).tok _, .str _ _⟩) (line_small h)
theorem Bin.badd {x y : Array UInt8} (h : x.size + y.size ≤ 1000) : Bin W k .Add (.byt x) (.byt y) (.byt (x ++ y)) := by
  intro A s G u v hA hB hs ha hb
  obtain ⟨_, rfl⟩ := ha.inv; obtain ⟨_, rfl⟩ := hb.inv
  exact PySem.W.KBy.add_bytes (by omega) (fun t' tk => ⟨G, (Gr.refl hs).tok _, .byt _ _⟩)

/-- a cut of bytes -/
theorem Ev.cutB {e lo hi : Expr} {p pos : Pos} {b : Array UInt8} {i j : Int} (he : Ev W k names ρ e (.byt b)) (hl : Ev W k names ρ lo (.int i)) (hh : Ev W k names ρ hi (.int j)) (hb : (PySem.W.KBy.picked b (some i) (some j)).size ≤ 1000) :
    Ev W k names ρ (.Subscript e (.Slice (some lo) (some hi) Option.none p) pos) (.byt (PySem.W.KBy.picked b (some i) (some j))) := by
  intro A env s G hA hE
  refine Subscript_ (wpAny_nay (he A env s G hA hE) fun u s1 ⟨G1, g1, d1⟩ => ?_)
  obtain ⟨_, rfl⟩ := d1.inv
  refine wpAny_Slice (wpAny_evalPart_some (wpAny_nay (hl A env s1 G1 hA (hE.grow g1)) fun v s2 ⟨G2, g2, d2⟩ => ?_))
  obtain ⟨tI, rfl⟩ := d2.inv
  refine wpAny_evalPart_some (wpAny_nay (hh A env s2 G2 hA ((hE.grow g1).grow g2)) fun v s3 ⟨G3, g3, d3⟩ => ?_)
  obtain ⟨tJ, rfl⟩ := d3.inv
  refine wpAny_evalPart_none ?_
  have g4 := Gr.heap (t := s3.toks) g3.sub (h' := s3.heap.push { cls := .type "slice", data := .fields #[.int i tI, .int j tJ, .none] }) (fun b o e => Heap.get?_push_of_some _ e)
  refine tail_any (PySem.W.typeIs_bytes _ _ _) PySem.W.FB.slot_bytes_getitem.lookup (getItem_meets (PySem.W.typeIs_bytes _ _ _) (by decide) PySem.W.FB.slot_bytes_getitem PySem.W.FB.entry_bytes_getitem (PySem.W.FB.args_bytes_getitem_2 _ _) (PySem.W.KBc.meets_slice2 _ _ _ (.int i tI) (.int j tJ)) ⟨⟨_, Heap.get?_push_size _ rfl, rfl, rfl⟩, line_small hb, fun t' k => ?_⟩) rfl
  exact ⟨G3, ((g1.trans g2).trans g3).trans (g4.tok _), .byt _ _⟩

/-- a cut of a list of ints, by steps -/
theorem Ev.cutL {e lo st : Expr} {p pos : Pos} {is : List Int} {i j : Int} (he : Ev W k names ρ e (.list (is.map .int))) (hl : Ev W k names ρ lo (.int i)) (hh : Ev W k names ρ st (.int j)) (hj : j ≠ 0) (hb : is.length ≤ 1000) :
    Ev W k names ρ (.Subscript e (.Slice (some lo) Option.none (some st) p) pos) (.list ((pickNums is (some i) Option.none (some j)).map .int)) := by
  intro A env s G hA hE
  refine Subscript_ (wpAny_nay (he A env s G hA hE) fun u s1 ⟨G1, g1, d1⟩ => ?_)
  refine wpAny_Slice (wpAny_evalPart_some (wpAny_nay (hl A env s1 G1 hA (hE.grow g1)) fun v s2 ⟨G2, g2, d2⟩ => ?_))
  obtain ⟨tI, rfl⟩ := d2.inv
  refine wpAny_evalPart_none (wpAny_evalPart_some (wpAny_nay (hh A env s2 G2 hA ((hE.grow g1).grow g2)) fun v s3 ⟨G3, g3, d3⟩ => ?_))
  obtain ⟨tJ, rfl⟩ := d3.inv
  have d1' := (d1.mono g2.ext).mono g3.ext
  have g4 := Gr.heap (t := s3.toks) g3.sub (h' := s3.heap.push { cls := .type "slice", data := .fields #[.int i tI, .none, .int j tJ] }) (fun b o e => Heap.get?_push_of_some _ e)
  obtain ⟨a, o, n, vs, rfl, e, c, dt, r⟩ := d1'.inv
  have hl : (s3.heap.push { cls := .type "slice", data := .fields #[.int i tI, .none, .int j tJ] }).IsList a vs.toArray := ⟨_, Heap.get?_push_of_some _ (g3.sub _ _ e), c, _, dt⟩
  have hInts : IntsAre vs is := hInts_of r
  have len := hInts.length
  have ipk := hInts.pick (some i) Option.none (some j)
  have lpk := length_pickNums_le hInts (some i) Option.none (some j)
  refine tail_any hl.typeIs slot_list_getitem.lookup (wpAny_getItem_list_slice hl ⟨_, Heap.get?_push_size _ rfl, rfl, rfl⟩ (.int i tI) .none (.int j tJ) (by simpa using hj) ?_ (line_small (by simpa [len] using hb))) rfl
  have g5 := gr_new g4.sub (o := { cls := .type "list", data := .seq (slicePick vs.toArray (some i) Option.none (some j)) }) rfl
  refine ⟨_, ((g1.trans g2).trans g3).trans (g4.trans g5), .list (vs := (slicePick vs.toArray (some i) Option.none (some j)).toList) (put_self ..) rfl rfl ?_⟩
  exact of_hInts ipk
end
-- C12
theorem strs_of {C : Addr} {G : Part} {vs : List Value} {is : List Str} (h : DenAll C G vs (is.map D.str)) : StrsAre vs is := by
  induction is generalizing vs with
  | nil => obtain rfl := DenAll.nil_inv h; exact .nil
  | cons i is ih => obtain ⟨_, _, rfl, h1, r⟩ := DenAll.cons_inv h; obtain ⟨_, rfl⟩ := h1.inv; exact .cons _ _ (ih r)
theorem of_strs {C : Addr} {G : Part} {vs : List Value} {is : List Str} (h : StrsAre vs is) : DenAll C G vs (is.map D.str) := by
  induction h with
  | nil => exact .nil
  | cons _ _ _ ih => exact .cons (.str _ _) ih
section
variable {W : Wd} {k : Nat} {names : List (Str × NameKind)} {ρ : List (Str × D)}

theorem CallB.bytesOf {is : List Int} (hr : ∀ n ∈ is, 0 ≤ n ∧ n < 256) (hn : is.length ≤ 1000) : CallB W k (.type "bytes") [.list (is.map .int)] (.byt (PySem.byteArr is)) := by
  intro A s G vs hA hB hs hd
  obtain ⟨_, rfl, h⟩ := hd.one
  obtain ⟨_, _, _, _, rfl, e, c, dt, r⟩ := h.inv
  exact PySem.call_bytes_ints ⟨_, hs _ _ e, c, _, dt⟩ (hInts_of r) hr (line_small (by rw [(hInts_of r).length]; exact hn)) hA.handled fun h' t k hk => ⟨G, Gr.heap hs hk, .byt _ _⟩
theorem CallB.tupleOf {ds : List D} (hn : ds.length ≤ 1000) : CallB W k (.type "tuple") [.list ds] (.tup ds) := by
  intro A s G vs hA hB hs hd
  obtain ⟨_, rfl, h⟩ := hd.one
  obtain ⟨a, o, n, vs, rfl, e, c, dt, r⟩ := h.inv
  refine call_tuple_list ⟨_, hs _ _ e, c, _, dt⟩ (fun h' hk => ?_) (line_small (by rw [List.size_toArray, r.length]; exact hn))
  have g1 := Gr.heap (t := s.toks) hs hk
  have g2 := gr_new g1.sub (o := { cls := .type "tuple", data := .seq vs.toArray }) rfl
  exact ⟨_, g1.trans g2, .tup (put_self ..) (r.mono g2.ext)⟩
theorem CallB.sortedS {ss ts : List Str} (h64 : ss.length < 64) (ht : ∀ ss' : List Str, ss'.Perm ss → sortedS ss' = true → ss' = ts) : CallB W k (.builtin "sorted") [.list (ss.map .str)] (.list (ts.map .str)) := by
  intro A s G vs hA hB hs hd
  obtain ⟨_, rfl, h⟩ := hd.one
  obtain ⟨a, o, n, vs, rfl, e, c, dt, r⟩ := h.inv
  have S := strs_of r
  refine sorted_strs ⟨_, hs _ _ e, c, _, dt⟩ S (by rw [r.length]; simpa using h64) fun out ss' h1 h2 h3 => ?_
  have e' := ht ss' h2 h3
  subst e'
  have hk : ∀ b o, s.heap.get? b = some o → (sortedAll s.heap vs out).get? b = some o := fun b o e => sortedAll_old e
  obtain ⟨e1, h5⟩ := sortedAll_at s.heap vs out
  exact ⟨_, Gr.put (t := s.toks) hs hk (Heap.get?_none_of_le (Nat.le_succ _)) h5, .list (vs := out.toList) (put_self ..) rfl rfl (of_strs h1)⟩

/-- the best of three -/
def best3 (bt : Int → Int → Bool) (a b c : Int) : Int :=
  let m := if bt b a then b else a
  if bt c m then c else m
theorem best3_max (a b c : Int) : best3 (fun x y => decide (x > y)) a b c = max (max a b) c := by
  have h : ∀ x y : Int, (if decide (y > x) = true then y else x) = max x y := fun x y => by
    by_cases h : y > x
    · rw [if_pos (decide_eq_true h), Int.max_eq_right (Int.le_of_lt h)]
    · rw [if_neg (fun e => h (of_decide_eq_true e)), Int.max_eq_left (Int.not_lt.mp h)]
  rw [← h (max a b) c, ← h a b]; rfl
theorem best3_min (a b c : Int) : best3 (fun x y => decide (x < y)) a b c = min (min a b) c := by
  have h : ∀ x y : Int, (if decide (y < x) = true then y else x) = min x y := fun x y => by
    by_cases h : y < x
    · rw [if_pos (decide_eq_true h), Int.min_eq_right (Int.le_of_lt h)]
    · rw [if_neg (fun e => h (of_decide_eq_true e)), Int.min_eq_left (Int.not_lt.mp h)]
  rw [← h (min a b) c, ← h a b]; rfl
theorem best3_at {P : Nat → Int → Prop} {bt : Int → Int → Bool} {a b c : Int} (ha : P 0 a) (hb : P 1 b) (hc : P 2 c) : P (argBest (fun i j => bt ([a, b, c].getD i 0) ([a, b, c].getD j 0)) 2) (best3 bt a b c) := by
  show P (if bt c ([a, b, c].getD (if bt b a = true then 1 else 0) 0) = true then 2 else if bt b a = true then 1 else 0) (if bt c (if bt b a = true then b else a) = true then c else if bt b a = true then b else a)
  cases bt b a
  · show P (if bt c a = true then 2 else 0) (if bt c a = true then c else a)
    cases bt c a
    · exact ha
    · exact hc
  · show P (if bt c b = true then 2 else 1) (if bt c b = true then c else b)
    cases bt c b
    · exact hb
    · exact hc
/-- the walk of max and min over three values -/
theorem three_walk {A : Around} {s : Shared} {v1 v2 v3 : Value} {op : CmpOp} {bt : Int → Int → Bool} {a b c : Int} {mk : Int → Tok → Value} {ok : Tok → Prop} {Q : Value → Shared → Prop} {E : Value → Shared → Prop} (hh : A.handled = none)
    (h1 : ∃ t, ok t ∧ v1 = mk a t) (h2 : ∃ t, ok t ∧ v2 = mk b t) (h3 : ∃ t, ok t ∧ v3 = mk c t)
    (hcmp : ∀ x ∈ [a, b, c], ∀ y ∈ [a, b, c], ∀ t u (s : Shared) (Q : Value → Shared → Prop) (E : Value → Shared → Prop), Q (.bool (bt x y)) s → wpAny (Md W) A.in1 (richCompare op (mk x t) (mk y u)) Q E s)
    (hQ : ∀ h' tk t, ok t → (∀ d o, s.heap.get? d = some o → h'.get? d = some o) → Q (mk (best3 bt a b c) t) { s with heap := h', toks := tk }) :
    wpAny (Md W) A.in1 (pyIter (.ref s.heap.objs.size)) (fun it s₂ => ∃ I fp wr n P St bt, it = .ref I ∧ Walks W.prog W.w A.in1 I fp wr n P St ∧ St 0 s₂.heap ∧ (∀ b ∈ fp, b < s₂.heap.objs.size) ∧ 0 < n ∧ CmpOf W.prog W.w A.in1 op P bt ∧
      ∀ v h' tk, P (argBest bt (n - 1)) v → (∀ b o, b ∉ wr → s₂.heap.get? b = some o → h'.get? b = some o) → Q v { s₂ with heap := h', toks := tk }) E { s with heap := s.heap.push { cls := .type "tuple", data := .seq #[v1, v2, v3] } } := by
  have hT : (s.heap.push { cls := .type "tuple", data := .seq #[v1, v2, v3] }).IsTuple s.heap.objs.size #[v1, v2, v3] := ⟨_, Heap.get?_push_size _ rfl, rfl, 0, rfl⟩
  have at' : ∀ i v, (#[v1, v2, v3] : Array Value)[i]? = some v → [a, b, c].getD i 0 ∈ [a, b, c] ∧ ∃ t, ok t ∧ v = mk ([a, b, c].getD i 0) t := by
    intro i v e
    match i, e with
    | 0, e => cases e; exact ⟨.head _, h1⟩
    | 1, e => cases e; exact ⟨.tail _ (.head _), h2⟩
    | 2, e => cases e; exact ⟨.tail _ (.tail _ (.head _)), h3⟩
    | n + 3, e => cases e
  refine wpAny_pyIter_tuple hT ?_
  refine ⟨_, [_, s.heap.objs.size], [_], _, _, _, fun i j => bt ([a, b, c].getD i 0) ([a, b, c].getD j 0), rfl, Walks.tuple (A := A.in1) hh _ s.heap.objs.size (by rw [Heap.size_push]; exact Nat.ne_of_lt (Nat.lt_succ_self _)) #[v1, v2, v3],
    ⟨⟨_, Heap.get?_push_size _ rfl, rfl, rfl⟩, hT.push _⟩, fun d hd => ?_, Nat.succ_pos 2, fun i j vi vj s' Q E hi hj hQ => ?_, fun v h' tk hP hk => ?_⟩
  · show d < ((s.heap.push _).push _).objs.size
    rw [Heap.size_push, Heap.size_push]
    rcases List.mem_cons.mp hd with rfl | hd
    · exact (Heap.size_push ..).symm ▸ Nat.lt_succ_self _
    · rw [List.mem_singleton.mp hd]; exact Nat.lt_succ_of_lt (Nat.lt_succ_self _)
  · obtain ⟨mx, t, _, rfl⟩ := at' i vi hi
    obtain ⟨my, u, _, rfl⟩ := at' j vj hj
    exact hcmp _ mx _ my t u s' Q E hQ
  · have hx : ∃ t, ok t ∧ v = mk (best3 bt a b c) t := best3_at (P := fun i x => (#[v1, v2, v3] : Array Value)[i]? = some v → ∃ t, ok t ∧ v = mk x t) (fun e => (at' _ _ e).2) (fun e => (at' _ _ e).2) (fun e => (at' _ _ e).2) hP
    obtain ⟨t, ht, rfl⟩ := hx
    refine hQ h' tk t ht fun d o e => hk d o (fun hm => ?_) (Heap.get?_push_of_some _ (Heap.get?_push_of_some _ e))
    have := Heap.lt_size e
    rw [List.mem_singleton.mp hm, Heap.size_push] at this
    exact Nat.lt_irrefl _ (Nat.lt_of_succ_lt this)
theorem ord_lt (x y : Int) : (some (compare x y) == some Ordering.lt) = decide (x < y) := by
  by_cases h : x < y
  · rw [Int.compare_eq_lt.mpr h, decide_eq_true h]; rfl
  · rw [decide_eq_false h]; exact beq_false_of_ne fun e => h (Int.compare_eq_lt.mp (Option.some.inj e))
theorem ord_gt (x y : Int) : (some (compare x y) == some Ordering.gt) = decide (x > y) := by
  by_cases h : x > y
  · rw [Int.compare_eq_gt.mpr h, decide_eq_true h]; rfl
  · rw [decide_eq_false h]; exact beq_false_of_ne fun e => h (Int.compare_eq_gt.mp (Option.some.inj e))
theorem CallB.min3f {F : Int → UInt64} {a b c : Int} (hc : ∀ x ∈ [a, b, c], ∀ y ∈ [a, b, c], Float64.cmp (F x) (F y) = some (compare x y)) : CallB W k (.builtin "min") [.flt (F a), .flt (F b), .flt (F c)] (.flt (F (min (min a b) c))) := by
  intro A s G vs hA hB hs hd
  obtain ⟨_, _, _, rfl, h, h', h''⟩ := hd.three
  obtain ⟨_, rfl⟩ := h.inv
  obtain ⟨_, rfl⟩ := h'.inv
  obtain ⟨_, rfl⟩ := h''.inv
  rw [← best3_min]
  exact call_min_three (three_walk (mk := fun x t => .float (F x) t) (ok := fun _ => True) (bt := fun x y => decide (x < y)) hA.handled ⟨_, trivial, rfl⟩ ⟨_, trivial, rfl⟩ ⟨_, trivial, rfl⟩ (fun x mx y my t u s' Q E hQ => AutoFloatOps.lt_0 (by rw [hc x mx y my, ord_lt]; exact hQ)) fun h' tk t _ hk => ⟨G, Gr.heap hs hk, .flt _ _⟩)
end
-- C13
open PySem.Builtin in
theorem run4 {id : String} {d : _codecs.Decoder} {b0 b1 b2 b3 : UInt8} {c0 c1 c2 c3 : Nat} (h0 : d.find true #[b0, b1, b2, b3] 0 = .text [c0] 1) (h1 : d.find true #[b0, b1, b2, b3] 1 = .text [c1] 2) (h2 : d.find true #[b0, b1, b2, b3] 2 = .text [c2] 3) (h3 : d.find true #[b0, b1, b2, b3] 3 = .text [c3] 4) :
    _codecs.runDecoder id d none true #[b0, b1, b2, b3] 0 [] = pure (#[c0, c1, c2, c3], 4) := by
  unfold _codecs.runDecoder
  simp [Std.Legacy.Range.forIn_eq_forIn_range', List.range', h0, h1, h2, h3, sizeLine]
open PySem.Builtin in
theorem ascii4 {id : String} {b0 b1 b2 b3 : UInt8} (h0 : b0.toNat < 128) (h1 : b1.toNat < 128) (h2 : b2.toNat < 128) (h3 : b3.toNat < 128) :
    _codecs.runDecoder id _codecs.asciiDecoder none true #[b0, b1, b2, b3] 0 [] = pure (#[b0.toNat, b1.toNat, b2.toNat, b3.toNat], 4) := by
  exact run4 (if_pos h0) (if_pos h1) (if_pos h2) (if_pos h3)
open PySem.Builtin in
theorem forIn_two {σ β : Type} {f : Nat → σ → Sem (ForInStep σ)} {n : Nat} {s s1 : σ} {g : σ → β} {m : Sem β} {b : β} (hm : m = (forIn [0 : n + 2] s f >>= fun r => pure (g r))) (h0 : f 0 s = pure (.yield s1)) (h1 : f 1 s1 = pure (.done s1)) (hb : g s1 = b) : m = pure b := by
  rw [hm, Std.Legacy.Range.forIn_eq_forIn_range', ← hb, show ([:n + 2] : Std.Legacy.Range).size = n + 2 from Nat.div_one _]
  show forIn (0 :: 1 :: List.range' 2 n) s f >>= _ = _
  rw [List.forIn_cons, h0, pure_bind]
  show forIn (1 :: List.range' 2 n) s1 f >>= _ = _
  rw [List.forIn_cons, h1, pure_bind]
  show pure s1 >>= _ = _
  rw [pure_bind]
open PySem.Builtin in
theorem two_ifs {α : Type} {P Q : Prop} [Decidable P] [Decidable Q] {a b c d : α} (hP : ¬ P) (hQ : Q) (hb : b = d) : (if P then a else if Q then b else c) = d := by rw [if_neg hP, if_pos hQ, hb]
open PySem.Builtin in
theorem enc_narrow {id : String} {self : Value} {x : Str} (hx : ∀ c ∈ x.cps.toList, c < 128) (hn : x.length ≤ 1000) (h2 : 2 ≤ x.length) : _codecs.encodeNarrow id _codecs.asciiCodec none self x = pure (x.cps.map (·.toUInt8)) := by
  have hfold : ∀ (l : List Nat) (out : Array UInt8), l.foldl (fun acc y => acc ++ (_codecs.asciiCodec.bytesOf y).toArray) out = out ++ (l.map (·.toUInt8)).toArray := by
    intro l
    induction l with
    | nil => intro out; exact Array.append_empty.symm
    | cons c l ih => 
      intro out; refine (ih _).trans ?_; rw [Array.append_assoc]; exact congrArg (out ++ ·) (List.append_toArray ..)
  obtain ⟨⟨l⟩⟩ := x
  match l, hx, hn, h2 with
  | c :: c' :: l, hx, hn, _ =>
  have hb2 : ∀ y ∈ c :: c' :: l, _codecs.asciiCodec.bad y = false := fun y hy => decide_eq_false (Nat.not_le.2 (hx y hy))
  have hb : (c :: c' :: l).toArray.findIdx? _codecs.asciiCodec.bad = none := Array.findIdx?_eq_none_iff.2 fun y hy => hb2 y (List.mem_toArray.1 hy)
  have he : ((c :: c' :: l).toArray.extract 0 (c :: c' :: l).toArray.size) = (c :: c' :: l).toArray := Array.extract_size
  have hc : (!_codecs.asciiCodec.bad c) = true := by rw [hb2 c (.head _)]; rfl
  have hclean : (((c :: c' :: l).toArray.extract 0 (c :: c' :: l).toArray.size).findIdx? _codecs.asciiCodec.bad).getD ((c :: c' :: l).toArray.extract 0 (c :: c' :: l).toArray.size).size = (c :: c' :: l).toArray.size := by rw [he, hb]; rfl
  have hout : (((c :: c' :: l).toArray.extract 0 (c :: c' :: l).toArray.size).extract 0 ((((c :: c' :: l).toArray.extract 0 (c :: c' :: l).toArray.size).findIdx? _codecs.asciiCodec.bad).getD ((c :: c' :: l).toArray.extract 0 (c :: c' :: l).toArray.size).size)).foldl (fun acc y => acc ++ (_codecs.asciiCodec.bytesOf y).toArray) #[] = (c :: c' :: l).toArray.map (·.toUInt8) := by
    rw [hclean, he, he, ← Array.foldl_toList, hfold]; rw [List.map_toArray]; exact Array.empty_append
  refine forIn_two (n := l.length) (s1 := ((c :: c' :: l).toArray.size, (c :: c' :: l).toArray.map (·.toUInt8), {})) rfl (two_ifs (by decide) hc ?_) ((if_neg ?_).trans ?_) rfl
  · refine congrArg (fun x : Nat × Array UInt8 => (pure (ForInStep.yield (x.1, x.2, ({} : _codecs.Faults))) : Sem _)) (Prod.ext ?_ ?_ : ((_, _) : Nat × Array UInt8) = (_, _))
    · exact (Nat.zero_add _).trans hclean
    · exact hout
  · rw [Array.size_map]
    have : l.length + 1 + 1 ≤ 1000 := hn
    show ¬ (16777216 < l.length + 1 + 1)
    omega
  · have : (c :: c' :: l).toArray[(c :: c' :: l).toArray.size]? = none := Array.getElem?_eq_none (Nat.le_refl _)
    dsimp only
    rw [this]
-- C14
section
variable {W : Wd} {k : Nat} {names : List (Str × NameKind)} {ρ : List (Str × D)}

/-- a method of a built-in type, asked of a datum -/
def Meth (W : Wd) (d : D) (name : Str) (id : String) : Prop :=
  ∀ A s G v pl (Q : Value × List Value → Shared → Prop), Base W s.heap → (∀ b o, G b = some o → s.heap.get? b = some o) → Den W.C G v d → Q (.builtin id, [v]) s → wpAny (Md W) A (getMethod v name pl) Q nay s

theorem Ev.meth0 {o : Expr} {name : Str} {apos pos : Pos} {id : String} {d r : D} (ho : Ev W k names ρ o d) (hm : Meth W d name id) (hc : CallB W k (.builtin id) [d] r)
    (he : ∀ env, ∃ pl, eval (.Call (.Attribute o name apos) [] [] pos) env = (do
      let ov ← eval o env
      standAt apos.atName
      let (f, first) ← holding [ov] (getMethod ov name pl)
      callWith pos f first (backTo pos (starEach [] env)) []) := by intro _; exact ⟨_, rfl⟩) : Ev W k names ρ (.Call (.Attribute o name apos) [] [] pos) r := by
  intro A env s G hA hE
  obtain ⟨pl, he⟩ := he env
  refine MethodCall_ (wpAny_nay (ho A env s G hA hE) fun v s1 ⟨G1, g1, d1⟩ => hm A s1 G1 v pl _ (hE.grow g1).base g1.sub d1 ?_) he
  refine callWith_method0 (wpAny_nay (hc A s1 G1 [v] hA (hE.grow g1).base g1.sub (.cons d1 .nil)) fun v2 s2 ⟨G2, g2, d2⟩ => ⟨G2, g1.trans g2, d2⟩)
theorem Ev.meth1 {o : Expr} {name : Str} {apos pos : Pos} {id : String} {d r : D} {e : Expr} {es : List Expr} {ds : List D} (ho : Ev W k names ρ o d) (hm : Meth W d name id) (ha : EvAll W k names ρ (e :: es) ds) (hc : CallB W k (.builtin id) (d :: ds) r)
    (he : ∀ env, ∃ pl, eval (.Call (.Attribute o name apos) (e :: es) [] pos) env = (do
      let ov ← eval o env
      standAt apos.atName
      let (f, first) ← holding [ov] (getMethod ov name pl)
      callWith pos f first (backTo pos (starEach (e :: es) env)) []) := by intro _; exact ⟨_, rfl⟩)
    (hs : ∀ env, starEach (e :: es) env = (false, eval e env) :: starEach es env := by intro _; rfl) (hp : ∀ env, (backTo pos (starEach es env)).any (·.1) = false := by intro _; rfl) : Ev W k names ρ (.Call (.Attribute o name apos) (e :: es) [] pos) r := by
  intro A env s G hA hE
  obtain ⟨pl, he⟩ := he env
  refine MethodCall_ (wpAny_nay (ho A env s G hA hE) fun v s1 ⟨G1, g1, d1⟩ => hm A s1 G1 v pl _ (hE.grow g1).base g1.sub d1 ?_) he
  refine callWith_method1 (wpAny_nay (ha A env s1 G1 pos hA (hE.grow g1)) fun vs s2 ⟨G2, g2, d2⟩ => ?_) (hs env) (hp env)
  refine wpAny_nay (hc A s2 G2 (v :: vs) hA ((hE.grow g1).grow g2).base g2.sub (.cons (d1.mono g2.ext) d2)) fun v2 s3 ⟨G3, g3, d3⟩ => ⟨G3, (g1.trans g2).trans g3, d3⟩

theorem Meth.str {x : Str} {name : Str} {id : String} (slot : PySem.Slot "str" name id) (ty : typeOf (.builtin id) = pure (.type "method_descriptor")) : Meth W (.str x) name id := by
  intro A s G v pl Q hB hs hd hq
  obtain ⟨_, rfl⟩ := hd.inv
  exact getMethod_builtin (PySem.typeIs_str s _ _) PySem.F.plainAttrs_str slot ty (fun _ e => nomatch e) hq
theorem Meth.byt {x : Array UInt8} {name : Str} {id : String} (slot : PySem.Slot "bytes" name id) (ty : typeOf (.builtin id) = pure (.type "method_descriptor")) : Meth W (.byt x) name id := by
  intro A s G v pl Q hB hs hd hq
  obtain ⟨_, rfl⟩ := hd.inv
  exact getMethod_builtin (PySem.W.typeIs_bytes s _ _) PySem.W.FB.plainAttrs_bytes slot ty (fun _ e => nomatch e) hq

theorem CallB.lower {x : Str} (hx : x.length ≤ 1000) : CallB W k (.builtin "str.lower") [.str x] (.str (Txt.lower x)) := by
  intro A s G vs hA hB hs hd
  obtain ⟨_, rfl, h⟩ := hd.one
  obtain ⟨_, rfl⟩ := h.inv
  exact SCL.lower (by omega) fun _ => ⟨G, (Gr.refl hs).tok _, .str _ _⟩
theorem CallB.join {sep : Str} {ys : List Str} (hn : (ys.map (·.length)).sum + ys.length * sep.length ≤ 1000) : CallB W k (.builtin "str.join") [.str sep, .list (ys.map .str)] (.str (Txt.join sep ys)) := by
  intro A s G vs hA hB hs hd
  obtain ⟨_, _, rfl, h, hb⟩ := hd.two
  obtain ⟨_, rfl⟩ := h.inv
  obtain ⟨_, _, _, _, rfl, e, c, dt, r⟩ := hb.inv
  exact PyProof.Rows.join_list ⟨_, hs _ _ e, c, _, dt⟩ (by simpa using strs_of r) (by omega) fun t' k => ⟨G, (Gr.refl hs).tok _, .str _ _⟩

/-- a built-in whose tree is known -/
theorem call_tree {A : Around} {E : Value → Shared → Prop} {s : Shared} {T : String} {name : Str} {id : String} {B : Builtin} {self : Value} {rest : List Value} {Q : Value → Shared → Prop} (slot : PySem.Slot T name id) (hT : s.TypeIs self T)
    (entry : entryFor table id = some B) (args : argsOk id ⟨self :: rest, []⟩) (h : wpAny (Md W) A.in1 (B ⟨self :: rest, []⟩) (fun fin s' => ∃ v, fin = .done (.ret v) ∧ Q v s') E s) : wpAny (Md W) A (call (.builtin id) (self :: rest)) Q E s :=
  wpAny_call (codeAny_call_builtin slot.plain entry (slot.check _ _ _ _ _ _ _ _ hT args (wpAny_mono h (fun fin s' h' => by obtain ⟨v, rfl, hv⟩ := h'; exact hv) fun _ _ x => x)))

theorem args_bytes_decode_2 (a b : Value) : argsOk "bytes.decode" ⟨[a, b], []⟩ := by
  unfold argsOk; rw [signature?_of (id := "bytes.decode") (n := ['e', 'd', 'o', 'c', 'e', 'd']) (o := ['s', 'e', 't', 'y', 'b']) (by kernel_rfl) PySem.W.FB.owner_bytes]; kernel_rfl
open PySem.Builtin in
theorem decode_tree (b0 : UInt8) (bs : List UInt8) (t u : Tok) : «bytes.decode» ⟨[.bytes (b0 :: bs).toArray t, .str (Str.ofString "ascii") u], []⟩ = (mkStr (Str.ofString "utf-8") >>= fun _ => mkStr (Str.ofString "ascii") >>= fun e => mkStr (Str.ofString "bytes.decode") >>= fun d =>
    call (.builtin "_codecs.decode.text") [.bytes (b0 :: bs).toArray t, e, .none, d] >>= fun v => ret v) := by kernel_rfl
open PySem.Builtin in
theorem decode_road {id : String} {b : Array UInt8} : _codecs.decodeRoad id b (Str.ofString "ascii") none [] = (_codecs.runDecoder id _codecs.asciiDecoder none true b 0 [] >>= fun r => mkStr ⟨r.1⟩) := by kernel_rfl
open PySem.Builtin in
theorem CallB.decode {b0 b1 b2 b3 : UInt8} (h0 : b0.toNat < 128) (h1 : b1.toNat < 128) (h2 : b2.toNat < 128) (h3 : b3.toNat < 128) : CallB W k (.builtin "bytes.decode") [.byt #[b0, b1, b2, b3], .str (Str.ofString "ascii")] (.str ⟨#[b0.toNat, b1.toNat, b2.toNat, b3.toNat]⟩) := by
  intro A s G vs hA hB hs hd
  obtain ⟨_, _, rfl, h, hb⟩ := hd.two
  obtain ⟨t, rfl⟩ := h.inv
  obtain ⟨u, rfl⟩ := hb.inv
  refine call_tree PySem.W.FB.slot_bytes_decode (PySem.W.typeIs_bytes _ _ _) PySem.W.FB.entry_bytes_decode (args_bytes_decode_2 _ _) ?_
  rw [decode_tree]
  refine wpAny_bind (wpAny_mkStr ?_ (by decide))
  refine wpAny_bind (wpAny_mkStr ?_ (by decide))
  refine wpAny_bind (wpAny_mkStr ?_ (by decide))
  refine wpAny_bind (call_function_meets PySem.W.KBd.kind_text PySem.W.KBd.plain_text PySem.W.KBd.entry_text (PySem.W.KBd.args_text _ _ _ _) (S := fun _ R s => ∀ t' k, R (.ok (.ret (.str ⟨#[b0.toNat, b1.toNat, b2.toNat, b3.toNat]⟩ t'))) { s with toks := k }) ?_ ?_)
  · refine .of_wp fun prog w A R s hS => ?_
    show wpAny _ _ (Bytes.bytesLike _ (.bytes _ t) >>= fun r => _) _ _ s
    refine wpAny_bind (wpAny_of_eq PySem.W.KBd.like_eq ?_)
    refine wpAny_bind (wpAny_of_eq PySem.W.KBd.held_eq ?_)
    show wpAny _ _ (_codecs.decodeRoad _ _ (PySem.Str.ofString "ascii") none [] >>= fun v => _) _ _ s
    rw [decode_road, ascii4 h0 h1 h2 h3]
    refine wpAny_bind (wpAny_bind (wpAny_pure ?_))
    exact wpAny_mkStr (wpAny_pure ⟨_, rfl, hS _ _⟩) (line_small (by show 4 ≤ 1000; decide))
  · exact fun t' k => wpAny_pure ⟨_, rfl, G, (Gr.refl hs).tok _, .str _ _⟩

open PySem.Builtin in
theorem encode_tree (x : Str) (t u : Tok) : «str.encode» ⟨[.str x t, .str (Str.ofString "ascii") u], []⟩ = (do ret (← _codecs.encodeRoad "str.encode" (.str x t) x (Str.ofString "ascii") none)) := by kernel_rfl
open PySem.Builtin in
theorem encode_road (id : String) (self : Value) (x : Str) : _codecs.encodeRoad id self x (Str.ofString "ascii") none = (do mkBytes (← _codecs.encodeNarrow id _codecs.asciiCodec none self x)) := by kernel_rfl
open PySem.Builtin in
theorem CallB.encode {x : Str} (hx : ∀ c ∈ x.cps.toList, c < 128) (hn : x.length ≤ 1000) (h2 : 2 ≤ x.length) : CallB W k (.builtin "str.encode") [.str x, .str (Str.ofString "ascii")] (.byt (x.cps.map (·.toUInt8))) := by
  intro A s G vs hA hB hs hd
  obtain ⟨_, _, rfl, h, hb⟩ := hd.two
  obtain ⟨t, rfl⟩ := h.inv
  obtain ⟨u, rfl⟩ := hb.inv
  refine call_tree PySem.F.slot_str_encode (PySem.typeIs_str _ _ _) PySem.F.entry_str_encode (PySem.F.args_str_encode_2 _ _) ?_
  rw [encode_tree, encode_road, enc_narrow hx hn h2]
  refine wpAny_bind (wpAny_bind (wpAny_pure ?_))
  exact wpAny_mkBytes (wpAny_pure ⟨_, rfl, G, (Gr.refl hs).tok _, .byt _ _⟩) (line_small (by rw [Array.size_map]; exact hn))
end
-- S1
section
open PySem.Sre (M)

/-- the words of the flags pattern -/
def fc : Array Nat := #[14, 4, 0, 8, 4294967295, 24, 5, 0, 4294967295, 2, 1, 16, 70, 16, 76, 16, 65, 16, 71, 16, 83, 16, 32, 16, 40, 17, 0, 24, 6, 0, 4294967295, 20, 41, 1, 17, 1, 16, 41, 1]
/-- the place p is given back; the tail stands at pc, pos -/
def stF (t : Array Nat) (p pc pos : Nat) (sn : Sre.Seen) : M :=
  { code := fc, text := t, lim := 17, start := 0, pc := pc, pos := pos, handed := p, outermost := true, marks := #[none, none],
    frames := [{ wait := .giveBack, pc := 5, pos := p, outermost := true, count := (p : Int), kept := {} }], weight := 1, seen := sn }

theorem runFor_add : ∀ a b (m : M), M.runFor (a + b) m = M.runFor b (M.runFor a m) := by
  intro a
  induction a with
  | zero => intro b m; rw [Nat.zero_add]; rfl
  | succ a ih =>
    intro b m
    rw [show a + 1 + b = (a + b) + 1 by omega]
    show (if m.outcome.isSome then m else M.runFor (a + b) m.step) = M.runFor b (if m.outcome.isSome then m else M.runFor a m.step)
    split
    · next h => cases b with
      | zero => rfl
      | succ b => show m = (if m.outcome.isSome then m else _); rw [if_pos h]
    · exact ih b m.step

def Goes (n : Nat) (m m' : M) : Prop := ∃ k, k ≤ n ∧ M.runFor k m = m'
theorem Goes.refl (m : M) : Goes 0 m m := ⟨0, Nat.le_refl _, rfl⟩
theorem Goes.step {m m' m1 : M} {n : Nat} (h : m.outcome = none) (e : m.step = m1) (g : Goes n m1 m') : Goes (n + 1) m m' := by
  obtain ⟨k, hk, e'⟩ := g
  refine ⟨k + 1, by omega, ?_⟩
  show (if m.outcome.isSome then m else M.runFor k m.step) = _
  rw [h, e]; exact e'
theorem Goes.trans {m m' m'' : M} {a b : Nat} (x : Goes a m m') (y : Goes b m' m'') : Goes (a + b) m m'' := by
  obtain ⟨i, hi, rfl⟩ := x
  obtain ⟨j, hj, rfl⟩ := y
  exact ⟨i + j, by omega, runFor_add i j m⟩
theorem Goes.le {m m' : M} {a b : Nat} (x : Goes a m m') (h : a ≤ b) : Goes b m m' := by
  obtain ⟨i, hi, e⟩ := x; exact ⟨i, by omega, e⟩

def lits : List (Nat × Nat) := [(11, 70), (13, 76), (15, 65), (17, 71), (19, 83), (21, 32), (23, 40)]
theorem exec_lit (t : Array Nat) (p pos : Nat) (sn : Sre.Seen) {pc w : Nat} (h : (pc, w) ∈ lits) :
    (stF t p pc pos sn).step = (if pos ≥ 17 then ({ stF t p pc pos (sn.add 16) with answer := some false } : M) else
      bif t.getD pos 0 == w then stF t p (pc + 2) (pos + 1) (sn.add 16) else { stF t p pc pos (sn.add 16) with answer := some false }) := by
  have e : (stF t p pc pos sn).step = (if pos ≥ 17 then ({ stF t p pc pos (sn.add 16) with answer := some false } : M) else
      match (Except.ok (t.getD pos 0 == w, sn.add 16) : Except String (Bool × Sre.Seen)) with
      | .error why => (stF t p pc pos (sn.add 16)).stick why
      | .ok (false, seen) => ({ stF t p pc pos (sn.add 16) with seen := seen }).say false
      | .ok (true, seen) => { stF t p pc pos (sn.add 16) with seen := seen, pc := pc + 2, pos := pos + 1 }) := by
    simp only [lits, List.mem_cons, Prod.mk.injEq, List.not_mem_nil, or_false] at h
    rcases h with ⟨rfl, rfl⟩ | ⟨rfl, rfl⟩ | ⟨rfl, rfl⟩ | ⟨rfl, rfl⟩ | ⟨rfl, rfl⟩ | ⟨rfl, rfl⟩ | ⟨rfl, rfl⟩ <;> kernel_rfl
  rw [e]
  split
  · rfl
  · cases t.getD pos 0 == w <;> rfl
theorem back_c (t : Array Nat) (p pc pos : Nat) (c : Int) (sn : Sre.Seen) : ({ stF t p pc pos sn with answer := some false, frames := [{ wait := .giveBack, pc := 5, pos := p, outermost := true, count := c, kept := {} }] } : M).step =
    (if c - 1 < ((0 : Nat) : Int) then { stF t p 5 p sn with answer := some false, frames := [], weight := 0 } else
      { stF t (p - 1) 11 (p - 1) sn with frames := [{ wait := .giveBack, pc := 5, pos := p - 1, outermost := true, count := c - 1, kept := {} }] }) := by kernel_rfl
theorem back_one (t : Array Nat) (p pc pos : Nat) (sn : Sre.Seen) : ({ stF t (p + 1) pc pos sn with answer := some false } : M).step = stF t p 11 p sn := by
  have h := back_c t (p + 1) pc pos ((p + 1 : Nat) : Int) sn
  rw [if_neg (by omega), show ((p + 1 : Nat) : Int) - 1 = (p : Int) by omega] at h
  exact h
end
-- S2
section
open PySem.Sre (M)

theorem lit_no (t : Array Nat) (p pos : Nat) (sn : Sre.Seen) {pc w : Nat} (h : (pc, w) ∈ lits) (no : 17 ≤ pos ∨ t.getD pos 0 ≠ w) : ∃ sn', Goes 2 (stF t (p + 1) pc pos sn) (stF t p 11 p sn') := by
  have e := exec_lit t (p + 1) pos sn h
  have e' : (stF t (p + 1) pc pos sn).step = ({ stF t (p + 1) pc pos (sn.add 16) with answer := some false } : M) := by
    rw [e]
    split
    · rfl
    · next hp =>
      have : (t.getD pos 0 == w) = false := by rcases no with q | q; exact absurd q hp; exact beq_false_of_ne q
      rw [this]; rfl
  exact ⟨_, .step rfl e' (.step rfl (back_one t p pc pos _) (.refl _))⟩
theorem lit_yes (t : Array Nat) (p pos : Nat) (sn : Sre.Seen) {pc w : Nat} (h : (pc, w) ∈ lits) (hp : pos < 17) (yes : t.getD pos 0 = w) : Goes 1 (stF t p pc pos sn) (stF t p (pc + 2) (pos + 1) (sn.add 16)) := by
  have e := exec_lit t p pos sn h
  rw [if_neg (by omega), yes, beq_self_eq_true] at e
  exact .step rfl e (.refl _)
theorem lit_or (t : Array Nat) (p pos : Nat) (sn : Sre.Seen) {pc w n : Nat} (h : (pc, w) ∈ lits) (rest : ∀ sn, ∃ sn', Goes n (stF t (p + 1) (pc + 2) (pos + 1) sn) (stF t p 11 p sn')) (hn : 1 ≤ n) : ∃ sn', Goes (n + 1) (stF t (p + 1) pc pos sn) (stF t p 11 p sn') := by
  by_cases no : 17 ≤ pos ∨ t.getD pos 0 ≠ w
  · obtain ⟨sn', g⟩ := lit_no t p pos sn h no
    exact ⟨sn', g.le (by omega)⟩
  · have no' : ¬ 17 ≤ pos ∧ t.getD pos 0 = w := by
      refine ⟨fun q => no (.inl q), ?_⟩
      exact Classical.byContradiction fun q => no (.inr q)
    obtain ⟨sn', g⟩ := rest (sn.add 16)
    exact ⟨sn', ((lit_yes t (p + 1) pos sn h (by omega) no'.2).trans g).le (by omega)⟩
theorem place_no (t : Array Nat) (p : Nat) (sn : Sre.Seen) (no : 17 ≤ p + 5 ∨ t.getD (p + 5) 0 ≠ 83) : ∃ sn', Goes 6 (stF t (p + 1) 11 (p + 1) sn) (stF t p 11 p sn') := by
  refine lit_or t p _ sn (w := 70) (by decide) (n := 5) (fun sn => ?_) (by decide)
  refine lit_or t p _ sn (w := 76) (by decide) (n := 4) (fun sn => ?_) (by decide)
  refine lit_or t p _ sn (w := 65) (by decide) (n := 3) (fun sn => ?_) (by decide)
  refine lit_or t p _ sn (w := 71) (by decide) (n := 2) (fun sn => ?_) (by decide)
  exact lit_no t p _ sn (w := 83) (by decide) no
theorem all_back (t : Array Nat) (no : ∀ q, 5 ≤ q → q < 17 → t.getD q 0 ≠ 83) : ∀ (p : Nat), p ≤ 17 → ∀ sn, ∃ sn', Goes (6 * p) (stF t p 11 p sn) (stF t 0 11 0 sn')
  | 0, _, sn => ⟨sn, .refl _⟩
  | p + 1, hp, sn => by
    obtain ⟨sn1, g1⟩ := place_no t p sn (by by_cases q : 17 ≤ p + 5; exact .inl q; exact .inr (no _ (by omega) (by omega)))
    obtain ⟨sn2, g2⟩ := all_back t no p (by omega) sn1
    exact ⟨sn2, (g1.trans g2).le (by omega)⟩

/-- the text: FLAGS (w1 w2) -/
def ft (a b c d e f g h : Nat) : Array Nat := #[70, 76, 65, 71, 83, 32, 40, a, b, c, d, 32, e, f, g, h, 41]
def Lt (x : Nat) : Prop := 65 ≤ x ∧ x ≤ 80

theorem ft_no {a b c d e f g h : Nat} (ha : Lt a) (hb : Lt b) (hc : Lt c) (hd : Lt d) (he : Lt e) (hf : Lt f) (hg : Lt g) (hh : Lt h) : ∀ q, 5 ≤ q → q < 17 → (ft a b c d e f g h).getD q 0 ≠ 83 := by
  unfold Lt at *
  intro q h5 h17
  match q, h5, h17 with
  | 5, _, _ => show (32:Nat) ≠ 83; decide
  | 6, _, _ => show (40:Nat) ≠ 83; decide
  | 7, _, _ => show a ≠ 83; omega
  | 8, _, _ => show b ≠ 83; omega
  | 9, _, _ => show c ≠ 83; omega
  | 10, _, _ => show d ≠ 83; omega
  | 11, _, _ => show (32:Nat) ≠ 83; decide
  | 12, _, _ => show e ≠ 83; omega
  | 13, _, _ => show f ≠ 83; omega
  | 14, _, _ => show g ≠ 83; omega
  | 15, _, _ => show h ≠ 83; omega
  | 16, _, _ => show (41:Nat) ≠ 83; decide
  | q + 17, _, h => omega

/-- the machine's start for `match` -/
def m0F (t : Array Nat) : M := Sre.forMatch fc t 1 0 17 false false
theorem run_any (t : Array Nat) (no : ∀ q, q < 17 → t.getD q 0 ≠ 10) : ∀ (n p found : Nat) (sn : Sre.Seen), p + n ≤ 17 → Sre.run fc t 9 n p found sn = .ok (found + n, sn)
  | 0, _, _, _, _ => rfl
  | n + 1, p, found, sn, h => by
    have e : Sre.run fc t 9 (n + 1) p found sn = (do let (yes, seen) ← (Except.ok (t.getD p 0 != 10, sn) : Except String (Bool × Sre.Seen)); if yes then Sre.run fc t 9 n (p + 1) (found + 1) seen else pure (found, seen)) := by kernel_rfl
    rw [e]
    have : (t.getD p 0 != 10) = true := by simpa using no p (by omega)
    rw [this]
    show Sre.run fc t 9 n (p + 1) (found + 1) sn = _
    rw [run_any t no n (p + 1) (found + 1) sn (by omega)]
    congr 2; omega
theorem run_not (t : Array Nat) : ∀ (n p found : Nat) (sn : Sre.Seen), (∀ q, p ≤ q → q < p + n → t.getD q 0 ≠ 41) → t.getD (p + n) 0 = 41 → Sre.run fc t 31 (n + 1) p found sn = .ok (found + n, sn)
  | 0, p, found, sn, no, yes => by
    have e : Sre.run fc t 31 1 p found sn = (do let (yes, seen) ← (Except.ok (t.getD p 0 != 41, sn) : Except String (Bool × Sre.Seen)); if yes then Sre.run fc t 31 0 (p + 1) (found + 1) seen else pure (found, seen)) := by kernel_rfl
    rw [e, show t.getD p 0 = 41 from yes]; rfl
  | n + 1, p, found, sn, no, yes => by
    have e : Sre.run fc t 31 (n + 2) p found sn = (do let (yes, seen) ← (Except.ok (t.getD p 0 != 41, sn) : Except String (Bool × Sre.Seen)); if yes then Sre.run fc t 31 (n + 1) (p + 1) (found + 1) seen else pure (found, seen)) := by kernel_rfl
    rw [e]
    have : (t.getD p 0 != 41) = true := by simpa using no p (by omega) (by omega)
    rw [this]
    show Sre.run fc t 31 (n + 1) (p + 1) (found + 1) sn = _
    rw [run_not t n (p + 1) (found + 1) sn (fun q h1 h2 => no q (by omega) (by omega)) (by rw [← yes]; congr 1; omega)]
    congr 2; omega
theorem m0_step (t : Array Nat) (no : ∀ q, q < 17 → t.getD q 0 ≠ 10) : ∃ sn, Goes 1 (m0F t) (stF t 17 11 17 sn) := by
  have e : (m0F t).step = (match Sre.run fc t 9 17 0 0 ((({} : Sre.Seen).add 14 |>.add 24).add 2) with
    | .error why => ({ m0F t with seen := (({} : Sre.Seen).add 14).add 24 } : M).stick why
    | .ok (n, seen) => if n < 0 then ({ m0F t with seen := seen } : M).say false else ({ m0F t with seen := seen, pos := 0 + n } : M).afterRun .giveBack n {}) := by kernel_rfl
  rw [run_any t no 17 0 0 _ (by decide)] at e
  exact ⟨_, .step rfl e (.refl _)⟩

/-- the tail at the first place -/
theorem m0_end {a b c d e f g h : Nat} (ha : Lt a) (hb : Lt b) (hc : Lt c) (hd : Lt d) (he : Lt e) (hf : Lt f) (hg : Lt g) (hh : Lt h) (sn : Sre.Seen) :
    ∃ m', Goes 40 (stF (ft a b c d e f g h) 0 11 0 sn) m' ∧ m'.outcome = some .matched ∧ m'.lastmark = 1 ∧ m'.marks = #[some 7, some 16] ∧ m'.start = 0 ∧ m'.handed = 17 ∧ m'.lastindex = 1 := by
  have t1 := lit_yes (ft a b c d e f g h) 0 0 sn (pc := 11) (w := 70) (by decide) (by decide) rfl
  have t2 := lit_yes (ft a b c d e f g h) 0 1 (sn.add 16) (pc := 13) (w := 76) (by decide) (by decide) rfl
  have t3 := lit_yes (ft a b c d e f g h) 0 2 ((sn.add 16).add 16) (pc := 15) (w := 65) (by decide) (by decide) rfl
  have t4 := lit_yes (ft a b c d e f g h) 0 3 (((sn.add 16).add 16).add 16) (pc := 17) (w := 71) (by decide) (by decide) rfl
  have t5 := lit_yes (ft a b c d e f g h) 0 4 ((((sn.add 16).add 16).add 16).add 16) (pc := 19) (w := 83) (by decide) (by decide) rfl
  have t6 := lit_yes (ft a b c d e f g h) 0 5 (((((sn.add 16).add 16).add 16).add 16).add 16) (pc := 21) (w := 32) (by decide) (by decide) rfl
  have t7 := lit_yes (ft a b c d e f g h) 0 6 ((((((sn.add 16).add 16).add 16).add 16).add 16).add 16) (pc := 23) (w := 40) (by decide) (by decide) rfl
  have t := ((((((t1.trans t2).trans t3).trans t4).trans t5).trans t6).trans t7)
  generalize (((((((sn.add 16).add 16).add 16).add 16).add 16).add 16).add 16) = s7 at t
  -- the mark, the letters
  have x1 : (stF (ft a b c d e f g h) 0 25 7 s7).step = ({ stF (ft a b c d e f g h) 0 27 7 (s7.add 17) with marks := #[some 7, none], lastmark := 0 } : M) := by kernel_rfl
  have x2 : ({ stF (ft a b c d e f g h) 0 27 7 (s7.add 17) with marks := #[some 7, none], lastmark := 0 } : M).step = (match Sre.run fc (ft a b c d e f g h) 31 10 7 0 (((s7.add 17).add 24).add 20) with
    | .error why => ({ stF (ft a b c d e f g h) 0 27 7 ((s7.add 17).add 24) with marks := #[some 7, none], lastmark := 0 } : M).stick why
    | .ok (n, seen) => if n < 0 then ({ stF (ft a b c d e f g h) 0 27 7 seen with marks := #[some 7, none], lastmark := 0 } : M).say false else
      ({ stF (ft a b c d e f g h) 0 27 (7 + n) seen with marks := #[some 7, none], lastmark := 0 } : M).afterRun .giveBack n { lastmark := 0 }) := by kernel_rfl
  rw [run_not _ 9 7 0 _ ?no rfl] at x2
  case no =>
    unfold Lt at *
    intro q h7 h16
    match q, h7, h16 with
    | 7, _, _ => show a ≠ 41; omega
    | 8, _, _ => show b ≠ 41; omega
    | 9, _, _ => show c ≠ 41; omega
    | 10, _, _ => show d ≠ 41; omega
    | 11, _, _ => show (32:Nat) ≠ 41; decide
    | 12, _, _ => show e ≠ 41; omega
    | 13, _, _ => show f ≠ 41; omega
    | 14, _, _ => show g ≠ 41; omega
    | 15, _, _ => show h ≠ 41; omega
    | q + 16, _, h => omega
  generalize (((s7.add 17).add 24).add 20) = s8 at x2
  have x3 : ({ stF (ft a b c d e f g h) 0 27 7 (s7.add 17) with marks := #[some 7, none], lastmark := 0 } : M).step =
    ({ stF (ft a b c d e f g h) 0 34 16 s8 with handed := 16, marks := #[some 7, none], lastmark := 0, weight := 2, frames := [{ wait := .giveBack, pc := 27, pos := 16, outermost := true, count := 9, kept := { lastmark := 0 } }, { wait := .giveBack, pc := 5, pos := 0, outermost := true, count := 0, kept := {} }] } : M) := by
    rw [x2]; kernel_rfl
  have x4 : ∃ m', M.runFor 7 ({ stF (ft a b c d e f g h) 0 34 16 s8 with handed := 16, marks := #[some 7, none], lastmark := 0, weight := 2, frames := [{ wait := .giveBack, pc := 27, pos := 16, outermost := true, count := 9, kept := { lastmark := 0 } }, { wait := .giveBack, pc := 5, pos := 0, outermost := true, count := 0, kept := {} }] } : M) = m' ∧
      m'.outcome = some .matched ∧ m'.lastmark = 1 ∧ m'.marks = #[some 7, some 16] ∧ m'.start = 0 ∧ m'.handed = 17 ∧ m'.lastindex = 1 := ⟨_, rfl, by kernel_rfl, by kernel_rfl, by kernel_rfl, by kernel_rfl, by kernel_rfl, by kernel_rfl⟩
  obtain ⟨m', g', r⟩ := x4
  exact ⟨m', (t.trans (.step rfl x1 (.step rfl x3 ⟨7, Nat.le_refl _, g'⟩))).le (by decide), r⟩
end
-- S3
section
open PySem.Sre (M)
open PySem.Builtin.Re

theorem runFor_some (m : M) (h : m.outcome.isSome = true) : ∀ n, M.runFor n m = m
  | 0 => rfl
  | n + 1 => by show (if m.outcome.isSome then m else _) = m; rw [if_pos h]
theorem drive_of {Mo : Model} {A : Around} {E : Value → Shared → Prop} {Q : M → Shared → Prop} {s : Shared} : ∀ (T n : Nat) (m : M), (M.runFor n m).outcome.isSome = true → n ≤ 4 * T → 0 < T → Q (M.runFor n m) s → wpAny Mo A (reDrive T m) Q E s
  | 0, _, _, _, _, h, _ => by omega
  | T + 1, n, m, ho, hn, _, hq => by
    show wpAny Mo A (if (M.runFor 4 m).outcome.isSome then pure (M.runFor 4 m) else (do rule "sre.turn"; reDrive T (M.runFor 4 m))) Q E s
    by_cases h4 : n ≤ 4
    · have e : M.runFor 4 m = M.runFor n m := by
        have := runFor_add n (4 - n) m
        rw [show n + (4 - n) = 4 by omega, runFor_some _ ho] at this
        exact this
      rw [e, if_pos ho]
      exact wpAny_pure hq
    · have e : M.runFor n m = M.runFor (n - 4) (M.runFor 4 m) := by
        have := runFor_add 4 (n - 4) m
        rw [show 4 + (n - 4) = n by omega] at this
        exact this
      rw [e] at ho hq
      split
      · next h => rw [runFor_some _ h] at hq; exact wpAny_pure hq
      · refine wpAny_bind (wpAny_rule ?_)
        exact drive_of T (n - 4) _ ho (by omega) (by omega) hq
theorem rules_of {Mo : Model} {A : Around} {E : Value → Shared → Prop} {Q : PUnit → Shared → Prop} {s : Shared} (f : Nat → PUnit → Sem (ForInStep PUnit)) (hf : ∀ i u (R : ForInStep PUnit → Shared → Prop), R (.yield PUnit.unit) s → wpAny Mo A (f i u) R E s) (h : Q PUnit.unit s) : ∀ l : List Nat, wpAny Mo A (forIn l PUnit.unit f) Q E s
  | [] => wpAny_pure h
  | i :: l => by
    rw [List.forIn_cons]
    exact wpAny_bind (hf i _ _ (rules_of f hf h l))
theorem run_end {Mo : Model} {A : Around} {E : Value → Shared → Prop} {Q : Option M → Shared → Prop} {s : Shared} {m m' : M} {n : Nat} (g : Goes n m m') (hn : n ≤ 2 ^ 60) (ho : m'.outcome.isSome = true) (h : wpAny Mo A (match m'.outcome with
      | some .matched => pure (some m')
      | some .failed => pure none
      | some (.stuck why) => unsupported s!"_sre:{why}"
      | none => unsupported "internal:sre:no-outcome") Q E s) : wpAny Mo A (reRunToEnd m) Q E s := by
  obtain ⟨k, hk, rfl⟩ := g
  unfold reRunToEnd
  refine wpAny_bind (drive_of (2 ^ 64) k m ho (by omega) (by decide) ?_)
  refine wpAny_bind ?_
  refine rules_of _ (fun i u R hR => ?_) h _
  split
  · exact wpAny_bind (wpAny_rule (wpAny_pure hR))
  · exact wpAny_pure hR
end
-- S4
section
open PySem.Sre (M)
open PySem.Builtin.Re

theorem plainAttrs_pat : PlainAttrs "re.Pattern" :=
  ⟨⟨"object.__getattribute__", by rw [typeLookup_type, builtinLookup_eq_fast]; kernel_rfl, by decide +kernel⟩, by rw [typeLookup_type, builtinLookup_eq_fast]; kernel_rfl⟩
theorem plainAttrs_mat : PlainAttrs "re.Match" :=
  ⟨⟨"object.__getattribute__", by rw [typeLookup_type, builtinLookup_eq_fast]; kernel_rfl, by decide +kernel⟩, by rw [typeLookup_type, builtinLookup_eq_fast]; kernel_rfl⟩
theorem slot_pat_match : PySem.Slot "re.Pattern" "match" "re.Pattern.match" :=
  .of (owner := "re.Pattern") (n := "match") (by rw [typeLookup_type, builtinLookup_eq_fast]; kernel_rfl) (by decide +kernel) (by decide +kernel) (by decide +kernel)
    (by first | exact .inl (by decide +kernel) | exact .inr (by decide +kernel)) (by rw [isSubtype_type]; kernel_rfl)
theorem slot_pat_search : PySem.Slot "re.Pattern" "search" "re.Pattern.search" :=
  .of (owner := "re.Pattern") (n := "search") (by rw [typeLookup_type, builtinLookup_eq_fast]; kernel_rfl) (by decide +kernel) (by decide +kernel) (by decide +kernel)
    (by first | exact .inl (by decide +kernel) | exact .inr (by decide +kernel)) (by rw [isSubtype_type]; kernel_rfl)
theorem slot_mat_group : PySem.Slot "re.Match" "group" "re.Match.group" :=
  .of (owner := "re.Match") (n := "group") (by rw [typeLookup_type, builtinLookup_eq_fast]; kernel_rfl) (by decide +kernel) (by decide +kernel) (by decide +kernel)
    (by first | exact .inl (by decide +kernel) | exact .inr (by decide +kernel)) (by rw [isSubtype_type]; kernel_rfl)
theorem slot_byt_split : PySem.Slot "bytes" "split" "bytes.split" :=
  .of (owner := "bytes") (n := "split") (by rw [typeLookup_type, builtinLookup_eq_fast]; kernel_rfl) (by decide +kernel) (by decide +kernel) (by decide +kernel)
    (by first | exact .inl (by decide +kernel) | exact .inr (by decide +kernel)) (by rw [isSubtype_type]; kernel_rfl)
theorem type_pat_match : typeOf (.builtin "re.Pattern.match") = pure (.type "method_descriptor") := by show builtinType _ = _; rw [builtinType_eq_fast]; kernel_rfl
theorem type_pat_search : typeOf (.builtin "re.Pattern.search") = pure (.type "method_descriptor") := by show builtinType _ = _; rw [builtinType_eq_fast]; kernel_rfl
theorem type_mat_group : typeOf (.builtin "re.Match.group") = pure (.type "method_descriptor") := by show builtinType _ = _; rw [builtinType_eq_fast]; kernel_rfl
theorem type_byt_split : typeOf (.builtin "bytes.split") = pure (.type "method_descriptor") := by show builtinType _ = _; rw [builtinType_eq_fast]; kernel_rfl
theorem entry_pat_match : entryFor table "re.Pattern.match" = some Builtin.«re.Pattern.match» := entryFor_of_tree (by kernel_rfl)
theorem entry_pat_search : entryFor table "re.Pattern.search" = some Builtin.«re.Pattern.search» := entryFor_of_tree (by kernel_rfl)
theorem entry_mat_group : entryFor table "re.Match.group" = some Builtin.«re.Match.group» := entryFor_of_tree (by kernel_rfl)
theorem entry_byt_split : entryFor table "bytes.split" = some Builtin.«bytes.split» := entryFor_of_tree (by kernel_rfl)
theorem owner_pat : Manifest.owners.lookup (String.ofList ['n', 'r', 'e', 't', 't', 'a', 'P', '.', 'e', 'r'].reverse) = some Manifest.sig_re_Pattern := by kernel_rfl
theorem owner_mat : Manifest.owners.lookup (String.ofList ['h', 'c', 't', 'a', 'M', '.', 'e', 'r'].reverse) = some Manifest.sig_re_Match := by kernel_rfl
theorem args_pat_match (a b : Value) : argsOk "re.Pattern.match" ⟨[a, b], []⟩ := by
  unfold argsOk; rw [signature?_of (id := "re.Pattern.match") (n := ['h', 'c', 't', 'a', 'm']) (o := ['n', 'r', 'e', 't', 't', 'a', 'P', '.', 'e', 'r']) (by kernel_rfl) owner_pat]; kernel_rfl
theorem args_pat_search (a b : Value) : argsOk "re.Pattern.search" ⟨[a, b], []⟩ := by
  unfold argsOk; rw [signature?_of (id := "re.Pattern.search") (n := ['h', 'c', 'r', 'a', 'e', 's']) (o := ['n', 'r', 'e', 't', 't', 'a', 'P', '.', 'e', 'r']) (by kernel_rfl) owner_pat]; kernel_rfl
theorem args_mat_group (a b : Value) : argsOk "re.Match.group" ⟨[a, b], []⟩ := by
  unfold argsOk; rw [signature?_of (id := "re.Match.group") (n := ['p', 'u', 'o', 'r', 'g']) (o := ['h', 'c', 't', 'a', 'M', '.', 'e', 'r']) (by kernel_rfl) owner_mat]; kernel_rfl
theorem args_byt_split (a : Value) : argsOk "bytes.split" ⟨[a], []⟩ := by
  unfold argsOk; rw [signature?_of (id := "bytes.split") (n := ['t', 'i', 'l', 'p', 's']) (o := ['s', 'e', 't', 'y', 'b']) (by kernel_rfl) PySem.W.FB.owner_bytes]; kernel_rfl

/-- a pattern of the program -/
structure PatAt (W : Wd) (P : Addr) (fs : Array Value) (code : Array Nat) (groups kind : Nat) : Prop where
  obj : ∀ h, Base W h → h.get? P = some { cls := .type "re.Pattern", data := .fields fs }
  words : ∃ (T : Addr) (ws : Array Value) (n : Nat), (∀ h, Base W h → h.get? T = some { cls := .type "tuple", data := .seq ws n }) ∧ fs.getD 5 .none = .ref T ∧ (ws.map reRawOf).map (·.toNat) = code
  groups : reRawNat (fs.getD 2 .none) = groups
  kind : reRawNat (fs.getD 6 .none) = kind

theorem textOf_byt (b : Array UInt8) (t : Tok) : reTextOf (.bytes b t) = pure (b.map (·.toNat), 1) := by
  have e : reTextOf (.bytes b t) = (Builtin.Bytes.bufferQuiet? "_sre" (.bytes b t) >>= fun x => match x with
    | some b => pure (b.map (·.toNat), 1)
    | none => typeNameOf (.bytes b t) >>= fun n => raiseError "TypeError" s!"expected string or bytes-like object, got '{n}'") := by kernel_rfl
  rw [e, PySem.W.KBy.quiet_eq]; rfl
theorem textOf_str (x : Str) (t : Tok) : reTextOf (.str x t) = pure (x.cps, 0) := by kernel_rfl
theorem named_one (id f : String) (v : Value) : reNamed id f ["string", "pos", "endpos"] 1 [v] [] = pure [some v, none, none] := by kernel_rfl
theorem inside_byt (b : Array UInt8) (t : Tok) : reNoCollectionInside (.bytes b t) 1 = pure () := by
  have e : reNoCollectionInside (.bytes b t) 1 = (isInstance (.bytes b t) (.type "bytes") >>= fun x => if !x then noCollectionInside "_sre:a-collection-may-fall-inside-the-match-while-it-holds-a-buffer-that-can-be-written" else pure ()) := by kernel_rfl
  rw [e, PySem.W.KBy.isInstance_eq]; rfl

section
variable {W : Wd} {k : Nat} {P : Addr} {fs : Array Value} {code : Array Nat} {groups : Nat}
theorem target_byt {A : Around} {E : Value → Shared → Prop} {s : Shared} {Q : ReTarget → Shared → Prop} {id f : String} {b : Array UInt8} {t : Tok} {tx : Array Nat} {lim : Nat} (hB : Base W s.heap) (hp : PatAt W P fs code groups 1) (ht : b.map (·.toNat) = tx) (hl : min (2 ^ 63 - 1) tx.size = lim)
    (h : Q { pattern := .ref P, string := .bytes b t, code := code, text := tx, kind := 1, groups := groups, pos := 0, lim := lim } s) : wpAny (Md W) A (reTarget id f ⟨[.ref P, .bytes b t], []⟩) Q E s := by
  obtain ⟨T, ws, n, hT, h5, hc⟩ := hp.words
  show wpAny (Md W) A (reNamed id f ["string", "pos", "endpos"] 1 [.bytes b t] [] >>= fun l => _) Q E s
  rw [named_one]
  show wpAny (Md W) A (fieldsOf (.ref P) >>= fun fs => _) Q E s
  refine wpAny_bind (wpAny_fieldsOf (hp.obj _ hB) rfl ?_)
  rw [textOf_byt]
  dsimp only [pure_bind]
  rw [hp.kind, h5]
  show wpAny (Md W) A (reNoCollectionInside (.bytes b t) 1 >>= fun _ => _) Q E s
  rw [inside_byt]
  show wpAny (Md W) A (reRawItems (.ref T) >>= fun ws => _) Q E s
  refine wpAny_bind ?_
  unfold reRawItems
  refine wpAny_bind (wpAny_seqItems (hT _ hB) rfl ?_)
  refine wpAny_pure (wpAny_pure ?_)
  rw [hp.groups]
  show Q { pattern := .ref P, string := .bytes b t, code := (ws.map reRawOf).map (·.toNat), text := b.map (·.toNat), kind := 1, groups := groups, pos := min 0 (b.map (·.toNat)).size, lim := min (2 ^ 63 - 1) (b.map (·.toNat)).size } s
  rw [hc, ht, hl, Nat.zero_min]
  exact h
theorem named_str (id f : String) (v : Value) : reNamed id f ["string", "pos", "endpos"] 1 [v] [] = pure [some v, none, none] := named_one id f v
theorem target_str {A : Around} {E : Value → Shared → Prop} {s : Shared} {Q : ReTarget → Shared → Prop} {id f : String} {x : Str} {t : Tok} {lim : Nat} (hB : Base W s.heap) (hp : PatAt W P fs code groups 0) (hl : min (2 ^ 63 - 1) x.cps.size = lim)
    (h : Q { pattern := .ref P, string := .str x t, code := code, text := x.cps, kind := 0, groups := groups, pos := 0, lim := lim } s) : wpAny (Md W) A (reTarget id f ⟨[.ref P, .str x t], []⟩) Q E s := by
  obtain ⟨T, ws, n, hT, h5, hc⟩ := hp.words
  show wpAny (Md W) A (reNamed id f ["string", "pos", "endpos"] 1 [.str x t] [] >>= fun l => _) Q E s
  rw [named_one]
  show wpAny (Md W) A (fieldsOf (.ref P) >>= fun fs => _) Q E s
  refine wpAny_bind (wpAny_fieldsOf (hp.obj _ hB) rfl ?_)
  rw [textOf_str]
  dsimp only [pure_bind]
  rw [hp.kind, h5]
  show wpAny (Md W) A (reRawItems (.ref T) >>= fun ws => _) Q E s
  refine wpAny_bind ?_
  unfold reRawItems
  refine wpAny_bind (wpAny_seqItems (hT _ hB) rfl ?_)
  refine wpAny_pure (wpAny_pure ?_)
  rw [hp.groups]
  show Q { pattern := .ref P, string := .str x t, code := (ws.map reRawOf).map (·.toNat), text := x.cps, kind := 0, groups := groups, pos := min 0 x.cps.size, lim := min (2 ^ 63 - 1) x.cps.size } s
  rw [hc, hl, Nat.zero_min]
  exact h
end
end
-- S5
section
open PySem.Sre (M)
open PySem.Builtin.Re

def fb (a b c d e f g h : UInt8) : Array UInt8 := #[70, 76, 65, 71, 83, 32, 40, a, b, c, d, 32, e, f, g, h, 41]
def Ltr (x : UInt8) : Prop := 65 ≤ x.toNat ∧ x.toNat ≤ 80
section
variable {W : Wd} {k : Nat} {P : Addr} {fs : Array Value} {a b c d e f g h : UInt8}
theorem goes_all (ha : Ltr a) (hb : Ltr b) (hc : Ltr c) (hd : Ltr d) (he : Ltr e) (hf : Ltr f) (hg : Ltr g) (hh : Ltr h) :
    ∃ m', Goes 200 (m0F (ft a.toNat b.toNat c.toNat d.toNat e.toNat f.toNat g.toNat h.toNat)) m' ∧ m'.outcome = some .matched ∧ m'.lastmark = 1 ∧ m'.marks = #[some 7, some 16] ∧ m'.start = 0 ∧ m'.handed = 17 ∧ m'.lastindex = 1 := by
  have no10 : ∀ q, q < 17 → (ft a.toNat b.toNat c.toNat d.toNat e.toNat f.toNat g.toNat h.toNat).getD q 0 ≠ 10 := by
    unfold Ltr at *
    intro q hq
    match q, hq with
    | 0, _ => show (70:Nat) ≠ 10; decide
    | 1, _ => show (76:Nat) ≠ 10; decide
    | 2, _ => show (65:Nat) ≠ 10; decide
    | 3, _ => show (71:Nat) ≠ 10; decide
    | 4, _ => show (83:Nat) ≠ 10; decide
    | 5, _ => show (32:Nat) ≠ 10; decide
    | 6, _ => show (40:Nat) ≠ 10; decide
    | 7, _ => show a.toNat ≠ 10; omega
    | 8, _ => show b.toNat ≠ 10; omega
    | 9, _ => show c.toNat ≠ 10; omega
    | 10, _ => show d.toNat ≠ 10; omega
    | 11, _ => show (32:Nat) ≠ 10; decide
    | 12, _ => show e.toNat ≠ 10; omega
    | 13, _ => show f.toNat ≠ 10; omega
    | 14, _ => show g.toNat ≠ 10; omega
    | 15, _ => show h.toNat ≠ 10; omega
    | 16, _ => show (41:Nat) ≠ 10; decide
    | q + 17, h => omega
  obtain ⟨s1, g1⟩ := m0_step _ no10
  obtain ⟨s2, g2⟩ := all_back _ (ft_no ha hb hc hd he hf hg hh) 17 (Nat.le_refl _) s1
  obtain ⟨m', g3, r⟩ := m0_end ha hb hc hd he hf hg hh s2
  exact ⟨m', ((g1.trans g2).trans g3).le (by decide), r⟩

theorem CallB.flags (hp : PatAt W P fs fc 1 1) (ha : Ltr a) (hb : Ltr b) (hc : Ltr c) (hd : Ltr d) (he : Ltr e) (hf : Ltr f) (hg : Ltr g) (hh : Ltr h) :
    CallB W k (.builtin "re.Pattern.match") [.val (.ref P), .byt (fb a b c d e f g h)] (.mat (fb a b c d e f g h) P [0, 17, 7, 16]) := by
  intro A s G vs hA hB hs hd'
  obtain ⟨_, _, rfl, h1, h1b⟩ := hd'.two
  obtain rfl := h1.inv
  obtain ⟨t, rfl⟩ := h1b.inv
  refine call_tree slot_pat_match ⟨_, hp.obj _ hB, rfl⟩ entry_pat_match (args_pat_match _ _) ?_
  show wpAny _ _ (reTarget "re.Pattern.match" "match" ⟨[.ref P, .bytes (fb a b c d e f g h) t], []⟩ >>= fun t => reAnswer t (Sre.forMatch t.code t.text t.groups t.pos t.lim false false)) _ _ s
  refine wpAny_bind (target_byt (tx := ft a.toNat b.toNat c.toNat d.toNat e.toNat f.toNat g.toNat h.toNat) (lim := 17) hB hp (by kernel_rfl) (by kernel_rfl) ?_)
  show wpAny _ _ (reRunToEnd (m0F (ft a.toNat b.toNat c.toNat d.toNat e.toNat f.toNat g.toNat h.toNat)) >>= fun x => _) _ _ s
  obtain ⟨m', g1, o1, o2, o3, o4, o5, o6⟩ := goes_all ha hb hc hd he hf hg hh
  refine wpAny_bind (run_end g1 (by decide) (by rw [o1]; rfl) ?_)
  rw [o1]
  refine wpAny_pure ?_
  show wpAny _ _ (reNewMatch (.ref P) (.bytes (fb a b c d e f g h) t) 1 0 17 m' >>= fun v => ret v) _ _ s
  unfold reNewMatch
  rw [o2, o3, o4, o5, o6]
  show wpAny _ _ ((newTuple [rawInt 0, rawInt 17, rawInt 7, rawInt 16] >>= fun l => newFields "re.Match" [.bytes (fb a b c d e f g h) t, .ref P, rawInt 0, rawInt 17, rawInt 1, l]) >>= fun v => ret v) _ _ s
  refine wpAny_bind (wpAny_bind (wpAny_newTuple ?_ (line_small (by show 4 ≤ 1000; decide))))
  unfold newFields
  refine wpAny_newObj_type ?_ (by show 6 ≤ sizeLine + 2; exact Nat.le_add_right_of_le (line_small (by decide)))
  have g1 := gr_new hs (o := { cls := .type "tuple", data := .seq #[rawInt 0, rawInt 17, rawInt 7, rawInt 16] }) rfl
  have g2 := gr_new g1.sub (o := { cls := .type "re.Match", data := .fields #[.bytes (fb a b c d e f g h) t, .ref P, rawInt 0, rawInt 17, rawInt 1, .ref s.heap.objs.size] }) rfl
  exact wpAny_pure ⟨_, rfl, _, g1.trans g2, .mat (put_self ..) (g2.ext _ _ (put_self ..))⟩
/-- the pattern's names -/
structure NameAt (W : Wd) (fs : Array Value) : Prop where
  ex : ∃ (d : Addr) (f : Str → Option Value) (t : Tok), fs.getD 3 .none = .ref d ∧ (∀ h, Base W h → h.MapOf (strKind W.prog W.w) d f) ∧ f (Str.ofString "flags") = some (.int 1 t)
theorem look_noindex : typeLookup (.type "str") "__index__" = pure none := by rw [typeLookup_type, builtinLookup_eq_fast]; kernel_rfl
theorem group_num {A : Around} {s : Shared} {x : ReFound} {u : Tok} {Q : Nat → Shared → Prop} {E : Value → Shared → Prop} (hB : Base W s.heap) (hp : PatAt W P fs fc 1 1) (hn : NameAt W fs) (h1 : x.fields.getD 1 .none = .ref P) (h2 : x.spans.size = 4) (hQ : Q 1 { s with toks := s.toks + 1 }) :
    wpAny (Md W) A (reGroupNumber x (.str (Str.ofString "flags") u)) Q E s := by
  obtain ⟨dd, fm, tt, h3, hm, hf⟩ := hn.ex
  unfold reGroupNumber
  show wpAny (Md W) A (specialOf (.str (Str.ofString "flags") u) "__index__" >>= fun y => _) Q E s
  refine wpAny_bind (wpAny_specialOf (PySem.typeIs_str s _ _) look_noindex ?_)
  rw [h1]
  show wpAny (Md W) A (fieldsOf (.ref P) >>= fun y => _) Q E s
  refine wpAny_bind (wpAny_fieldsOf (hp.obj _ hB) rfl ?_)
  rw [h3]
  show wpAny (Md W) A (dictGet dd (.str (Str.ofString "flags") u) >>= fun y => _) Q E s
  refine wpAny_bind (wpAny_dictGet_of (k := Str.ofString "flags") (strKind_is ..) (hm _ hB) ?_)
  rw [hf, h2]
  exact wpAny_pure hQ
theorem group_text {A : Around} {s : Shared} {x : ReFound} {b : Array UInt8} {t : Tok} {i j : Nat} {Q : Value → Shared → Prop} {E : Value → Shared → Prop} (h0 : x.fields.getD 0 .none = .bytes b t) (h1 : x.spans.getD 2 (-1) = (i : Int)) (h2 : x.spans.getD 3 (-1) = (j : Int)) (hsz : (((b.map (·.toNat)).extract i j).map (·.toUInt8)).size ≤ 1000)
    (hQ : ∀ t, Q (.bytes (((b.map (·.toNat)).extract i j).map (·.toUInt8)) t) { s with toks := s.toks + 1 }) : wpAny (Md W) A (reGroupText x 1 .none) Q E s := by
  unfold reGroupText
  show wpAny (Md W) A (if x.spans.getD 2 (-1) < 0 || x.spans.getD 3 (-1) < 0 then pure .none else _) Q E s
  rw [h1, h2, if_neg (by simp), h0, textOf_byt]
  exact wpAny_mkBytes (hQ _) (line_small hsz)
theorem CallB.group (hp : PatAt W P fs fc 1 1) (hn : NameAt W fs) :
    CallB W k (.builtin "re.Match.group") [.mat (fb a b c d e f g h) P [0, 17, 7, 16], .str (Str.ofString "flags")] (.byt #[a, b, c, d, 32, e, f, g, h]) := by
  intro A s G vs hA hB hs hd'
  obtain ⟨_, _, rfl, h1, h1b⟩ := hd'.two
  obtain ⟨am, l, t, p, q, i, n, rfl, e1, e2⟩ := h1.inv
  obtain ⟨u, rfl⟩ := h1b.inv
  refine call_tree slot_mat_group ⟨_, hs _ _ e1, rfl⟩ entry_mat_group (args_mat_group _ _) ?_
  show wpAny _ _ (reFound (.ref am) >>= fun x => reGroupNumber x (.str (Str.ofString "flags") u) >>= fun g => reGroupText x g .none >>= fun v => ret v) _ _ s
  unfold reFound
  refine wpAny_bind (wpAny_bind (wpAny_fieldsOf (hs _ _ e1) rfl ?_))
  show wpAny _ _ (reRawItems (.ref l) >>= fun sp => _) _ _ s
  unfold reRawItems
  refine wpAny_bind (wpAny_bind (wpAny_seqItems (hs _ _ e2) rfl (wpAny_pure (wpAny_pure ?_))))
  have e4 : ((some ((List.map rawInt [0, 17, 7, 16]).toArray)).getD #[]).map reRawOf = #[0, 17, 7, 16] := by kernel_rfl
  rw [e4]
  refine wpAny_bind (group_num hB hp hn rfl rfl ?_)
  have e5 : (((fb a b c d e f g h).map (·.toNat)).extract 7 16).map (·.toUInt8) = #[a, b, c, d, 32, e, f, g, h] := by
    have e6 : (((fb a b c d e f g h).map (·.toNat)).extract 7 16).map (·.toUInt8) = #[a.toNat.toUInt8, b.toNat.toUInt8, c.toNat.toUInt8, d.toNat.toUInt8, 32, e.toNat.toUInt8, f.toNat.toUInt8, g.toNat.toUInt8, h.toNat.toUInt8] := by kernel_rfl
    rw [e6]; simp
  refine wpAny_bind (group_text (b := fb a b c d e f g h) (t := t) (i := 7) (j := 16) rfl rfl rfl (by rw [e5]; show 9 ≤ 1000; decide) fun t' => ?_)
  refine wpAny_pure ⟨_, rfl, G, (Gr.refl hs).tok _, ?_⟩
  rw [e5]
  exact .byt _ _

open PySem.Builtin in
theorem words_cons {n l : Nat} {text rest : List UInt8} {c : UInt8} (h : text.dropWhile Bytes.isSpace = c :: rest) (hl : (l == 0) = false) : Bytes.words (n + 1) l text = (c :: rest).takeWhile (!Bytes.isSpace ·) :: Bytes.words n (l - 1) ((c :: rest).dropWhile (!Bytes.isSpace ·)) := by
  show (match text.dropWhile Bytes.isSpace with | [] => [] | rest => if (l == 0) = true then [rest] else rest.takeWhile (!Bytes.isSpace ·) :: Bytes.words n (l - 1) (rest.dropWhile (!Bytes.isSpace ·))) = _
  rw [h]
  show (if (l == 0) = true then _ else _) = _
  rw [hl]; rfl
open PySem.Builtin in
theorem split_words (ha : Ltr a) (hb : Ltr b) (hc : Ltr c) (hd : Ltr d) (he : Ltr e) (hf : Ltr f) (hg : Ltr g) (hh : Ltr h) : Bytes.words 10 10 [a, b, c, d, 32, e, f, g, h] = [[a, b, c, d], [e, f, g, h]] := by
  have ns : ∀ x : UInt8, Ltr x → Bytes.isSpace x = false := by
    intro x hx
    have key : ∀ n : Fin 256, 65 ≤ n.val → n.val ≤ 80 → Bytes.isSpace (UInt8.ofNat n.val) = false := by decide +kernel
    have := key ⟨x.toNat, x.toNat_lt⟩ hx.1 hx.2
    simpa using this
  have sp : Bytes.isSpace 32 = true := by decide +kernel
  have e1 : [a, b, c, d, 32, e, f, g, h].dropWhile Bytes.isSpace = [a, b, c, d, 32, e, f, g, h] := by rw [List.dropWhile_cons, ns a ha]; rfl
  have e2 : [a, b, c, d, 32, e, f, g, h].takeWhile (!Bytes.isSpace ·) = [a, b, c, d] := by simp only [List.takeWhile_cons, ns a ha, ns b hb, ns c hc, ns d hd, sp, Bool.not_false, Bool.not_true, if_true, if_false, Bool.false_eq_true]
  have e3 : [a, b, c, d, 32, e, f, g, h].dropWhile (!Bytes.isSpace ·) = [32, e, f, g, h] := by simp only [List.dropWhile_cons, ns a ha, ns b hb, ns c hc, ns d hd, sp, Bool.not_false, Bool.not_true, if_true, if_false, Bool.false_eq_true]
  have e4 : [32, e, f, g, h].dropWhile Bytes.isSpace = [e, f, g, h] := by simp only [List.dropWhile_cons, ns e he, sp, if_true, if_false, Bool.false_eq_true]
  have e5 : [e, f, g, h].takeWhile (!Bytes.isSpace ·) = [e, f, g, h] := by simp only [List.takeWhile_cons, List.takeWhile_nil, ns e he, ns f hf, ns g hg, ns h hh, Bool.not_false, if_true]
  have e6 : [e, f, g, h].dropWhile (!Bytes.isSpace ·) = [] := by simp only [List.dropWhile_cons, List.dropWhile_nil, ns e he, ns f hf, ns g hg, ns h hh, Bool.not_false, if_true]
  rw [words_cons e1 rfl, e2, e3, words_cons e4 rfl, e5, e6]
  rfl
open PySem.Builtin in
theorem CallB.split (ha : Ltr a) (hb : Ltr b) (hc : Ltr c) (hd : Ltr d) (he : Ltr e) (hf : Ltr f) (hg : Ltr g) (hh : Ltr h) :
    CallB W k (.builtin "bytes.split") [.byt #[a, b, c, d, 32, e, f, g, h]] (.list [.byt #[a, b, c, d], .byt #[e, f, g, h]]) := by
  intro A s G vs hA hB hs hd'
  obtain ⟨_, rfl, h1⟩ := hd'.one
  obtain ⟨t, rfl⟩ := h1.inv
  refine call_tree slot_byt_split (PySem.W.typeIs_bytes _ _ _) entry_byt_split (args_byt_split _) ?_
  have eT : «bytes.split» ⟨[.bytes #[a, b, c, d, 32, e, f, g, h] t], []⟩ = (rule s!"{Bytes.Kind.bytes.name}.split.whitespace" >>= fun _ => if 10 > 0 && !(#[a, b, c, d, 32, e, f, g, h] : Array UInt8).isEmpty && !(#[a, b, c, d, 32, e, f, g, h] : Array UInt8).any Bytes.isSpace then (do ret (← newList [← Bytes.Kind.bytes.same (.bytes #[a, b, c, d, 32, e, f, g, h] t)])) else
      ((Bytes.words 10 10 [a, b, c, d, 32, e, f, g, h]).mapM fun w => Bytes.Kind.bytes.new w.toArray) >>= fun l => newList l >>= fun v => ret v) := by kernel_rfl
  rw [eT, split_words ha hb hc hd he hf hg hh]
  refine wpAny_bind (wpAny_rule ?_)
  have hany : (#[a, b, c, d, 32, e, f, g, h] : Array UInt8).any Bytes.isSpace = true := by
    have sp : Bytes.isSpace 32 = true := by decide +kernel
    simp [sp]
  rw [hany, Bool.not_true, Bool.and_false, if_neg (by decide)]
  show wpAny _ _ ((mkBytes #[a, b, c, d] >>= fun x => mkBytes #[e, f, g, h] >>= fun y => pure [x, y]) >>= fun l => newList l >>= fun v => ret v) _ _ s
  refine wpAny_bind (wpAny_bind (wpAny_mkBytes (wpAny_bind (wpAny_mkBytes (wpAny_pure ?_) (line_small (by show 4 ≤ 1000; decide)))) (line_small (by show 4 ≤ 1000; decide))))
  refine wpAny_bind (wpAny_nay (mk_list (W := W) (G := G) (ds := [.byt #[a, b, c, d], .byt #[e, f, g, h]]) hs (.cons (.byt _ _) (.cons (.byt _ _) .nil)) (by show 2 ≤ 1000; decide)) fun v s' hv => ?_)
  obtain ⟨G', g, hd⟩ := hv
  exact wpAny_pure ⟨_, rfl, G', ((Gr.refl hs).tok _).trans g, hd⟩
end
end
-- C15
section
variable {W : Wd} {k : Nat} {names : List (Str × NameKind)} {ρ : List (Str × D)} {o : Out}

/-- a block's frame that is let go does not touch the call's -/
theorem FrOk.but {env : Env} {s₀ s : Shared} {G₀ G : Part} {C : Addr} {h' : Heap} (f : FrOk W names ρ env s₀ G₀ s G) (hs : Heap.SameBut C s.heap h') (h0 : s₀.heap.get? C = none) (hG : G C = none) (hL : env.locals ≠ C) (hC : ∀ n c, env.cells.lookup n = some c → c ≠ C) :
    FrOk W names ρ env s₀ G₀ { s with heap := h' } G := by
  obtain ⟨m, cm, i, hv⟩ := f.live
  have e' : ∀ b o, b ≠ C → s.heap.get? b = some o → h'.get? b = some o := fun b o hb e => (hs.2 b hb).trans e
  obtain ⟨⟨h1, t1, e1⟩, k1, x1, u1, n1⟩ := f.gr
  refine ⟨f.kind, f.nms, f.globals, f.builtins, f.base, ⟨⟨h', s.toks, by rw [e1]⟩, fun b o e => e' b o (fun q => by rw [q, h0] at e; cases e) (k1 b o e), x1, fun b o e => e' b o (fun q => by rw [q, hG] at e; cases e) (u1 b o e), n1⟩, ⟨m, cm, ⟨⟨?_, ?_, ?_, i.toInCall.fresh⟩, fun n c e => ?_, i.apart, i.above⟩, hv⟩, f.offL, f.offC, f.allC⟩
  · obtain ⟨h1, t1, e1⟩ := i.toInCall.same
    exact ⟨h', s.toks, by rw [e1]⟩
  · exact i.toInCall.ns.at' fun o e => e' _ o hL e
  · exact fun b o e => e' b o (fun q => by rw [q, h0] at e; cases e) (i.toInCall.keep b o e)
  · obtain ⟨o, ho, hd⟩ := i.cell n c e
    exact ⟨o, e' _ _ (hC n c e) ho, hd⟩

theorem swaps_local {elt iter : Expr} {x y : Str} {px py : Pos} {ifs : List Expr} {scope : Scope} {pos : Pos} {n : Nat} (hl : (py.line == pos.line && !(scope.names.any fun (m, k) => m == y && (k == .local || k == .cell))) = true) :
    ∀ env : Env, env.scope.kind = .function → env.kindOf y = some .local → swapsWith (.ListComp elt [⟨.Name x px, iter, ifs, 0⟩] scope pos) (some (.Name y py)) n env = pure true := by
  intro env hk hy
  have hb : (env.blockKind == ScopeKind.function) = true := by unfold Env.blockKind; simp [hk]
  rw [Bool.and_eq_true] at hl
  show pure (env.blockKind == .function && env.kindOf y == some .local && py.line == pos.line && !(scope.names.any fun (m, k) => m == y && (k == .local || k == .cell))) = _
  rw [hb, hy, hl.1, hl.2]
  rfl

/-- a local is bound to a list comprehension -/
theorem Ex.assignComp {elt iter : Expr} {x y : Str} {px py : Pos} {ifs : List Expr} {scope : Scope} {pos spos : Pos} {rest : List Stmt} {ds rs : List D} (hi : ItEv W k names ρ iter ds)
    (T : Turns (TurnOk W k (relabelN names scope.names) (inh scope.names ρ) x ifs elt) ds rs) (hn : ds.length ≤ 1000) (hok : scopeOk names ρ scope.names x = true) (hy : names.lookup y = some .local)
    (r : Ex W k names ((y, .list rs) :: ρ) rest o) (hsw : ∀ env : Env, env.scope.kind = .function → env.kindOf y = some .local → swapsWith (.ListComp elt [⟨.Name x px, iter, ifs, 0⟩] scope pos) (some (.Name y py)) spos.line env = pure true) (hsc : scope.kind = .function := by rfl)
    (hf : ∀ env x, foldedSetIterable iter env x = pure x := by intro _ _; rfl) : Ex W k names ρ (.Assign [.Name y py] (.ListComp elt [⟨.Name x px, iter, ifs, 0⟩] scope pos) spos :: rest) o := by
  intro A env s₀ G₀ s G hA f
  have hyk : env.kindOf y = some .local := by show env.scope.names.lookup y = _; rw [f.nms]; exact hy
  refine wpAny_execs_cons ?_
  rw [exec_Assign_Name_used _ _ _ _ (hsw env f.kind hyk)]
  refine wpAny_bind (wpAny_standAt (wpAny_bind ?_))
  show wpAny _ A (do let _ ← comprehension (.ListComp elt [⟨.Name x px, iter, ifs, 0⟩] scope pos) scope env _ (newList []) false (eval iter env) (some (PySem.assign (.Name y py) env))) _ _ s
  refine wpAny_bind (wpAny_nay (comp_core (use := some (PySem.assign (.Name y py) env)) (Q := fun _ s' => ∃ G', FrOk W names ((y, .list rs) :: ρ) env s₀ G₀ s' G') hA f.toEnv hi (pr := id) Binds.name hsc hok T hn (hf env) fun Dd C s' G' g hd hC hGC hsC hsD => ?_) fun _ s' ⟨G', f'⟩ => wpAny_pure (wpAny_pure (r A env s₀ G₀ s' G' hA f')))
  have f1 := f.grow g
  have hLs : ∃ o, s.heap.get? env.locals = some o := by
    obtain ⟨m, cm, i, _⟩ := f.live
    obtain ⟨o, _, _, ho, _⟩ := i.toInCall.ns
    exact ⟨o, ho⟩
  have hLC : env.locals ≠ C := fun q => by obtain ⟨o, ho⟩ := hLs; rw [q, hsC] at ho; cases ho
  have hcC : ∀ n c, env.cells.lookup n = some c → c ≠ C := fun n c e q => by
    obtain ⟨m, cm, i, _⟩ := f.live
    obtain ⟨o, ho, _⟩ := i.cell n c e
    rw [q, hsC] at ho; cases ho
  have h0C : s₀.heap.get? C = none := get_none f.gr.keep hsC
  obtain ⟨m, hm⟩ := hC
  show wpAny _ A (PySem.assign (.Name y py) env (.ref Dd)) _ _ _
  refine wpAny_assign_Name (f1.store (.inl hy) hd fun s2 f2 hk2 _ => ⟨m, hm.at' fun o e => hk2 _ o (Ne.symm hLC) (fun c hc => Ne.symm (hcC y c hc)) e, fun h' hs' => ⟨G', f2.but hs' h0C hGC hLC hcC⟩⟩)
end
-- C16
section
variable {W : Wd} {k : Nat} {names : List (Str × NameKind)} {ρ : List (Str × D)} {o : Out}

theorem FrOk.weaken {ρ' : List (Str × D)} {env : Env} {s₀ s : Shared} {G₀ G : Part} (f : FrOk W names ρ env s₀ G₀ s G) (h : ∀ x d, ρ'.lookup x = some d → ρ.lookup x = some d) : FrOk W names ρ' env s₀ G₀ s G := by
  obtain ⟨m, cm, i, v⟩ := f.live
  exact ⟨f.kind, f.nms, f.globals, f.builtins, f.base, f.gr, ⟨m, cm, i, fun x d e => v x d (h x d e)⟩, f.offL, f.offC, f.allC⟩
theorem Ex.weaken {ρ' : List (Str × D)} {ss : List Stmt} (r : Ex W k names ρ' ss o) (h : ∀ x d, ρ'.lookup x = some d → ρ.lookup x = some d) : Ex W k names ρ ss o :=
  fun A env s₀ G₀ s G hA f => r A env s₀ G₀ s G hA (f.weaken h)

theorem Ex.while {test : Expr} {body rest : List Stmt} {p : Pos} (st : Nat → List (Str × D)) (N : Nat) (ht : ∀ n, n < N → Test W k names (st (n + 1)) test true) (hf : Test W k names (st 0) test false)
    (hb : ∀ n, n < N → ∃ ρ', Ex W k names (st (n + 1)) body (.next ρ') ∧ ∀ x d, (st n).lookup x = some d → ρ'.lookup x = some d) (r : Ex W k names (st 0) rest o) : Ex W k names (st N) (.While test body [] p :: rest) o := by
  intro A env s₀ G₀ s G hA f
  refine wpAny_execs_cons (wpAny_While (codeAny_whileLoop (fun n s' => n ≤ N ∧ ∃ G', FrOk W names (st n) env s₀ G₀ s' G') (fun n s' ⟨hn, G', f'⟩ => ?_) N ⟨Nat.le_refl _, G, f⟩))
  cases n with
  | zero =>
    refine wpAny_nay (hf A env s' G' hA f'.toEnv) fun b s2 ⟨hb, G2, g2⟩ => ?_
    subst hb
    exact wpAny_execs_nil (r A env s₀ G₀ s2 G2 hA (f'.grow g2))
  | succ n =>
    refine wpAny_nay (ht n hn A env s' G' hA f'.toEnv) fun b s2 ⟨hb', G2, g2⟩ => ?_
    subst hb'
    obtain ⟨ρ', h1, h2⟩ := hb n hn
    refine wpAny_nay (h1 A env s₀ G₀ s2 G2 hA (f'.grow g2)) fun fl s3 h3 => ?_
    obtain ⟨rfl, G3, f3⟩ := h3
    exact ⟨n, Nat.lt_succ_self n, by omega, G3, f3.weaken h2⟩
end
-- C17
/-- one turn of a comprehension over pairs -/
def PTurn (W : Wd) (k : Nat) (names : List (Str × NameKind)) (ρ : List (Str × D)) (x : Str) (elt : Expr) (d : D) : Option D → Prop
  | some r => ∃ a b, d = .tup [a, b] ∧ Ev W k names ((x, a) :: ρ) elt r
  | none => False
def fstD : D → D
  | .tup (a :: _) => a
  | d => d
theorem Binds.pair {W : Wd} {k : Nat} {A : Around} {nm : List (Str × NameKind)} {x x2 : Str} {px px2 tp : Pos} {n2 : Nat} {ds : List D} (hA : OkA k A) (hpair : ∀ d ∈ ds, ∃ a b, d = .tup [a, b]) (hx1 : nm.lookup x = some .local) (hx2 : nm.lookup x2 = some .local) (hxx : x ≠ x2) : Binds W A nm x (.Tuple [.Name x px, .Name x2 px2] n2 tp) fstD ds ListOwn := by
  intro cenv tx I St i s Gi v d Q hk hnm S own hmem hdv sub l st h
  subst hnm
  have htx : tx = cenv.locals := by
    cases S with
    | loc _ e => exact e
    | cell e _ => rw [hx1] at e; cases e
  subst htx
  obtain ⟨da, db, rfl⟩ := hpair d hmem
  obtain ⟨ta, tn, tvs, rfl, te, tr⟩ := hdv.inv
  obtain ⟨v1, v2, rfl, hv1, hv2⟩ := tr.two
  obtain ⟨ol, oj, hown⟩ := own _ _ st
  refine wpAny_letOwnedTupleGo_listiter (l := ol) (i := oj) hown ?_
  refine wpAny_assign_Tuple hA.handled (items := #[v1, v2]) ⟨_, sub _ _ te, rfl, tn, rfl⟩ rfl rfl fun h₂' hx₂' => ?_
  have hx₂ : ∀ b o, s.heap.get? b = some o → h₂'.get? b = some o := fun b o e => hx₂' b o (fun z => by subst z; exact Nat.lt_irrefl _ (Heap.lt_size e)) e
  obtain ⟨mL, hmL⟩ := l.1 hx1
  have hpk : (cenv.scope.kind == .class || (cenv.scope.kind == .module && cenv.locals != cenv.globals)) = false := by rw [hk]; rfl
  refine wpAny_bind (wpAny_holding (wpAny_assign_Name (wpAny_storeName_local hx1 (hmL.keeps hx₂) (fun h₃' hn₃' hs₃' => ?_) hpk)))
  refine wpAny_bind (wpAny_holding (wpAny_assign_Name (wpAny_storeName_local hx2 hn₃' (fun h₃ hn₃ hs₃ => wpAny_pure ?_) hpk)))
  exact h h₃ _ (fun b o hb e => (hs₃.2 b hb).trans ((hs₃'.2 b hb).trans (hx₂ b o e))) ⟨fun _ => ⟨_, hn₃⟩, fun q => by rw [hx1] at q; cases q⟩ ⟨.inl ⟨hx1, _, v1, hn₃, by simp [hxx], hv1⟩⟩
section
variable {W : Wd} {k : Nat} {names : List (Str × NameKind)} {ρ : List (Str × D)}
theorem PTurn.turns {elt : Expr} {x : Str} : ∀ {ds rs : List D}, Turns (PTurn W k names ρ x elt) ds rs → Turns (TurnPr W k names ρ x [] elt fstD) ds rs
  | _, _, .nil => .nil
  | _, _, .keep ⟨_, _, e, h⟩ r => .keep ⟨.inl rfl, by subst e; exact h⟩ (PTurn.turns r)
  | _, _, .drop h _ => h.elim
/-- a list comprehension over pairs -/
theorem Ev.compPair {elt iter : Expr} {x x2 : Str} {px px2 tp : Pos} {n2 : Nat} {scope : Scope} {pos : Pos} {ds rs : List D} (hi : Ev W k names ρ iter (.list ds)) (hpair : ∀ d ∈ ds, ∃ a b, d = .tup [a, b]) (hx1 : scope.names.lookup x = some .local) (hx2 : scope.names.lookup x2 = some .local) (hxx : x ≠ x2)
    (T : Turns (PTurn W k (relabelN names scope.names) (inh scope.names ρ) x elt) ds rs) (hn : ds.length ≤ 1000) (hok : scopeOk names ρ scope.names x = true) (hsc : scope.kind = .function := by rfl)
    (hf : ∀ env x, foldedSetIterable iter env x = pure x := by intro _ _; rfl) : Ev W k names ρ (.ListComp elt [⟨.Tuple [.Name x px, .Name x2 px2] n2 tp, iter, [], 0⟩] scope pos) (.list rs) :=
  have hl : ∀ y, scope.names.lookup y = some .local → (relabelN names scope.names).lookup y = some .local := fun y e => by rw [relabelN_lookup, e]; rfl
  Ev.compO (ItEvO.list hi) (fun _ hA => Binds.pair hA hpair (hl _ hx1) (hl _ hx2) hxx) (PTurn.turns T) hn hok hsc hf
end
-- N1
/-- a float of a living token is a float -/
def wk : D → D
  | .nzf x => .flt x
  | .none => .none
  | .bool b => .bool b
  | .int i => .int i
  | .flt x => .flt x
  | .str x => .str x
  | .byt b => .byt b
  | .list ds => .list ds
  | .tup ds => .tup ds
  | .rng n => .rng n
  | .hdr hs => .hdr hs
  | .val v => .val v
  | .inst l => .inst l
  | .mat b P sp => .mat b P sp
def wkP (p : Str × D) : Str × D := (p.1, wk p.2)
theorem Den.wk {C : Addr} {G : Part} {v : Value} {d : D} (h : Den C G v d) : Den C G v (Mine.wk d) := by
  cases h with
  | nzf x t n => exact .flt x t
  | none => exact .none
  | bool b => exact .bool b
  | int i t => exact .int i t
  | flt x t => exact .flt x t
  | str x t => exact .str x t
  | byt b t => exact .byt b t
  | list a b c d => exact .list a b c d
  | tup a b => exact .tup a b
  | val v => exact .val v
  | rng a => exact .rng a
  | inst a b c d => exact .inst a b c d
  | hdr a b c d e => exact .hdr a b c d e
  | mat a b => exact .mat a b
section
variable {W : Wd} {k : Nat} {names : List (Str × NameKind)} {ρ : List (Str × D)}
theorem look_wk {x : Str} {d : D} : ∀ {ρ : List (Str × D)}, (ρ.map wkP).lookup x = some d → ∃ d', ρ.lookup x = some d' ∧ d = wk d'
  | [], h => nomatch h
  | (y, e) :: r, h => by
    have h' : List.lookup x ((y, wk e) :: r.map wkP) = some d := h
    rw [List.lookup_cons] at h' ⊢
    cases hb : x == y with
    | true => rw [hb] at h'; cases h'; exact ⟨e, rfl, rfl⟩
    | false => rw [hb] at h'; exact look_wk h'
theorem EnvOk.wk {env : Env} {s : Shared} {G : Part} (h : EnvOk W names ρ env s G) : EnvOk W names (ρ.map wkP) env s G := by
  refine ⟨h.kind, h.names, h.globals, h.builtins, h.base, h.sub, fun x d e => ?_⟩
  obtain ⟨d', e', rfl⟩ := look_wk e
  exact ⟨(h.vars x d' e').is.imp (fun ⟨l, m, v, n, q, r⟩ => ⟨l, m, v, n, q, r.wk⟩) fun ⟨l, c, v, n, q, r⟩ => ⟨l, c, v, n, q, r.wk⟩⟩
theorem Ev.wk {e : Expr} {d : D} (h : Ev W k names (ρ.map wkP) e d) : Ev W k names ρ e d := fun A env s G hA hE => h A env s G hA hE.wk
theorem Test.wk {e : Expr} {c : Bool} (h : Test W k names (ρ.map wkP) e c) : Test W k names ρ e c := fun A env s G hA hE => h A env s G hA hE.wk
/-- a quotient of ints by a written int -/
theorem Ev.divNZ {l : Expr} {i a : Int} {n : Nat} {p p2 : Pos} (hl : Ev W k names ρ l (.int a)) (hi : i ≠ 0) (hf : Float64.isInf (Float64.ofFrac (decide (a < 0) != decide (i < 0)) a.natAbs i.natAbs) = false) :
    Ev W k names ρ (.BinOp l .Div (.Constant (.int i) n p) p2) (.nzf (Float64.ofFrac (decide (a < 0) != decide (i < 0)) a.natAbs i.natAbs)) := by
  intro A env s G hA hE
  refine wpAny_BinOp (wpAny_nay (hl A env s G hA hE) fun u s1 ⟨G1, g1, d1⟩ => ?_)
  obtain ⟨_, rfl⟩ := d1.inv
  refine wpAny_Constant_int (AutoIntOps.truediv_2 (by simpa using hi) (by rw [hf]; decide) ?_)
  refine ⟨G1, (g1.trans ((Gr.refl g1.sub).tok _)), .nzf _ _ ?_⟩
  exact beq_false_of_ne (Nat.succ_ne_zero s1.toks)
theorem CallB.max3n {F : Int → UInt64} {a b c : Int} (hc : ∀ x ∈ [a, b, c], ∀ y ∈ [a, b, c], Float64.cmp (F x) (F y) = some (compare x y)) : CallB W k (.builtin "max") [.nzf (F a), .nzf (F b), .nzf (F c)] (.nzf (F (max (max a b) c))) := by
  intro A s G vs hA hB hs hd
  obtain ⟨_, _, _, rfl, h, h', h''⟩ := hd.three
  obtain ⟨t1, rfl, n1⟩ := h.inv
  obtain ⟨t2, rfl, n2⟩ := h'.inv
  obtain ⟨t3, rfl, n3⟩ := h''.inv
  rw [← best3_max]
  exact call_max_three (three_walk (mk := fun x t => .float (F x) t) (ok := fun t => (t == 0) = false) (bt := fun x y => decide (x > y)) hA.handled ⟨_, n1, rfl⟩ ⟨_, n2, rfl⟩ ⟨_, n3, rfl⟩ (fun x mx y my t u s' Q E hQ => AutoFloatOps.gt_0 (by rw [hc x mx y my, ord_gt]; exact hQ)) fun h' tk t n hk => ⟨G, Gr.heap hs hk, .nzf _ _ n⟩)
end
-- F1
section
open PySem.Flt PySem.Float64
@[irreducible] def U : Nat := 2 ^ 1044
theorem U_pos : 0 < U := by unfold U; exact Nat.two_pow_pos _
theorem K_eq : 2 ^ 1074 = 2 ^ 30 * U := by unfold U; rw [← Nat.pow_add]
def IsFin (x : UInt64) : Prop := ∃ a m e, decode x = .fin a m e

theorem norm53 {N : Nat} (h0 : 0 < N) (h1 : N < 2 ^ 53) : ∃ j, j ≤ 52 ∧ 2 ^ 52 ≤ N * 2 ^ j ∧ N * 2 ^ j < 2 ^ 53 := by
  have a := Nat.log2_self_le (Nat.pos_iff_ne_zero.mp h0)
  have b := Nat.lt_log2_self (n := N)
  have hl : N.log2 ≤ 52 := by
    have : 2 ^ N.log2 < 2 ^ 53 := Nat.lt_of_le_of_lt a h1
    have := (Nat.pow_lt_pow_iff_right (by decide : 1 < 2)).mp this
    omega
  refine ⟨52 - N.log2, by omega, ?_, ?_⟩
  · have : 2 ^ N.log2 * 2 ^ (52 - N.log2) = 2 ^ 52 := by rw [← Nat.pow_add]; congr 1; omega
    rw [← this]; exact Nat.mul_le_mul_right _ a
  · have : 2 ^ (N.log2 + 1) * 2 ^ (52 - N.log2) = 2 ^ 53 := by rw [← Nat.pow_add]; congr 1; omega
    rw [← this]; exact Nat.mul_lt_mul_of_pos_right b (Nat.two_pow_pos _)
theorem rep (N : Nat) (h : N < 2 ^ 53) : ∃ t, t < infMag ∧ V t = N * U := by
  rcases Nat.eq_zero_or_pos N with rfl | h0
  · exact ⟨0, by decide, by rw [V_zero, Nat.zero_mul]⟩
  · obtain ⟨j, hj, h2, h3⟩ := norm53 h0 h
    refine ⟨(1044 - j) * 2 ^ 52 + N * 2 ^ j, ?_, ?_⟩
    · unfold infMag; omega
    · rw [V_at (by omega) (.inl h2), Nat.mul_assoc, ← Nat.pow_add]
      unfold U
      congr 2
      omega
theorem right_bt {z : UInt64} {neg : Bool} {W D lo hi : Nat} (h : Right z neg W D) (hD : 0 < D) (hlo : lo < 2 ^ 53) (hhi : hi < 2 ^ 53) (h1 : D * (lo * U) ≤ W) (h2 : W ≤ D * (hi * U)) : IsFin z ∧ ∃ v : Nat, val z = sgn neg v ∧ lo * U ≤ v ∧ v ≤ hi * U := by
  obtain ⟨t, rfl, hle, hinf, hn⟩ := h
  obtain ⟨tL, _, hL⟩ := rep lo hlo
  obtain ⟨tU, _, hU⟩ := rep hi hhi
  have hlt : t < infMag := by
    rcases Nat.lt_or_eq_of_le hle with q | q
    · exact q
    · exfalso
      have h3 := hinf.mp q
      have h4 : D * ((2 ^ 54 - 1) * 2 ^ 2045) ≤ D * (2 * (hi * U)) := by
        refine Nat.le_trans h3 ?_
        rw [Nat.mul_left_comm]
        exact Nat.mul_le_mul_left 2 h2
      have h5 := Nat.le_of_mul_le_mul_left h4 hD
      have h6 : 2 * (hi * U) < 2 * (2 ^ 53 * U) := by
        have := Nat.mul_lt_mul_of_pos_right hhi U_pos
        omega
      have h7 : 2 * (2 ^ 53 * U) ≤ (2 ^ 54 - 1) * 2 ^ 2045 := by
        have : 2 * (2 ^ 53 * U) = 2 ^ 1098 := by unfold U; rw [← Nat.pow_add, show 2 * 2 ^ (53 + 1044) = 2 ^ (1 + (53 + 1044)) from by rw [Nat.pow_add 2 1]]
        rw [this]
        exact Nat.le_trans (Nat.pow_le_pow_right (by decide) (by decide : 1098 ≤ 2045)) (Nat.le_mul_of_pos_left _ (by decide))
      omega
  have hu := (hn hlt tU).1
  have hl := (hn hlt tL).1
  rw [hU] at hu
  rw [hL] at hl
  obtain ⟨m, e, hd, hv⟩ := decode_pack neg hlt
  refine ⟨⟨neg, m, e, hd⟩, V t, val_pack neg hlt, ?_, ?_⟩
  · refine Nat.le_of_not_lt fun q => ?_
    have q' : D * V t < D * (lo * U) := Nat.mul_lt_mul_of_pos_left q hD
    unfold dist at hl
    omega
  · refine Nat.le_of_not_lt fun q => ?_
    have q' : D * (hi * U) < D * V t := Nat.mul_lt_mul_of_pos_left q hD
    unfold dist at hu
    omega

/-- a float between two whole counts of units -/
def Bt (x : UInt64) (lo hi : Int) : Prop := IsFin x ∧ lo * (U : Int) ≤ val x ∧ val x ≤ hi * (U : Int)
theorem val_zero (b : Bool) : IsFin (zero b) ∧ val (zero b) = 0 := by
  obtain ⟨m, e, hd, hv⟩ := decode_pack b (t := 0) (by decide)
  refine ⟨⟨b, m, e, hd⟩, ?_⟩
  show val (pack b 0) = 0
  rw [val_pack b (by decide), V_zero]
  cases b <;> rfl
theorem bt_sum {z : UInt64} {s lo hi : Int} {b : Bool} (h0 : s = 0 → z = zero b) (h : s ≠ 0 → Right z (decide (s < 0)) s.natAbs 1) (hlo : lo.natAbs < 2 ^ 53) (hhi : hi.natAbs < 2 ^ 53) (h1 : lo * (U : Int) ≤ s) (h2 : s ≤ hi * (U : Int)) : Bt z lo hi := by
  have hU : (0 : Int) < (U : Int) := by exact_mod_cast U_pos
  rcases Int.lt_trichotomy s 0 with q | q | q
  · have hr := h (by omega)
    rw [decide_eq_true q] at hr
    have hlo0 : lo < 0 := by
      refine Int.not_le.mp fun c => ?_
      have := Int.mul_nonneg c (Int.le_of_lt hU)
      omega
    obtain ⟨f, v, hv, a, c⟩ := right_bt (lo := (-hi).toNat) (hi := (-lo).toNat) hr (by decide) (by omega) (by omega) (by
      rw [Nat.one_mul]
      have : (((-hi).toNat * U : Nat) : Int) ≤ (s.natAbs : Int) := by
        rw [Int.natCast_mul]
        rcases Int.le_total hi 0 with w | w
        · rw [Int.toNat_of_nonneg (by omega), Int.neg_mul]; omega
        · rw [Int.toNat_of_nonpos (by omega)]; simp
      exact_mod_cast this) (by
      rw [Nat.one_mul]
      have : (s.natAbs : Int) ≤ (((-lo).toNat * U : Nat) : Int) := by
        rw [Int.natCast_mul, Int.toNat_of_nonneg (by omega), Int.neg_mul]; omega
      exact_mod_cast this)
    refine ⟨f, ?_, ?_⟩
    · rw [hv]; show lo * (U : Int) ≤ -(v : Int)
      have : (v : Int) ≤ (((-lo).toNat * U : Nat) : Int) := by exact_mod_cast c
      rw [Int.natCast_mul, Int.toNat_of_nonneg (by omega), Int.neg_mul] at this
      omega
    · rw [hv]; show -(v : Int) ≤ hi * (U : Int)
      have : (((-hi).toNat * U : Nat) : Int) ≤ (v : Int) := by exact_mod_cast a
      rw [Int.natCast_mul] at this
      rcases Int.le_total hi 0 with w | w
      · rw [Int.toNat_of_nonneg (by omega), Int.neg_mul] at this; omega
      · have := Int.mul_nonneg w (Int.le_of_lt hU); omega
  · obtain ⟨f, v⟩ := val_zero b
    rw [h0 q]
    exact ⟨f, by rw [v]; omega, by rw [v]; omega⟩
  · have hr := h (by omega)
    rw [decide_eq_false (by omega)] at hr
    have hhi0 : 0 < hi := by
      refine Int.not_le.mp fun c => ?_
      have := Int.mul_le_mul_of_nonneg_right c (Int.le_of_lt hU)
      omega
    obtain ⟨f, v, hv, a, c⟩ := right_bt (lo := lo.toNat) (hi := hi.toNat) hr (by decide) (by omega) (by omega) (by
      rw [Nat.one_mul]
      have : ((lo.toNat * U : Nat) : Int) ≤ (s.natAbs : Int) := by
        rw [Int.natCast_mul]
        rcases Int.le_total 0 lo with w | w
        · rw [Int.toNat_of_nonneg (by omega)]; omega
        · rw [Int.toNat_of_nonpos (by omega)]; simp
      exact_mod_cast this) (by
      rw [Nat.one_mul]
      have : (s.natAbs : Int) ≤ ((hi.toNat * U : Nat) : Int) := by
        rw [Int.natCast_mul, Int.toNat_of_nonneg (by omega)]; omega
      exact_mod_cast this)
    refine ⟨f, ?_, ?_⟩
    · rw [hv]; show lo * (U : Int) ≤ (v : Int)
      have : ((lo.toNat * U : Nat) : Int) ≤ (v : Int) := by exact_mod_cast a
      rw [Int.natCast_mul] at this
      rcases Int.le_total 0 lo with w | w
      · rw [Int.toNat_of_nonneg (by omega)] at this; omega
      · have := Int.mul_le_mul_of_nonneg_right w (Int.le_of_lt hU); omega
    · rw [hv]; show (v : Int) ≤ hi * (U : Int)
      have : (v : Int) ≤ ((hi.toNat * U : Nat) : Int) := by exact_mod_cast c
      rw [Int.natCast_mul, Int.toNat_of_nonneg (by omega)] at this
      omega
theorem Bt.add {x y : UInt64} {a b c d : Int} (hx : Bt x a b) (hy : Bt y c d) (h1 : (a + c).natAbs < 2 ^ 53) (h2 : (b + d).natAbs < 2 ^ 53) : Bt (Float64.add x y) (a + c) (b + d) := by
  obtain ⟨⟨s1, m, e, ex⟩, x1, x2⟩ := hx
  obtain ⟨⟨s2, m', e', ey⟩, y1, y2⟩ := hy
  have h := add_right ex ey
  refine bt_sum h.1 h.2 h1 h2 ?_ ?_
  · rw [Int.add_mul]; omega
  · rw [Int.add_mul]; omega
theorem Bt.sub {x y : UInt64} {a b c d : Int} (hx : Bt x a b) (hy : Bt y c d) (h1 : (a - d).natAbs < 2 ^ 53) (h2 : (b - c).natAbs < 2 ^ 53) : Bt (Float64.sub x y) (a - d) (b - c) := by
  obtain ⟨⟨s1, m, e, ex⟩, x1, x2⟩ := hx
  obtain ⟨⟨s2, m', e', ey⟩, y1, y2⟩ := hy
  have h := sub_right ex ey
  refine bt_sum h.1 h.2 h1 h2 ?_ ?_
  · rw [Int.sub_mul]; omega
  · rw [Int.sub_mul]; omega
end
-- F2
section
open PySem.Flt PySem.Float64
theorem Bt.val_eq {x : UInt64} {v : Int} (h : Bt x v v) : val x = v * (U : Int) := by obtain ⟨_, a, b⟩ := h; omega
theorem Bt.mono {x : UInt64} {a b c d : Int} (h : Bt x a b) (h1 : c ≤ a) (h2 : b ≤ d) : Bt x c d := by
  have hU : (0 : Int) ≤ (U : Int) := Int.natCast_nonneg _
  have e1 := Int.mul_le_mul_of_nonneg_right h1 hU
  have e2 := Int.mul_le_mul_of_nonneg_right h2 hU
  exact ⟨h.1, by have := h.2.1; omega, by have := h.2.2; omega⟩
theorem UI : (0 : Int) < (U : Int) := by exact_mod_cast U_pos
theorem K30 : ((2 ^ 30 : Nat) : Int) = (2 : Int) ^ 30 := by decide
theorem KI : ((2 ^ 30 * U : Nat) : Int) = (2 : Int) ^ 30 * (U : Int) := by rw [Int.natCast_mul, K30]

theorem sgnF (n : Nat) : sgn false n = (n : Int) := rfl
theorem sgnT (n : Nat) : sgn true n = -(n : Int) := rfl
/-- a quotient whose size lies between -/
theorem bt_right {z : UInt64} {neg : Bool} {W D : Nat} {lo hi : Int} (h : Right z neg W D) (hD : 0 < D) (hlo : lo.natAbs < 2 ^ 53) (hhi : hi.natAbs < 2 ^ 53) (hs : (0 ≤ lo ∧ neg = false) ∨ (hi ≤ 0 ∧ neg = true)) 
    (h1 : (D : Int) * (lo * (U : Int)) ≤ sgn neg W) (h2 : sgn neg W ≤ (D : Int) * (hi * (U : Int))) : Bt z lo hi := by
  have hDI : (0 : Int) < (D : Int) := by exact_mod_cast hD
  rcases hs with ⟨h0, rfl⟩ | ⟨h0, rfl⟩
  · have hh0 : 0 ≤ hi := by
      refine Int.not_lt.mp fun c => ?_
      have e1 := Int.mul_neg_of_pos_of_neg hDI (Int.mul_neg_of_neg_of_pos c UI)
      have : (0 : Int) ≤ sgn false W := Int.natCast_nonneg _
      omega
    obtain ⟨f, v, hv, a, b⟩ := right_bt (lo := lo.toNat) (hi := hi.toNat) h hD (by omega) (by omega) (by
      have : ((D * (lo.toNat * U) : Nat) : Int) ≤ (W : Int) := by
        rw [Int.natCast_mul, Int.natCast_mul, Int.toNat_of_nonneg h0]; exact h1
      exact_mod_cast this) (by
      have : (W : Int) ≤ ((D * (hi.toNat * U) : Nat) : Int) := by
        rw [Int.natCast_mul, Int.natCast_mul, Int.toNat_of_nonneg hh0]; exact h2
      exact_mod_cast this)
    refine ⟨f, ?_, ?_⟩
    · rw [hv]; show _ ≤ (v : Int)
      have : ((lo.toNat * U : Nat) : Int) ≤ (v : Int) := by exact_mod_cast a
      rwa [Int.natCast_mul, Int.toNat_of_nonneg h0] at this
    · rw [hv]; show (v : Int) ≤ _
      have : (v : Int) ≤ ((hi.toNat * U : Nat) : Int) := by exact_mod_cast b
      rwa [Int.natCast_mul, Int.toNat_of_nonneg hh0] at this
  · have hl0 : lo ≤ 0 := by
      refine Int.not_lt.mp fun c => ?_
      have e1 := Int.mul_pos hDI (Int.mul_pos c UI)
      have : sgn true W ≤ 0 := by show -(W : Int) ≤ 0; omega
      omega
    have h1' : (D : Int) * (lo * (U : Int)) ≤ -(W : Int) := h1
    have h2' : -(W : Int) ≤ (D : Int) * (hi * (U : Int)) := h2
    obtain ⟨f, v, hv, a, b⟩ := right_bt (lo := (-hi).toNat) (hi := (-lo).toNat) h hD (by omega) (by omega) (by
      have : ((D * ((-hi).toNat * U) : Nat) : Int) ≤ (W : Int) := by
        rw [Int.natCast_mul, Int.natCast_mul, Int.toNat_of_nonneg (by omega), Int.neg_mul, Int.mul_neg]; omega
      exact_mod_cast this) (by
      have : (W : Int) ≤ ((D * ((-lo).toNat * U) : Nat) : Int) := by
        rw [Int.natCast_mul, Int.natCast_mul, Int.toNat_of_nonneg (by omega), Int.neg_mul, Int.mul_neg]; omega
      exact_mod_cast this)
    refine ⟨f, ?_, ?_⟩
    · rw [hv]; show _ ≤ -(v : Int)
      have : (v : Int) ≤ (((-lo).toNat * U : Nat) : Int) := by exact_mod_cast b
      rw [Int.natCast_mul, Int.toNat_of_nonneg (by omega), Int.neg_mul] at this
      omega
    · rw [hv]; show -(v : Int) ≤ _
      have : (((-hi).toNat * U : Nat) : Int) ≤ (v : Int) := by exact_mod_cast a
      rw [Int.natCast_mul, Int.toNat_of_nonneg (by omega), Int.neg_mul] at this
      omega

theorem sign_of {x : UInt64} {a : Bool} {m : Nat} {e : Int} (h : decode x = .fin a m e) : (0 < val x → a = false) ∧ (val x < 0 → a = true) := by
  have hv := PySem.Float64.val_eq h
  constructor
  · intro q
    cases a
    · rfl
    · exfalso
      rw [hv] at q
      have : sgn true (m * 2 ^ (e + 1074).toNat) ≤ 0 := by show -((m * 2 ^ (e + 1074).toNat : Nat) : Int) ≤ 0; omega
      omega
  · intro q
    cases a
    · exfalso
      rw [hv] at q
      have : 0 ≤ sgn false (m * 2 ^ (e + 1074).toNat) := by show (0 : Int) ≤ ((m * 2 ^ (e + 1074).toNat : Nat) : Int); omega
      omega
    · rfl
theorem nz_of {x : UInt64} {a : Bool} {m : Nat} {e : Int} (h : decode x = .fin a m e) (h0 : val x ≠ 0) : m ≠ 0 := fun q => h0 (by rw [PySem.Float64.val_eq h, q, Nat.zero_mul]; cases a <;> rfl)

/-- a quotient of floats, the lower one above nought -/
theorem Bt.div {x y : UInt64} {lo hi : Int} (hx : IsFin x) (hy : IsFin y) (hy0 : 0 < val y) (hlo : lo.natAbs < 2 ^ 53) (hhi : hi.natAbs < 2 ^ 53) (h1 : val y * lo ≤ val x * 2 ^ 30) (h2 : val x * 2 ^ 30 ≤ val y * hi) (hs : (0 ≤ lo ∧ 0 < val x) ∨ (hi ≤ 0 ∧ val x < 0) ∨ (val x = 0 ∧ lo ≤ 0 ∧ 0 ≤ hi)) : Bt (Float64.div x y) lo hi := by
  obtain ⟨a, m, e, ex⟩ := hx
  obtain ⟨b, k, f, ey⟩ := hy
  have hr := div_right ex ey (nz_of ey (by omega))
  rw [K_eq] at hr
  have hb := (sign_of ey).1 hy0
  subst hb
  have hD : 0 < (val y).natAbs := by omega
  have hDI : ((val y).natAbs : Int) = val y := by omega
  have e3 : (((val x).natAbs * (2 ^ 30 * U) : Nat) : Int) = ((val x).natAbs : Int) * (2 ^ 30 * (U : Int)) := by rw [Int.natCast_mul, KI]
  have key : ∀ c : Int, (val y) * (c * (U : Int)) = val y * c * (U : Int) := fun c => by rw [Int.mul_assoc]
  have hU := UI
  rcases hs with ⟨h0, q⟩ | ⟨h0, q⟩ | ⟨q, q1, q2⟩
  · have ha := (sign_of ex).1 q
    subst ha
    have e4 : ((val x).natAbs : Int) * (2 ^ 30 * (U : Int)) = val x * 2 ^ 30 * (U : Int) := by rw [← Int.mul_assoc, show ((val x).natAbs : Int) = val x by omega]
    refine bt_right hr hD hlo hhi (.inl ⟨h0, rfl⟩) ?_ ?_
    · rw [show (false != false) = false from rfl, sgnF, hDI, key, e3, e4]
      exact Int.mul_le_mul_of_nonneg_right h1 (Int.le_of_lt hU)
    · rw [show (false != false) = false from rfl, sgnF, hDI, key, e3, e4]
      exact Int.mul_le_mul_of_nonneg_right h2 (Int.le_of_lt hU)
  · have ha := (sign_of ex).2 q
    subst ha
    have e4 : -(((val x).natAbs : Int) * (2 ^ 30 * (U : Int))) = val x * 2 ^ 30 * (U : Int) := by rw [← Int.mul_assoc, ← Int.neg_mul, ← Int.neg_mul, show -((val x).natAbs : Int) = val x by omega]
    refine bt_right hr hD hlo hhi (.inr ⟨h0, rfl⟩) ?_ ?_
    · rw [show (true != false) = true from rfl, sgnT, hDI, key, e3, e4]
      exact Int.mul_le_mul_of_nonneg_right h1 (Int.le_of_lt hU)
    · rw [show (true != false) = true from rfl, sgnT, hDI, key, e3, e4]
      exact Int.mul_le_mul_of_nonneg_right h2 (Int.le_of_lt hU)
  · rw [q] at hr
    have e5 : (0 : Int).natAbs * (2 ^ 30 * U) = 0 := Nat.zero_mul _
    rw [e5] at hr
    obtain ⟨f, v, hv, _, c⟩ := right_bt (lo := 0) (hi := 0) hr hD (by decide) (by decide) (by rw [Nat.zero_mul, Nat.mul_zero]; exact Nat.le_refl _) (Nat.zero_le _)
    have hv0 : v = 0 := by rw [Nat.zero_mul] at c; omega
    rw [hv0] at hv
    have hz : val (Float64.div x y) = 0 := by rw [hv]; cases (a != false) <;> rfl
    have := Int.mul_nonneg q2 (Int.le_of_lt hU)
    have := Int.mul_le_mul_of_nonneg_right q1 (Int.le_of_lt hU)
    exact ⟨f, by rw [hz]; omega, by rw [hz]; omega⟩

theorem Bt.mulPos {x y : UInt64} {a b c : Int} (hx : Bt x a b) (hy : Bt y (c * 2 ^ 30) (c * 2 ^ 30)) (hc : 0 < c) (ha : 0 ≤ a) (h1 : (a * c).natAbs < 2 ^ 53) (h2 : (b * c).natAbs < 2 ^ 53) : Bt (Float64.mul x y) (a * c) (b * c) := by
  have hvy := hy.val_eq
  obtain ⟨⟨s1, m, e, ex⟩, x1, x2⟩ := hx
  obtain ⟨⟨s2, k, f, ey⟩, _, _⟩ := hy
  have hr := mul_right ex ey
  rw [K_eq] at hr
  have hU := UI
  have hy0 : 0 < val y := by rw [hvy]; exact Int.mul_pos (Int.mul_pos hc (by decide)) hU
  have hb := (sign_of ey).1 hy0
  subst hb
  have hx0 : 0 ≤ val x := by have := Int.mul_nonneg ha (Int.le_of_lt hU); omega
  have hD : 0 < 2 ^ 30 * U := Nat.mul_pos (by decide) U_pos
  have e1 : (((val x).natAbs * (val y).natAbs : Nat) : Int) = val x * (c * (2 ^ 30 * (U : Int))) := by
    rw [Int.natCast_mul, show ((val x).natAbs : Int) = val x by omega, show ((val y).natAbs : Int) = val y by omega, hvy, Int.mul_assoc c]
  have e2 : ∀ z : Int, ((2 ^ 30 * U : Nat) : Int) * (z * c * (U : Int)) = z * (U : Int) * (c * (2 ^ 30 * (U : Int))) := fun z => by rw [KI]; ac_rfl
  have hcU : 0 ≤ c * (2 ^ 30 * (U : Int)) := Int.mul_nonneg (Int.le_of_lt hc) (Int.mul_nonneg (by decide) (Int.le_of_lt hU))
  rcases Int.lt_or_eq_of_le hx0 with q | q
  · have hs := (sign_of ex).1 q
    subst hs
    refine bt_right hr hD h1 h2 (.inl ⟨Int.mul_nonneg ha (Int.le_of_lt hc), rfl⟩) ?_ ?_
    · show _ ≤ (((val x).natAbs * (val y).natAbs : Nat) : Int)
      rw [e1, e2]
      exact Int.mul_le_mul_of_nonneg_right x1 hcU
    · show (((val x).natAbs * (val y).natAbs : Nat) : Int) ≤ _
      rw [e1, e2]
      exact Int.mul_le_mul_of_nonneg_right x2 hcU
  · rw [← q] at hr
    have e5 : (0 : Int).natAbs * (val y).natAbs = 0 := Nat.zero_mul _
    rw [e5] at hr
    obtain ⟨f, v, hv, _, w⟩ := right_bt (lo := 0) (hi := 0) hr hD (by decide) (by decide) (by rw [Nat.zero_mul, Nat.mul_zero]; exact Nat.le_refl _) (Nat.zero_le _)
    have hv0 : v = 0 := by rw [Nat.zero_mul] at w; omega
    rw [hv0] at hv
    have hz : val (Float64.mul x y) = 0 := by rw [hv]; cases (s1 != false) <;> rfl
    have ha0 : a = 0 := by
      rcases Int.lt_or_eq_of_le ha with w | w
      · have := Int.mul_pos w hU; omega
      · exact w.symm
    have hb0 : 0 ≤ b := by
      refine Int.not_lt.mp fun w => ?_
      have := Int.mul_neg_of_neg_of_pos w hU; omega
    refine ⟨f, ?_, ?_⟩
    · rw [hz, ha0, Int.zero_mul, Int.zero_mul]; exact Int.le_refl _
    · rw [hz]; exact Int.mul_nonneg (Int.mul_nonneg hb0 (Int.le_of_lt hc)) (Int.le_of_lt hU)
end
-- F3
section
open PySem.Flt PySem.Float64
theorem shift_bt {P : Nat} {a : Bool} {g : Int} (hg : -1074 ≤ g) : Right (ofBin a P g) a (P * 2 ^ (g + 1074).toNat) 1 := by
  unfold ofBin
  refine ofFrac_right (shift_pos _ _ _ (by decide)) ?_ (by decide)
  have := shift_one P g 1074 (by omega)
  rw [Nat.mul_one]
  exact this
theorem bt_mag {z : UInt64} {neg : Bool} {W : Nat} {lo hi : Int} (h : Right z neg W 1) (hlo : lo.natAbs < 2 ^ 53) (hhi : hi.natAbs < 2 ^ 53) (hs : (0 ≤ lo ∧ neg = false) ∨ (hi ≤ 0 ∧ neg = true)) 
    (h1 : lo * (U : Int) ≤ sgn neg W) (h2 : sgn neg W ≤ hi * (U : Int)) : Bt z lo hi :=
  bt_right h (by decide) hlo hhi hs (by rw [show ((1 : Nat) : Int) = 1 from rfl, Int.one_mul]; exact h1) (by rw [show ((1 : Nat) : Int) = 1 from rfl, Int.one_mul]; exact h2)

/-- a count of 1/131072 -/
def FF (n : Int) : UInt64 := ofFrac (decide (n < 0) != decide ((131072 : Int) < 0)) n.natAbs (131072 : Int).natAbs
theorem FF_bt {n : Int} (h0 : 0 ≤ n) (h1 : n < 2 ^ 18) : Bt (FF n) (n * 8192) (n * 8192) := by
  have e : (decide (n < 0) != decide ((131072 : Int) < 0)) = false := by rw [decide_eq_false (by omega)]; rfl
  unfold FF
  rw [e]
  have hr : Right (ofFrac false n.natAbs (131072 : Int).natAbs) false (n.natAbs * 8192 * U) 1 := by
    refine ofFrac_right (by decide) ?_ (by decide)
    rw [K_eq, Nat.mul_one, show (131072 : Int).natAbs = 2 ^ 17 from rfl, show (8192 : Nat) = 2 ^ 13 from rfl]
    rw [show (2 : Nat) ^ 30 = 2 ^ 13 * 2 ^ 17 by decide]
    generalize (2 : Nat) ^ 13 = A
    generalize (2 : Nat) ^ 17 = B
    generalize U = C
    ac_rfl
  have hn : ((n.natAbs * 8192 * U : Nat) : Int) = n * 8192 * (U : Int) := by
    rw [Int.natCast_mul, Int.natCast_mul, show ((n.natAbs : Nat) : Int) = n by omega]
    rfl
  refine bt_mag hr (by omega) (by omega) (.inl ⟨by omega, rfl⟩) ?_ ?_
  · rw [sgnF, hn]; exact Int.le_refl _
  · rw [sgnF, hn]; exact Int.le_refl _
theorem cmp_bt {x y : UInt64} {a b : Int} (hx : Bt x a a) (hy : Bt y b b) : Float64.cmp x y = some (compare a b) := by
  have e1 := hx.val_eq
  have e2 := hy.val_eq
  obtain ⟨⟨s1, m, e, ex⟩, _, _⟩ := hx
  obtain ⟨⟨s2, k, f, ey⟩, _, _⟩ := hy
  rw [cmp_right ex ey, e1, e2]
  congr 1
  rcases Int.lt_trichotomy a b with h | h | h
  · rw [Int.compare_eq_lt.mpr h, Int.compare_eq_lt.mpr (Int.mul_lt_mul_of_pos_right h UI)]
  · subst h; simp
  · rw [Int.compare_eq_gt.mpr h, Int.compare_eq_gt.mpr (Int.mul_lt_mul_of_pos_right h UI)]
theorem FF_cmp {a b : Int} (ha : 0 ≤ a ∧ a < 2 ^ 18) (hb : 0 ≤ b ∧ b < 2 ^ 18) : Float64.cmp (FF a) (FF b) = some (compare a b) := by
  rw [cmp_bt (FF_bt ha.1 ha.2) (FF_bt hb.1 hb.2)]
  congr 1
  rcases Int.lt_trichotomy a b with h | h | h
  · rw [Int.compare_eq_lt.mpr h, Int.compare_eq_lt.mpr (by omega)]
  · subst h; simp
  · rw [Int.compare_eq_gt.mpr h, Int.compare_eq_gt.mpr (by omega)]
theorem isZero_iff {x : UInt64} (h : IsFin x) : Float64.isZero x = decide (val x = 0) := by
  obtain ⟨a, m, e, ex⟩ := h
  unfold Float64.isZero
  rw [ex]
  cases m with
  | zero =>
    rw [PySem.Float64.val_eq ex, Nat.zero_mul]
    cases a <;> rfl
  | succ m =>
    symm
    show decide _ = false
    refine decide_eq_false fun q => ?_
    have := PySem.Float64.val_natAbs ex
    rw [q] at this
    have hp : 0 < (m + 1) * 2 ^ (e + 1074).toNat := Nat.mul_pos (Nat.succ_pos _) (Nat.two_pow_pos _)
    rw [← this] at hp
    exact absurd hp (by decide)

/-- a written float's size -/
theorem lit_bt {x : UInt64} {a : Bool} {m : Nat} {e : Int} {v : Int} (h : decode x = .fin a m e) (he : -30 ≤ e) (hv : sgn a (m * 2 ^ (e + 30).toNat) = v) : Bt x v v := by
  have h1 := PySem.Float64.val_eq h
  have e1 : 2 ^ (e + 1074).toNat = 2 ^ (e + 30).toNat * U := by unfold U; rw [← Nat.pow_add]; congr 1; omega
  have h2 : val x = v * (U : Int) := by
    rw [h1, e1, ← Nat.mul_assoc, sgn_mul, hv]
  exact ⟨⟨a, m, e, h⟩, by rw [h2]; exact Int.le_refl _, by rw [h2]; exact Int.le_refl _⟩

/-- the whole part of what lies above nought -/
theorem Bt.trunc {x : UInt64} {lo hi : Int} (h : Bt x lo hi) (h0 : 0 < lo) : ∃ sg m e, decode x = .fin sg m e ∧ lo / 2 ^ 30 ≤ truncOf sg m e ∧ truncOf sg m e ≤ hi / 2 ^ 30 := by
  obtain ⟨⟨sg, m, e, ex⟩, l, u⟩ := h
  have hU := UI
  have hv : 0 < val x := by have := Int.mul_pos h0 hU; omega
  have hs := (sign_of ex).1 hv
  subst hs
  refine ⟨false, m, e, ex, ?_⟩
  have h1 := PySem.Float64.val_eq ex
  rw [sgnF] at h1
  have hge := decode_ge ex
  -- t is the floor of the value
  have key : ∃ t : Nat, truncOf false m e = (t : Int) ∧ t * (2 ^ 30 * U) ≤ m * 2 ^ (e + 1074).toNat ∧ m * 2 ^ (e + 1074).toNat < (t + 1) * (2 ^ 30 * U) := by
    rw [← K_eq]
    rcases Int.le_total 0 e with q | q
    · refine ⟨m * 2 ^ e.toNat, ?_, ?_, ?_⟩
      · show floorOf false m e = _
        unfold floorOf
        rw [if_pos q, sgnF, Int.natCast_mul]
        congr 1
      · rw [Nat.mul_assoc, ← Nat.pow_add, show e.toNat + 1074 = (e + 1074).toNat by omega]; exact Nat.le_refl _
      · rw [Nat.add_mul, Nat.mul_assoc, ← Nat.pow_add, show e.toNat + 1074 = (e + 1074).toNat by omega]
        have := Nat.two_pow_pos 1074
        omega
    · by_cases q0 : e = 0
      · subst q0
        refine ⟨m, ?_, Nat.le_refl _, ?_⟩
        · show floorOf false m 0 = _
          unfold floorOf
          rw [if_pos (by decide), sgnF]
          simp
        · rw [Nat.add_mul]
          have := Nat.two_pow_pos 1074
          show m * 2 ^ 1074 < _
          omega
      · have hsplit : 2 ^ 1074 = 2 ^ (-e).toNat * 2 ^ (e + 1074).toNat := by rw [← Nat.pow_add]; congr 1; omega
        have hp : 0 < 2 ^ (-e).toNat := Nat.two_pow_pos _
        have hq : 0 < 2 ^ (e + 1074).toNat := Nat.two_pow_pos _
        refine ⟨m / 2 ^ (-e).toNat, ?_, ?_, ?_⟩
        · show floorOf false m e = _
          unfold floorOf
          rw [if_neg (by omega), sgnF]
          rw [Int.fdiv_eq_ediv_of_nonneg _ (Int.le_of_lt (Int.pow_pos (by decide)))]
          rw [Int.natCast_ediv]
          congr 1
        · rw [hsplit, ← Nat.mul_assoc]
          exact Nat.mul_le_mul_right _ (Nat.div_mul_le_self _ _)
        · rw [hsplit, ← Nat.mul_assoc]
          refine Nat.mul_lt_mul_of_pos_right ?_ hq
          rw [Nat.mul_comm]
          exact Nat.lt_mul_div_succ m hp
  obtain ⟨t, ht, ha, hb⟩ := key
  rw [ht]
  have ha' : (t : Int) * (2 ^ 30 * (U : Int)) ≤ val x := by
    rw [h1, ← KI, ← Int.natCast_mul]; exact Int.ofNat_le.mpr ha
  have hb' : val x < ((t : Int) + 1) * (2 ^ 30 * (U : Int)) := by
    rw [h1, ← KI]
    have : ((m * 2 ^ (e + 1074).toNat : Nat) : Int) < (((t + 1) * (2 ^ 30 * U) : Nat) : Int) := Int.ofNat_lt.mpr hb
    rw [Int.natCast_mul (t + 1)] at this
    exact this
  constructor
  · have h3 : lo * (U : Int) < ((t : Int) + 1) * 2 ^ 30 * (U : Int) := by rw [Int.mul_assoc]; omega
    have h4 := Int.lt_of_mul_lt_mul_right h3 (Int.le_of_lt hU)
    omega
  · have h3 : (t : Int) * 2 ^ 30 * (U : Int) ≤ hi * (U : Int) := by rw [Int.mul_assoc]; omega
    have h4 := Int.le_of_mul_le_mul_right h3 hU
    omega
end
-- F4
section
open PySem.Flt PySem.Float64
theorem lit_bt2 {x : UInt64} {a : Bool} {m v : Nat} {e : Int} (h : decode x = .fin a m e) (he : -1074 ≤ e ∧ e ≤ -30) (hm : m = v * 2 ^ (-30 - e).toNat) : Bt x (sgn a v) (sgn a v) := by
  have h1 := PySem.Float64.val_eq h
  have e1 : 2 ^ (-30 - e).toNat * 2 ^ (e + 1074).toNat = U := by unfold U; rw [← Nat.pow_add]; congr 1; omega
  have h2 : val x = sgn a v * (U : Int) := by
    rw [h1, hm, Nat.mul_assoc, e1, sgn_mul]
  exact ⟨⟨a, m, e, h⟩, by rw [h2]; exact Int.le_refl _, by rw [h2]; exact Int.le_refl _⟩
theorem lt_zero {x : UInt64} (h : IsFin x) : Float64.lt x (zero false) = decide (val x < 0) := by
  obtain ⟨a, m, e, ex⟩ := h
  obtain ⟨⟨b, k, f, ey⟩, hz⟩ := val_zero false
  unfold Float64.lt
  rw [cmp_right ex ey, hz]
  rcases Int.lt_trichotomy (val x) 0 with q | q | q
  · rw [Int.compare_eq_lt.mpr q, decide_eq_true q]; rfl
  · rw [q]; rfl
  · rw [Int.compare_eq_gt.mpr q, decide_eq_false (by omega)]; rfl
theorem fmod_small {x y : UInt64} {lo hi : Int} (hx : Bt x lo hi) (hy : Bt y (2 ^ 30) (2 ^ 30)) (hlo : -2 ^ 30 < lo) (hhi : hi < 2 ^ 30) (hs : 0 ≤ lo ∨ hi < 0) : Bt (Float64.fmod x y) lo hi := by
  have hvy := hy.val_eq
  obtain ⟨⟨a, m, e, ex⟩, l, u⟩ := hx
  obtain ⟨⟨b, k, f, ey⟩, _, _⟩ := hy
  have hU := UI
  have hb := (sign_of ey).1 (by rw [hvy]; exact Int.mul_pos (by decide) hU)
  subst hb
  have hk := nz_of ey (by rw [hvy]; have := Int.mul_pos (show (0 : Int) < 2 ^ 30 by decide) hU; omega)
  have nx := PySem.Float64.val_natAbs ex
  have ny := PySem.Float64.val_natAbs ey
  have hge := decode_ge ex
  have hgf := decode_ge ey
  have hP : m * 2 ^ (e + 1074).toNat = m * 2 ^ (e - min e f).toNat * 2 ^ (min e f + 1074).toNat := by rw [Nat.mul_assoc, ← Nat.pow_add]; congr 2; omega
  have hQ : k * 2 ^ (f + 1074).toNat = k * 2 ^ (f - min e f).toNat * 2 ^ (min e f + 1074).toNat := by rw [Nat.mul_assoc, ← Nat.pow_add]; congr 2; omega
  have hlt : (val x).natAbs < (val y).natAbs := by
    have e1 := Int.mul_lt_mul_of_pos_right hlo hU
    have e2 := Int.mul_lt_mul_of_pos_right hhi hU
    rw [Int.neg_mul] at e1
    omega
  have hPQ : m * 2 ^ (e - min e f).toNat < k * 2 ^ (f - min e f).toNat := by
    rw [nx, ny, hP, hQ] at hlt
    exact Nat.lt_of_mul_lt_mul_right hlt
  have hf : Float64.fmod x y = ofBin a (m * 2 ^ (e - min e f).toNat) (min e f) := by
    have : Float64.fmod x y = (if k == 0 then Float64.nan else ofBin a ((sgn false (m * 2 ^ (e - min e f).toNat)).toNat % (sgn false (k * 2 ^ (f - min e f).toNat)).toNat) (min e f)) := by
      unfold Float64.fmod
      rw [ex, ey]
      rfl
    rw [this, if_neg (by simpa using hk), sgnF, sgnF, Int.toNat_natCast, Int.toNat_natCast, Nat.mod_eq_of_lt hPQ]
  rw [hf]
  have hr := shift_bt (a := a) (P := m * 2 ^ (e - min e f).toNat) (g := min e f) (by omega)
  rw [← hP] at hr
  have hv := PySem.Float64.val_eq ex
  have b1 : lo.natAbs < 2 ^ 53 ∧ hi.natAbs < 2 ^ 53 := by
    have hle : lo ≤ hi := by
      have : lo * (U : Int) ≤ hi * (U : Int) := by omega
      exact Int.le_of_mul_le_mul_right this hU
    omega
  rcases hs with h0 | h0
  · rcases Int.lt_or_eq_of_le (show 0 ≤ val x by have := Int.mul_nonneg h0 (Int.le_of_lt hU); omega) with q | q
    · have ha := (sign_of ex).1 q
      subst ha
      exact bt_mag hr b1.1 b1.2 (.inl ⟨h0, rfl⟩) (by rw [← hv]; exact l) (by rw [← hv]; exact u)
    · rw [← nx, ← q, Int.natAbs_zero] at hr
      obtain ⟨f', v, hv', _, w⟩ := right_bt (lo := 0) (hi := 0) hr (by decide) (by decide) (by decide) (by rw [Nat.zero_mul, Nat.mul_zero]; exact Nat.le_refl _) (Nat.zero_le _)
      have hv0 : v = 0 := by rw [Nat.zero_mul] at w; omega
      rw [hv0] at hv'
      have hz : val (ofBin a (m * 2 ^ (e - min e f).toNat) (min e f)) = 0 := by rw [hv']; cases a <;> rfl
      rw [← q] at l u
      exact ⟨f', by rw [hz]; exact l, by rw [hz]; exact u⟩
  · have q : val x < 0 := by have := Int.mul_neg_of_neg_of_pos h0 hU; omega
    have ha := (sign_of ex).2 q
    subst ha
    exact bt_mag hr b1.1 b1.2 (.inr ⟨by omega, rfl⟩) (by rw [← hv]; exact l) (by rw [← hv]; exact u)
theorem copysign_zero (y : UInt64) : IsFin (copysign (zero false) y) ∧ val (copysign (zero false) y) = 0 := by
  have e : copysign (zero false) y = zero (signBit y) := by
    unfold copysign
    rw [if_neg (by decide +kernel), show (zero false).toNat % 2 ^ 63 = 0 from by decide +kernel]
    rfl
  rw [e]
  exact val_zero _
theorem Bt.mod1 {x y : UInt64} {lo hi : Int} (hx : Bt x lo hi) (hy : Bt y (2 ^ 30) (2 ^ 30)) (hlo : 0 ≤ lo) (hhi : hi < 2 ^ 30) : Bt (Float64.divmod x y).2 lo hi := by
  have hf := fmod_small hx hy (by omega) hhi (.inl hlo)
  have hU := UI
  have hvy := hy.val_eq
  have hly : Float64.lt y (zero false) = false := by rw [lt_zero hy.1, hvy]; exact decide_eq_false (by have := Int.mul_pos (show (0 : Int) < 2 ^ 30 by decide) hU; omega)
  have hlm : Float64.lt (Float64.fmod x y) (zero false) = false := by rw [lt_zero hf.1]; exact decide_eq_false (by have := Int.mul_nonneg hlo (Int.le_of_lt hU); have := hf.2.1; omega)
  unfold Float64.divmod
  simp only [hly, hlm]
  cases hz : Float64.isZero (Float64.fmod x y) with
  | true =>
    rw [isZero_iff hf.1] at hz
    have hz' := of_decide_eq_true hz
    obtain ⟨c1, c2⟩ := copysign_zero y
    have l := hf.2.1
    have u := hf.2.2
    rw [hz'] at l u
    refine ⟨c1, ?_, ?_⟩
    · show _ ≤ val (copysign (zero false) y)
      rw [c2]; exact l
    · show val (copysign (zero false) y) ≤ _
      rw [c2]; exact u
  | false => exact hf
theorem Bt.mod1n {x y : UInt64} {lo hi : Int} (hx : Bt x lo hi) (hy : Bt y (2 ^ 30) (2 ^ 30)) (hlo : -2 ^ 30 < lo) (hhi : hi < 0) : Bt (Float64.divmod x y).2 (lo + 2 ^ 30) (hi + 2 ^ 30) := by
  have hU := UI
  have hle : lo ≤ hi := by
    have : lo * (U : Int) ≤ hi * (U : Int) := by have := hx.2; omega
    exact Int.le_of_mul_le_mul_right this hU
  have hf := fmod_small hx hy hlo (by omega) (.inr hhi)
  have hvy := hy.val_eq
  have hneg : val (Float64.fmod x y) < 0 := by have := Int.mul_neg_of_neg_of_pos hhi hU; have := hf.2.2; omega
  have hly : Float64.lt y (zero false) = false := by rw [lt_zero hy.1, hvy]; exact decide_eq_false (by have := Int.mul_pos (show (0 : Int) < 2 ^ 30 by decide) hU; omega)
  have hlm : Float64.lt (Float64.fmod x y) (zero false) = true := by rw [lt_zero hf.1]; exact decide_eq_true hneg
  have hz : Float64.isZero (Float64.fmod x y) = false := by rw [isZero_iff hf.1]; exact decide_eq_false (by omega)
  unfold Float64.divmod
  simp only [hly, hlm, hz]
  exact Bt.add hf hy (by omega) (by omega)
end
-- F5
section
open PySem.Flt PySem.Float64
def c0 : UInt64 := 0
def cH : UInt64 := 4602678819172646912
def c1 : UInt64 := 4607182418800017408
def c2 : UInt64 := 4611686018427387904
def c4 : UInt64 := 4616189618054758400
def c6 : UInt64 := 4618441417868443648
def cB : UInt64 := 4708513410415853568
theorem dec_of {x : UInt64} {a : Bool} {m : Nat} {e : Int} (h : (match decode x with | .fin a' m' e' => decide (a' = a ∧ m' = m ∧ e' = e) | _ => false) = true) : decode x = .fin a m e := by
  split at h
  · rename_i q
    obtain ⟨rfl, rfl, rfl⟩ := of_decide_eq_true h
    exact q
  · cases h
theorem cH_bt : Bt cH 536870912 536870912 := lit_bt2 (a := false) (m := 4503599627370496) (v := 536870912) (e := -53) (dec_of (by decide +kernel)) (by decide) (by decide +kernel)
theorem c1_bt : Bt c1 (2 ^ 30) (2 ^ 30) := lit_bt2 (a := false) (m := 4503599627370496) (v := 1073741824) (e := -52) (dec_of (by decide +kernel)) (by decide) (by decide +kernel)
theorem c2_bt : Bt c2 (2 * 2 ^ 30) (2 * 2 ^ 30) := lit_bt2 (a := false) (m := 4503599627370496) (v := 2147483648) (e := -51) (dec_of (by decide +kernel)) (by decide) (by decide +kernel)
theorem c4_bt : Bt c4 (4 * 2 ^ 30) (4 * 2 ^ 30) := lit_bt2 (a := false) (m := 4503599627370496) (v := 4294967296) (e := -50) (dec_of (by decide +kernel)) (by decide) (by decide +kernel)
theorem c6_bt : Bt c6 (6 * 2 ^ 30) (6 * 2 ^ 30) := lit_bt2 (a := false) (m := 6755399441055744) (v := 6442450944) (e := -50) (dec_of (by decide +kernel)) (by decide) (by decide +kernel)
theorem cB_bt : Bt cB (6291456 * 2 ^ 30) (6291456 * 2 ^ 30) := lit_bt2 (a := false) (m := 6755399441055744) (v := 6755399441055744) (e := -30) (dec_of (by decide +kernel)) (by decide) (by decide +kernel)

theorem sixth {h : UInt64} {lo hi lo' hi' : Int} (b : Bt h lo hi) (h1 : 6 * lo' ≤ lo) (h2 : hi ≤ 6 * hi') (hlo : lo'.natAbs < 2 ^ 53) (hhi : hi'.natAbs < 2 ^ 53) (hs : 0 ≤ lo' ∨ hi' ≤ 0) : Bt (Float64.div h c6) lo' hi' := by
  have hU := UI
  have v6 := c6_bt.val_eq
  obtain ⟨f, l, u⟩ := b
  have e1 := Int.mul_le_mul_of_nonneg_right h1 (Int.le_of_lt hU)
  have e2 := Int.mul_le_mul_of_nonneg_right h2 (Int.le_of_lt hU)
  have m1 : val c6 * lo' = 6 * lo' * (U : Int) * 2 ^ 30 := by rw [v6]; ac_rfl
  have m2 : val c6 * hi' = 6 * hi' * (U : Int) * 2 ^ 30 := by rw [v6]; ac_rfl
  refine Bt.div f c6_bt.1 (by rw [v6]; exact Int.mul_pos (by decide) hU) hlo hhi ?_ ?_ ?_
  · rw [m1]; omega
  · rw [m2]; omega
  · rcases Int.lt_trichotomy (val h) 0 with q | q | q
    · rcases hs with w | w
      · exfalso
        have := Int.mul_nonneg w (Int.le_of_lt hU)
        rw [Int.mul_assoc] at e1
        omega
      · exact .inr (.inl ⟨w, q⟩)
    · have l' := l
      have u' := u
      rw [q] at l' u'
      refine .inr (.inr ⟨q, ?_, ?_⟩)
      · refine Int.not_lt.mp fun c => ?_
        have := Int.mul_pos c hU
        rw [Int.mul_assoc] at e1
        omega
      · refine Int.not_lt.mp fun c => ?_
        have := Int.mul_neg_of_neg_of_pos c hU
        rw [Int.mul_assoc] at e2
        omega
    · rcases hs with w | w
      · exact .inl ⟨w, q⟩
      · exfalso
        have := Int.mul_nonneg (show 0 ≤ -hi' by omega) (Int.le_of_lt hU)
        rw [Int.neg_mul] at this
        rw [Int.mul_assoc] at e2
        omega

def hueF (h : UInt64) : UInt64 := (Float64.divmod (Float64.div h c6) c1).2
def turnF (hue : UInt64) : UInt64 := Float64.add (Float64.mul hue cB) cH
/-- the turn's whole number lies between -/
def Turn (x : UInt64) (lo hi : Int) : Prop := ∃ sg m e, decode x = .fin sg m e ∧ lo ≤ truncOf sg m e ∧ truncOf sg m e ≤ hi
theorem turn_of {hue : UInt64} {a b : Int} (h : Bt hue a b) (h0 : 0 ≤ a) (h1 : b ≤ 2 ^ 30) (hab : a ≤ b) : Turn (turnF hue) ((a * 6291456 + 536870912) / 2 ^ 30) ((b * 6291456 + 536870912) / 2 ^ 30) := by
  have hm := Bt.mulPos h cB_bt (by decide) h0 (by omega) (by omega)
  have ha := Bt.add hm cH_bt (by omega) (by omega)
  exact Bt.trunc ha (by omega)
theorem turn_up {h : UInt64} {lo hi : Int} (b : Bt h lo hi) (h0 : 0 ≤ lo) (hle : lo ≤ hi) (h1 : hi ≤ 5 * 2 ^ 30) : Turn (turnF (hueF h)) ((lo / 6 * 6291456 + 536870912) / 2 ^ 30) (((hi + 5) / 6 * 6291456 + 536870912) / 2 ^ 30) := by
  have h6 := sixth (lo' := lo / 6) (hi' := (hi + 5) / 6) b (by omega) (by omega) (by omega) (by omega) (.inl (by omega))
  exact turn_of (Bt.mod1 h6 c1_bt (by omega) (by omega)) (by omega) (by omega) (by omega)
theorem turn_dn {h : UInt64} {lo hi : Int} (b : Bt h lo hi) (h0 : hi < -6) (hle : lo ≤ hi) (h1 : -2 ^ 30 ≤ lo) : Turn (turnF (hueF h)) (((lo / 6 + 2 ^ 30) * 6291456 + 536870912) / 2 ^ 30) ((((hi + 5) / 6 + 2 ^ 30) * 6291456 + 536870912) / 2 ^ 30) := by
  have h6 := sixth (lo' := lo / 6) (hi' := (hi + 5) / 6) b (by omega) (by omega) (by omega) (by omega) (.inr (by omega))
  exact turn_of (Bt.mod1n h6 c1_bt (by omega) (by omega)) (by omega) (by omega) (by omega)
end
-- F6
section
open PySem.Flt PySem.Float64
def rngF (M m : Int) : UInt64 := Float64.sub (FF M) (FF m)
def qF (M m x : Int) : UInt64 := Float64.div (Float64.sub (FF M) (FF x)) (rngF M m)
theorem dif_bt {a b : Int} (ha : 0 ≤ a ∧ a < 2 ^ 17) (hb : 0 ≤ b ∧ b < 2 ^ 17) : Bt (Float64.sub (FF a) (FF b)) ((a - b) * 8192) ((a - b) * 8192) := by
  have h := Bt.sub (FF_bt ha.1 (by omega)) (FF_bt hb.1 (by omega)) (by omega) (by omega)
  rw [← Int.sub_mul] at h
  exact h
theorem q_bt {M m x lo hi : Int} (hM : 0 ≤ M ∧ M < 2 ^ 17) (hm : 0 ≤ m ∧ m < 2 ^ 17) (hx : 0 ≤ x ∧ x < 2 ^ 17) (hMm : m < M) (hxM : x ≤ M) (h1 : (M - m) * lo ≤ (M - x) * 2 ^ 30) (h2 : (M - x) * 2 ^ 30 ≤ (M - m) * hi) (hlo : 0 ≤ lo) (hl2 : lo < 2 ^ 53) (hh2 : 0 ≤ hi ∧ hi < 2 ^ 53) (hz : x = M → lo = 0) : Bt (qF M m x) lo hi := by
  have hU := UI
  have bx := dif_bt hM hx
  have by' := dif_bt hM hm
  have vx := bx.val_eq
  have vy := by'.val_eq
  have hy0 : 0 < val (rngF M m) := by unfold rngF; rw [vy]; exact Int.mul_pos (Int.mul_pos (by omega) (by decide)) hU
  have e : ∀ z : Int, val (rngF M m) * z = (M - m) * z * (8192 * (U : Int)) := fun z => by unfold rngF; rw [vy]; ac_rfl
  have e2 : val (Float64.sub (FF M) (FF x)) * 2 ^ 30 = (M - x) * 2 ^ 30 * (8192 * (U : Int)) := by rw [vx]; ac_rfl
  have h8 : 0 ≤ 8192 * (U : Int) := Int.mul_nonneg (by decide) (Int.le_of_lt hU)
  refine Bt.div bx.1 by'.1 hy0 (by omega) (by omega) ?_ ?_ ?_
  · rw [e, e2]; exact Int.mul_le_mul_of_nonneg_right h1 h8
  · rw [e, e2]; exact Int.mul_le_mul_of_nonneg_right h2 h8
  · by_cases q : x = M
    · refine .inr (.inr ⟨?_, by have := hz q; omega, hh2.1⟩)
      rw [vx, q, Int.sub_self, Int.zero_mul, Int.zero_mul]
    · refine .inl ⟨hlo, ?_⟩
      rw [vx]
      exact Int.mul_pos (Int.mul_pos (by omega) (by decide)) hU
theorem q_top {M m : Int} (hM : 0 ≤ M ∧ M < 2 ^ 17) (hm : 0 ≤ m ∧ m < 2 ^ 17) (h : m < M) : Bt (qF M m M) 0 0 :=
  q_bt hM hm hM h (Int.le_refl _) (by rw [Int.mul_zero, Int.sub_self, Int.zero_mul]; exact Int.le_refl _) (by rw [Int.mul_zero, Int.sub_self, Int.zero_mul]; exact Int.le_refl _) (Int.le_refl _) (by decide) ⟨Int.le_refl _, by decide⟩ fun _ => rfl
theorem q_bot {M m : Int} (hM : 0 ≤ M ∧ M < 2 ^ 17) (hm : 0 ≤ m ∧ m < 2 ^ 17) (h : m < M) : Bt (qF M m m) (2 ^ 30) (2 ^ 30) :=
  q_bt hM hm hm h (by omega) (Int.le_refl _) (Int.le_refl _) (by decide) (by decide) ⟨by decide, by decide⟩ fun q => absurd q (by omega)
theorem q_mid {M m x : Int} (hM : 0 ≤ M ∧ M < 2 ^ 17) (hm : 0 ≤ m ∧ m < 2 ^ 17) (h1 : m < x) (h2 : x < M) : Bt (qF M m x) 8192 (2 ^ 30 - 8192) :=
  q_bt hM hm (by omega) (by omega) (by omega) (by omega) (by rw [Int.mul_sub]; omega) (by decide) (by decide) ⟨by decide, by decide⟩ fun q => absurd q (by omega)

def mx3 (a b c : Int) : Int := max (max a b) c
def mn3 (a b c : Int) : Int := min (min a b) c
def hF (a b c : Int) : UInt64 :=
  if a = mx3 a b c then Float64.sub (qF (mx3 a b c) (mn3 a b c) c) (qF (mx3 a b c) (mn3 a b c) b)
  else if b = mx3 a b c then Float64.sub (Float64.add c2 (qF (mx3 a b c) (mn3 a b c) a)) (qF (mx3 a b c) (mn3 a b c) c)
  else Float64.sub (Float64.add c4 (qF (mx3 a b c) (mn3 a b c) b)) (qF (mx3 a b c) (mn3 a b c) a)
/-- which lights the turn is near to -/
def Near (x : UInt64) (p q r : Bool) : Prop := ∃ sg m e, decode x = .fin sg m e ∧ (decide (truncOf sg m e ≤ 1048576) || decide (truncOf sg m e ≥ 5242880)) = p ∧ (decide (1048576 ≤ truncOf sg m e) && decide (truncOf sg m e ≤ 3145728)) = q ∧ (decide (3145728 ≤ truncOf sg m e) && decide (truncOf sg m e ≤ 5242880)) = r
theorem near_of {x : UInt64} {lo hi : Int} {p q r : Bool} (h : Turn x lo hi) (hp : ∀ t : Int, lo ≤ t → t ≤ hi → (decide (t ≤ 1048576) || decide (t ≥ 5242880)) = p ∧ (decide (1048576 ≤ t) && decide (t ≤ 3145728)) = q ∧ (decide (3145728 ≤ t) && decide (t ≤ 5242880)) = r) : Near x p q r := by
  obtain ⟨sg, m, e, hd, a, b⟩ := h
  exact ⟨sg, m, e, hd, hp _ a b⟩
theorem near_lo {x : UInt64} {lo hi : Int} (h : Turn x lo hi) (h1 : hi < 1048576) : Near x true false false := near_of h fun t a b => by
  refine ⟨?_, ?_, ?_⟩ <;> simp <;> omega
theorem near_hi {x : UInt64} {lo hi : Int} (h : Turn x lo hi) (h1 : 5242880 < lo) : Near x true false false := near_of h fun t a b => by
  refine ⟨?_, ?_, ?_⟩ <;> simp <;> omega
theorem near_g {x : UInt64} {lo hi : Int} (h : Turn x lo hi) (h0 : 1048576 < lo) (h1 : hi < 3145728) : Near x false true false := near_of h fun t a b => by
  refine ⟨?_, ?_, ?_⟩ <;> simp <;> omega
theorem near_b {x : UInt64} {lo hi : Int} (h : Turn x lo hi) (h0 : 3145728 < lo) (h1 : hi < 5242880) : Near x false false true := near_of h fun t a b => by
  refine ⟨?_, ?_, ?_⟩ <;> simp <;> omega
theorem near_rg {x : UInt64} (h : Turn x 1048576 1048576) : Near x true true false := near_of h fun t a b => by
  refine ⟨?_, ?_, ?_⟩ <;> simp <;> omega
theorem near_gb {x : UInt64} (h : Turn x 3145728 3145728) : Near x false true true := near_of h fun t a b => by
  refine ⟨?_, ?_, ?_⟩ <;> simp <;> omega
theorem near_br {x : UInt64} (h : Turn x 5242880 5242880) : Near x true false true := near_of h fun t a b => by
  refine ⟨?_, ?_, ?_⟩ <;> simp <;> omega

theorem hue_ok {a b c : Int} (ha : 0 ≤ a ∧ a < 2 ^ 17) (hb : 0 ≤ b ∧ b < 2 ^ 17) (hc : 0 ≤ c ∧ c < 2 ^ 17) (hne : mn3 a b c < mx3 a b c) : Near (turnF (hueF (hF a b c))) (decide (a = mx3 a b c)) (decide (b = mx3 a b c)) (decide (c = mx3 a b c)) := by
  have mM : a ≤ mx3 a b c ∧ b ≤ mx3 a b c ∧ c ≤ mx3 a b c ∧ (mx3 a b c = a ∨ mx3 a b c = b ∨ mx3 a b c = c) := by unfold mx3; omega
  have mm : mn3 a b c ≤ a ∧ mn3 a b c ≤ b ∧ mn3 a b c ≤ c ∧ (mn3 a b c = a ∨ mn3 a b c = b ∨ mn3 a b c = c) := by unfold mn3; omega
  unfold hF
  generalize mx3 a b c = M at *
  generalize mn3 a b c = m at *
  have hM : 0 ≤ M ∧ M < 2 ^ 17 := by omega
  have hm : 0 ≤ m ∧ m < 2 ^ 17 := by omega
  by_cases eA : a = M
  · rw [if_pos eA, decide_eq_true eA]
    by_cases eB : b = M
    · have eC : c = m := by omega
      rw [decide_eq_true eB, decide_eq_false (by omega), eB, eC]
      exact near_rg (turn_up (Bt.sub (q_bot hM hm hne) (q_top hM hm hne) (by decide) (by decide)) (by decide) (by decide) (by decide))
    · by_cases eC : c = M
      · have eB' : b = m := by omega
        rw [decide_eq_false eB, decide_eq_true eC, eB', eC]
        exact near_br (turn_dn (Bt.sub (q_top hM hm hne) (q_bot hM hm hne) (by decide) (by decide)) (by decide) (by decide) (by decide))
      · rw [decide_eq_false eB, decide_eq_false eC]
        by_cases cm : c = m
        · by_cases bm : b = m
          · rw [cm, bm]
            exact near_lo (turn_up (Bt.sub (q_bot hM hm hne) (q_bot hM hm hne) (by decide) (by decide)) (by decide) (by decide) (by decide)) (by decide)
          · rw [cm]
            exact near_lo (turn_up (Bt.sub (q_bot hM hm hne) (q_mid (x := b) hM hm (by omega) (by omega)) (by decide) (by decide)) (by decide) (by decide) (by decide)) (by decide)
        · have bm : b = m := by omega
          rw [bm]
          exact near_hi (turn_dn (Bt.sub (q_mid (x := c) hM hm (by omega) (by omega)) (q_bot hM hm hne) (by decide) (by decide)) (by decide) (by decide) (by decide)) (by decide)
  · rw [if_neg eA, decide_eq_false eA]
    by_cases eB : b = M
    · rw [if_pos eB, decide_eq_true eB]
      by_cases eC : c = M
      · have am : a = m := by omega
        rw [decide_eq_true eC, am, eC]
        exact near_gb (turn_up (Bt.sub (Bt.add c2_bt (q_bot hM hm hne) (by decide) (by decide)) (q_top hM hm hne) (by decide) (by decide)) (by decide) (by decide) (by decide))
      · rw [decide_eq_false eC]
        by_cases am : a = m
        · rw [am]
          by_cases cm : c = m
          · rw [cm]
            exact near_g (turn_up (Bt.sub (Bt.add c2_bt (q_bot hM hm hne) (by decide) (by decide)) (q_bot hM hm hne) (by decide) (by decide)) (by decide) (by decide) (by decide)) (by decide) (by decide)
          · exact near_g (turn_up (Bt.sub (Bt.add c2_bt (q_bot hM hm hne) (by decide) (by decide)) (q_mid (x := c) hM hm (by omega) (by omega)) (by decide) (by decide)) (by decide) (by decide) (by decide)) (by decide) (by decide)
        · have cm : c = m := by omega
          rw [cm]
          exact near_g (turn_up (Bt.sub (Bt.add c2_bt (q_mid (x := a) hM hm (by omega) (by omega)) (by decide) (by decide)) (q_bot hM hm hne) (by decide) (by decide)) (by decide) (by decide) (by decide)) (by decide) (by decide)
    · have eC : c = M := by omega
      rw [if_neg eB, decide_eq_false eB, decide_eq_true eC]
      by_cases am : a = m
      · rw [am]
        by_cases bm : b = m
        · rw [bm]
          exact near_b (turn_up (Bt.sub (Bt.add c4_bt (q_bot hM hm hne) (by decide) (by decide)) (q_bot hM hm hne) (by decide) (by decide)) (by decide) (by decide) (by decide)) (by decide) (by decide)
        · exact near_b (turn_up (Bt.sub (Bt.add c4_bt (q_mid (x := b) hM hm (by omega) (by omega)) (by decide) (by decide)) (q_bot hM hm hne) (by decide) (by decide)) (by decide) (by decide) (by decide)) (by decide) (by decide)
      · have bm : b = m := by omega
        rw [bm]
        exact near_b (turn_up (Bt.sub (Bt.add c4_bt (q_bot hM hm hne) (by decide) (by decide)) (q_mid (x := a) hM hm (by omega) (by omega)) (by decide) (by decide)) (by decide) (by decide) (by decide)) (by decide) (by decide)
end
-- P1
def stmtAt (n : Nat) : Stmt := (PySem.Challenge.pw_tp0027_01.main.body[n]?).getD (.Pass ⟨0, 0, 0, 0⟩)
def fBody : Stmt → List Stmt
  | .FunctionDef _ _ b _ _ _ _ _ _ _ => b
  | .ClassDef _ _ _ b _ _ _ _ _ _ _ => b
  | _ => []
def fScope : Stmt → Scope
  | .FunctionDef _ _ _ _ _ _ sc _ _ _ => sc
  | _ => { kind := .module, names := [], isGenerator := false, isCoroutine := false }

/-- the text's def stands at its name -/
def Def (W : Wd) (st : Stmt) (x : Str) (xs : List Str) : Prop :=
  ∃ a fd, FnAt W a fd (fBody st) ∧ Resolve W x (.ref a) ∧ fd.scope = fScope st ∧ ∀ vs : List Value, vs.length = xs.length → bindArgs fd ⟨vs, []⟩ = pure (xs.zip vs)
/-- a call of the text's def, by name -/
def Fn (W : Wd) (k : Nat) (x : Str) (ds : List D) (d : D) : Prop := ∃ a fd body, FnAt W a fd body ∧ Resolve W x (.ref a) ∧ CallB W k (.ref a) ds d
theorem Def.call {W : Wd} {k : Nat} {st : Stmt} {x : Str} {xs : List Str} {ds : List D} {d : D} (h : Def W st x xs) (hrun : Ex W k (fScope st).names ((xs.zip ds).reverse) (fBody st) (.ret d)) (hl : ds.length = xs.length := by rfl)
    (hx : (xs.all fun y => (fScope st).names.lookup y == some .local || (fScope st).names.lookup y == some .cell) = true := by kernel_rfl) : Fn W (k + 1) x ds d := by
  obtain ⟨a, fd, hf, hr, hsc, hb⟩ := h
  refine ⟨a, fd, _, hf, hr, CallB.fn hf hb hl (fun y hy => ?_) (by rw [hsc]; exact hrun)⟩
  have := List.all_eq_true.mp hx y hy
  rw [hsc]
  rcases Bool.or_eq_true_iff.mp this with q | q
  · exact .inl (by simpa using q)
  · exact .inr (by simpa using q)
theorem Def.call1 {W : Wd} {k : Nat} {st : Stmt} {x x1 : Str} {d1 d : D} (h : Def W st x [x1]) (hrun : Ex W k (fScope st).names [(x1, d1)] (fBody st) (.ret d)) 
    (hx : ([x1].all fun y => (fScope st).names.lookup y == some .local || (fScope st).names.lookup y == some .cell) = true := by kernel_rfl) : Fn W (k + 1) x [d1] d := h.call hrun rfl hx
theorem Def.call2 {W : Wd} {k : Nat} {st : Stmt} {x x1 x2 : Str} {d1 d2 d : D} (h : Def W st x [x1, x2]) (hrun : Ex W k (fScope st).names [(x2, d2), (x1, d1)] (fBody st) (.ret d)) 
    (hx : ([x1, x2].all fun y => (fScope st).names.lookup y == some .local || (fScope st).names.lookup y == some .cell) = true := by kernel_rfl) : Fn W (k + 1) x [d1, d2] d := h.call hrun rfl hx
theorem Def.call3 {W : Wd} {k : Nat} {st : Stmt} {x x1 x2 x3 : Str} {d1 d2 d3 d : D} (h : Def W st x [x1, x2, x3]) (hrun : Ex W k (fScope st).names [(x3, d3), (x2, d2), (x1, d1)] (fBody st) (.ret d)) 
    (hx : ([x1, x2, x3].all fun y => (fScope st).names.lookup y == some .local || (fScope st).names.lookup y == some .cell) = true := by kernel_rfl) : Fn W (k + 1) x [d1, d2, d3] d := h.call hrun rfl hx
theorem Def.call4 {W : Wd} {k : Nat} {st : Stmt} {x x1 x2 x3 x4 : Str} {d1 d2 d3 d4 d : D} (h : Def W st x [x1, x2, x3, x4]) (hrun : Ex W k (fScope st).names [(x4, d4), (x3, d3), (x2, d2), (x1, d1)] (fBody st) (.ret d)) 
    (hx : ([x1, x2, x3, x4].all fun y => (fScope st).names.lookup y == some .local || (fScope st).names.lookup y == some .cell) = true := by kernel_rfl) : Fn W (k + 1) x [d1, d2, d3, d4] d := h.call hrun rfl hx
theorem Ev.fn {W : Wd} {k : Nat} {names : List (Str × NameKind)} {ρ : List (Str × D)} {x : Str} {p pos : Pos} {e : Expr} {es : List Expr} {ds : List D} {d : D} (hx : names.lookup x = some .globalImplicit) (ha : EvAll W k names ρ (e :: es) ds) (h : Fn W k x ds d)
    (hd : (x == ("__debug__" : Str)) = false := by kernel_rfl) (he : ∀ env, starEach (e :: es) env = (false, eval e env) :: starEach es env := by intro _; rfl) : Ev W k names ρ (.Call (.Name x p) (e :: es) [] pos) d := by
  obtain ⟨a, fd, body, hf, hr, hc⟩ := h
  exact Ev.callF hf hr hx ha hc hd he

theorem CallB.le {W : Wd} {k j : Nat} {f : Value} {ds : List D} {d : D} (h : CallB W k f ds d) (hj : k ≤ j) : CallB W j f ds d := fun A s G vs hA => h A s G vs (hA.le hj)
theorem Fn.le {W : Wd} {k j : Nat} {x : Str} {ds : List D} {d : D} (h : Fn W k x ds d) (hj : k ≤ j) : Fn W j x ds d := let ⟨a, fd, b, h1, h2, h3⟩ := h; ⟨a, fd, b, h1, h2, h3.le hj⟩

theorem Ev.cast {W : Wd} {k : Nat} {names : List (Str × NameKind)} {ρ : List (Str × D)} {e : Expr} {d d' : D} (h : Ev W k names ρ e d) (he : d = d') : Ev W k names ρ e d' := he ▸ h
theorem look_hit {x : Str} {d : D} {r : List (Str × D)} : List.lookup x ((x, d) :: r) = some d := by simp [List.lookup]
theorem look_skip {x y : Str} {d e : D} {r : List (Str × D)} (hn : (x == y) = false) (h : List.lookup x r = some d) : List.lookup x ((y, e) :: r) = some d := by
  rw [List.lookup_cons, hn]; exact h

theorem look_inh {sc : List (Str × NameKind)} {x : Str} {d : D} {r : List (Str × D)} (hn : (sc.lookup x == some .free) = true) (h : List.lookup x r = some d) : List.lookup x (inh sc r) = some d := by
  unfold inh
  induction r with
  | nil => cases h
  | cons p r ih =>
    obtain ⟨y, e⟩ := p
    rw [List.lookup_cons] at h
    cases hb : x == y with
    | true =>
      rw [hb] at h
      have := beq_iff_eq.mp hb
      subst this
      rw [List.filter_cons_of_pos (by simpa using hn), List.lookup_cons, hb]
      exact h
    | false =>
      rw [hb] at h
      rw [List.filter_cons]
      split
      · rw [List.lookup_cons, hb]; exact ih h
      · exact ih h

/-- what the text's top has bound of the built-ins -/
structure Tops (W : Wd) : Prop where
  max : Resolve W "max" (.builtin "max")
  min : Resolve W "min" (.builtin "min")
  sum : Resolve W "sum" (.builtin "sum")
  abs : Resolve W "abs" (.builtin "abs")
  divmod : Resolve W "divmod" (.builtin "divmod")
  sorted : Resolve W "sorted" (.builtin "sorted")
  range : Resolve W "range" (.type "range")
  int : Resolve W "int" (.type "int")
  bytes : Resolve W "bytes" (.type "bytes")
  tuple : Resolve W "tuple" (.type "tuple")
  str : Resolve W "str" (.type "str")
  type : Resolve W "type" (.type "type")
  list : Resolve W "list" (.type "list")

/-- items by a function of their place -/
def tab (n : Nat) (f : Nat → D) : List D := (List.range n).map f
theorem tab_at {n i : Nat} {f : Nat → D} (h : i < n) : (tab n f)[i]? = some (f i) := by simp [tab, h]
theorem tab_length (n : Nat) (f : Nat → D) : (tab n f).length = n := by simp [tab]
theorem Turns.tab {T : D → Option D → Prop} {n : Nat} {g f : Nat → D} (h : ∀ i, i < n → T (g i) (some (f i))) : Turns T (tab n g) (tab n f) := by
  have key : ∀ l : List Nat, (∀ i ∈ l, i < n) → Turns T (l.map g) (l.map f) := by
    intro l
    induction l with
    | nil => intro _; exact .nil
    | cons a l ih => intro hl; exact .keep (h a (hl a (by simp))) (ih fun i hi => hl i (by simp [hi]))
  exact key _ fun i hi => List.mem_range.mp hi
theorem Turns.some {T : D → Option D → Prop} {n : Nat} {g f : Nat → D} {c : Nat → Bool} (h : ∀ i, i < n → T (g i) (if c i = true then Option.some (f i) else none)) : Turns T (Mine.tab n g) (((List.range n).filter c).map f) := by
  have key : ∀ l : List Nat, (∀ i ∈ l, i < n) → Turns T (l.map g) ((l.filter c).map f) := by
    intro l
    induction l with
    | nil => intro _; exact .nil
    | cons a l ih =>
      intro hl
      have h1 := h a (hl a (by simp))
      have h2 := ih fun i hi => hl i (by simp [hi])
      cases hc : c a with
      | true => rw [if_pos hc] at h1; simp only [List.filter_cons, hc, if_true, List.map_cons]; exact .keep h1 h2
      | false => rw [if_neg (by rw [hc]; decide)] at h1; simp only [List.filter_cons, hc, List.map_cons]; exact .drop h1 h2
  exact key _ fun i hi => List.mem_range.mp hi
theorem rng_tab (n : Nat) : rngD n = tab n fun i => .int (i : Nat) := rfl
theorem TurnOk.one {W : Wd} {k : Nat} {names : List (Str × NameKind)} {ρ : List (Str × D)} {x : Str} {elt : Expr} {d r : D} (h : Ev W k names ((x, d) :: ρ) elt r) : TurnOk W k names ρ x [] elt d (some r) := ⟨.inl rfl, h⟩
theorem Ev.compR {W : Wd} {k n : Nat} {names : List (Str × NameKind)} {ρ : List (Str × D)} {elt iter : Expr} {x : Str} {px : Pos} {scope : Scope} {pos : Pos} {f : Nat → D} (hi : ItEv W k names ρ iter (rngD n)) (hn : n ≤ 1000) (hok : scopeOk names ρ scope.names x = true)
    (h : ∀ i, i < n → Ev W k (relabelN names scope.names) ((x, .int (i : Nat)) :: inh scope.names ρ) elt (f i)) (hsc : scope.kind = .function := by rfl) (hf : ∀ env x, foldedSetIterable iter env x = pure x := by intro _ _; rfl) :
    Ev W k names ρ (.ListComp elt [⟨.Name x px, iter, [], 0⟩] scope pos) (.list (tab n f)) :=
  Ev.comp hi (Turns.tab fun i hi => TurnOk.one (h i hi)) (by rw [rng_tab, tab_length]; exact hn) hok hsc hf
theorem Ev.compT {W : Wd} {k n : Nat} {names : List (Str × NameKind)} {ρ : List (Str × D)} {elt iter : Expr} {x : Str} {px : Pos} {scope : Scope} {pos : Pos} {g f : Nat → D} (hi : ItEv W k names ρ iter (tab n g)) (hn : n ≤ 1000) (hok : scopeOk names ρ scope.names x = true)
    (h : ∀ i, i < n → Ev W k (relabelN names scope.names) ((x, g i) :: inh scope.names ρ) elt (f i)) (hsc : scope.kind = .function := by rfl) (hf : ∀ env x, foldedSetIterable iter env x = pure x := by intro _ _; rfl) :
    Ev W k names ρ (.ListComp elt [⟨.Name x px, iter, [], 0⟩] scope pos) (.list (tab n f)) :=
  Ev.comp hi (Turns.tab fun i hi => TurnOk.one (h i hi)) (by rw [tab_length]; exact hn) hok hsc hf
theorem Ev.callR {W : Wd} {k n : Nat} {names : List (Str × NameKind)} {ρ : List (Str × D)} {x : Str} {p pos q : Pos} {m : Nat} (hr : Resolve W x (.type "range")) (hx : names.lookup x = some .globalImplicit) (hd : (x == ("__debug__" : Str)) = false := by kernel_rfl) :
    Ev W k names ρ (.Call (.Name x p) [.Constant (.int (n : Nat)) m q] [] pos) (.rng n) := Ev.callT hr hx (.cons .int .nil) .range hd

theorem item_tab {W : Wd} {k n : Nat} {f : Nat → D} {i : Nat} (h : i < n) (hn : n ≤ 1000) : Item W k (.list (tab n f)) (.int (i : Nat)) (f i) := Item.list (by omega) (by omega) (by simpa using tab_at h)
local macro_rules | `(tactic| walk_at "mside") => `(tactic| first | assumption | omega | decide | (simp; done) | (simp at *; omega))
local macro_rules | `(tactic| walk_at "mlook") => `(tactic| first | (with_reducible exact look_hit) | ((with_reducible apply look_skip); (case hn => (show (_ == _) = _; kernel_rfl)); (case h => walk_at "mlook")) | ((with_reducible apply look_inh); (case hn => (show (_ == _) = _; kernel_rfl)); (case h => walk_at "mlook")))
local macro_rules | `(tactic| walk_at "mop") => `(tactic| first
  | (with_reducible exact Bin.add) | (with_reducible exact Bin.sub) | ((with_reducible apply Bin.mul); exact IntMulOk.of_left (by decide +kernel)) | ((with_reducible apply Bin.mod) <;> walk_at "mside") | ((with_reducible apply Bin.div) <;> walk_at "mside") | ((with_reducible apply Bin.pow) <;> walk_at "mside")
  | (with_reducible exact Bin.fadd) | (with_reducible exact Bin.fsub) | (with_reducible exact Bin.fmul) | ((with_reducible apply Bin.fdiv) <;> walk_at "mside") | ((with_reducible apply Bin.fmodulo) <;> walk_at "mside"))
local macro_rules | `(tactic| walk_at "mitem") => `(tactic| first
  | ((with_reducible apply Item.str) <;> walk_at "mside") | ((with_reducible apply Item.byt) <;> walk_at "mside") | ((with_reducible apply item_tab) <;> walk_at "mside"))
local macro_rules | `(tactic| walk_at "mev") => `(tactic| first
  | (with_reducible exact Ev.int)
  | (with_reducible exact Ev.flt)
  | (with_reducible exact Ev.str)
  | ((with_reducible apply Ev.name); (case h => walk_at "mlook"); (case hd => (show (_ == _) = false; kernel_rfl)); (case hc => (show (_ == _) = false; kernel_rfl)))
  | ((with_reducible apply Ev.bin); (case hl => walk_at "mev"); (case hr => walk_at "mev"); (case ho => walk_at "mop"))
  | ((with_reducible apply Ev.item); (case hl => walk_at "mev"); (case hr => walk_at "mev"); (case ho => walk_at "mitem"); (case hs => (intro _ _; rfl))))
-- P3



def lit (l : List UInt8) (i : Nat) : Int := 4096 * (((l.getD (i + 1) 0).toNat : Int) - 65) + 2 ^ (3 * (((l.getD 0 0).toNat : Int) - 66) + i).toNat
theorem lights_ok {W : Wd} (T : Tops W) (h : Def W (stmtAt 17) "_law_lights" ["word"]) {l : List UInt8} (hl : l.length = 4) (h0 : 66 ≤ (l.getD 0 0).toNat) (h1 : (l.getD 0 0).toNat ≤ 69) (k : Nat) : Fn W (k + 1) "_law_lights" [.byt l.toArray] (.list (tab 3 fun i => .int (lit l i))) := by
  refine h.call1 ?_
  refine Ex.ret ?_
  refine Ev.compR (n := 3) (.rng (Ev.callR T.range (by kernel_rfl))) (by decide) (by kernel_rfl) (fun i hi => ?_)
  apply Ev.cast
  case h => walk_at "mev"
  case he =>
    show D.int _ = D.int _
    have e : ((i : Int) + 1).toNat = i + 1 := by omega
    rw [e]
    rfl

def fst4 (i : Nat) : Int := [3125, 726, 1118, 2433].getD i 0
def num (sc : List Int) (p : Nat) : Int := (fst4 p + (pickNums sc (some (p : Nat)) none (some 4)).sum).fmod 4096
theorem numbers_ok {W : Wd} (T : Tops W) (h : Def W (stmtAt 15) "_law_numbers" ["script"]) {sc : List Int} (hl : sc.length ≤ 1000) (k : Nat) : Fn W (k + 1) "_law_numbers" [.list (sc.map .int)] (.list (tab 4 fun i => .int (num sc i))) := by
  refine h.call1 ?_
  refine Ex.assign (d := .list (tab 4 fun i => .int (fst4 i))) (Ev.list (.cons .int (.cons .int (.cons .int (.cons .int .nil))))) ?_ (.inr (by kernel_rfl))
  refine Ex.ret ?_
  refine Ev.compR (n := 4) (.rng (Ev.callR T.range (by kernel_rfl))) (by decide) (by kernel_rfl) (fun i hi => ?_)
  apply Ev.bin
  case hl =>
    apply Ev.bin
    case hl => walk_at "mev"
    case hr =>
      refine Ev.callB T.sum (by kernel_rfl) (.cons (Ev.cutL (is := sc) (i := (i : Nat)) ?_ ?_ .int (by decide) hl) .nil) CallB.sumI
      · walk_at "mev"
      · walk_at "mev"
    case ho => exact Bin.add
  case hr => walk_at "mev"
  case ho => exact Bin.mod (by decide)

def wint (p n : Int) : List Int := [66 + p, 65 + n.fdiv 256, 65 + (n.fdiv 16).fmod 16, 65 + n.fmod 16]
set_option maxHeartbeats 40000 in
theorem plain_ok {W : Wd} (T : Tops W) (h : Def W (stmtAt 16) "_law_plain" ["place", "number"]) {p n : Int} (hp : 0 ≤ p ∧ p < 4) (hn : 0 ≤ n ∧ n < 4096) (k : Nat) : Fn W (k + 1) "_law_plain" [.int p, .int n] (.byt (PySem.byteArr (wint p n))) := by
  refine h.call2 ?_
  refine Ex.ret ?_
  have d1 : 0 ≤ n.fdiv 256 ∧ n.fdiv 256 < 16 := by rw [Int.fdiv_eq_ediv_of_nonneg _ (by decide)]; omega
  have d2 : 0 ≤ (n.fdiv 16).fmod 16 ∧ (n.fdiv 16).fmod 16 < 16 := by rw [Int.fmod_eq_emod_of_nonneg _ (by decide)]; omega
  have d3 : 0 ≤ n.fmod 16 ∧ n.fmod 16 < 16 := by rw [Int.fmod_eq_emod_of_nonneg _ (by decide)]; omega
  refine Ev.callT T.bytes (by kernel_rfl) (.cons (d := .list ((wint p n).map .int)) (Ev.list (.cons ?_ (.cons ?_ (.cons ?_ (.cons ?_ .nil)))) (by show 4 ≤ 1000; decide)) .nil) (CallB.bytesOf ?_ (by show 4 ≤ 1000; decide))
  · walk_at "mev"
  · walk_at "mev"
  · walk_at "mev"
  · walk_at "mev"
  · simp only [wint, List.mem_cons, List.not_mem_nil, or_false]; omega
-- P4



def oth (p j : Nat) : Nat := if j < p then j else j + 1
def evn (P : Nat → Nat → Int) (p : Nat) : Int := max (max (P (oth p 0) 0 + P (oth p 1) 1 + P (oth p 2) 2) (P (oth p 0) 1 + P (oth p 1) 2 + P (oth p 2) 0)) (P (oth p 0) 2 + P (oth p 1) 0 + P (oth p 2) 1)
def odd (P : Nat → Nat → Int) (p : Nat) : Int := max (max (P (oth p 0) 0 + P (oth p 1) 2 + P (oth p 2) 1) (P (oth p 0) 1 + P (oth p 1) 0 + P (oth p 2) 2)) (P (oth p 0) 2 + P (oth p 1) 1 + P (oth p 2) 0)
def sd0 (P : Nat → Nat → Int) (p : Nat) : Int := if p % 2 = 0 then evn P p else odd P p
def sd1 (P : Nat → Nat → Int) (p : Nat) : Int := if p % 2 = 0 then odd P p else evn P p
def row3 (f : Nat → Int) : D := .list (tab 3 fun l => .int (f l))
def mat (P : Nat → Nat → Int) : D := .list (tab 4 fun i => row3 (P i))
theorem item_row {W : Wd} {k : Nat} {f : Nat → Int} {i : Nat} (h : i < 3) : Item W k (row3 f) (.int (i : Nat)) (.int (f i)) := item_tab h (by decide)
theorem item_mat {W : Wd} {k : Nat} {P : Nat → Nat → Int} {i : Nat} (h : i < 4) : Item W k (mat P) (.int (i : Nat)) (row3 (P i)) := item_tab h (by decide)
theorem unpack3 {W : Wd} {k : Nat} {names : List (Str × NameKind)} {ρ : List (Str × D)} {o : Out} {e : Expr} {x1 x2 x3 : Str} {p1 p2 p3 : Pos} {n : Nat} {tp p : Pos} {rest : List Stmt} {d d1 d2 d3 : D} (h : Ev W k names ρ e d) (hds : d = .tup [d1, d2, d3] ∨ d = .list [d1, d2, d3]) (r : Ex W k names ((x3, d3) :: (x2, d2) :: (x1, d1) :: ρ) rest o)
    (hx : ([x1, x2, x3].all fun y => names.lookup y == some .local || names.lookup y == some .cell) = true) (hs : ∀ env, swapsWithSole [.Tuple [.Name x1 p1, .Name x2 p2, .Name x3 p3] n tp] e p.line env = pure false := by intro _; rfl) (hw : ∀ env, swappedStores [.Tuple [.Name x1 p1, .Name x2 p2, .Name x3 p3] n tp] e env = pure none := by intro _; rfl) :
    Ex W k names ρ (.Assign [.Tuple [.Name x1 p1, .Name x2 p2, .Name x3 p3] n tp] e p :: rest) o := by
  refine Ex.assignTup (xs := [(x1, p1), (x2, p2), (x3, p3)]) (ds := [d1, d2, d3]) h hds r rfl rfl (fun q hq => ?_) hs hw
  have hm : q.1 ∈ [x1, x2, x3] := by
    have : q.1 ∈ [(x1, p1), (x2, p2), (x3, p3)].map (·.1) := List.mem_map_of_mem hq
    simpa using this
  have := List.all_eq_true.mp hx _ hm
  rcases Bool.or_eq_true_iff.mp this with q | q
  · exact .inl (by simpa using q)
  · exact .inr (by simpa using q)
local macro_rules | `(tactic| walk_at "mitem") => `(tactic| first
  | ((with_reducible apply item_row); omega) | ((with_reducible apply item_mat); omega) | (exact item_row (i := 0) (by decide)) | (exact item_row (i := 1) (by decide)) | (exact item_row (i := 2) (by decide)))

theorem sides_at {W : Wd} (T : Tops W) (h : Def W (stmtAt 18) "_law_sides" ["paints", "place"]) (P : Nat → Nat → Int) (p : Nat) (hp : p < 4) (k : Nat) (hf : ((List.range 4).filter (fun i : Nat => ((i : Nat) : Int) != ((p : Nat) : Int))) = [oth p 0, oth p 1, oth p 2]) : Fn W (k + 1) "_law_sides" [mat P, .int (p : Nat)] (.tup [.int (sd0 P p), .int (sd1 P p)]) := by
  refine h.call2 ?_
  refine unpack3 (d1 := row3 (P (oth p 0))) (d2 := row3 (P (oth p 1))) (d3 := row3 (P (oth p 2))) (Ev.comp (ds := rngD 4) (rs := ((List.range 4).filter (fun i : Nat => ((i : Nat) : Int) != ((p : Nat) : Int))).map fun i => row3 (P i)) (.rng (Ev.callR (n := 4) T.range (by kernel_rfl))) (Turns.some fun i hi => ?_) (by decide) (by kernel_rfl)) (.inr (by rw [hf]; rfl)) ?_ (by kernel_rfl)
  · split
    · rename_i hc
      refine ⟨.inr ⟨_, rfl, ?_⟩, ?_⟩
      · rw [← hc]
        refine Test.cmp (a := .int (i : Nat)) (b := .int (p : Nat)) ?_ ?_ Cmp.ne
        · walk_at "mev"
        · walk_at "mev"
      · walk_at "mev"
    · rename_i hc
      have hc' : (((i : Nat) : Int) != ((p : Nat) : Int)) = false := by simpa using hc
      refine ⟨_, rfl, ?_⟩
      rw [← hc']
      refine Test.cmp (a := .int (i : Nat)) (b := .int (p : Nat)) ?_ ?_ Cmp.ne
      · walk_at "mev"
      · walk_at "mev"
  refine Ex.assign (d := .int (evn P p)) (Ev.callB T.max (by kernel_rfl) (.cons ?_ (.cons ?_ (.cons ?_ .nil))) CallB.max3) ?_ (.inl (by kernel_rfl))
  · walk_at "mev"
  · walk_at "mev"
  · walk_at "mev"
  refine Ex.assign (d := .int (odd P p)) (Ev.callB T.max (by kernel_rfl) (.cons ?_ (.cons ?_ (.cons ?_ .nil))) CallB.max3) ?_ (.inl (by kernel_rfl))
  · walk_at "mev"
  · walk_at "mev"
  · walk_at "mev"
  refine Ex.ite (c := (((p : Nat) : Int).fmod 2 == 0)) (Test.cmp (a := .int (((p : Nat) : Int).fmod 2)) (b := .int 0) ?_ .int Cmp.eq) (fun hc => ?_) fun hc => ?_
  · walk_at "mev"
  · have e : p % 2 = 0 := by simp only [beq_iff_eq] at hc; rw [Int.fmod_eq_emod_of_nonneg _ (by decide)] at hc; omega
    refine Ex.ret (Ev.tup (.cons ?_ (.cons ?_ .nil)) (by show 2 ≤ 1000; decide))
    · unfold sd0; rw [if_pos e]; walk_at "mev"
    · unfold sd1; rw [if_pos e]; walk_at "mev"
  · have e : ¬ p % 2 = 0 := by simp only [beq_eq_false_iff_ne] at hc; rw [Int.fmod_eq_emod_of_nonneg _ (by decide)] at hc; omega
    refine Ex.ret (Ev.tup (.cons ?_ (.cons ?_ .nil)) (by show 2 ≤ 1000; decide))
    · unfold sd0; rw [if_neg e]; walk_at "mev"
    · unfold sd1; rw [if_neg e]; walk_at "mev"
theorem sides_ok {W : Wd} (T : Tops W) (h : Def W (stmtAt 18) "_law_sides" ["paints", "place"]) (P : Nat → Nat → Int) (p : Nat) (hp : p < 4) (k : Nat) : Fn W (k + 1) "_law_sides" [mat P, .int (p : Nat)] (.tup [.int (sd0 P p), .int (sd1 P p)]) :=
  sides_at T h P p hp k (match p, hp with | 0, _ => rfl | 1, _ => rfl | 2, _ => rfl | 3, _ => rfl)
-- P5



local macro_rules | `(tactic| walk_at "mitem") => `(tactic| first
  | ((with_reducible apply item_row); omega) | ((with_reducible apply item_mat); omega) | (exact item_row (i := 0) (by decide)) | (exact item_row (i := 1) (by decide)) | (exact item_row (i := 2) (by decide)) | (exact item_tab (by omega) (by decide)))
def upc (l : Nat) : Str := ⟨#[[82, 71, 66].getD l 0]⟩
def loc (l : Nat) : Str := ⟨#[[114, 103, 98].getD l 0]⟩
theorem item_up {W : Wd} {k : Nat} {l : Nat} (hl : l < 3) : Item W k (.str (Str.ofString "RGB")) (.int (l : Nat)) (.str (upc l)) :=
  Item.str (by omega) (by omega) (match l, hl with | 0, _ => by kernel_rfl | 1, _ => by kernel_rfl | 2, _ => by kernel_rfl)
theorem item_lo {W : Wd} {k : Nat} {l : Nat} (hl : l < 3) : Item W k (.str (Str.ofString "rgb")) (.int (l : Nat)) (.str (loc l)) :=
  Item.str (by omega) (by omega) (match l, hl with | 0, _ => by kernel_rfl | 1, _ => by kernel_rfl | 2, _ => by kernel_rfl)
def wrd (n : Nat → Int) (i : Nat) : D := .byt (PySem.byteArr (wint (i : Nat) (n i)))
theorem due_ok {W : Wd} (T : Tops W) (h : Def W (stmtAt 22) "_law_due" ["numbers", "darkened", "blend", "light"]) (n : Nat → Int) (Dk : Nat → Nat → Int) (Bl : Nat → Int) (l : Nat) (hl : l < 3) (hn : ∀ i, i < 4 → 0 ≤ n i ∧ n i < 4096) (k : Nat)
    (hp : ∀ i, i < 4 → Fn W k "_law_plain" [.int (i : Nat), .int (n i)] (wrd n i)) : Fn W (k + 1) "_law_due" [.list (tab 4 fun i => .int (n i)), mat Dk, row3 Bl, .int (l : Nat)] (.tup [.tup (((List.range 4).filter (fun i => Dk i l == Bl l)).map (wrd n)), .list [.str (upc l), .str (loc l)]]) := by
  refine h.call4 ?_
  refine Ex.assignComp (ds := rngD 4) (rs := ((List.range 4).filter (fun i => Dk i l == Bl l)).map (wrd n)) (.rng (Ev.callR (n := 4) T.range (by kernel_rfl))) (Turns.some fun i hi => ?_) (by decide) (by kernel_rfl) (by kernel_rfl) ?_ ?_
  · split
    · rename_i hc
      refine ⟨.inr ⟨_, rfl, ?_⟩, ?_⟩
      · rw [← hc]
        refine Test.cmp (a := .int (Dk i l)) (b := .int (Bl l)) ?_ ?_ Cmp.eq
        · walk_at "mev"
        · walk_at "mev"
      · refine Ev.fn (by kernel_rfl) (.cons ?_ (.cons ?_ .nil)) (hp i hi)
        · walk_at "mev"
        · walk_at "mev"
    · rename_i hc
      have hc' : (Dk i l == Bl l) = false := by simpa using hc
      refine ⟨_, rfl, ?_⟩
      rw [← hc']
      refine Test.cmp (a := .int (Dk i l)) (b := .int (Bl l)) ?_ ?_ Cmp.eq
      · walk_at "mev"
      · walk_at "mev"
  · have hlen : (((List.range 4).filter (fun i => Dk i l == Bl l)).map (wrd n)).length ≤ 4 := by rw [List.length_map]; exact List.length_filter_le ..
    refine Ex.ret (Ev.tup (.cons (Ev.callT T.tuple (by kernel_rfl) (.cons ?_ .nil) (CallB.tupleOf (by omega))) (.cons (Ev.list (.cons ?_ (.cons ?_ .nil)) (by show 2 ≤ 1000; decide)) .nil)) (by show 2 ≤ 1000; decide))
    · walk_at "mev"
    · exact Ev.item .str (by walk_at "mev") (item_up hl)
    · exact Ev.item .str (by walk_at "mev") (item_lo hl)
  · exact swaps_local (by kernel_rfl)
-- P6



def apB : List UInt8 := [65, 66, 67, 68, 69, 70, 71, 72, 73, 74, 75, 76, 77, 78, 79, 80]
theorem pick_ap (m : Int) (h0 : 0 ≤ m) (h1 : m < 16) : PySem.W.KBy.picked apB.toArray (some m) (some (m + 1)) = #[(65 + m).toNat.toUInt8] := by
  have key : ∀ i, i < 16 → PySem.W.KBy.picked apB.toArray (some (i : Nat)) (some (((i : Nat) : Int) + 1)) = #[(65 + ((i : Nat) : Int)).toNat.toUInt8] := by decide +kernel
  have := key m.toNat (by omega)
  rwa [Int.toNat_of_nonneg h0] at this
def quo (N : Int) : Nat → Int
  | 0 => N
  | j + 1 => (quo N j).fdiv 16
def dgs (N : Int) : Nat → Array UInt8
  | 0 => #[]
  | j + 1 => #[(65 + (quo N j).fmod 16).toNat.toUInt8] ++ dgs N j
theorem dgs_size (N : Int) : ∀ j, (dgs N j).size = j
  | 0 => rfl
  | j + 1 => by unfold dgs; rw [Array.size_append, dgs_size N j]; simp; omega
theorem unpack2 {W : Wd} {k : Nat} {names : List (Str × NameKind)} {ρ : List (Str × D)} {o : Out} {e : Expr} {x1 x2 : Str} {p1 p2 : Pos} {n : Nat} {tp p : Pos} {rest : List Stmt} {d d1 d2 : D} (h : Ev W k names ρ e d) (hds : d = .tup [d1, d2] ∨ d = .list [d1, d2]) (r : Ex W k names ((x2, d2) :: (x1, d1) :: ρ) rest o)
    (hx : ([x1, x2].all fun y => names.lookup y == some .local || names.lookup y == some .cell) = true) (hs : ∀ env, swapsWithSole [.Tuple [.Name x1 p1, .Name x2 p2] n tp] e p.line env = pure false := by intro _; rfl) (hw : ∀ env, swappedStores [.Tuple [.Name x1 p1, .Name x2 p2] n tp] e env = pure none := by intro _; rfl) :
    Ex W k names ρ (.Assign [.Tuple [.Name x1 p1, .Name x2 p2] n tp] e p :: rest) o := by
  refine Ex.assignTup (xs := [(x1, p1), (x2, p2)]) (ds := [d1, d2]) h hds r rfl rfl (fun q hq => ?_) hs hw
  have hm : q.1 ∈ [x1, x2] := by
    have : q.1 ∈ [(x1, p1), (x2, p2)].map (·.1) := List.mem_map_of_mem hq
    simpa using this
  have := List.all_eq_true.mp hx _ hm
  rcases Bool.or_eq_true_iff.mp this with q | q
  · exact .inl (by simpa using q)
  · exact .inr (by simpa using q)
theorem quo_nonneg {N : Int} (h : 0 ≤ N) : ∀ j, 0 ≤ quo N j
  | 0 => h
  | j + 1 => by
    have := quo_nonneg h j
    unfold quo
    rw [Int.fdiv_eq_ediv_of_nonneg _ (by decide)]
    omega
theorem quo_vals {N : Int} (h : 0 ≤ N) : quo N 1 = N / 16 ∧ quo N 2 = N / 16 / 16 ∧ quo N 3 = N / 16 / 16 / 16 ∧ quo N 4 = N / 16 / 16 / 16 / 16 := by
  have e : ∀ j, quo N (j + 1) = quo N j / 16 := fun j => by show (quo N j).fdiv 16 = _; rw [Int.fdiv_eq_ediv_of_nonneg _ (by decide)]
  refine ⟨e 0, ?_, ?_, ?_⟩
  · rw [e 1, e 0]; rfl
  · rw [e 2, e 1, e 0]; rfl
  · rw [e 3, e 2, e 1, e 0]; rfl
theorem sub3 {ρ' : List (Str × D)} {n1 n2 n3 : Str} {d1 d2 d3 : D} (h1 : ρ'.lookup n1 = some d1) (h2 : ρ'.lookup n2 = some d2) (h3 : ρ'.lookup n3 = some d3) : ∀ x d, List.lookup x [(n1, d1), (n2, d2), (n3, d3)] = some d → ρ'.lookup x = some d := by
  intro x d e
  rw [List.lookup_cons] at e
  cases q : x == n1 with
  | true => rw [q] at e; cases e; rw [beq_iff_eq.mp q]; exact h1
  | false =>
    rw [q] at e
    replace e : List.lookup x [(n2, d2), (n3, d3)] = some d := e
    rw [List.lookup_cons] at e
    cases q : x == n2 with
    | true => rw [q] at e; cases e; rw [beq_iff_eq.mp q]; exact h2
    | false =>
      rw [q] at e
      replace e : List.lookup x [(n3, d3)] = some d := e
      rw [List.lookup_cons] at e
      cases q : x == n3 with
      | true => rw [q] at e; cases e; rw [beq_iff_eq.mp q]; exact h3
      | false => rw [q] at e; cases e
theorem int2ap_ok {W : Wd} (T : Tops W) (h : Def W (stmtAt 4) "Int2AP" ["num"]) {N : Int} (h0 : 4096 ≤ N) (h1 : N < 65536) (k : Nat) : Fn W (k + 1) "Int2AP" [.int N] (.byt (dgs N 4)) := by
  refine h.call1 ?_
  refine Ex.assign (d := .byt #[]) Ev.byt ?_ (.inl (by kernel_rfl))
  refine Ex.assign (d := .byt apB.toArray) Ev.byt ?_ (.inl (by kernel_rfl))
  refine Ex.assign (d := .int N) (Ev.callT T.int (by kernel_rfl) (.cons (Ev.callB T.abs (by kernel_rfl) (.cons (d := .int N) ?_ .nil) CallB.absI) .nil) (by rw [if_neg (by omega)]; exact CallB.intI)) ?_ (.inl (by kernel_rfl))
  · walk_at "mev"
  obtain ⟨q1, q2, q3, q4⟩ := quo_vals (N := N) (by omega)
  refine Ex.weaken (ρ' := [("val", .byt (dgs N (4 - 4))), ("num", .int (quo N (4 - 4))), ("AP", .byt apB.toArray)]) ?_ ?_
  · refine Ex.while (st := fun n => [("val", .byt (dgs N (4 - n))), ("num", .int (quo N (4 - n))), ("AP", .byt apB.toArray)]) 4 (fun n hn => ?_) ?_ (fun n hn => ?_) ?_
    · have e : (quo N (4 - (n + 1)) != 0) = true := by
        match n, hn with
        | 0, _ => show (quo N 3 != 0) = true; rw [q3]; simp only [bne_iff_ne]; omega
        | 1, _ => show (quo N 2 != 0) = true; rw [q2]; simp only [bne_iff_ne]; omega
        | 2, _ => show (quo N 1 != 0) = true; rw [q1]; simp only [bne_iff_ne]; omega
        | 3, _ => show (quo N 0 != 0) = true; show (N != 0) = true; simp only [bne_iff_ne]; omega
      rw [← e]
      refine Test.plain (a := .int (quo N (4 - (n + 1)))) ?_ Tru.int
      walk_at "mev"
    · have e : (quo N (4 - 0) != 0) = false := by
        show (quo N 4 != 0) = false
        rw [q4]
        simp only [bne_eq_false_iff_eq]
        omega
      rw [← e]
      refine Test.plain (a := .int (quo N (4 - 0))) ?_ Tru.int
      walk_at "mev"
    · have ej : 4 - n = (4 - (n + 1)) + 1 := by omega
      have e2 : quo N (4 - n) = (quo N (4 - (n + 1))).fdiv 16 := by rw [ej]; rfl
      refine ⟨("val", .byt (dgs N (4 - n))) :: ("mod", .int ((quo N (4 - (n + 1))).fmod 16)) :: ("num", .int ((quo N (4 - (n + 1))).fdiv 16)) :: [("val", .byt (dgs N (4 - (n + 1)))), ("num", .int (quo N (4 - (n + 1)))), ("AP", .byt apB.toArray)], ?_, ?_⟩
      · refine unpack2 (d1 := .int ((quo N (4 - (n + 1))).fdiv 16)) (d2 := .int ((quo N (4 - (n + 1))).fmod 16)) (Ev.callB T.divmod (by kernel_rfl) (.cons (d := .int (quo N (4 - (n + 1)))) ?_ (.cons .int .nil)) (CallB.divmodI (by decide) (by decide))) (.inl rfl) ?_ (by kernel_rfl)
        · walk_at "mev"
        refine Ex.assign (d := .byt (dgs N (4 - n))) ?_ Ex.nil (.inl (by kernel_rfl))
        have p0 := pick_ap ((quo N (4 - (n + 1))).fmod 16) (by rw [Int.fmod_eq_emod_of_nonneg _ (by decide)]; omega) (by rw [Int.fmod_eq_emod_of_nonneg _ (by decide)]; omega)
        rw [ej]
        show Ev _ _ _ _ _ (.byt (#[(65 + (quo N (4 - (n + 1))).fmod 16).toNat.toUInt8] ++ dgs N (4 - (n + 1))))
        rw [← p0]
        refine Ev.bin (Ev.cutB (b := apB.toArray) (i := (quo N (4 - (n + 1))).fmod 16) ?_ ?_ ?_ ?_) (b := .byt (dgs N (4 - (n + 1)))) ?_ (Bin.badd ?_)
        · walk_at "mev"
        · walk_at "mev"
        · walk_at "mev"
        · rw [p0]; show 1 ≤ 1000; decide
        · walk_at "mev"
        · rw [p0, dgs_size]; simp; omega
      · refine sub3 ?_ ?_ ?_
        · walk_at "mlook"
        · rw [e2]; walk_at "mlook"
        · walk_at "mlook"
    · refine Ex.ret ?_
      walk_at "mev"
  · refine sub3 ?_ ?_ ?_
    · show _ = some (D.byt #[])
      walk_at "mlook"
    · show _ = some (D.int N)
      walk_at "mlook"
    · walk_at "mlook"
-- P7


local macro_rules | `(tactic| walk_at "wmev") => `(tactic| (refine Ev.wk ?_; simp only [List.map_cons, List.map_nil, wkP, wk]; walk_at "mev"))

theorem FF_eq {a b : Int} (ha : 0 ≤ a ∧ a < 2 ^ 17) (hb : 0 ≤ b ∧ b < 2 ^ 17) : (Float64.cmp (FF a) (FF b) == some .eq) = decide (a = b) := by
  rw [FF_cmp (by omega) (by omega)]
  rcases Int.lt_trichotomy a b with h | h | h
  · rw [Int.compare_eq_lt.mpr h, decide_eq_false (by omega)]; rfl
  · subst h; simp
  · rw [Int.compare_eq_gt.mpr h, decide_eq_false (by omega)]; rfl
theorem Fn.cast {W : Wd} {k : Nat} {x : Str} {ds : List D} {d d' : D} (h : Fn W k x ds d) (e : d = d') : Fn W k x ds d' := e ▸ h
theorem hsv_grey {W : Wd} (T : Tops W) (h : Def W (stmtAt 7) "rgb_to_hsv" ["r", "g", "b"]) {a b c : Int} (ha : 0 ≤ a ∧ a < 2 ^ 17) (hb : 0 ≤ b ∧ b < 2 ^ 17) (hc : 0 ≤ c ∧ c < 2 ^ 17) (hne : mn3 a b c = mx3 a b c) (k : Nat) :
    Fn W (k + 1) "rgb_to_hsv" [.nzf (FF a), .nzf (FF b), .nzf (FF c)] (.tup [.flt c0, .flt c0, .nzf (FF (mx3 a b c))]) := by
  have hcmp : ∀ x ∈ [a, b, c], ∀ y ∈ [a, b, c], Float64.cmp (FF x) (FF y) = some (compare x y) := by
    intro x hx y hy
    simp only [List.mem_cons, List.not_mem_nil, or_false] at hx hy
    exact FF_cmp (by omega) (by omega)
  have hM : 0 ≤ mx3 a b c ∧ mx3 a b c < 2 ^ 17 := by unfold mx3; omega
  have hm : 0 ≤ mn3 a b c ∧ mn3 a b c < 2 ^ 17 := by unfold mn3; omega
  refine h.call3 ?_
  refine Ex.assign (d := .nzf (FF (mx3 a b c))) (Ev.callB T.max (by kernel_rfl) (.cons ?_ (.cons ?_ (.cons ?_ .nil))) (CallB.max3n hcmp)) ?_ (.inl (by kernel_rfl))
  · walk_at "mev"
  · walk_at "mev"
  · walk_at "mev"
  refine Ex.assign (d := .flt (FF (mn3 a b c))) (Ev.callB T.min (by kernel_rfl) (.cons ?_ (.cons ?_ (.cons ?_ .nil))) (CallB.min3f hcmp)) ?_ (.inl (by kernel_rfl))
  · walk_at "wmev"
  · walk_at "wmev"
  · walk_at "wmev"
  refine Ex.assign (d := .flt (rngF (mx3 a b c) (mn3 a b c))) ?_ ?_ (.inl (by kernel_rfl))
  · unfold rngF; walk_at "wmev"
  refine Ex.assign (d := .nzf (FF (mx3 a b c))) ?_ ?_ (.inl (by kernel_rfl))
  · walk_at "mev"
  refine Ex.ite (c := true) ?_ (fun _ => ?_) (fun q => by cases q)
  · rw [show true = (Float64.cmp (FF (mn3 a b c)) (FF (mx3 a b c)) == some .eq) by rw [FF_eq hm hM, decide_eq_true hne]]
    refine Test.cmp (a := .flt (FF (mn3 a b c))) (b := .flt (FF (mx3 a b c))) ?_ ?_ Cmp.feq
    · walk_at "wmev"
    · walk_at "wmev"
  refine Ex.ret (Ev.tup (.cons Ev.flt (.cons Ev.flt (.cons ?_ .nil))) (by show 3 ≤ 1000; decide))
  walk_at "mev"
def shF (a b c : Int) : UInt64 := Float64.div (rngF (mx3 a b c) (mn3 a b c)) (FF (mx3 a b c))
theorem hsv_hue {W : Wd} (T : Tops W) (h : Def W (stmtAt 7) "rgb_to_hsv" ["r", "g", "b"]) {a b c : Int} (ha : 0 ≤ a ∧ a < 2 ^ 17) (hb : 0 ≤ b ∧ b < 2 ^ 17) (hc : 0 ≤ c ∧ c < 2 ^ 17) (hne : mn3 a b c < mx3 a b c) (k : Nat) :
    Fn W (k + 1) "rgb_to_hsv" [.nzf (FF a), .nzf (FF b), .nzf (FF c)] (.tup [.flt (hueF (hF a b c)), .flt (shF a b c), .nzf (FF (mx3 a b c))]) := by
  have hcmp : ∀ x ∈ [a, b, c], ∀ y ∈ [a, b, c], Float64.cmp (FF x) (FF y) = some (compare x y) := by
    intro x hx y hy
    simp only [List.mem_cons, List.not_mem_nil, or_false] at hx hy
    exact FF_cmp (by omega) (by omega)
  have hM : 0 ≤ mx3 a b c ∧ mx3 a b c < 2 ^ 17 := by unfold mx3; omega
  have hm : 0 ≤ mn3 a b c ∧ mn3 a b c < 2 ^ 17 := by unfold mn3; omega
  have hU := UI
  have zR : Float64.isZero (rngF (mx3 a b c) (mn3 a b c)) = false := by
    have bt := dif_bt hM hm
    unfold rngF
    rw [isZero_iff bt.1, bt.val_eq]
    exact decide_eq_false (by have := Int.mul_pos (Int.mul_pos (show 0 < mx3 a b c - mn3 a b c by omega) (show (0 : Int) < 8192 by decide)) hU; omega)
  have zM : Float64.isZero (FF (mx3 a b c)) = false := by
    have bt := FF_bt hM.1 (by omega)
    rw [isZero_iff bt.1, bt.val_eq]
    exact decide_eq_false (by have := Int.mul_pos (Int.mul_pos (show 0 < mx3 a b c by omega) (show (0 : Int) < 8192 by decide)) hU; omega)
  have z6 : Float64.isZero c6 = false := by decide +kernel
  have z1 : Float64.isZero c1 = false := by decide +kernel
  refine h.call3 ?_
  refine Ex.assign (d := .nzf (FF (mx3 a b c))) (Ev.callB T.max (by kernel_rfl) (.cons ?_ (.cons ?_ (.cons ?_ .nil))) (CallB.max3n hcmp)) ?_ (.inl (by kernel_rfl))
  · walk_at "mev"
  · walk_at "mev"
  · walk_at "mev"
  refine Ex.assign (d := .flt (FF (mn3 a b c))) (Ev.callB T.min (by kernel_rfl) (.cons ?_ (.cons ?_ (.cons ?_ .nil))) (CallB.min3f hcmp)) ?_ (.inl (by kernel_rfl))
  · walk_at "wmev"
  · walk_at "wmev"
  · walk_at "wmev"
  refine Ex.assign (d := .flt (rngF (mx3 a b c) (mn3 a b c))) ?_ ?_ (.inl (by kernel_rfl))
  · unfold rngF; walk_at "wmev"
  refine Ex.assign (d := .nzf (FF (mx3 a b c))) ?_ ?_ (.inl (by kernel_rfl))
  · walk_at "mev"
  refine Ex.ite (c := false) ?_ (fun q => by cases q) (fun _ => ?_)
  · rw [show false = (Float64.cmp (FF (mn3 a b c)) (FF (mx3 a b c)) == some .eq) by rw [FF_eq hm hM, decide_eq_false (by omega)]]
    refine Test.cmp (a := .flt (FF (mn3 a b c))) (b := .flt (FF (mx3 a b c))) ?_ ?_ Cmp.feq
    · walk_at "wmev"
    · walk_at "wmev"
  refine Ex.assign (d := .flt (shF a b c)) ?_ ?_ (.inl (by kernel_rfl))
  · unfold shF; walk_at "wmev"
  refine Ex.assign (d := .flt (qF (mx3 a b c) (mn3 a b c) a)) ?_ ?_ (.inl (by kernel_rfl))
  · unfold qF; walk_at "wmev"
  refine Ex.assign (d := .flt (qF (mx3 a b c) (mn3 a b c) b)) ?_ ?_ (.inl (by kernel_rfl))
  · unfold qF; walk_at "wmev"
  refine Ex.assign (d := .flt (qF (mx3 a b c) (mn3 a b c) c)) ?_ ?_ (.inl (by kernel_rfl))
  · unfold qF; walk_at "wmev"
  refine Ex.ite (c := decide (a = mx3 a b c)) ?_ (fun q => ?_) (fun q => ?_)
  · rw [← FF_eq ha hM]
    refine Test.cmp (a := .flt (FF a)) (b := .flt (FF (mx3 a b c))) ?_ ?_ Cmp.feq
    · walk_at "wmev"
    · walk_at "wmev"
  · refine Ex.assign (d := .flt (hF a b c)) ?_ ?_ (.inl (by kernel_rfl))
    · unfold hF; rw [if_pos (of_decide_eq_true q)]; walk_at "wmev"
    refine Ex.assign (d := .flt (hueF (hF a b c))) ?_ ?_ (.inl (by kernel_rfl))
    · exact Ev.bin (Ev.bin (by walk_at "wmev") Ev.flt (Bin.fdiv z6)) Ev.flt (Bin.fmodulo z1)
    refine Ex.ret (Ev.tup (.cons ?_ (.cons ?_ (.cons ?_ .nil))) (by show 3 ≤ 1000; decide))
    · walk_at "wmev"
    · walk_at "wmev"
    · walk_at "mev"
  · refine Ex.ite (c := decide (b = mx3 a b c)) ?_ (fun q2 => ?_) (fun q2 => ?_)
    · rw [← FF_eq hb hM]
      refine Test.cmp (a := .flt (FF b)) (b := .flt (FF (mx3 a b c))) ?_ ?_ Cmp.feq
      · walk_at "wmev"
      · walk_at "wmev"
    · refine Ex.assign (d := .flt (hF a b c)) ?_ ?_ (.inl (by kernel_rfl))
      · unfold hF; rw [if_neg (of_decide_eq_false q), if_pos (of_decide_eq_true q2)]; exact Ev.bin (Ev.bin Ev.flt (by walk_at "wmev") Bin.fadd) (by walk_at "wmev") Bin.fsub
      refine Ex.assign (d := .flt (hueF (hF a b c))) ?_ ?_ (.inl (by kernel_rfl))
      · exact Ev.bin (Ev.bin (by walk_at "wmev") Ev.flt (Bin.fdiv z6)) Ev.flt (Bin.fmodulo z1)
      refine Ex.ret (Ev.tup (.cons ?_ (.cons ?_ (.cons ?_ .nil))) (by show 3 ≤ 1000; decide))
      · walk_at "wmev"
      · walk_at "wmev"
      · walk_at "mev"
    · refine Ex.assign (d := .flt (hF a b c)) ?_ ?_ (.inl (by kernel_rfl))
      · unfold hF; rw [if_neg (of_decide_eq_false q), if_neg (of_decide_eq_false q2)]; exact Ev.bin (Ev.bin Ev.flt (by walk_at "wmev") Bin.fadd) (by walk_at "wmev") Bin.fsub
      refine Ex.assign (d := .flt (hueF (hF a b c))) ?_ ?_ (.inl (by kernel_rfl))
      · exact Ev.bin (Ev.bin (by walk_at "wmev") Ev.flt (Bin.fdiv z6)) Ev.flt (Bin.fmodulo z1)
      refine Ex.ret (Ev.tup (.cons ?_ (.cons ?_ (.cons ?_ .nil))) (by show 3 ≤ 1000; decide))
      · walk_at "wmev"
      · walk_at "wmev"
      · walk_at "mev"
-- P8



local macro_rules | `(tactic| walk_at "mitem") => `(tactic| first
  | ((with_reducible apply item_row); omega) | ((with_reducible apply item_mat); omega))
theorem view_gen {W : Wd} (T : Tops W) (h : Def W (stmtAt 19) "_law_view" ["paint", "blend"]) (p q : Nat → Int) (k : Nat) (hn : ∀ l, l < 3 → 0 ≤ p l - q l + 65536 ∧ p l - q l + 65536 < 2 ^ 17) {hue sh v : UInt64} {z : Bool} {nb : Nat → Bool} {c : Nat → Bool}
    (hf : Fn W k "rgb_to_hsv" [.nzf (FF (p 0 - q 0 + 65536)), .nzf (FF (p 1 - q 1 + 65536)), .nzf (FF (p 2 - q 2 + 65536))] (.tup [.flt hue, .flt sh, .nzf v])) (hnear : Near (turnF hue) (nb 0) (nb 1) (nb 2)) (hz : (Float64.cmp sh c0 == some .eq) = z) (hc : ∀ l, l < 3 → (z || nb l) = c l) :
    Fn W (k + 1) "_law_view" [row3 p, row3 q] (.tup [.nzf v, .list (((List.range 3).filter c).map fun l => .int (l : Nat))]) := by
  obtain ⟨sg, m, e, hd, e0, e1, e2⟩ := hnear
  refine h.call2 ?_
  refine unpack3 (d1 := .nzf (FF (p 0 - q 0 + 65536))) (d2 := .nzf (FF (p 1 - q 1 + 65536))) (d3 := .nzf (FF (p 2 - q 2 + 65536))) (Ev.compR (n := 3) (f := fun l => .nzf (FF (p l - q l + 65536))) (.rng (Ev.callR T.range (by kernel_rfl))) (by decide) (by kernel_rfl) (fun i hi => ?_)) (.inr rfl) ?_ (by kernel_rfl)
  · refine Ev.divNZ (a := p i - q i + 65536) ?_ (by decide) ?_
    · walk_at "mev"
    · have := hn i hi
      obtain ⟨a', m', e', hd'⟩ := (FF_bt this.1 (by omega)).1
      show Float64.isInf (FF (p i - q i + 65536)) = false
      unfold Float64.isInf
      rw [hd']
  refine unpack3 (d1 := .flt hue) (d2 := .flt sh) (d3 := .nzf v) (Ev.fn (by kernel_rfl) (.cons ?_ (.cons ?_ (.cons ?_ .nil))) hf) (.inl rfl) ?_ (by kernel_rfl)
  · walk_at "mev"
  · walk_at "mev"
  · walk_at "mev"
  refine Ex.assign (d := .int (Float64.truncOf sg m e)) (Ev.callT T.int (by kernel_rfl) (.cons (d := .flt (turnF hue)) ?_ .nil) (CallB.intF hd)) ?_ (.inl (by kernel_rfl))
  · exact Ev.bin (Ev.bin (by walk_at "mev") Ev.flt Bin.fmul) Ev.flt Bin.fadd
  refine Ex.assign (d := .list (tab 3 fun l => .bool (nb l))) (Ev.cast (d := .list [.bool (nb 0), .bool (nb 1), .bool (nb 2)]) (Ev.list (.cons ?_ (.cons ?_ (.cons ?_ .nil))) (by show 3 ≤ 1000; decide)) rfl) ?_ (.inr (by kernel_rfl))
  · rw [← e0]
    exact Ev.or (Ev.cmp (b := .int 1048576) (by walk_at "mev") .int Cmp.le) (Ev.cmp (b := .int 5242880) (by walk_at "mev") .int Cmp.ge)
  · rw [← e1]
    exact Ev.cmp2 (b := .int (Float64.truncOf sg m e)) .int (by walk_at "mev") .int Cmp.le Cmp.le
  · rw [← e2]
    exact Ev.cmp2 (b := .int (Float64.truncOf sg m e)) .int (by walk_at "mev") .int Cmp.le Cmp.le
  refine Ex.ret (Ev.tup (.cons ?_ (.cons (Ev.comp (ds := rngD 3) (rs := ((List.range 3).filter c).map fun l => .int (l : Nat)) (.rng (Ev.callR (n := 3) T.range (by kernel_rfl))) (Turns.some fun i hi => ?_) (by decide) (by kernel_rfl)) .nil)) (by show 2 ≤ 1000; decide))
  · walk_at "mev"
  · split
    · rename_i hcc
      refine ⟨.inr ⟨_, rfl, ?_⟩, by walk_at "mev"⟩
      rw [← show (z || nb i) = true by rw [hc i hi]; exact hcc]
      refine Test.or ?_ ?_
      · rw [← hz]
        exact Test.cmp (a := .flt sh) (b := .flt c0) (by walk_at "mev") Ev.flt Cmp.feq
      · refine Test.plain (a := .bool (nb i)) ?_ Tru.bool
        exact Ev.item (by walk_at "mev") (by walk_at "mev") (item_tab (n := 3) (f := fun l => .bool (nb l)) hi (by decide))
    · rename_i hcc
      replace hcc : c i = false := by simpa using hcc
      refine ⟨_, rfl, ?_⟩
      rw [← show (z || nb i) = false by rw [hc i hi]; exact hcc]
      refine Test.or ?_ ?_
      · rw [← hz]
        exact Test.cmp (a := .flt sh) (b := .flt c0) (by walk_at "mev") Ev.flt Cmp.feq
      · refine Test.plain (a := .bool (nb i)) ?_ Tru.bool
        exact Ev.item (by walk_at "mev") (by walk_at "mev") (item_tab (n := 3) (f := fun l => .bool (nb l)) hi (by decide))

theorem c0_bt : Bt c0 0 0 := by
  obtain ⟨f, v⟩ := val_zero false
  have e : c0 = Float64.zero false := by decide +kernel
  rw [e]
  exact ⟨f, by rw [v]; simp, by rw [v]; simp⟩
theorem cmp_pos {x : UInt64} {lo hi : Int} (h : Bt x lo hi) (h0 : 0 < lo) : (Float64.cmp x c0 == some .eq) = false := by
  obtain ⟨⟨a, m, e, ex⟩, l, _⟩ := h
  have z := c0_bt.val_eq
  obtain ⟨⟨b, k, f, ey⟩, _, _⟩ := c0_bt
  have hp : 0 < Float64.val x := by have := Int.mul_pos h0 UI; omega
  rw [Float64.cmp_right ex ey, z, Int.zero_mul, Int.compare_eq_gt.mpr hp]
  rfl
theorem share_bt {a b c : Int} (hM : 0 ≤ mx3 a b c ∧ mx3 a b c < 2 ^ 17) (hm : 0 ≤ mn3 a b c ∧ mn3 a b c < 2 ^ 17) (hne : mn3 a b c < mx3 a b c) : Bt (shF a b c) 1 (2 ^ 30) := by
  have hU := UI
  have bx := dif_bt hM hm
  have by' := FF_bt hM.1 (by omega)
  have vx := bx.val_eq
  have vy := by'.val_eq
  have hy0 : 0 < Float64.val (FF (mx3 a b c)) := by rw [vy]; exact Int.mul_pos (Int.mul_pos (by omega) (by decide)) hU
  have e : ∀ z : Int, Float64.val (FF (mx3 a b c)) * z = mx3 a b c * z * (8192 * (U : Int)) := fun z => by rw [vy]; ac_rfl
  have e2 : Float64.val (Float64.sub (FF (mx3 a b c)) (FF (mn3 a b c))) * 2 ^ 30 = (mx3 a b c - mn3 a b c) * 2 ^ 30 * (8192 * (U : Int)) := by rw [vx]; ac_rfl
  have h8 : 0 ≤ 8192 * (U : Int) := Int.mul_nonneg (by decide) (Int.le_of_lt hU)
  unfold shF rngF
  refine Bt.div bx.1 by'.1 hy0 (by decide) (by decide) ?_ ?_ (.inl ⟨by decide, ?_⟩)
  · rw [e, e2]; exact Int.mul_le_mul_of_nonneg_right (by omega) h8
  · rw [e, e2]; exact Int.mul_le_mul_of_nonneg_right (by omega) h8
  · rw [vx]; exact Int.mul_pos (Int.mul_pos (by omega) (by decide)) hU
def shd (p q : Nat → Int) (l : Nat) : Int := p l - q l + 65536
theorem view_ok {W : Wd} (T : Tops W) (hv : Def W (stmtAt 7) "rgb_to_hsv" ["r", "g", "b"]) (h : Def W (stmtAt 19) "_law_view" ["paint", "blend"]) (p q : Nat → Int) (k : Nat) (hn : ∀ l, l < 3 → 0 ≤ shd p q l ∧ shd p q l < 2 ^ 17) :
    Fn W (k + 2) "_law_view" [row3 p, row3 q] (.tup [.nzf (FF (mx3 (shd p q 0) (shd p q 1) (shd p q 2))), .list (((List.range 3).filter fun l => decide (shd p q l = mx3 (shd p q 0) (shd p q 1) (shd p q 2))).map fun l => .int (l : Nat))]) := by
  have h0 := hn 0 (by decide)
  have h1 := hn 1 (by decide)
  have h2 := hn 2 (by decide)
  have mM : shd p q 0 ≤ mx3 (shd p q 0) (shd p q 1) (shd p q 2) ∧ shd p q 1 ≤ mx3 (shd p q 0) (shd p q 1) (shd p q 2) ∧ shd p q 2 ≤ mx3 (shd p q 0) (shd p q 1) (shd p q 2) := by unfold mx3; omega
  have mm : mn3 (shd p q 0) (shd p q 1) (shd p q 2) ≤ shd p q 0 ∧ mn3 (shd p q 0) (shd p q 1) (shd p q 2) ≤ shd p q 1 ∧ mn3 (shd p q 0) (shd p q 1) (shd p q 2) ≤ shd p q 2 := by unfold mn3; omega
  by_cases hne : mn3 (shd p q 0) (shd p q 1) (shd p q 2) = mx3 (shd p q 0) (shd p q 1) (shd p q 2)
  · refine view_gen T h p q (k + 1) hn (hsv_grey T hv h0 h1 h2 hne k) (z := true) (nb := fun l => [true, false, false].getD l false) (near_lo (turn_of c0_bt (by decide) (by decide) (by decide)) (by decide)) (by decide +kernel) fun l hl => ?_
    rw [Bool.true_or]
    match l, hl with
    | 0, _ => exact (decide_eq_true (by omega)).symm
    | 1, _ => exact (decide_eq_true (by omega)).symm
    | 2, _ => exact (decide_eq_true (by omega)).symm
  · have hM : 0 ≤ mx3 (shd p q 0) (shd p q 1) (shd p q 2) ∧ mx3 (shd p q 0) (shd p q 1) (shd p q 2) < 2 ^ 17 := by unfold mx3; omega
    have hm : 0 ≤ mn3 (shd p q 0) (shd p q 1) (shd p q 2) ∧ mn3 (shd p q 0) (shd p q 1) (shd p q 2) < 2 ^ 17 := by unfold mn3; omega
    have hlt : mn3 (shd p q 0) (shd p q 1) (shd p q 2) < mx3 (shd p q 0) (shd p q 1) (shd p q 2) := by omega
    exact view_gen T h p q (k + 1) hn (hsv_hue T hv h0 h1 h2 hlt k) (z := false) (nb := fun l => decide (shd p q l = mx3 (shd p q 0) (shd p q 1) (shd p q 2))) (hue_ok h0 h1 h2 hlt) (cmp_pos (share_bt hM hm hlt) (by decide)) fun l _ => Bool.false_or _
-- P9



section
variable {W : Wd} {k : Nat} {names : List (Str × NameKind)} {ρ : List (Str × D)}
theorem Ev.glob {x : Str} {p : Pos} {v : Value} (hr : Resolve W x v) (hx : names.lookup x = some .globalImplicit) (hd : (x == ("__debug__" : Str)) = false := by kernel_rfl) : Ev W k names ρ (.Name x p) (.val v) :=
  fun A env s G hA hE => eval_glob hE hr hx ⟨G, Gr.refl hE.sub, .val v⟩ hd
theorem Meth.pat {P : Addr} {fs : Array Value} {code : Array Nat} {groups kind : Nat} {name : Str} {id : String} (hp : PatAt W P fs code groups kind) (slot : PySem.Slot "re.Pattern" name id) (ty : typeOf (.builtin id) = pure (.type "method_descriptor")) : Meth W (.val (.ref P)) name id := by
  intro A s G v pl Q hB hs hd hq
  obtain rfl := hd.inv
  refine getMethod_builtin ⟨_, hp.obj _ hB, rfl⟩ plainAttrs_pat slot ty (fun _ e => ?_) hq
  cases e
  exact ⟨_, hp.obj _ hB, rfl⟩
theorem Meth.mat {b : Array UInt8} {P : Addr} {sp : List Int} {name : Str} {id : String} (slot : PySem.Slot "re.Match" name id) (ty : typeOf (.builtin id) = pure (.type "method_descriptor")) : Meth W (.mat b P sp) name id := by
  intro A s G v pl Q hB hs hd hq
  obtain ⟨_, _, _, _, _, _, _, rfl, e1, e2⟩ := hd.inv
  refine getMethod_builtin ⟨_, hs _ _ e1, rfl⟩ plainAttrs_mat slot ty (fun _ e => ?_) hq
  cases e
  exact ⟨_, hs _ _ e1, rfl⟩
theorem noBool_mat : typeLookup (.type "re.Match") "__bool__" = pure none := by rw [typeLookup_type, builtinLookup_eq_fast]; kernel_rfl
theorem noLen_mat : typeLookup (.type "re.Match") "__len__" = pure none := by rw [typeLookup_type, builtinLookup_eq_fast]; kernel_rfl
theorem Tru.mat {b : Array UInt8} {P : Addr} {sp : List Int} : Tru W k (.mat b P sp) true := by
  intro A s G u hA hB hs hd
  obtain ⟨a, l, t, p, q, i, n, rfl, e1, e2⟩ := hd.inv
  have hT : s.TypeIs (.ref a) "re.Match" := ⟨_, hs _ _ e1, rfl⟩
  unfold truthy
  first
    | refine wpAny_bind (wpAny_callSpecial?_none (name := Str.ofString "__bool__") hT noBool_mat ?_)
    | refine wpAny_bind (wpAny_pure (wpAny_bind (wpAny_callSpecial?_none (name := Str.ofString "__bool__") hT noBool_mat ?_)))
  first
    | refine wpAny_bind (wpAny_specialOf (name := Str.ofString "__len__") hT noLen_mat ?_)
    | refine wpAny_bind (wpAny_pure (wpAny_bind (wpAny_specialOf (name := Str.ofString "__len__") hT noLen_mat ?_)))
  exact wpAny_pure ⟨rfl, G, Gr.refl hs⟩
end
/-- the flags pattern, bound by the text's top -/
structure FlagsAt (W : Wd) : Prop where
  ex : ∃ P fs, Resolve W "Flags" (.ref P) ∧ PatAt W P fs fc 1 1 ∧ NameAt W fs
theorem flags_ok {W : Wd} {k : Nat} (T : Tops W) (F : FlagsAt W) (h : Def W (stmtAt 5) "ParseFlags" ["resp"]) {a b c d e f g h' : UInt8} (ha : Ltr a) (hb : Ltr b) (hc : Ltr c) (hd : Ltr d) (he : Ltr e) (hf : Ltr f) (hg : Ltr g) (hh : Ltr h') :
    Fn W (k + 1) "ParseFlags" [.byt (fb a b c d e f g h')] (.tup [.byt #[a, b, c, d], .byt #[e, f, g, h']]) := by
  obtain ⟨P, fs, hr, hp, hn⟩ := F.ex
  refine h.call1 ?_
  refine Ex.assign (d := .mat (fb a b c d e f g h') P [0, 17, 7, 16]) ?_ ?_ (.inl (by kernel_rfl))
  · refine Ev.meth1 (Ev.glob hr (by kernel_rfl)) (Meth.pat hp slot_pat_match type_pat_match) (.cons ?_ .nil) (CallB.flags hp ha hb hc hd he hf hg hh)
    walk_at "mev"
  refine Ex.ite (c := !true) (Test.not (Test.plain (a := .mat (fb a b c d e f g h') P [0, 17, 7, 16]) (by walk_at "mev") Tru.mat)) (fun h => nomatch h) (fun _ => ?_)
  refine Ex.ret (Ev.callT T.tuple (by kernel_rfl) (.cons ?_ .nil) (CallB.tupleOf (by show 2 ≤ 1000; decide)))
  refine Ev.meth0 (d := .byt #[a, b, c, d, 32, e, f, g, h']) (Ev.meth1 (d := .mat (fb a b c d e f g h') P [0, 17, 7, 16]) (by walk_at "mev") (Meth.mat slot_mat_group type_mat_group) (.cons ?_ .nil) (CallB.group hp hn)) (Meth.byt slot_byt_split type_byt_split) (CallB.split ha hb hc hd he hf hg hh)
  walk_at "mev"
-- H1
section
variable {W : Wd} {k : Nat} {names : List (Str × NameKind)} {ρ : List (Str × D)}

/-- a call of a def, its binding walked -/
theorem code_raw {a : Addr} {fd : FuncData} {body : List Stmt} {xs : List Str} {ds : List D} {vs : List Value} {kw : List (Str × Value)} {A : Around} {s : Shared} {G : Part} {R : Result → Shared → Prop} (X : Shared → Part → Prop) (hf : FnAt W a fd body) (hA : A.depth < recursionLimit) (hB : Base W s.heap)
    (hbind : wpAny (Md W) A.in1 (bindArgs fd ⟨vs, kw⟩) (fun binds s1 => ∃ G1, Gr s G s1 G1 ∧ binds.map (·.1) = xs ∧ DenAll W.C G1 (binds.map (·.2)) ds ∧ X s1 G1) nay s)
    (hx : ∀ x ∈ xs, fd.scope.names.lookup x = some .local ∨ fd.scope.names.lookup x = some .cell)
    (hrun : ∀ env s1 G1 s2, Gr s G s1 G1 → X s1 G1 → FrOk W fd.scope.names ((xs.zip ds).reverse) env s1 G1 s2 G1 → wpAny (Md W) (A.deeper env) (execs body env) (fun fl s' => R (.ok (.ret (match fl with | .ret v => v | _ => .none))) s') nay s2) :
    codeAny (Md W) A (.call (.ref a) ⟨vs, kw⟩) R s := by
  obtain ⟨o, ho, hdat, hcd⟩ := hf.at' s.heap hB
  refine codeAny_call_function hA ho hdat hf.co hf.gen hf.body hcd ?_
  refine wpAny_mono hbind (fun binds s1 h1 => ?_) fun _ _ f => f.elim
  obtain ⟨G1, g1, rfl, d1, x1⟩ := h1
  have hB1 := hB.keeps g1.keep
  have hx' : ∀ y ∈ binds, fd.scope.names.lookup y.1 = some .local ∨ fd.scope.names.lookup y.1 = some .cell := fun y hy => hx y.1 (List.mem_map_of_mem hy)
  rw [hf.closure]
  refine wpAny_newFunctionEnv_cells hf.kind (fun y hy => (hx' y hy).imp id fun l => ⟨l, cellsFrom_has fd.scope.names _ [] (.inr l)⟩) fun env he s2 i => ?_
  subst he
  refine ⟨hB1.nolimit.keeps i.toInCall.keep, codeAny_func ?_⟩
  have f := fr_start (W := W) (a := a) (ds := ds) hB1 g1.sub rfl hf.kind hf.globals hf.builtins d1 hx' i
  exact wpAny_mono (hrun _ s1 G1 s2 g1 x1 f) (fun _ _ q => q) fun _ _ f => f.elim

/-- a call of a def, its binding walked -/
theorem call_raw {a : Addr} {fd : FuncData} {body : List Stmt} {xs : List Str} {ds : List D} {vs : List Value} {kw : List (Str × Value)} {A : Around} {s : Shared} {G : Part} {Q : Value → Shared → Prop} (X : Shared → Part → Prop) (hf : FnAt W a fd body) (hA : A.depth < recursionLimit) (hB : Base W s.heap)
    (hbind : wpAny (Md W) A.in1 (bindArgs fd ⟨vs, kw⟩) (fun binds s1 => ∃ G1, Gr s G s1 G1 ∧ binds.map (·.1) = xs ∧ DenAll W.C G1 (binds.map (·.2)) ds ∧ X s1 G1) nay s)
    (hx : ∀ x ∈ xs, fd.scope.names.lookup x = some .local ∨ fd.scope.names.lookup x = some .cell)
    (hrun : ∀ env s1 G1 s2, Gr s G s1 G1 → X s1 G1 → FrOk W fd.scope.names ((xs.zip ds).reverse) env s1 G1 s2 G1 → wpAny (Md W) (A.deeper env) (execs body env) (fun fl s' => Q (match fl with | .ret v => v | _ => .none) s') nay s2) :
    wpAny (Md W) A (call (.ref a) vs kw) Q nay s :=
  wpAny_call (code_raw X hf hA hB hbind hx hrun)

/-- is -/
theorem Cmp.isType {a : String} {T : String} : Cmp W k .Is (.val (.type T)) (.val (.type a)) (T == a) := by
  intro A s G u v hA hB hs h1 h2
  cases h1; cases h2
  refine wpAny_is_plain rfl ?_
  have : (Value.type T == Value.type a) = (T == a) := by
    by_cases h : T = a
    · subst h; simp
    · rw [beq_eq_false_iff_ne.mpr h, beq_eq_false_iff_ne]; intro q; cases q; exact h rfl
  rw [this]
  exact ⟨G, Gr.refl hs, .bool _⟩
theorem Cmp.isNotType {a : String} {T : String} : Cmp W k .IsNot (.val (.type T)) (.val (.type a)) (!(T == a)) := by
  intro A s G u v hA hB hs h1 h2
  cases h1; cases h2
  refine wpAny_isNot_plain rfl ?_
  have : (Value.type T == Value.type a) = (T == a) := by
    by_cases h : T = a
    · subst h; simp
    · rw [beq_eq_false_iff_ne.mpr h, beq_eq_false_iff_ne]; intro q; cases q; exact h rfl
  rw [this]
  exact ⟨G, Gr.refl hs, .bool _⟩
theorem Cmp.isNotNone : Cmp W k .IsNot .none .none false := by
  intro A s G u v hA hB hs h1 h2
  cases h1; cases h2
  exact wpAny_isNot_self rfl ⟨G, Gr.refl hs, .bool _⟩
theorem Cmp.strNotNone {x : Str} : Cmp W k .IsNot (.str x) .none true := by
  intro A s G u v hA hB hs h1 h2
  cases h1; cases h2
  exact wpAny_isNot_other rfl (by intro q; cases q) ⟨G, Gr.refl hs, .bool _⟩
theorem CallB.typeStr {x : Str} : CallB W k (.type "type") [.str x] (.val (.type "str")) := by
  intro A s G vs hA hB hs hd
  obtain ⟨_, rfl, h⟩ := hd.one
  obtain ⟨_, rfl⟩ := h.inv
  exact call_type_of (PySem.typeIs_str _ _ _) (by decide +kernel) ⟨G, Gr.refl hs, .val _⟩
theorem CallB.typeList {ds : List D} : CallB W k (.type "type") [.list ds] (.val (.type "list")) := by
  intro A s G vs hA hB hs hd
  obtain ⟨_, rfl, h⟩ := hd.one
  obtain ⟨_, _, _, _, rfl, e, c, dt, r⟩ := h.inv
  exact call_type_of ⟨_, hs _ _ e, c⟩ (by decide +kernel) ⟨G, Gr.refl hs, .val _⟩

/-- a method of the class of headers -/
def methStmt (i : Nat) : Stmt := ((fBody (stmtAt 13))[i]?).getD (.Pass ⟨0, 0, 0, 0⟩)
structure MethD (W : Wd) (i : Nat) (name : Str) (a : Addr) (fd : FuncData) : Prop where
  fn : FnAt W a fd (fBody (methStmt i))
  sc : fd.scope = fScope (methStmt i)
  find : PySem.W.findIn W.K (.ref W.C) name = some (some (.ref a))
  isfn : PySem.W.isFn W.K (.ref a) = true
  plain : PySem.W.plainGet W.K W.C name = true
  keep : PySem.W.keepIn W.K (.ref a) = true

theorem inst_at {G : Part} {s : Shared} {v : Value} {l : Addr} (hs : ∀ b o, G b = some o → s.heap.get? b = some o) (h : Den W.C G v (.inst l)) : ∃ a dx e n t, v = .ref a ∧ PySem.W.InstAt s.heap a (PySem.W.instObj W.C dx) W.C (some (PySem.W.dictOf [e] n)) ∧ e.key = .str (Str.ofString "_headers") t ∧ e.val = .ref l := by
  obtain ⟨a, dx, e, n, t, rfl, e1, e2, e3, e4⟩ := h.inv
  exact ⟨a, dx, e, n, t, rfl, ⟨hs _ _ e1, rfl, rfl, hs _ _ e2⟩, e3, e4⟩
theorem hdr_inst {G : Part} {v : Value} {hs : List (Str × Str)} (h : Den W.C G v (.hdr hs)) : ∃ l, Den W.C G v (.inst l) := by
  obtain ⟨l, _, _, _, e1, _, _, _, _⟩ := h.inv
  exact ⟨l, e1⟩
theorem getL_other {e : DictEntry} {t : Tok} {name : Str} (hk : e.key = .str (Str.ofString "_headers") t) (hn : (name == Str.ofString "_headers") = false) : PySem.W.getL name [e] = some none := by
  unfold PySem.W.getL
  have h1 : e.key.isStr name = false := by rw [hk]; show (_ == _) = false; rw [beq_eq_false_iff_ne] at hn ⊢; exact fun q => hn q.symm
  have h2 : e.refKey = false := by unfold DictEntry.refKey; rw [hk]
  rw [List.find?_cons, h1]
  simp [h2]
theorem get_meth {i : Nat} {name : Str} {a : Addr} {fd : FuncData} (M : MethD W i name a fd) (hn : (name == Str.ofString "_headers") = false) {A : Around} {s : Shared} {G : Part} {v : Value} {l : Addr} {pl : Sem Bool} {Q : Value × List Value → Shared → Prop} (hB : Base W s.heap)
    (hs : ∀ b o, G b = some o → s.heap.get? b = some o) (hd : Den W.C G v (.inst l)) (hq : Q (.ref a, [v]) s) : wpAny (Md W) A (getMethod v name pl) Q nay s := by
  obtain ⟨x, dx, e, n, t, rfl, I, hk, hv⟩ := inst_at hs hd
  refine PySem.W.method_fn hB.kin I (PySem.W.plainGet_of M.plain).1 (PySem.W.plainGet_of M.plain).2 M.find (beq_iff_eq.mp M.isfn) ?_ hq
  show (PySem.W.lookIn name (PySem.W.dictOf [e] n)).map _ = _
  rw [PySem.W.lookIn_dict, getL_other hk hn]; rfl
/-- the list of an object -/
structure OwnH (W : Wd) : Prop where
  plain : PySem.W.plainGet W.K W.C "_headers" = true
  hasd : PySem.W.hasDictIn W.K W.C = true
  none : PySem.W.findIn W.K (.ref W.C) "_headers" = some none
theorem get_headers (O : OwnH W) {A : Around} {s : Shared} {G : Part} {v : Value} {l : Addr} {ex : Bool} {Q : Value → Shared → Prop} (hB : Base W s.heap)
    (hs : ∀ b o, G b = some o → s.heap.get? b = some o) (hd : Den W.C G v (.inst l)) (hq : Q (.ref l) { s with toks := s.toks + 1 }) : wpAny (Md W) A (getAttr v "_headers" ex) Q nay s := by
  obtain ⟨x, dx, e, n, t, rfl, I, hk, hv⟩ := inst_at hs hd
  refine PySem.W.get_value hB.kin I (PySem.W.plainGet_of O.plain).1 (PySem.W.findObj_own (attr := Option.none) O.hasd O.none rfl (v := .ref l) ?_) rfl hq
  rw [PySem.W.lookIn_dict]
  unfold PySem.W.getL
  have h1 : e.key.isStr (Str.ofString "_headers") = true := by rw [hk]; show (_ == _) = true; simp
  rw [List.find?_cons, h1]
  exact congrArg (fun x => some (some x)) hv
end
-- H2
section



open PySem.Sre (M)
open PySem.Builtin.Re
def nc : Array Nat := #[14, 10, 4, 1, 1, 22, 0, 31, 16, 127, 0, 13, 7, 22, 0, 31, 16, 127, 0, 1]
def vc : Array Nat := #[14, 14, 4, 1, 1, 9, 4294966783, 0, 0, 2147483648, 0, 0, 0, 0, 0, 13, 11, 9, 4294966783, 0, 0, 2147483648, 0, 0, 0, 0, 0, 1]

theorem vset_no {c : Nat} (hc : Lt c) (sn : Sre.Seen) : ∃ sn', Sre.inSet vc c 28 5 true sn = .ok (false, sn') := by
  have hm : c ∈ List.range' 65 16 := List.mem_range'_1.mpr ⟨hc.1, Nat.lt_succ_of_le hc.2⟩
  have all : ∀ c ∈ [65, 66, 67, 68, 69, 70, 71, 72, 73, 74, 75, 76, 77, 78, 79, 80], Sre.inSet vc c 28 5 true sn = .ok (false, (sn.add 9).add 0) := by
    repeat refine List.forall_mem_cons.2 ⟨by kernel_rfl, ?_⟩
    exact fun _ h => nomatch h
  exact ⟨_, all c hm⟩
theorem adm_none (m : M) (hm : m.code = vc) (ht : ∀ q, q < m.lim → Lt (m.text.getD q 0)) : ∀ (fuel p : Nat) (sn : Sre.Seen), ∃ sn', M.admitted m fuel p sn = .ok (none, sn')
  | 0, p, sn => ⟨sn, rfl⟩
  | fuel + 1, p, sn => by
    show ∃ sn', ((if p ≥ m.lim then .ok (none, sn) else
      match Sre.inSet m.code (m.text.getD p 0) m.code.size 5 true sn with
      | .ok (true, seen) => .ok (some p, seen)
      | .ok (false, seen) => M.admitted m fuel (p + 1) seen
      | .error why => .error why) : Except String (Option Nat × Sre.Seen)) = .ok (none, sn')
    by_cases h : p ≥ m.lim
    · rw [if_pos h]; exact ⟨sn, rfl⟩
    · rw [if_neg h, hm]
      obtain ⟨s1, e⟩ := vset_no (ht p (by omega)) sn
      rw [show vc.size = 28 from rfl, e]
      exact adm_none m hm ht fuel (p + 1) s1
theorem goes_fail (m : M) (h1 : m.answer = some false) (h2 : m.frames = []) (h3 : m.outcome = none) : ∃ m', Goes 2 m m' ∧ m'.outcome = some .failed := by
  refine ⟨m.step, .step h3 rfl ⟨0, by omega, rfl⟩, ?_⟩
  unfold M.step
  rw [h3, h1, h2]
  rfl
theorem search_val {a b c d : Nat} (ha : Lt a) (hb : Lt b) (hc : Lt c) (hd : Lt d) : ∃ m', Goes 2 (Sre.forSearch vc #[a, b, c, d] 0 0 4 false) m' ∧ m'.outcome = some .failed := by
  have e : Sre.forSearch vc #[a, b, c, d] 0 0 4 false = (match M.admitted { code := vc, text := #[a, b, c, d], lim := 4, start := 0, lastStart := 4, pc := 15, pos := 0, handed := 0, marks := #[], seen := ({} : Sre.Seen).add 14 } 5 0 (({} : Sre.Seen).add 14) with
    | .ok (some s, seen) => ({ code := vc, text := #[a, b, c, d], lim := 4, start := 0, lastStart := 4, pc := 15, pos := 0, handed := 0, marks := #[], mustAdvance := false, seen := seen } : M).attemptAt s true
    | .ok (none, seen) => ({ code := vc, text := #[a, b, c, d], lim := 4, start := 0, lastStart := 4, pc := 15, pos := 0, handed := 0, marks := #[], seen := seen } : M).say false
    | .error why => ({ code := vc, text := #[a, b, c, d], lim := 4, start := 0, lastStart := 4, pc := 15, pos := 0, handed := 0, marks := #[], seen := ({} : Sre.Seen).add 14 } : M).stick why) := by kernel_rfl
  obtain ⟨sn, ea⟩ := adm_none { code := vc, text := #[a, b, c, d], lim := 4, start := 0, lastStart := 4, pc := 15, pos := 0, handed := 0, marks := #[], seen := ({} : Sre.Seen).add 14 } rfl (fun q hq => by
    have hq' : q < 4 := hq
    match q, hq' with
    | 0, _ => exact ha
    | 1, _ => exact hb
    | 2, _ => exact hc
    | 3, _ => exact hd
    | q + 4, h => omega) 5 0 (({} : Sre.Seen).add 14)
  rw [e, ea]
  exact goes_fail _ rfl rfl rfl
/-- the names asked: r g b R G B -/
def Nm (c : Nat) : Prop := c = 114 ∨ c = 103 ∨ c = 98 ∨ c = 82 ∨ c = 71 ∨ c = 66
theorem search_name {c : Nat} (hc : Nm c) : ∃ m', Goes 2 (Sre.forSearch nc #[c] 0 0 1 false) m' ∧ m'.outcome = some .failed := by
  refine goes_fail _ ?_ ?_ ?_ <;> (rcases hc with rfl | rfl | rfl | rfl | rfl | rfl <;> kernel_rfl)

section
variable {W : Wd} {k : Nat} {names : List (Str × NameKind)} {ρ : List (Str × D)} {P : Addr} {fs : Array Value} {code : Array Nat} {groups : Nat}
theorem CallB.search {x : Str} {n : Nat} (hp : PatAt W P fs code groups 0) (hn : min (2 ^ 63 - 1) x.cps.size = n) (hm : ∃ m', Goes 2 (Sre.forSearch code x.cps groups 0 n false) m' ∧ m'.outcome = some .failed) : CallB W k (.builtin "re.Pattern.search") [.val (.ref P), .str x] .none := by
  intro A s G vs hA hB hs hd'
  obtain ⟨_, _, rfl, h1, h1b⟩ := hd'.two
  obtain rfl := h1.inv
  obtain ⟨t, rfl⟩ := h1b.inv
  refine call_tree slot_pat_search ⟨_, hp.obj _ hB, rfl⟩ entry_pat_search (args_pat_search _ _) ?_
  show wpAny _ _ (reTarget "re.Pattern.search" "search" ⟨[.ref P, .str x t], []⟩ >>= fun t => reAnswer t (Sre.forSearch t.code t.text t.groups t.pos t.lim false)) _ _ s
  refine wpAny_bind (target_str (lim := n) hB hp hn ?_)
  show wpAny _ _ (reRunToEnd (Sre.forSearch code x.cps groups 0 n false) >>= fun x => _) _ _ s
  obtain ⟨m', g1, o1⟩ := hm
  refine wpAny_bind (run_end g1 (by decide) (by rw [o1]; rfl) ?_)
  rw [o1]
  exact wpAny_pure (wpAny_pure ⟨_, rfl, G, Gr.refl hs, .none⟩)
theorem Tru.none : Tru W k .none false := by
  intro A s G u hA hB hs hd
  obtain rfl := hd.inv
  exact wpAny_pure ⟨rfl, G, Gr.refl hs⟩
end
/-- the two patterns of the headers -/
structure ResAt (W : Wd) : Prop where
  name : ∃ P fs, Resolve W "_name_disallowed_re" (.ref P) ∧ PatAt W P fs nc 0 0
  value : ∃ P fs, Resolve W "_value_disallowed_re" (.ref P) ∧ PatAt W P fs vc 0 0
/-- the method `_convert_string_type` -/
def ConvD (W : Wd) : Prop := ∃ a fd, MethD W 1 "_convert_string_type" a fd ∧ ∀ self v b : Value, bindArgs fd ⟨[self, v], [(Str.ofString "name", b)]⟩ = pure [(Str.ofString "self", self), (Str.ofString "value", v), (Str.ofString "name", b)]
/-- what it may be asked -/
def Asked (b : Bool) (x : Str) : Prop := if b = true then ∃ c, Nm c ∧ x = ⟨#[c]⟩ else ∃ a b c d, Lt a ∧ Lt b ∧ Lt c ∧ Lt d ∧ x = ⟨#[a, b, c, d]⟩
theorem conv_body {W : Wd} {k : Nat} (T : Tops W) (R : ResAt W) {b : Bool} {x : Str} (hx : Asked b x) (self : D) :
    Ex W k (fScope (methStmt 1)).names [(Str.ofString "name", .bool b), (Str.ofString "value", .str x), (Str.ofString "self", self)] (fBody (methStmt 1)) (.ret (.str x)) := by
  obtain ⟨P1, fs1, r1, p1⟩ := R.name
  obtain ⟨P2, fs2, r2, p2⟩ := R.value
  refine Ex.ite (c := "str" == "str") (Test.cmp (a := .val (.type "str")) (b := .val (.type "str")) (Ev.callT T.type (by kernel_rfl) (.cons ?_ .nil) (CallB.typeStr (x := x))) (Ev.glob T.str (by kernel_rfl)) Cmp.isType) (fun _ => ?_) (fun h => absurd h (by decide))
  · walk_at "mev"
  cases b with
  | true =>
    obtain ⟨c, hc, rfl⟩ := hx
    refine Ex.assign (d := .val (.ref P1)) (Ev.cast (Ev.ife (c := true) (Test.plain (a := .bool true) (by walk_at "mev") Tru.bool) (fun _ => Ev.glob r1 (by kernel_rfl)) (fun _ => Ev.glob r2 (by kernel_rfl))) (if_pos rfl)) ?_ (.inl (by kernel_rfl))
    refine Ex.ite (c := false) ?_ (fun h => nomatch h) (fun _ => ?_)
    · refine Test.plain (a := .none) ?_ Tru.none
      exact Ev.meth1 (d := .val (.ref P1)) (by walk_at "mev") (Meth.pat p1 slot_pat_search type_pat_search) (.cons (d := .str ⟨#[c]⟩) (by walk_at "mev") .nil) (CallB.search p1 (n := 1) (by kernel_rfl) (search_name hc))
    refine Ex.ret (d := .str ⟨#[c]⟩) ?_
    walk_at "mev"
  | false =>
    obtain ⟨a, b, c, d, ha, hb, hc, hd, rfl⟩ := hx
    refine Ex.assign (d := .val (.ref P2)) (Ev.cast (Ev.ife (c := false) (Test.plain (a := .bool false) (by walk_at "mev") Tru.bool) (fun _ => Ev.glob r1 (by kernel_rfl)) (fun _ => Ev.glob r2 (by kernel_rfl))) (if_neg (by decide))) ?_ (.inl (by kernel_rfl))
    refine Ex.ite (c := false) ?_ (fun h => nomatch h) (fun _ => ?_)
    · refine Test.plain (a := .none) ?_ Tru.none
      exact Ev.meth1 (d := .val (.ref P2)) (by walk_at "mev") (Meth.pat p2 slot_pat_search type_pat_search) (.cons (d := .str ⟨#[a, b, c, d]⟩) (by walk_at "mev") .nil) (CallB.search p2 (n := 4) (by kernel_rfl) (search_val ha hb hc hd))
    refine Ex.ret (d := .str ⟨#[a, b, c, d]⟩) ?_
    walk_at "mev"
end
-- H3
section
variable {W : Wd} {k : Nat} {names : List (Str × NameKind)} {ρ : List (Str × D)}
theorem Ev.conv (T : Tops W) (R : ResAt W) (C : ConvD W) {o e kv : Expr} {ap pos kp : Pos} {b : Bool} {x : Str} {d : D} (ho : Ev W (k + 1) names ρ o d) (hi : ∀ G v, Den W.C G v d → ∃ l, Den W.C G v (.inst l)) (he : Ev W (k + 1) names ρ e (.str x)) (hk : Ev W (k + 1) names ρ kv (.bool b)) (hx : Asked b x)
    (hst : ∀ env, starEach [e] env = (false, eval e env) :: starEach [] env := by intro _; rfl)
    (hcall : ∀ env, ∃ pl, eval (.Call (.Attribute o (Str.ofString "_convert_string_type") ap) [e] [⟨some (Str.ofString "name"), kv, kp⟩] pos) env = (do
      let ov ← eval o env
      standAt ap.atName
      let (f, first) ← holding [ov] (getMethod ov (Str.ofString "_convert_string_type") pl)
      callWith pos f first (backTo pos (starEach [e] env)) (backToKw pos (keywordEach [⟨some (Str.ofString "name"), kv, kp⟩] env))) := by intro _; exact ⟨_, rfl⟩) :
    Ev W (k + 1) names ρ (.Call (.Attribute o (Str.ofString "_convert_string_type") ap) [e] [⟨some (Str.ofString "name"), kv, kp⟩] pos) (.str x) := by
  intro A env s G hA hE
  obtain ⟨a, fd, M, hb⟩ := C
  obtain ⟨pl, hcall⟩ := hcall env
  refine PySem.W.methodCall_KW (wpAny_nay (ho A env s G hA hE) fun v s1 ⟨G1, g1, d1⟩ => ?_) hcall
  obtain ⟨l, di⟩ := hi _ _ d1
  have E1 := hE.grow g1
  refine get_meth M (by kernel_rfl) E1.base g1.sub di ?_
  refine PySem.W.callWith_KW (h₀ := s1.heap) E1.base.kin M.keep (by rfl) ?_ (by rw [hst]; rfl) (hst env)
  refine wpAny_nay ((EvAll.cons he .nil hst) A env s1 G1 pos hA E1) fun vs s2 ⟨G2, g2, d2⟩ => ?_
  have E2 := E1.grow g2
  show wpAny _ _ (evalAll [eval kv env >>= fun v => standAt pos >>= fun _ => pure v]) _ _ s2
  refine wpAny_evalAll_cons (wpAny_bind (wpAny_nay (hk A env s2 G2 hA E2) fun bv s3 ⟨G3, g3, d3⟩ => wpAny_bind (wpAny_standAt (wpAny_pure (wpAny_evalAll_nil ?_)))))
  have E3 := E2.grow g3
  refine ⟨E3.base.kin, ?_⟩
  obtain ⟨v2, rfl, dv⟩ := d2.one
  show wpAny _ _ (call (.ref a) [v, v2] [(Str.ofString "name", bv)]) _ _ s3
  refine call_raw (G := G3) (fun _ _ => True) (xs := [Str.ofString "self", Str.ofString "value", Str.ofString "name"]) (ds := [d, .str x, .bool b]) M.fn (by have := hA.depth; omega) E3.base ?_ ?_ fun env' s4 G4 s5 g4 _ f => ?_
  · rw [hb]
    exact wpAny_pure ⟨G3, Gr.refl E3.sub, rfl, .cons (((d1.mono g2.ext)).mono g3.ext) (.cons (dv.mono g3.ext) (.cons d3 .nil)), trivial⟩
  · intro y hy
    rw [M.sc]
    simp only [List.mem_cons, List.not_mem_nil, or_false] at hy
    rcases hy with rfl | rfl | rfl <;> exact .inl (by kernel_rfl)
  · rw [M.sc] at f
    refine wpAny_nay (conv_body T R hx d (A.deeper env') env' s4 G4 s5 G4 (hA.deeper _) f) fun fl s' h => ?_
    obtain ⟨v', G', rfl, g, hd'⟩ := h
    exact ⟨G', (((g1.trans g2).trans g3).trans g4).trans g, hd'⟩
end
-- H4

/-- growth, but for one object -/
structure GrL (l : Addr) (s : Shared) (G : Part) (s' : Shared) (G' : Part) : Prop where
  same : ∃ h' tk, s' = { s with heap := h', toks := tk }
  keep : ∀ b o, b ≠ l → s.heap.get? b = some o → s'.heap.get? b = some o
  ext : ∀ b o, G b = some o → G' b = some o
  sub : ∀ b o, G' b = some o → s'.heap.get? b = some o
  new : ∀ b o, G' b = some o → G b = some o ∨ s.heap.get? b = none
theorem Gr.toL {l : Addr} {s s' : Shared} {G G' : Part} (g : Gr s G s' G') : GrL l s G s' G' := ⟨g.same, fun b o _ e => g.keep b o e, g.ext, g.sub, g.new⟩
theorem get_none_l {l : Addr} {h h' : Heap} (k : ∀ b o, b ≠ l → h.get? b = some o → h'.get? b = some o) {b : Addr} (hb : b ≠ l) (e : h'.get? b = none) : h.get? b = none := by
  cases q : h.get? b with
  | none => rfl
  | some o => rw [k b o hb q] at e; cases e
theorem GrL.trans {l : Addr} {s s' s'' : Shared} {G G' G'' : Part} (x : GrL l s G s' G') (y : GrL l s' G' s'' G'') (hl : G'' l = none) : GrL l s G s'' G'' := by
  refine ⟨?_, fun b o n e => y.keep b o n (x.keep b o n e), fun b o e => y.ext b o (x.ext b o e), y.sub, fun b o e => ?_⟩
  · obtain ⟨h, t, rfl⟩ := x.same
    obtain ⟨h', t', rfl⟩ := y.same
    exact ⟨h', t', rfl⟩
  · rcases y.new b o e with q | q
    · exact x.new b o q
    · exact .inr (get_none_l x.keep (fun z => by rw [z, hl] at e; cases e) q)
/-- one object is changed -/
theorem GrL.set {l : Addr} {s : Shared} {G : Part} {h' : Heap} (hs : ∀ b o, G b = some o → s.heap.get? b = some o) (hb : Heap.SameBut l s.heap h') (hl : G l = none) : GrL l s G { s with heap := h' } G :=
  ⟨⟨h', s.toks, rfl⟩, fun b o n e => (hb.2 b n).trans e, fun _ _ e => e, fun b o e => (hb.2 b (fun z => by rw [z, hl] at e; cases e)).trans (hs b o e), fun _ _ e => .inl e⟩
section
variable {W : Wd} {k : Nat} {names : List (Str × NameKind)} {ρ : List (Str × D)} {env : Env} {s₀ s : Shared} {G₀ G : Part}
theorem FrOk.mut {l : Addr} {s' : Shared} {G' : Part} (x : FrOk W names ρ env s₀ G₀ s G) (g : GrL l s G s' G') (h0 : s₀.heap.get? l = none) (hL : l ≠ env.locals) (hC : ∀ n c, env.cells.lookup n = some c → c ≠ l) : FrOk W names ρ env s₀ G₀ s' G' := by
  obtain ⟨m, cm, i, v⟩ := x.live
  have hLv : ∃ o, s.heap.get? env.locals = some o := let ⟨o, _, _, ho, _⟩ := i.toInCall.ns; ⟨o, ho⟩
  have k0 : ∀ b o, s₀.heap.get? b = some o → s'.heap.get? b = some o := fun b o e => g.keep b o (fun z => by rw [z, h0] at e; cases e) (x.gr.keep b o e)
  have sm : ∃ h' tk, s' = { s₀ with heap := h', toks := tk } := by
    obtain ⟨h, t, e⟩ := x.gr.same
    obtain ⟨h', t', rfl⟩ := g.same
    exact ⟨h', t', by rw [e]⟩
  have gr' : Gr s₀ G₀ s' G' := ⟨sm, k0, fun b o e => g.ext b o (x.gr.ext b o e), g.sub, fun b o e => by
    rcases g.new b o e with q | q
    · exact x.gr.new b o q
    · exact .inr (get_none x.gr.keep q)⟩
  refine ⟨x.kind, x.nms, x.globals, x.builtins, x.base, gr', ⟨m, cm, ⟨⟨sm, i.toInCall.ns.at' fun o e => g.keep _ o (Ne.symm hL) e, k0, i.toInCall.fresh⟩, fun n c e => ?_, i.apart, i.above⟩, fun y d e => ?_⟩, none_of_new g.new x.offL hLv, fun n c e => none_of_new g.new (x.offC n c e) (let ⟨o, ho, _⟩ := i.cell n c e; ⟨o, ho⟩), x.allC⟩
  · obtain ⟨o, ho, hd⟩ := i.cell n c e
    exact ⟨o, g.keep c o (hC n c e) ho, hd⟩
  · exact (v y d e).imp (fun ⟨l, u, q, hd⟩ => ⟨l, u, q, hd.mono g.ext⟩) fun ⟨l, c, u, q, q', hd⟩ => ⟨l, c, u, q, q', hd.mono g.ext⟩

theorem FrOk.liveL (x : FrOk W names ρ env s₀ G₀ s G) : ∃ o, s.heap.get? env.locals = some o := by
  obtain ⟨m, cm, i, v⟩ := x.live
  exact let ⟨o, _, _, ho, _⟩ := i.toInCall.ns; ⟨o, ho⟩
theorem FrOk.liveC (x : FrOk W names ρ env s₀ G₀ s G) {n : Str} {c : Addr} (e : env.cells.lookup n = some c) : ∃ o, s.heap.get? c = some o := by
  obtain ⟨m, cm, i, v⟩ := x.live
  exact let ⟨o, ho, _⟩ := i.cell n c e; ⟨o, ho⟩
/-- an address apart from the frame -/
structure Apart (env : Env) (l : Addr) : Prop where
  loc : l ≠ env.locals
  cell : ∀ n c, env.cells.lookup n = some c → c ≠ l
theorem FrOk.apart (x : FrOk W names ρ env s₀ G₀ s G) {l : Addr} (h : s.heap.get? l = none) : Apart env l :=
  ⟨fun e => (by obtain ⟨o, ho⟩ := x.liveL; rw [← e, h] at ho; cases ho), fun n c e q => (by obtain ⟨o, ho⟩ := x.liveC e; rw [q, h] at ho; cases ho)⟩

/-- name = value, walked on -/
theorem raw_assign {A : Around} {e : Expr} {x : Str} {px p : Pos} {rest : List Stmt} {d : D} {Q : Flow → Shared → Prop} (hA : OkA k A) (f : FrOk W names ρ env s₀ G₀ s G) (h : Ev W k names ρ e d)
    (r : ∀ s' G', FrOk W names ((x, d) :: ρ) env s₀ G₀ s' G' → (∀ b o, Apart env b → s.heap.get? b = some o → s'.heap.get? b = some o) → (∀ b o, G' b = some o → G b = some o ∨ s.heap.get? b = none) → (∀ b o, G b = some o → G' b = some o) → wpAny (Md W) A (execs rest env) Q nay s') (hx : names.lookup x = some .local)
    (hs : ∀ env : Env, env.scope.kind = .function → env.scope.names = names → swapsWith e (some (.Name x px)) p.line env = pure false := by intro _ _ _; rfl) : wpAny (Md W) A (execs (.Assign [.Name x px] e p :: rest) env) Q nay s := by
  refine wpAny_execs_cons (wpAny_Assign_Name (wpAny_nay (h A env s G hA f.toEnv) fun v s1 ⟨G1, g1, d1⟩ => ?_) (hs env f.kind f.nms))
  exact (f.grow g1).store (.inl hx) d1 fun s' f' ks _ => r s' G1 f' (fun b o ab e => ks b o ab.loc (fun c ec z => ab.cell _ _ ec z.symm) (g1.keep b o e)) g1.new g1.ext
/-- name = [] : the list stays outside the part -/
theorem raw_newlist {A : Around} {x : Str} {px p p2 : Pos} {rest : List Stmt} {Q : Flow → Shared → Prop} (hA : OkA k A) (f : FrOk W names ρ env s₀ G₀ s G) (hx : names.lookup x = some .local)
    (r : ∀ a s', FrOk W names ((x, .val (.ref a)) :: ρ) env s₀ G₀ s' G → Apart env a → G a = none → s.heap.get? a = none → PlainL s'.heap a #[] → (∀ b o, Apart env b → s.heap.get? b = some o → s'.heap.get? b = some o) → wpAny (Md W) A (execs rest env) Q nay s') :
    wpAny (Md W) A (execs (.Assign [.Name x px] (.List [] p2) p :: rest) env) Q nay s := by
  refine wpAny_execs_cons (wpAny_Assign_Name (List_ (wpAny_nay (EvAll.nil (W := W) (k := k) (names := names) (ρ := ρ) A env s G p2 hA f.toEnv) fun vs s1 ⟨G1, g1, d1⟩ => ?_)) (by rfl))
  obtain rfl := d1.nil_inv
  have g1' : Gr s G s1 G := ⟨g1.same, g1.keep, fun _ _ e => e, fun b o e => g1.sub b o (g1.ext b o e), fun _ _ e => .inl e⟩
  refine wpAny_newList ?_ (line_small (by decide))
  have gp : Gr s1 G { s1 with heap := s1.heap.push { cls := .type "list", data := .seq #[] } } G := Gr.heap (t := s1.toks) g1'.sub (fun b o e => Heap.get?_push_of_some _ e)
  have f1 := f.grow g1'
  have hn : s1.heap.get? s1.heap.objs.size = none := new_none
  have ap := f1.apart hn
  refine (f1.grow gp).store (.inl hx) (.val _) fun s' f' ks _ => r s1.heap.objs.size s' f' ap ?_ (get_none g1'.keep hn) ?_ fun b o ab e => ks b o ab.loc (fun c ec z => ab.cell _ _ ec z.symm) (gp.keep b o (g1'.keep b o e))
  · cases q : G s1.heap.objs.size with
    | none => rfl
    | some o => rw [g1'.sub _ _ q] at hn; cases hn
  · exact ⟨_, 0, ks _ _ ap.loc (fun c ec z => ap.cell _ _ ec z.symm) (Heap.get?_push_size _ rfl), rfl, rfl, rfl⟩
end
-- H5
section
variable {W : Wd} {k : Nat} {names : List (Str × NameKind)} {ρ : List (Str × D)} {env : Env} {s₀ s : Shared} {G₀ G : Part}

theorem not_inter (hk : env.scope.kind = .function) : interactive env = false := by unfold interactive; rw [hk]; rfl
/-- X.append(e) -/
theorem raw_append {A : Around} {o e : Expr} {ap cp p : Pos} {rest : List Stmt} {l : Addr} {its : Array Value} {d : D} {Q : Flow → Shared → Prop} (hA : OkA k A) (f : FrOk W names ρ env s₀ G₀ s G) (hl : PlainL s.heap l its) (hsz : its.size ≤ 1000)
    (ho : ∀ Q : Value → Shared → Prop, (∀ tk, Q (.ref l) { s with toks := tk }) → wpAny (Md W) A (eval o env) Q nay s) (he : Ev W k names ρ e d)
    (r : ∀ s1 G1 v h', Gr s G s1 G1 → FrOk W names ρ env s₀ G₀ s1 G1 → Den W.C G1 v d → PlainL h' l (its.push v) → Heap.SameBut l s1.heap h' → wpAny (Md W) A (execs rest env) Q nay { s1 with heap := h' })
    (hcall : ∃ pl, eval (.Call (.Attribute o (Str.ofString "append") ap) [e] [] cp) env = (do
      let ov ← eval o env
      standAt ap.atName
      let (f, first) ← holding [ov] (getMethod ov (Str.ofString "append") pl)
      callWith cp f first (backTo cp (starEach [e] env)) []))
    (hst : ∀ env, starEach [e] env = (false, eval e env) :: starEach [] env) (hsw : swapsWith (.Call (.Attribute o (Str.ofString "append") ap) [e] [] cp) none p.line env = pure false) :
    wpAny (Md W) A (execs (.Expr (.Call (.Attribute o (Str.ofString "append") ap) [e] [] cp) p :: rest) env) Q nay s := by
  obtain ⟨pl, hcall⟩ := hcall
  refine wpAny_execs_cons (wpAny_Expr_any (MethodCall_ (ho _ fun tk => ?_) hcall) (not_inter f.kind) hsw)
  obtain ⟨ob, n, hob, hc, hd, hdat⟩ := hl
  refine getMethod_list_append (l := l) (o := ob) (by exact hob) hc hd ?_
  have gt : Gr s G { s with toks := tk } G := (Gr.refl f.gr.sub).tok tk
  have f1 := f.grow gt
  refine callWith_method1 (wpAny_nay ((EvAll.cons he .nil hst) A env { s with toks := tk } G cp hA f1.toEnv) fun vs s2 ⟨G2, g2, d2⟩ => ?_) (hst env) (by rfl)
  obtain ⟨v, rfl, dv⟩ := d2.one
  have hl2 : PlainL s2.heap l its := ⟨ob, n, g2.keep _ _ hob, hc, hd, hdat⟩
  refine list_append_plainL hl2 (fun h' hp hb => ?_) (line_small hsz)
  exact r s2 G2 v h' (gt.trans g2) (f1.grow g2) dv hp hb

/-- a list, done, becomes a datum -/
theorem FrOk.seal {y : Str} {p : Addr} {o : Obj} {n : Nat} {vs : List Value} {ds : List D} (x : FrOk W names ρ env s₀ G₀ s G) (hx : ρ.lookup y = some (.val (.ref p))) (ho : s.heap.get? p = some o) (hc : o.cls = .type "list") (hdat : o.data = .seq vs.toArray n)
    (h0 : s₀.heap.get? p = none) (hp : G p = none) (ap : Apart env p) (hd : DenAll W.C G vs ds) : FrOk W names ((y, .list ds) :: ρ) env s₀ G₀ s (put G p o) := by
  obtain ⟨m, cm, i, v⟩ := x.live
  have ext := put_ext (o := o) hp
  have q : ∀ b, b ≠ p → put G p o b = G b := fun b hb => if_neg hb
  refine ⟨x.kind, x.nms, x.globals, x.builtins, x.base, ⟨x.gr.same, x.gr.keep, fun b o' e => ext b o' (x.gr.ext b o' e), fun b o' e => ?_, fun b o' e => ?_⟩, ⟨m, cm, i, fun z d e => ?_⟩, (q _ (Ne.symm ap.loc)).trans x.offL, fun nn c e => (q _ (ap.cell _ _ e)).trans (x.offC nn c e), x.allC⟩
  · by_cases hb : b = p
    · subst hb; rw [put_self] at e; cases e; exact ho
    · rw [q b hb] at e; exact x.gr.sub b o' e
  · by_cases hb : b = p
    · subst hb; exact .inr h0
    · rw [q b hb] at e; exact x.gr.new b o' e
  · have up : ∀ d', ρ.lookup z = some d' → d = d' ∨ True → _ := fun d' e' _ => v z d' e'
    rw [List.lookup_cons] at e
    cases hb : z == y with
    | true =>
      rw [hb] at e; cases e
      have hz := beq_iff_eq.mp hb
      subst hz
      have den : ∀ u, Den W.C G u (.val (.ref p)) → Den W.C (put G p o) u (.list ds) := fun u hu => by
        obtain rfl := hu.inv
        exact .list (put_self ..) hc hdat (hd.mono ext)
      exact (v z _ hx).imp (fun ⟨l, u, q, hd⟩ => ⟨l, u, q, den u hd⟩) fun ⟨l, c, u, q, q', hd⟩ => ⟨l, c, u, q, q', den u hd⟩
    | false =>
      rw [hb] at e
      exact (v z d e).imp (fun ⟨l, u, q, hd⟩ => ⟨l, u, q, hd.mono ext⟩) fun ⟨l, c, u, q, q', hd⟩ => ⟨l, c, u, q, q', hd.mono ext⟩
end
-- H6



section
variable {W : Wd} {k : Nat} {names : List (Str × NameKind)} {ρ : List (Str × D)} {env : Env} {s₀ s : Shared} {G₀ G : Part}

/-- for k, v in x.items(), of no items -/
theorem raw_items0 {A : Around} {x : Str} {d : Addr} {tg : Expr} {pn ap cp fp : Pos} {body rest : List Stmt} {Q : Flow → Shared → Prop} (hA : OkA k A) (f : FrOk W names ρ env s₀ G₀ s G) (hx : Ev W k names ρ (.Name x pn) (.val (.ref d))) (hG : G d = some { cls := .type "dict", data := .dict #[] }) (hd : (d == sysModules) = false)
    (r : ∀ s', FrOk W names ρ env s₀ G₀ s' G → Gr s G s' G → wpAny (Md W) A (execs rest env) Q nay s')
    (hcall : ∃ pl, eval (.Call (.Attribute (.Name x pn) (Str.ofString "items") ap) [] [] cp) env = (do
      let ov ← eval (.Name x pn) env
      standAt ap.atName
      let (f, first) ← holding [ov] (getMethod ov (Str.ofString "items") pl)
      callWith cp f first (backTo cp (starEach [] env)) [])) :
    wpAny (Md W) A (execs (.For tg (.Call (.Attribute (.Name x pn) (Str.ofString "items") ap) [] [] cp) body [] fp :: rest) env) Q nay s := by
  obtain ⟨pl, hcall⟩ := hcall
  refine wpAny_execs_cons (wpAny_For (MethodCall_ (wpAny_nay (hx A env s G hA f.toEnv) fun v s1 ⟨G1, g1, d1⟩ => ?_) hcall))
  have key : v = .ref d := by
    obtain ⟨m, cm, i, vv⟩ := f.live
    obtain rfl := d1.inv
    rfl
  subst key
  have g1' : Gr s G s1 G := ⟨g1.same, g1.keep, fun _ _ e => e, fun b o e => g1.sub b o (g1.ext b o e), fun _ _ e => .inl e⟩
  have o1 := g1'.sub _ _ hG
  have D1 : s1.heap.DictOf (strKind W.prog W.w) d [] := ⟨_, #[], 0, o1, ⟨rfl, rfl, rfl⟩, rfl, fun e he => by simp at he, .nil, List.nodup_nil⟩
  refine getMethod_builtin ⟨_, o1, rfl⟩ PySem.F.plainAttrs_dict PySem.F.slot_dict_items PySem.F.type_dict_items (fun b e => ?_) ?_
  · cases e; exact ⟨_, o1, rfl⟩
  refine callWith_method0 (call_meetsIn PySem.F.slot_dict_items D1.typeIs PySem.F.entry_dict_items (PySem.F.args_dict_items_1 _) (meets_dict_items (strKind W.prog W.w) d hd) ⟨⟨[], D1⟩, ?_⟩)
  have keep2 : ∀ b o, s1.heap.get? b = some o → (s1.heap.push { cls := .type "dict_items", data := .fields #[.ref d] }).get? b = some o := fun b o e => Heap.get?_push_of_some _ e
  obtain ⟨ep, D2⟩ := (D1.keep keep2).dictAt
  refine wpAny_pyIter_items ⟨_, Heap.get?_push_size _ rfl, rfl, rfl⟩ D2 ?_
  have keep3 : ∀ (o : Obj) b p, s1.heap.get? b = some p → ((s1.heap.push { cls := .type "dict_items", data := .fields #[.ref d] }).push o).get? b = some p := fun o b p e => Heap.get?_push_of_some _ (keep2 b p e)
  have nit : s1.heap.get? (s1.heap.push { cls := .type "dict_items", data := .fields #[.ref d] }).objs.size = none := get_none keep2 new_none
  refine codeAny_forLoop_any (fun n s' => s' = _) ?_ 0 rfl
  rintro n s' rfl
  refine wpAny_pyNext_items_end (knd := strKind W.prog W.w) (kvs := []) (i := 0) hA.handled (Heap.get?_push_size _ rfl) (D2.push _) rfl fun h' hx => wpAny_execs_nil ?_
  have gf : Gr s1 G { s1 with heap := h' } G := Gr.heap (t := s1.toks) g1'.sub (fun b o e => hx b o (fun z => by rw [z, nit] at e; cases e) (keep3 _ b o e))
  exact r _ (f.grow (g1'.trans gf)) (g1'.trans gf)
end
-- H7



section
variable {W : Wd} {k : Nat} {names : List (Str × NameKind)} {ρ : List (Str × D)} {env : Env} {s₀ s : Shared} {G₀ G : Part}
theorem FrOk.apart0 (x : FrOk W names ρ env s₀ G₀ s G) {l : Addr} {o : Obj} (h : s₀.heap.get? l = some o) : Apart env l := by
  obtain ⟨m, cm, i, v⟩ := x.live
  have h1 := Heap.lt_size h
  have h2 := i.toInCall.fresh
  refine ⟨fun e => ?_, fun n c e q => ?_⟩
  · subst e; exact absurd h1 (Nat.not_lt.mpr h2)
  · have := i.above n c (mem_of_lookup e)
    subst q
    exact absurd (Nat.lt_trans h1 (Nat.lt_of_le_of_lt h2 this)) (Nat.lt_irrefl _)
theorem raw_if {A : Around} {t : Expr} {a b rest : List Stmt} {p : Pos} {c : Bool} {Q : Flow → Shared → Prop} (hA : OkA k A) (f : FrOk W names ρ env s₀ G₀ s G) (ht : Test W k names ρ t c)
    (r : ∀ s' G', FrOk W names ρ env s₀ G₀ s' G' → Gr s G s' G' → wpAny (Md W) A (execs ((if c = true then a else b) ++ rest) env) Q nay s') : wpAny (Md W) A (execs (.If t a b p :: rest) env) Q nay s := by
  rw [exec_If_cons]
  refine wpAny_bind (wpAny_standAt (wpAny_bind (wpAny_nay (ht A env s G hA f.toEnv) fun b' s' h => ?_)))
  obtain ⟨rfl, G', g⟩ := h
  have := r s' G' (f.grow g) g
  cases b' with
  | true => exact this
  | false => exact this
theorem raw_name {A : Around} {x : Str} {p : Pos} {a : Addr} {Q : Value → Shared → Prop} {tk : Nat} (f : FrOk W names ρ env s₀ G₀ s G) (hx : ρ.lookup x = some (.val (.ref a))) (hl : names.lookup x = some .local) (h : Q (.ref a) s) (hd : (x == ("__debug__" : Str)) = false := by kernel_rfl) : wpAny (Md W) A (eval (.Name x p) env) Q nay s := by
  obtain ⟨m, cm, i, v⟩ := f.live
  rcases v x _ hx with ⟨_, u, q, hd'⟩ | ⟨l, _⟩
  · obtain rfl := hd'.inv
    exact wpAny_Name (wpAny_loadName_local f.kind (by show env.scope.names.lookup x = _; rw [f.nms]; exact hl) i.toInCall.ns q h) hd
  · rw [hl] at l; cases l
theorem raw_nameD {A : Around} {x : Str} {p : Pos} {d : D} {Q : Value → Shared → Prop} (f : FrOk W names ρ env s₀ G₀ s G) (hx : ρ.lookup x = some d) (hl : names.lookup x = some .local) (h : ∀ v, Den W.C G v d → Q v s) (hd : (x == ("__debug__" : Str)) = false := by kernel_rfl) : wpAny (Md W) A (eval (.Name x p) env) Q nay s := by
  obtain ⟨m, cm, i, v⟩ := f.live
  rcases v x _ hx with ⟨_, u, q, hd'⟩ | ⟨l, _⟩
  · exact wpAny_Name (wpAny_loadName_local f.kind (by show env.scope.names.lookup x = _; rw [f.nms]; exact hl) i.toInCall.ns q (h u hd')) hd
  · rw [hl] at l; cases l
end
-- H8



/-- the method `add_header` -/
def AddD (W : Wd) (a : Addr) : Prop := ∃ fd, MethD W 16 "add_header" a fd ∧ ∀ self n v : Value, bindArgs fd ⟨[self, n, v], []⟩ = (alloc { cls := .type "dict", data := .dict #[] } >>= fun d => pure [(Str.ofString "self", self), (Str.ofString "_name", n), (Str.ofString "_value", v), (Str.ofString "_params", .ref d)])
theorem add_call {W : Wd} {k : Nat} (T : Tops W) (R : ResAt W) (C : ConvD W) (O : OwnH W) {aA : Addr} (hAdd : AddD W aA) {A : Around} {s : Shared} {G : Part} {v : Value} {l : Addr} {its : Array Value} {c : Nat} {a1 a2 a3 a4 : Nat} {t u : Tok} {Q : Value → Shared → Prop}
    (hA : OkA (k + 2) A) (hB : Base W s.heap) (hs : ∀ b o, G b = some o → s.heap.get? b = some o) (hd : Den W.C G v (.inst l)) (hl : G l = none) (hp : PlainL s.heap l its) (hsz : its.size ≤ 1000) (hsm : (s.heap.objs.size == sysModules) = false)
    (hc : Nm c) (h1 : Lt a1) (h2 : Lt a2) (h3 : Lt a3) (h4 : Lt a4)
    (hQ : ∀ s1 G1 p h', Gr s G s1 G1 → Den W.C G1 p (.tup [.str ⟨#[c]⟩, .str ⟨#[a1, a2, a3, a4]⟩]) → PlainL h' l (its.push p) → Heap.SameBut l s1.heap h' → Q .none { s1 with heap := h' }) :
    wpAny (Md W) A (call (.ref aA) [v, .str ⟨#[c]⟩ t, .str ⟨#[a1, a2, a3, a4]⟩ u] []) Q nay s := by
  obtain ⟨fd, M, hb⟩ := hAdd
  have hns : s.heap.get? s.heap.objs.size = none := new_none
  have hld : l ≠ s.heap.objs.size := fun e => Nat.lt_irrefl _ (e ▸ hp.lt)
  refine call_raw (G := G) (xs := [Str.ofString "self", Str.ofString "_name", Str.ofString "_value", Str.ofString "_params"]) (ds := [.inst l, .str ⟨#[c]⟩, .str ⟨#[a1, a2, a3, a4]⟩, .val (.ref s.heap.objs.size)])
    (fun s1 G1 => G1 s.heap.objs.size = some { cls := .type "dict", data := .dict #[] } ∧ G1 l = none ∧ PlainL s1.heap l its) M.fn (by have := hA.depth; omega) hB ?_ ?_ fun env s1 G1 s2 g1 x1 f => ?_
  · rw [hb]
    have g := gr_new hs (o := { cls := .type "dict", data := .dict #[] }) rfl
    refine wpAny_bind (wpAny_alloc (wpAny_pure ⟨_, g, rfl, .cons (hd.mono g.ext) (.cons (.str _ _) (.cons (.str _ _) (.cons (.val _) .nil))), put_self .., ?_, hp.keeps g.keep⟩))
    exact (if_neg hld).trans hl
  · intro y hy
    rw [M.sc]
    simp only [List.mem_cons, List.not_mem_nil, or_false] at hy
    rcases hy with rfl | rfl | rfl | rfl <;> exact .inl (by kernel_rfl)
  obtain ⟨xd, xl, xp⟩ := x1
  rw [M.sc] at f
  have hA' := hA.deeper env
  have f : FrOk W (fScope (methStmt 16)).names [(Str.ofString "_params", .val (.ref s.heap.objs.size)), (Str.ofString "_value", .str ⟨#[a1, a2, a3, a4]⟩), (Str.ofString "_name", .str ⟨#[c]⟩), (Str.ofString "self", .inst l)] env s1 G1 s2 G1 := f
  have xp2 : PlainL s2.heap l its := xp.keeps f.gr.keep
  obtain ⟨ol, ol1⟩ : ∃ o, s1.heap.get? l = some o := let ⟨o, _, e, _⟩ := xp; ⟨o, e⟩
  have apl := f.apart0 ol1
  -- parts = []
  refine raw_newlist (k := k + 1) hA' f (by kernel_rfl) fun p s3 f3 app gp np pp3 kp3 => ?_
  have np1 : s1.heap.get? p = none := get_none f.gr.keep np
  have hpl : p ≠ l := fun e => by rw [e, ol1] at np1; cases np1
  -- if _value is not None
  refine raw_if (k := k + 1) (c := true) hA' f3 (Test.cmp (a := .str ⟨#[a1, a2, a3, a4]⟩) (b := .none) (by walk_at "mev") Ev.none Cmp.strNotNone) fun s4 G4 f4 g4 => ?_
  have gp4 : G4 p = none := none_of_new g4.new gp (let ⟨o, _, e, _⟩ := pp3; ⟨o, e⟩)
  have pp4 := pp3.keeps g4.keep
  refine raw_assign (k := k + 1) (d := .str ⟨#[a1, a2, a3, a4]⟩) hA' f4 (Ev.conv T R C (d := .inst l) (b := false) (by walk_at "mev") (fun G v h => ⟨l, h⟩) (by walk_at "mev") Ev.bool ⟨a1, a2, a3, a4, h1, h2, h3, h4, rfl⟩) (fun s5 G5 f5 kp5 n5 _ => ?_) (by kernel_rfl)
  have gp5 : G5 p = none := none_of_new n5 gp4 (let ⟨o, _, e, _⟩ := pp4; ⟨o, e⟩)
  have pp5 : PlainL s5.heap p #[] := let ⟨o, n, e, r⟩ := pp4; ⟨o, n, kp5 _ _ app e, r⟩
  refine raw_append (k := k + 1) (l := p) (its := #[]) (d := .str ⟨#[a1, a2, a3, a4]⟩) hA' f5 pp5 (by decide) (fun Q hq => raw_name (tk := 0) f5 (by walk_at "mlook") (by kernel_rfl) (hq _)) (by walk_at "mev") (fun s6 G6 w h' g6 f6 dw pl6 sb6 => ?_) ⟨_, rfl⟩ (fun _ => rfl) (by rfl)
  have gp6 : G6 p = none := none_of_new g6.new gp5 (let ⟨o, _, e, _⟩ := pp5; ⟨o, e⟩)
  have f7 := f6.mut (GrL.set f6.gr.sub sb6 gp6) np1 app.loc app.cell
  obtain ⟨o6, n6, e6, c6, dd6, dat6⟩ := pl6
  have f8 := f7.seal (y := Str.ofString "parts") (n := n6) (vs := [w]) (by walk_at "mlook") e6 c6 dat6 np1 gp6 app (.cons dw .nil)
  refine raw_items0 (k := k + 1) hA' f8 (by walk_at "mev") (f8.gr.ext _ _ xd) hsm (fun s9 f9 g9 => ?_) ⟨_, rfl⟩
  have pl9 : PlainL s9.heap l its := xp.keeps f9.gr.keep
  refine raw_append (k := k + 1) (l := l) (its := its) (d := .tup [.str ⟨#[c]⟩, .str ⟨#[a1, a2, a3, a4]⟩]) hA' f9 pl9 hsz (fun Q hq => ?_) ?_ (fun s10 G10 w' h10 g10 f10 dw' pl10 sb10 => ?_) ⟨_, rfl⟩ (fun _ => rfl) (by rfl)
  · exact Attribute_name (raw_nameD f9 (d := .inst l) (by walk_at "mlook") (by kernel_rfl) fun v hv => get_headers O (f9.toEnv).base f9.gr.sub hv (hq _))
  · refine Ev.tup (.cons (Ev.conv T R C (d := .inst l) (b := true) (by walk_at "mev") (fun G v h => ⟨l, h⟩) (by walk_at "mev") Ev.bool ⟨c, hc, rfl⟩) (.cons (Ev.cast (Ev.meth1 (d := .str (Str.ofString "; ")) Ev.str (Meth.str PySem.F.slot_str_join PySem.F.type_str_join) (.cons (d := .list ([(⟨#[a1, a2, a3, a4]⟩ : Str)].map .str)) ?_ .nil) (CallB.join (by show 4 + 0 + 1 * 2 ≤ 1000; decide))) ?_) .nil)) (by show 2 ≤ 1000; decide)
    · show Ev _ _ _ _ _ (.list [.str ⟨#[a1, a2, a3, a4]⟩])
      walk_at "mev"
    · congr 1
  · exact wpAny_execs_nil (hQ s10 G10 w' h10 (g1.trans f10.gr) dw' pl10 sb10)
-- H9



/-- making an object -/
structure MakeD (W : Wd) (fI : Addr) : Prop where
  makes : PySem.W.makesIn W.K W.C = true
  init : ∃ fd, MethD W 0 "__init__" fI fd ∧ ∀ (self : Value) (s : Shared), Base W s.heap → BindsTo s fd ⟨[self], []⟩ [(Str.ofString "self", self), (Str.ofString "headers", .none)]
  sets : PySem.W.findIn W.K (.ref W.C) "__setattr__" = some (some (.builtin "object.__setattr__"))
  over : PySem.W.plainOver W.K W.C = true
  taker : PySem.W.takerIn W.K W.C "_headers" = some none
theorem OkA.under {k : Nat} {A : Around} (x : OkA (k + 1) A) (C : Addr) : OkA k (A.under (.builtin "type.__call__" ⟨.ref C :: [], []⟩)) :=
  ⟨x.handled, by rw [depth_under_make]; have := x.depth; omega, by rw [units_under_make]; have := x.units; omega⟩

theorem make_call {W : Wd} {k : Nat} (T : Tops W) (O : OwnH W) {fI : Addr} (Mk : MakeD W fI) {A : Around} {s : Shared} {G : Part} {Q : Value → Shared → Prop}
    (hA : OkA (k + 3) A) (hB : Base W s.heap) (hs : ∀ b o, G b = some o → s.heap.get? b = some o)
    (hQ : ∀ s' G' x l, Gr s G s' G' → Den W.C G' (.ref x) (.inst l) → G' l = none → s.heap.get? l = none → PlainL s'.heap l #[] → Q (.ref x) s') : wpAny (Md W) A (call (.ref W.C) []) Q nay s := by
  obtain ⟨fd, M, hb⟩ := Mk.init
  obtain ⟨hh, g, dr, tk, os⟩ := s
  refine wpAny_call (PySem.W.make_core (PySem.W.makes_of hB.kin Mk.makes) (PySem.W.looks_findIn hB.kin M.find) (fun self => PySem.W.bind_fn hB.kin self (beq_iff_eq.mp M.isfn)) (.inl rfl) ?_)
  have hAu := hA.under W.C
  have kp : ∀ b o, hh.get? b = some o → ((hh.push PySem.W.emptyDict).push (PySem.W.instObj W.C hh.objs.size)).get? b = some o := fun b o e => Heap.get?_push_of_some _ (Heap.get?_push_of_some _ e)
  have gx : ((hh.push PySem.W.emptyDict).push (PySem.W.instObj W.C hh.objs.size)).get? (hh.objs.size + 1) = some (PySem.W.instObj W.C hh.objs.size) := by
    have := Heap.get?_push_size (hh.push PySem.W.emptyDict) (o := PySem.W.instObj W.C hh.objs.size) rfl
    rwa [Heap.size_push] at this
  have gd : ((hh.push PySem.W.emptyDict).push (PySem.W.instObj W.C hh.objs.size)).get? hh.objs.size = some PySem.W.emptyDict := Heap.get?_push_of_some _ (Heap.get?_push_size _ rfl)
  have nx : hh.get? (hh.objs.size + 1) = none := Heap.get?_none_of_le (Nat.le_succ _)
  have nd : hh.get? hh.objs.size = none := new_none
  have nG : ∀ b, hh.get? b = none → G b = none := fun b hb => by
    cases q : G b with
    | none => rfl
    | some o => have := hs b o q; rw [show hh.get? b = none from hb] at this; cases this
  generalize hh1 : (hh.push PySem.W.emptyDict).push (PySem.W.instObj W.C hh.objs.size) = h1 at kp gx gd ⊢
  refine code_raw (G := G) (xs := [Str.ofString "self", Str.ofString "headers"]) (ds := [.val (.ref (hh.objs.size + 1)), .none]) (fun s1 G1 => G1 = G ∧ s1 = ⟨h1, g, dr, tk, os⟩) M.fn (by have := hAu.depth; omega) (hB.keeps kp) ?_ ?_ fun env s1 G1 s2 g1 x1 f => ?_
  · exact hb _ ⟨h1, g, dr, tk, os⟩ (hB.keeps kp) _ _ _ _ ⟨G, Gr.refl fun b o e => kp b o (hs b o e), rfl, .cons (.val _) (.cons .none .nil), rfl, rfl⟩
  · intro y hy
    rw [M.sc]
    simp only [List.mem_cons, List.not_mem_nil, or_false] at hy
    rcases hy with rfl | rfl <;> exact .inl (by kernel_rfl)
  obtain ⟨rfl, rfl⟩ := x1
  rw [M.sc] at f
  have hA' := hAu.deeper env
  have f : FrOk W (fScope (methStmt 0)).names [(Str.ofString "headers", .none), (Str.ofString "self", .val (.ref (hh.objs.size + 1)))] env ⟨h1, g, dr, tk, os⟩ G1 s2 G1 := f
  -- headers = ... []
  refine wpAny_execs_cons (wpAny_Assign_Name (IfExp_ (wpAny_nay ((Test.cmp (W := W) (k := k) (a := .none) (b := .none) (by walk_at "mev") Ev.none Cmp.isNotNone) _ env s2 G1 (hA'.le (by omega)) f.toEnv) fun c s3 h3 => ?_)) (by rfl))
  obtain ⟨rfl, G3, g3⟩ := h3
  have f3 := f.grow g3
  show wpAny _ _ (eval (.List [] _) env) _ _ s3
  refine List_ (wpAny_nay (EvAll.nil (W := W) (k := k) (names := (fScope (methStmt 0)).names) _ env s3 G3 _ (hA'.le (by omega)) f3.toEnv) fun vs s4 h4 => ?_)
  obtain ⟨G4, g4, d4⟩ := h4
  obtain rfl := d4.nil_inv
  refine wpAny_newList ?_ (line_small (by decide))
  have f4 := f3.grow g4
  have nl : s4.heap.get? s4.heap.objs.size = none := new_none
  have apl := f4.apart nl
  have gp : Gr s4 G4 { s4 with heap := s4.heap.push { cls := .type "list", data := .seq #[] } } G4 := Gr.heap (t := s4.toks) g4.sub (fun b o e => Heap.get?_push_of_some _ e)
  generalize hl : s4.heap.objs.size = l at nl apl
  have nGl : G4 l = none := by
    cases q : G4 l with
    | none => rfl
    | some o => rw [g4.sub _ _ q] at nl; cases nl
  refine (f4.grow gp).store (d := .val (.ref l)) (.inl (by kernel_rfl)) (.val _) fun s6 f6 ks6 _ => ?_
  have pl6 : s6.heap.get? l = some { cls := .type "list", data := .seq #[] } := ks6 _ _ apl.loc (fun c ec z => apl.cell _ _ ec z.symm) (by subst hl; exact Heap.get?_push_size _ rfl)
  have l1 : h1.get? l = none := get_none f4.gr.keep nl
  -- if type(headers) is not list
  rw [exec_If_cons]
  refine wpAny_bind (wpAny_standAt (wpAny_bind ?_))
  refine wpAny_isTrue_Compare1 (Call_ (eval_glob f6.toEnv T.type (by kernel_rfl) (PyProof.Rows.callWith_type1 (wpAny_nay ((EvAll.cons (W := W) (k := k) (d := .val (.ref l)) (by walk_at "mev") .nil (by intro _; rfl)) _ env s6 G4 _ (hA'.le (by omega)) f6.toEnv) fun vs s7 h7 => ?_) (by rfl) (by rfl)) (by kernel_rfl))) (by rfl)
  obtain ⟨G7, g7, d7⟩ := h7
  have f7 := f6.grow g7
  obtain ⟨v7, rfl, dv⟩ := d7.one
  obtain rfl := dv.inv
  have pl7 := g7.keep _ _ pl6
  refine call_type_of (Tx := "list") ⟨_, pl7, rfl⟩ (by decide +kernel) ?_
  refine eval_glob f7.toEnv T.list (by kernel_rfl) ?_ (by kernel_rfl)
  refine wpAny_isNot_self rfl (wpAny_truthy_bool ?_)
  show wpAny _ _ (execs _ env) _ _ s7
  -- self._headers = headers
  have hsz : h1.objs.size = hh.objs.size + 2 := by rw [← hh1, Heap.size_push, Heap.size_push]
  obtain ⟨m, cm, ic, hv⟩ := f7.live
  have hfr : h1.objs.size ≤ env.locals := ic.toInCall.fresh
  have x7 := f7.gr.keep _ _ gx
  have dx7 := f7.gr.keep _ _ gd
  have hxL : hh.objs.size + 1 ≠ env.locals := by intro e; rw [hsz] at hfr; have : hh.objs.size + 2 ≤ hh.objs.size + 1 := e ▸ hfr; omega
  have hdL : hh.objs.size ≠ env.locals := by intro e; rw [hsz] at hfr; have : hh.objs.size + 2 ≤ hh.objs.size := e ▸ hfr; omega
  have hxl : hh.objs.size + 1 ≠ l := fun e => by rw [e, l1] at gx; cases gx
  have hdl : hh.objs.size ≠ l := fun e => by rw [e, l1] at gd; cases gd
  have F7 : Fr hh env.locals s7.heap m := ⟨ic.toInCall.ns, fun b o e => f7.gr.keep b o (kp b o e), by rw [hsz] at hfr; exact Nat.le_trans (Nat.le_add_right _ 2) hfr⟩
  have N7 : News hh env.locals s7.heap [(hh.objs.size + 1, PySem.W.instObj W.C hh.objs.size), (l, { cls := .type "list", data := .seq #[] }), (hh.objs.size, PySem.W.dictOf [] 0)] := by
    intro p hp
    simp only [List.mem_cons, List.not_mem_nil, or_false] at hp
    rcases hp with rfl | rfl | rfl
    · exact ⟨x7, hxL, nx⟩
    · exact ⟨pl7, apl.loc, get_none kp l1⟩
    · exact ⟨dx7, hdL, nd⟩
  refine wpAny_execs_cons (plainObj_wpAny_Assign_Attribute (raw_name (tk := 0) f7 (x := Str.ofString "headers") (by walk_at "mlook") (by kernel_rfl) (raw_name (tk := 0) f7 (x := Str.ofString "self") (by walk_at "mlook") (by kernel_rfl) ?_)) (by rfl))
  refine PySem.W.set_dict (h₀ := hh) (K := W.K) (C := W.C) (es := []) (n := 0) F7 hB.kin N7 ⟨x7, rfl, rfl, dx7⟩ rfl Mk.sets Mk.over Mk.taker O.hasd (by rfl) (es' := [⟨PyData.keyHash W.w.params (Str.ofString "_headers"), .str (Str.ofString "_headers") (s7.toks + 1), .ref l⟩]) (n' := 1) (by rfl)
    (PySem.W.Upd.tail (Nat.succ_ne_self hh.objs.size) (PySem.W.Upd.tail (fun e => hdl e.symm) (PySem.W.Upd.head fun p hp => nomatch hp))) (by show 1 ≤ 1000; decide) fun h8 F8 N8 => ?_
  have X8 := N8 (hh.objs.size + 1, PySem.W.instObj W.C hh.objs.size) (.head _)
  have L8 := N8 (l, { cls := .type "list", data := .seq #[] }) (.tail _ (.head _))
  have D8 := N8 (hh.objs.size, PySem.W.dictOf [⟨PyData.keyHash W.w.params (Str.ofString "_headers"), .str (Str.ofString "_headers") (s7.toks + 1), .ref l⟩] 1) (.tail _ (.tail _ (.head _)))
  obtain ⟨h7', tk7, e7⟩ := f7.gr.same
  have E8 : EnvOk W (fScope (methStmt 0)).names [] env { s7 with heap := h8, toks := s7.toks + 2 } G1 := ⟨f7.kind, f7.nms, f7.globals, f7.builtins, hB.keeps F8.keep, fun b o e => F8.keep b o (hs b o e), fun _ _ e => nomatch e⟩
  -- if __debug__
  show wpAny _ _ (execs _ env) _ _ _
  rw [exec_If_cons]
  refine wpAny_bind (wpAny_standAt (wpAny_bind (wpAny_nay ((Test.plain (W := W) (k := k) (names := (fScope (methStmt 0)).names) (ρ := []) (a := .bool true) Ev.bool Tru.bool) _ env _ G1 (hA'.le (by omega)) E8) fun c s9 h9 => ?_)))
  obtain ⟨rfl, G9, g9⟩ := h9
  -- for k, v in headers
  have F9 : s9.heap.Ns env.locals m := F8.ns.keeps g9.keep
  have mh : m (Str.ofString "headers") = some (.ref l) := by
    rcases hv (Str.ofString "headers") _ (by walk_at "mlook") with ⟨_, u, q, hd⟩ | ⟨q, _⟩
    · cases hd; exact q
    · exact absurd q (by rw [show (fScope (methStmt 0)).names.lookup (Str.ofString "headers") = some .local by kernel_rfl]; decide)
  have L9 := g9.keep _ _ L8.1
  refine wpAny_execs_cons (wpAny_For (wpAny_Name (wpAny_loadName_local f7.kind (by show env.scope.names.lookup _ = _; rw [f7.nms]; kernel_rfl) F9 mh (wpAny_pyIter_list ⟨_, L9, rfl, 0, rfl⟩ ?_)) (by kernel_rfl)))
  refine codeAny_forLoop_any (fun n s' => s' = _) ?_ 0 rfl
  rintro n s' rfl
  have nit : s9.heap.get? s9.heap.objs.size = none := new_none
  refine wpAny_pyNext_list_end (items := #[]) hA'.handled ⟨_, Heap.get?_push_size _ rfl, rfl, rfl⟩ ⟨_, Heap.get?_push_of_some _ L9, rfl, 0, rfl⟩ rfl fun h' hx => wpAny_execs_nil (wpAny_execs_nil ?_)
  have k9 : ∀ b o, s9.heap.get? b = some o → h'.get? b = some o := fun b o e => hx b o (fun z => by rw [z, nit] at e; cases e) (Heap.get?_push_of_some _ e)
  refine ⟨rfl, ?_⟩
  have ndl : (put (put G1 hh.objs.size (PySem.W.dictOf [⟨PyData.keyHash W.w.params (Str.ofString "_headers"), .str (Str.ofString "_headers") (s7.toks + 1), .ref l⟩] 1)) (hh.objs.size + 1) (PySem.W.instObj W.C hh.objs.size)) l = none := (if_neg (fun e => hxl e.symm)).trans ((if_neg (fun e => hdl e.symm)).trans (nG _ (get_none kp l1)))
  have a8 : ∀ b o, h8.get? b = some o → h'.get? b = some o := fun b o e => k9 b o (g9.keep b o e)
  have gdx : (put (put G1 hh.objs.size (PySem.W.dictOf [⟨PyData.keyHash W.w.params (Str.ofString "_headers"), .str (Str.ofString "_headers") (s7.toks + 1), .ref l⟩] 1)) (hh.objs.size + 1) (PySem.W.instObj W.C hh.objs.size)) hh.objs.size = some (PySem.W.dictOf [⟨PyData.keyHash W.w.params (Str.ofString "_headers"), .str (Str.ofString "_headers") (s7.toks + 1), .ref l⟩] 1) :=
    (if_neg (fun e => absurd e (Nat.ne_of_lt (Nat.lt_succ_self _)))).trans (put_self ..)
  refine hQ { s9 with heap := h' } _ (hh.objs.size + 1) l ?_ (.inst (dx := hh.objs.size) (e := ⟨PyData.keyHash W.w.params (Str.ofString "_headers"), .str (Str.ofString "_headers") (s7.toks + 1), .ref l⟩) (n := 1) (t := s7.toks + 1) (put_self ..) gdx rfl rfl) ndl (get_none kp l1) ⟨_, 0, k9 _ _ L9, rfl, rfl, rfl⟩
  refine ⟨?_, fun b o e => a8 b o (F8.keep b o e), fun b o e => put_ext (by rw [show put G1 hh.objs.size _ (hh.objs.size + 1) = G1 (hh.objs.size + 1) from if_neg (Nat.succ_ne_self _)]; exact nG _ nx) _ _ (put_ext (nG _ nd) _ _ e), fun b o e => ?_, fun b o e => ?_⟩
  · obtain ⟨h9', tk9, e9⟩ := g9.same
    exact ⟨h', s9.toks, by rw [e9, e7]⟩
  · unfold Mine.put at e
    by_cases q1 : b = hh.objs.size + 1
    · subst q1; rw [if_pos rfl] at e; cases e; exact a8 _ _ X8.1
    · rw [if_neg q1] at e
      by_cases q2 : b = hh.objs.size
      · subst q2; rw [if_pos rfl] at e; cases e; exact a8 _ _ D8.1
      · rw [if_neg q2] at e; exact a8 _ _ (F8.keep _ _ (hs _ _ e))
  · unfold Mine.put at e
    by_cases q1 : b = hh.objs.size + 1
    · subst q1; exact .inr nx
    · rw [if_neg q1] at e
      by_cases q2 : b = hh.objs.size
      · subst q2; exact .inr nd
      · rw [if_neg q2] at e; exact .inl e
-- H10



section
variable {W : Wd} {k : Nat} {names : List (Str × NameKind)} {ρ : List (Str × D)}
def tupsD (hs : List (Str × Str)) : List D := hs.map fun p => .tup [.str p.1, .str p.2]
theorem Ev.hdrs (O : OwnH W) {x : Str} {p pos : Pos} {hs : List (Str × Str)} (hx : Ev W k names ρ (.Name x p) (.hdr hs)) : Ev W k names ρ (.Attribute (.Name x p) (Str.ofString "_headers") pos) (.list (tupsD hs)) := by
  intro A env s G hA hE
  refine Attribute_name (wpAny_nay (hx A env s G hA hE) fun v s1 ⟨G1, g1, d1⟩ => ?_)
  obtain ⟨l, o, n, vs, e1, e2, e3, e4, r⟩ := d1.inv
  exact get_headers O (hE.grow g1).base g1.sub e1 ⟨G1, g1.tok _, .list e2 e3 e4 r⟩
theorem Ev.methU {i : Nat} {o e : Expr} {es : List Expr} {name : Str} {ap pos : Pos} {a : Addr} {fd : FuncData} {d r : D} {ds : List D} (M : MethD W i name a fd) (ho : Ev W k names ρ o d) (hi : ∀ G v, Den W.C G v d → ∃ l, Den W.C G v (.inst l)) (ha : EvAll W k names ρ (e :: es) ds) (hc : CallB W k (.ref a) (d :: ds) r)
    (hn : (name == Str.ofString "_headers") = false := by kernel_rfl)
    (he : ∀ env, ∃ pl, eval (.Call (.Attribute o name ap) (e :: es) [] pos) env = (do
      let ov ← eval o env
      standAt ap.atName
      let (f, first) ← holding [ov] (getMethod ov name pl)
      callWith pos f first (backTo pos (starEach (e :: es) env)) []) := by intro _; exact ⟨_, rfl⟩)
    (hs : ∀ env, starEach (e :: es) env = (false, eval e env) :: starEach es env := by intro _; rfl) (hp : ∀ env, (backTo pos (starEach es env)).any (·.1) = false := by intro _; rfl) : Ev W k names ρ (.Call (.Attribute o name ap) (e :: es) [] pos) r := by
  intro A env s G hA hE
  obtain ⟨pl, he⟩ := he env
  refine MethodCall_ (wpAny_nay (ho A env s G hA hE) fun v s1 ⟨G1, g1, d1⟩ => ?_) he
  obtain ⟨l, di⟩ := hi _ _ d1
  have E1 := hE.grow g1
  refine get_meth M hn E1.base g1.sub di ?_
  refine PySem.W.callWith_K (h₀ := s1.heap) E1.base.kin M.keep ?_ (hs env) (hp env)
  refine wpAny_nay (ha A env s1 G1 pos hA E1) fun vs s2 ⟨G2, g2, d2⟩ => ?_
  have E2 := E1.grow g2
  refine ⟨E2.base.kin, ?_⟩
  exact wpAny_nay (hc A s2 G2 (v :: vs) hA E2.base g2.sub (.cons (d1.mono g2.ext) d2)) fun v2 s3 ⟨G3, g3, d3⟩ => ⟨G3, (g1.trans g2).trans g3, d3⟩
theorem Ev.methU0 {i : Nat} {o : Expr} {name : Str} {ap pos : Pos} {a : Addr} {fd : FuncData} {d r : D} (M : MethD W i name a fd) (ho : Ev W k names ρ o d) (hi : ∀ G v, Den W.C G v d → ∃ l, Den W.C G v (.inst l)) (hc : CallB W k (.ref a) [d] r)
    (hn : (name == Str.ofString "_headers") = false := by kernel_rfl)
    (he : ∀ env, ∃ pl, eval (.Call (.Attribute o name ap) [] [] pos) env = (do
      let ov ← eval o env
      standAt ap.atName
      let (f, first) ← holding [ov] (getMethod ov name pl)
      callWith pos f first (backTo pos (starEach [] env)) []) := by intro _; exact ⟨_, rfl⟩) : Ev W k names ρ (.Call (.Attribute o name ap) [] [] pos) r := by
  intro A env s G hA hE
  obtain ⟨pl, he⟩ := he env
  refine MethodCall_ (wpAny_nay (ho A env s G hA hE) fun v s1 ⟨G1, g1, d1⟩ => ?_) he
  obtain ⟨l, di⟩ := hi _ _ d1
  have E1 := hE.grow g1
  refine get_meth M hn E1.base g1.sub di ?_
  refine PySem.W.callWith_K0 E1.base.kin M.keep ?_
  exact wpAny_nay (hc A s1 G1 [v] hA E1.base g1.sub (.cons d1 .nil)) fun v2 s3 ⟨G3, g3, d3⟩ => ⟨G3, g1.trans g3, d3⟩
theorem Turns.filt {α : Type} {T : D → Option D → Prop} {f g : α → D} {c : α → Bool} : ∀ {l : List α}, (∀ p ∈ l, T (f p) (if c p = true then Option.some (g p) else none)) → Turns T (l.map f) ((l.filter c).map g)
  | [], _ => .nil
  | p :: l, h => by
    have h1 := h p (by simp)
    have ih := Turns.filt (T := T) (f := f) (g := g) (c := c) (l := l) fun q hq => h q (by simp [hq])
    rw [List.map_cons, List.filter_cons]
    cases hc : c p with
    | true => rw [hc, if_pos rfl] at h1; rw [if_pos rfl]; exact .keep h1 ih
    | false => rw [hc, if_neg (by decide)] at h1; rw [if_neg (by decide)]; exact .drop h1 ih
end
/-- a method of the class, of the arguments by place -/
def PosD (W : Wd) (i : Nat) (name : Str) (xs : List Str) (a : Addr) (fd : FuncData) : Prop := MethD W i name a fd ∧ ∀ vs : List Value, vs.length = xs.length → bindArgs fd ⟨vs, []⟩ = pure (xs.zip vs)

theorem getall_ok {W : Wd} {k : Nat} (T : Tops W) (R : ResAt W) (C : ConvD W) (O : OwnH W) {a : Addr} {fd : FuncData} (M : PosD W 7 "get_all" ["self", "name"] a fd) {hs : List (Str × Str)} {l : Nat} (hl : l < 3) (hn : hs.length ≤ 1000) (h1 : ∀ p ∈ hs, p.1.length ≤ 1000) :
    CallB W (k + 3) (.ref a) [.hdr hs, .str (loc l)] (.list ((hs.filter fun p => Txt.lower p.1 == loc l).map fun p => .str p.2)) := by
  have hlow : Txt.lower (loc l) = loc l := match l, hl with | 0, _ => by kernel_rfl | 1, _ => by kernel_rfl | 2, _ => by kernel_rfl
  have hnm : ∃ c, Nm c ∧ loc l = ⟨#[c]⟩ := match l, hl with | 0, _ => ⟨114, .inl rfl, by kernel_rfl⟩ | 1, _ => ⟨103, .inr (.inl rfl), by kernel_rfl⟩ | 2, _ => ⟨98, .inr (.inr (.inl rfl)), by kernel_rfl⟩
  have hln : (loc l).length ≤ 1000 := by obtain ⟨c, _, e⟩ := hnm; rw [e]; show 1 ≤ 1000; decide
  refine CallB.fn M.1.fn M.2 (by rfl) (fun y hy => ?_) ?_
  · rw [M.1.sc]
    simp only [List.mem_cons, List.not_mem_nil, or_false] at hy
    rcases hy with rfl | rfl
    · exact .inl (by kernel_rfl)
    · exact .inr (by kernel_rfl)
  rw [M.1.sc]
  show Ex W (k + 2) (fScope (methStmt 7)).names [(Str.ofString "name", .str (loc l)), (Str.ofString "self", .hdr hs)] (fBody (methStmt 7)) _
  refine Ex.assign (d := .str (loc l)) (Ev.conv (k := k + 1) T R C (d := .hdr hs) (b := true) (by walk_at "mev") (fun G v h => hdr_inst h) (Ev.cast (Ev.meth0 (d := .str (loc l)) (by walk_at "mev") (Meth.str PySem.F.slot_str_lower PySem.F.type_str_lower) (CallB.lower hln)) (by rw [hlow])) Ev.bool hnm) ?_ (.inr (by kernel_rfl))
  refine Ex.ret (Ev.comp (ItEv.list (Ev.hdrs O (by walk_at "mev"))) (Turns.filt fun p hp => ?_) (by show (hs.map _).length ≤ 1000; rw [List.length_map]; exact hn) (by kernel_rfl))
  have h0 : p.1.length ≤ 1000 := h1 p hp
  split
  · rename_i hc
    refine ⟨.inr ⟨_, rfl, ?_⟩, ?_⟩
    · rw [← hc]
      refine Test.cmp (a := .str (Txt.lower p.1)) (b := .str (loc l)) ?_ ?_ Cmp.seq
      · refine Ev.meth0 (d := .str p.1) ?_ (Meth.str PySem.F.slot_str_lower PySem.F.type_str_lower) (CallB.lower h0)
        exact Ev.item (a := .tup [.str p.1, .str p.2]) (by walk_at "mev") Ev.int (Item.tup (by decide) (by show (0 : Int) < 2; decide) (by show 2 < 1000; decide) rfl)
      · walk_at "mev"
    · exact Ev.item (a := .tup [.str p.1, .str p.2]) (by walk_at "mev") Ev.int (Item.tup (by decide) (by show (1 : Int) < 2; decide) (by show 2 < 1000; decide) rfl)
  · rename_i hc
    have hc' : (Txt.lower p.1 == loc l) = false := by simpa using hc
    refine ⟨_, rfl, ?_⟩
    rw [← hc']
    refine Test.cmp (a := .str (Txt.lower p.1)) (b := .str (loc l)) ?_ ?_ Cmp.seq
    · refine Ev.meth0 (d := .str p.1) ?_ (Meth.str PySem.F.slot_str_lower PySem.F.type_str_lower) (CallB.lower h0)
      exact Ev.item (a := .tup [.str p.1, .str p.2]) (by walk_at "mev") Ev.int (Item.tup (by decide) (by show (0 : Int) < 2; decide) (by show 2 < 1000; decide) rfl)
    · walk_at "mev"
theorem keys_ok {W : Wd} {k : Nat} (O : OwnH W) {a : Addr} {fd : FuncData} (M : PosD W 9 "keys" ["self"] a fd) {hs : List (Str × Str)} (hn : hs.length ≤ 1000) :
    CallB W (k + 1) (.ref a) [.hdr hs] (.list (hs.map fun p => .str p.1)) := by
  refine CallB.fn M.1.fn M.2 (by rfl) (fun y hy => ?_) ?_
  · rw [M.1.sc]
    simp only [List.mem_cons, List.not_mem_nil, or_false] at hy
    subst hy
    exact .inl (by kernel_rfl)
  rw [M.1.sc]
  show Ex W k (fScope (methStmt 9)).names [(Str.ofString "self", .hdr hs)] (fBody (methStmt 9)) _
  refine Ex.ret (Ev.compPair (ds := tupsD hs) (Ev.hdrs O (by walk_at "mev")) (fun d hd => ?_) (by kernel_rfl) (by kernel_rfl) (by decide) ?_ (by show (hs.map _).length ≤ 1000; rw [List.length_map]; exact hn) (by kernel_rfl))
  · obtain ⟨p, _, rfl⟩ := List.mem_map.mp hd
    exact ⟨_, _, rfl⟩
  · have h := Turns.filt (T := PTurn W k (relabelN (fScope (methStmt 9)).names [(Str.ofString ".0", NameKind.local), (Str.ofString "k", NameKind.local), (Str.ofString "v", NameKind.local)]) (inh [(Str.ofString ".0", NameKind.local), (Str.ofString "k", NameKind.local), (Str.ofString "v", NameKind.local)] [(Str.ofString "self", .hdr hs)]) (Str.ofString "k") (.Name "k" ⟨102, 16, 102, 17⟩))
      (f := fun p : Str × Str => D.tup [.str p.1, .str p.2]) (g := fun p => D.str p.1) (c := fun _ => true) (l := hs) (fun p _ => ⟨_, _, rfl, by walk_at "mev"⟩)
    have e : (hs.filter fun _ => true) = hs := List.filter_eq_self.mpr fun _ _ => rfl
    rw [e] at h
    exact h
-- H11
section
variable {W : Wd} {k : Nat} {names : List (Str × NameKind)} {ρ : List (Str × D)} {env : Env} {s₀ s : Shared} {G₀ G : Part}
/-- what stands apart from the frame and from one object is kept -/
def KeptL (env : Env) (l : Addr) (s s' : Shared) : Prop := ∀ b o, b ≠ l → Apart env b → s.heap.get? b = some o → s'.heap.get? b = some o
theorem KeptL.refl {l : Addr} : KeptL env l s s := fun _ _ _ _ e => e
theorem KeptL.trans {l : Addr} {s' s'' : Shared} (x : KeptL env l s s') (y : KeptL env l s' s'') : KeptL env l s s'' := fun b o h1 h2 e => y b o h1 h2 (x b o h1 h2 e)

/-- a move: what is apart stays, the part grows -/
structure Mv (env : Env) (l : Addr) (s : Shared) (G : Part) (s' : Shared) (G' : Part) : Prop where
  kept : KeptL env l s s'
  ext : ∀ b o, G b = some o → G' b = some o
  new : ∀ b o, G' b = some o → G b = some o ∨ s.heap.get? b = none
theorem Mv.refl {l : Addr} : Mv env l s G s G := ⟨KeptL.refl, fun _ _ e => e, fun _ _ e => .inl e⟩
theorem Mv.of_gr {l : Addr} {s' : Shared} {G' : Part} (g : Gr s G s' G') : Mv env l s G s' G' := ⟨fun b o _ _ e => g.keep b o e, g.ext, g.new⟩
theorem Mv.trans {l : Addr} {s' s'' : Shared} {G' G'' : Part} (x : Mv env l s G s' G') (y : Mv env l s' G' s'' G'') (f : FrOk W names ρ env s₀ G₀ s' G') (hl : ∃ o, s'.heap.get? l = some o) : Mv env l s G s'' G'' := by
  refine ⟨x.kept.trans y.kept, fun b o e => y.ext b o (x.ext b o e), fun b o e => ?_⟩
  rcases y.new b o e with q | q
  · exact x.new b o q
  · refine .inr ?_
    cases z : s.heap.get? b with
    | none => rfl
    | some o' =>
      exfalso
      by_cases hb : b = l
      · subst hb; obtain ⟨p, hp⟩ := hl; rw [q] at hp; cases hp
      · by_cases ha : Apart env b
        · rw [x.kept b o' hb ha z] at q; cases q
        · refine ha ⟨fun e1 => ?_, fun n c e1 e2 => ?_⟩
          · obtain ⟨p, hp⟩ := f.liveL; rw [← e1, q] at hp; cases hp
          · obtain ⟨p, hp⟩ := f.liveC e1; rw [e2, q] at hp; cases hp

/-- for x in iter, one object besides the frame changed -/
theorem raw_for {A : Around} {x : Str} {px p : Pos} {iter : Expr} {body rest : List Stmt} {ds : List D} {l : Addr} {Q : Flow → Shared → Prop} (L : Nat → Shared → Part → Prop)
    (hA : OkA k A) (f : FrOk W names ρ env s₀ G₀ s G) (hi : ItEv W k names ρ iter ds) (hx : names.lookup x = some .local)
    (gl : G l = none)
    (Lk : ∀ i s G s' G', L i s G → (∀ o, s.heap.get? l = some o → s'.heap.get? l = some o) → (∀ b o, G b = some o → G' b = some o) → L i s' G') (Lex : ∀ i s G, L i s G → ∃ o, s.heap.get? l = some o) (apl : Apart env l)
    (start : L 0 s G)
    (turn : ∀ i d s' G', ds[i]? = some d → FrOk W names ((x, d) :: ρ) env s₀ G₀ s' G' → G' l = none → L i s' G' →
      wpAny (Md W) A (execs body env) (fun fl s'' => fl = .next ∧ ∃ G'', FrOk W names ρ env s₀ G₀ s'' G'' ∧ G'' l = none ∧ L (i + 1) s'' G'' ∧ Mv env l s' G' s'' G'') nay s')
    (done : ∀ s' G', FrOk W names ρ env s₀ G₀ s' G' → G' l = none → L ds.length s' G' → Mv env l s G s' G' → wpAny (Md W) A (execs rest env) Q nay s')
    (hs : ∀ v, foldedSetIterable iter env v = pure v := by intro _; rfl) :
    wpAny (Md W) A (execs (.For (.Name x px) iter body [] p :: rest) env) Q nay s := by
  refine wpAny_execs_cons (wpAny_For (wpAny_nay (hi A env s G hA f.toEnv) fun v s1 ⟨G1, g1, hit⟩ => hit _ fun I s2 it _ => ?_) hs)
  have f1 := f.grow g1
  have L1 := Lk _ _ _ _ _ start (fun o e => g1.keep _ o e) g1.ext
  obtain ⟨fp, P, St, n, hnn, walks, st, same, keep, low, new, live, fpG, is⟩ := it
  have gl1 : G1 l = none := none_of_new g1.new gl (Lex _ _ _ start)
  obtain ⟨h2', tk2, e2⟩ := same
  have g2 : Gr s1 G1 s2 G1 := by rw [e2]; exact Gr.heap (t := tk2) g1.sub (fun b o e => by have := keep b o e; rw [e2] at this; exact this)
  have f2 := f1.grow g2
  have apI := f1.apart new
  have hIl : I ≠ l := fun e => by obtain ⟨o, ho⟩ := Lex _ _ _ L1; rw [← e, new] at ho; cases ho
  have G1I : G1 I = none := by
    cases q : G1 I with
    | none => rfl
    | some o => rw [g1.sub _ _ q] at new; cases new
  have apfp : ∀ b ∈ fp, Apart env b ∧ b ≠ l := fun b hb => by
    rcases fpG b hb with rfl | ⟨o, ho⟩
    · exact ⟨apI, hIl⟩
    · refine ⟨⟨fun e => ?_, fun nn c e q => ?_⟩, fun e => ?_⟩
      · rw [e, f1.offL] at ho; cases ho
      · rw [← q, f1.offC _ _ e] at ho; cases ho
      · rw [e, gl1] at ho; cases ho
  have sI : s₀.heap.get? I = none := get_none f1.gr.keep new
  have nI : s.heap.get? I = none := get_none g1.keep new
  have m12 : Mv env l s G s2 G1 := .of_gr (g1.trans g2)
  refine codeAny_forLoop (fun j s' => ∃ i G', j = n + 1 - i ∧ i ≤ n ∧ FrOk W names ρ env s₀ G₀ s' G' ∧ G' l = none ∧ G' I = none ∧ L i s' G' ∧ St i s'.heap ∧ Mv env l s G s' G' ∧ (∀ b o, G1 b = some o → G' b = some o)) ?_ (n + 1)
    ⟨0, G1, rfl, Nat.zero_le _, f2, gl1, G1I, Lk _ _ _ _ _ L1 (fun o e => g2.keep _ o e) (fun _ _ e => e), st, m12, fun _ _ e => e⟩
  rintro j s' ⟨i, G', rfl, hle, f', gl', gI', L', st', m', ex'⟩
  by_cases hlt : i < n
  · refine walks.item i s' _ _ hlt st' fun v h3 tk3 hP st3 hk3 => ?_
    obtain ⟨d, hd, hdv⟩ := is i v hlt hP
    have hsub3 : ∀ b o, G' b = some o → h3.get? b = some o := fun b o e => hk3 b o (fun q => by rw [List.mem_singleton.mp q, gI'] at e; cases e) (f'.gr.sub b o e)
    have gi : GrL I s' G' { s' with heap := h3, toks := tk3 } G' := ⟨⟨h3, tk3, rfl⟩, fun b o hb e => hk3 b o (by simpa using hb) e, fun _ _ e => e, hsub3, fun _ _ e => .inl e⟩
    have f3 := f'.mut gi sI apI.loc apI.cell
    have L3 : L i { s' with heap := h3, toks := tk3 } G' := Lk _ _ _ _ _ L' (fun o e => hk3 _ o (by simpa using Ne.symm hIl) e) (fun _ _ e => e)
    refine wpAny_assign_Name (f3.store (.inl hx) (hdv.mono ex') fun s4 f4 ks4 _ => ?_)
    have k4 : ∀ b o, Apart env b → h3.get? b = some o → s4.heap.get? b = some o := fun b o ab e => ks4 b o ab.loc (fun c ec z => ab.cell _ _ ec z.symm) e
    have L4 : L i s4 G' := Lk _ _ _ _ _ L3 (fun o e => k4 _ o apl e) (fun _ _ e => e)
    refine wpAny_mono (turn i d s4 G' hd f4 gl' L4) (fun fl s5 h5 => ?_) fun _ _ e => e.elim
    obtain ⟨rfl, G5, f5, gl5, L5, m5⟩ := h5
    obtain ⟨oI, hoI⟩ := live _ _ st3
    have st4 : St (i + 1) s4.heap := walks.frame _ _ _ st3 fun b hb o e => k4 b o (apfp b hb).1 e
    have st5 : St (i + 1) s5.heap := walks.frame _ _ _ st4 fun b hb o e => m5.kept b o (apfp b hb).2 (apfp b hb).1 e
    have gI5 : G5 I = none := none_of_new m5.new gI' ⟨oI, k4 _ _ apI hoI⟩
    have m4 : Mv env l s G s4 G' := ⟨fun b o hb ha e => k4 b o ha (hk3 b o (fun q => by rw [List.mem_singleton.mp q, nI] at e; cases e) (m'.kept b o hb ha e)), m'.ext, m'.new⟩
    exact ⟨n + 1 - (i + 1), by omega, i + 1, G5, rfl, by omega, f5, gl5, gI5, L5, st5, m4.trans m5 f4 (Lex _ _ _ L4), fun b o e => m5.ext b o (ex' b o e)⟩
  · have hin : i = n := by omega
    subst hin
    refine walks.done s' _ _ st' fun h3 tk3 hk3 => wpAny_execs_nil ?_
    have hsub3 : ∀ b o, G' b = some o → h3.get? b = some o := fun b o e => hk3 b o (fun q => by rw [List.mem_singleton.mp q, gI'] at e; cases e) (f'.gr.sub b o e)
    have gi : GrL I s' G' { s' with heap := h3, toks := tk3 } G' := ⟨⟨h3, tk3, rfl⟩, fun b o hb e => hk3 b o (by simpa using hb) e, fun _ _ e => e, hsub3, fun _ _ e => .inl e⟩
    have f3 := f'.mut gi sI apI.loc apI.cell
    have L3 : L i { s' with heap := h3, toks := tk3 } G' := Lk _ _ _ _ _ L' (fun o e => hk3 _ o (by simpa using Ne.symm hIl) e) (fun _ _ e => e)
    have m4 : Mv env l s G { s' with heap := h3, toks := tk3 } G' := ⟨fun b o hb ha e => hk3 b o (fun q => by rw [List.mem_singleton.mp q, nI] at e; cases e) (m'.kept b o hb ha e), m'.ext, m'.new⟩
    subst hnn
    exact done _ G' f3 gl' L3 m4
end
-- H12



theorem size_sm {W : Wd} {h : Heap} (hB : Base W h) : (h.objs.size == sysModules) = false := by
  obtain ⟨o, _, _, ho, _⟩ := hB.g
  have h1 := Heap.lt_size ho
  have h2 : (1 : Nat) ≤ mainGlobals := by decide
  have h3 : h.objs.size ≠ 1 := fun e => by rw [e] at h1; exact absurd h1 (Nat.not_lt.mpr h2)
  exact beq_false_of_ne h3

section
variable {W : Wd} {k : Nat}
/-- the words, their letters -/
abbrev wrdD (w : Nat → Nat → UInt8) (i : Nat) : D := .byt #[w i 0, w i 1, w i 2, w i 3]
abbrev wrdS (w : Nat → Nat → UInt8) (i : Nat) : Str := ⟨#[(w i 0).toNat, (w i 1).toNat, (w i 2).toNat, (w i 3).toNat]⟩
def nmS (b : Bool) : Str := if b = true then Str.ofString "rgb" else Str.ofString "RGB"
def nmL (b : Bool) (l : Nat) : Str := if b = true then loc l else upc l
theorem item_nm {b : Bool} {l : Nat} (hl : l < 3) : Item W k (.str (nmS b)) (.int (l : Nat)) (.str (nmL b l)) := by
  cases b with
  | true => exact item_lo hl
  | false => exact item_up hl
theorem nm_is (b : Bool) {l : Nat} (hl : l < 3) : ∃ c, Nm c ∧ nmL b l = ⟨#[c]⟩ := by
  unfold Nm
  match b, l, hl with
  | true, 0, _ => exact ⟨114, by decide, by kernel_rfl⟩
  | true, 1, _ => exact ⟨103, by decide, by kernel_rfl⟩
  | true, 2, _ => exact ⟨98, by decide, by kernel_rfl⟩
  | false, 0, _ => exact ⟨82, by decide, by kernel_rfl⟩
  | false, 1, _ => exact ⟨71, by decide, by kernel_rfl⟩
  | false, 2, _ => exact ⟨66, by decide, by kernel_rfl⟩
/-- the headers of one place -/
def hdOf (w : Nat → Nat → UInt8) (b : Nat → Bool) (i l : Nat) : Str × Str := (nmL (b i) l, wrdS w i)
def hdsTo (w : Nat → Nat → UInt8) (b : Nat → Bool) (ls : Nat → List Nat) (n : Nat) : List (Str × Str) := (List.range n).flatMap fun i => (ls i).map (hdOf w b i)
theorem hdsTo_succ (w : Nat → Nat → UInt8) (b : Nat → Bool) (ls : Nat → List Nat) (n : Nat) : hdsTo w b ls (n + 1) = hdsTo w b ls n ++ (ls n).map (hdOf w b n) := by
  unfold hdsTo; rw [List.range_succ, List.flatMap_append]; simp
/-- the table's list holds the headers -/
def Holds (W : Wd) (l : Addr) (hs : List (Str × Str)) (s : Shared) (G : Part) : Prop := ∃ vs : List Value, PlainL s.heap l vs.toArray ∧ DenAll W.C G vs (tupsD hs)
theorem Holds.go {l : Addr} {hs : List (Str × Str)} {s s' : Shared} {G G' : Part} (x : Holds W l hs s G) (k : ∀ o, s.heap.get? l = some o → s'.heap.get? l = some o) (e : ∀ b o, G b = some o → G' b = some o) : Holds W l hs s' G' := by
  obtain ⟨vs, ⟨o, n, h1, h2⟩, d⟩ := x
  exact ⟨vs, ⟨o, n, k o h1, h2⟩, d.mono e⟩
theorem Holds.ex {l : Addr} {hs : List (Str × Str)} {s : Shared} {G : Part} (x : Holds W l hs s G) : ∃ o, s.heap.get? l = some o := let ⟨_, ⟨o, _, h, _⟩, _⟩ := x; ⟨o, h⟩

variable {names : List (Str × NameKind)} {ρ : List (Str × D)} {env : Env} {s₀ s : Shared} {G₀ G : Part}
/-- table.add_header(a, b) -/
theorem raw_add {A : Around} (T : Tops W) (R : ResAt W) (C : ConvD W) (O : OwnH W) {aA : Addr} (hAdd : AddD W aA) {x : Str} {px ap cp p : Pos} {e1 e2 : Expr} {l : Addr} {hs : List (Str × Str)} {w : Nat → Nat → UInt8} {i li : Nat} {b : Bool} {Q : Flow → Shared → Prop}
    (hA : OkA (k + 2) A) (f : FrOk W names ρ env s₀ G₀ s G) (hx : ρ.lookup x = some (.inst l)) (hxl : names.lookup x = some .local) (hd : (x == ("__debug__" : Str)) = false) (gl : G l = none) (apl : Apart env l) (l0 : s₀.heap.get? l = none) (H : Holds W l hs s G) (hsz : hs.length ≤ 100) (hw : ∀ j, j < 4 → Ltr (w i j)) (hli : li < 3)
    (he1 : Ev W (k + 2) names ρ e1 (.str (nmL b li))) (he2 : Ev W (k + 2) names ρ e2 (.str (wrdS w i)))
    (r : ∀ s' G', FrOk W names ρ env s₀ G₀ s' G' → G' l = none → Holds W l (hs ++ [(nmL b li, wrdS w i)]) s' G' → Mv env l s G s' G' → Q .next s')
    (he : ∃ pl, eval (.Call (.Attribute (.Name x px) (Str.ofString "add_header") ap) [e1, e2] [] cp) env = (do
      let ov ← eval (.Name x px) env
      standAt ap.atName
      let (f, first) ← holding [ov] (getMethod ov (Str.ofString "add_header") pl)
      callWith cp f first (backTo cp (starEach [e1, e2] env)) []))
    (hst1 : ∀ env, starEach [e1, e2] env = (false, eval e1 env) :: starEach [e2] env) (hst2 : ∀ env, starEach [e2] env = (false, eval e2 env) :: starEach [] env)
    (hsw : swapsWith (.Call (.Attribute (.Name x px) (Str.ofString "add_header") ap) [e1, e2] [] cp) none p.line env = pure false) :
    wpAny (Md W) A (execs [.Expr (.Call (.Attribute (.Name x px) (Str.ofString "add_header") ap) [e1, e2] [] cp) p] env) Q nay s := by
  obtain ⟨pl, he⟩ := he
  obtain ⟨fd, M, hb⟩ := id hAdd
  refine wpAny_execs_cons (wpAny_Expr_any (MethodCall_ (raw_nameD f hx hxl (fun v hv => ?_) hd) he) (not_inter f.kind) hsw)
  have E := f.toEnv
  refine get_meth M (by kernel_rfl) E.base f.gr.sub hv ?_
  refine PySem.W.callWith_K (h₀ := s.heap) E.base.kin M.keep ?_ (hst1 env) (by rw [hst2]; rfl)
  refine wpAny_nay ((EvAll.cons he1 (.cons he2 .nil hst2) hst1) A env s G cp hA E) fun vs s2 ⟨G2, g2, d2⟩ => ?_
  have E2 := E.grow g2
  have f2 := f.grow g2
  refine ⟨E2.base.kin, ?_⟩
  obtain ⟨c, hc, hnm⟩ := nm_is b hli
  rw [hnm] at d2
  obtain ⟨v1, v2, rfl, dv1, dv2⟩ := d2.two
  obtain ⟨t1, rfl⟩ := dv1.inv
  obtain ⟨t2, rfl⟩ := dv2.inv
  have gl2 : G2 l = none := none_of_new g2.new gl H.ex
  obtain ⟨vs0, pl0, den0⟩ := H.go (s' := s2) (fun o e => g2.keep _ o e) g2.ext
  have hlen : vs0.length = hs.length := by rw [den0.length]; simp [tupsD]
  show wpAny _ _ (call (.ref aA) [v, .str ⟨#[c]⟩ t1, .str (wrdS w i) t2] []) _ _ s2
  refine add_call (k := k) T R C O hAdd hA E2.base g2.sub (hv.mono g2.ext) gl2 pl0 (by rw [List.size_toArray]; omega) (size_sm E2.base) hc (hw 0 (by decide)) (hw 1 (by decide)) (hw 2 (by decide)) (hw 3 (by decide)) fun s3 G3 p3 h3 g3 dp pl3 sb3 => ?_
  have gl3 : G3 l = none := none_of_new g3.new gl2 (let ⟨o, _, e, _⟩ := pl0; ⟨o, e⟩)
  have gs := GrL.set (h' := h3) g3.sub sb3 gl3
  refine wpAny_execs_nil (r _ G3 ((f2.grow g3).mut gs l0 apl.loc apl.cell) gl3 ⟨vs0 ++ [p3], ?_, ?_⟩ ?_)
  · rw [← List.push_toArray]; exact pl3
  · unfold tupsD
    rw [List.map_append]
    refine (den0.mono g3.ext).append (.cons ?_ .nil)
    rw [hnm]; exact dp
  · exact ⟨fun b o hb ha e => (sb3.2 b hb).trans (g3.keep b o (g2.keep b o e)), fun b o e => g3.ext b o (g2.ext b o e), (g2.trans g3).new⟩
end
-- H13



section
variable {W : Wd} {k : Nat}
theorem look_weak {ρ : List (Str × D)} {x : Str} {d : D} (hx : ρ.lookup x = none) : ∀ y e, ρ.lookup y = some e → ((x, d) :: ρ).lookup y = some e := fun y e h => by
  rw [List.lookup_cons]
  cases hb : y == x with
  | true => rw [beq_iff_eq.mp hb, hx] at h; cases h
  | false => exact h
theorem rng_at {n i : Nat} {d : D} (h : (rngD n)[i]? = some d) : i < n ∧ d = .int (i : Nat) := by
  unfold rngD at h
  rw [List.getElem?_map] at h
  obtain ⟨j, hj, e⟩ := Option.map_eq_some_iff.mp h
  obtain ⟨h1, h2⟩ := List.getElem?_eq_some_iff.mp hj
  rw [List.getElem_range] at h2
  rw [List.length_range] at h1
  subst h2
  exact ⟨h1, e.symm⟩
theorem bind_pos {W : Wd} {A : Around} {s : Shared} {G : Part} {xs : List Str} {vs : List Value} {ds : List D} (hl : vs.length = xs.length) (hs : ∀ b o, G b = some o → s.heap.get? b = some o) (hd : DenAll W.C G vs ds) :
    wpAny (Md W) A (pure (xs.zip vs)) (fun binds s1 => ∃ G1, Gr s G s1 G1 ∧ binds.map (·.1) = xs ∧ DenAll W.C G1 (binds.map (·.2)) ds ∧ True) nay s := by
  have z1 : (xs.zip vs).map (·.1) = xs := by rw [List.map_fst_zip]; omega
  have z2 : (xs.zip vs).map (·.2) = vs := by rw [List.map_snd_zip]; omega
  exact wpAny_pure ⟨G, Gr.refl hs, z1, by rw [z2]; exact hd, trivial⟩
/-- the views -/
abbrev viewD (V : Nat → UInt64) (ls : Nat → List Nat) (i : Nat) : D := .tup [.nzf (V i), .list ((ls i).map fun l => .int (l : Nat))]
abbrev sideD (S0 S1 : Nat → Int) (i : Nat) : D := .tup [.int (S0 i), .int (S1 i)]

theorem table_ok {W : Wd} (T : Tops W) (R : ResAt W) (C : ConvD W) (O : OwnH W) {aA fI : Addr} (hAdd : AddD W aA) (Mk : MakeD W fI) (hC : Resolve W "Headers" (.ref W.C)) (hCk : PySem.W.keepIn W.K (.ref W.C) = true) (h : Def W (stmtAt 20) "_law_table" ["words", "sides", "views"])
    (w : Nat → Nat → UInt8) (hw : ∀ i, i < 4 → ∀ j, j < 4 → Ltr (w i j)) (S0 S1 : Nat → Int) (V : Nat → UInt64) (ls : Nat → List Nat) (hls : ∀ i, i < 4 → (ls i).length ≤ 3 ∧ ∀ l ∈ ls i, l < 3) :
    Fn W (k + 4) "_law_table" [.list (tab 4 (wrdD w)), .list (tab 4 (sideD S0 S1)), .list (tab 4 (viewD V ls))] (.hdr (hdsTo w (fun i => decide (S0 i > S1 i)) ls 4)) := by
  obtain ⟨a, fd, hf, hr, hsc, hb⟩ := h
  refine ⟨a, fd, _, hf, hr, ?_⟩
  intro A s G vs hA hB hs hd
  refine call_raw (G := G) (xs := [Str.ofString "words", Str.ofString "sides", Str.ofString "views"]) (ds := [.list (tab 4 (wrdD w)), .list (tab 4 (sideD S0 S1)), .list (tab 4 (viewD V ls))]) (fun _ _ => True) hf (by have := hA.depth; omega) hB ?_ ?_ fun env s1 G1 s2 g1 _ f => ?_
  · rw [hb vs (by rw [hd.length]; rfl)]
    exact bind_pos (by rw [hd.length]; rfl) hs hd
  · intro y hy
    rw [hsc]
    simp only [List.mem_cons, List.not_mem_nil, or_false] at hy
    rcases hy with rfl | rfl | rfl <;> exact .inl (by kernel_rfl)
  rw [hsc] at f
  have hA' : OkA (k + 3) (A.deeper env) := hA.deeper env
  have f : FrOk W (fScope (stmtAt 20)).names [(Str.ofString "views", .list (tab 4 (viewD V ls))), (Str.ofString "sides", .list (tab 4 (sideD S0 S1))), (Str.ofString "words", .list (tab 4 (wrdD w)))] env s1 G1 s2 G1 := f
  -- table = Headers()
  refine wpAny_execs_cons (wpAny_Assign_Name (Call_ (eval_glob f.toEnv hC (by kernel_rfl) (PySem.W.callWith_K0 f.toEnv.base.kin hCk ?_) (by kernel_rfl))) (by rfl))
  refine make_call (k := k) T O Mk hA' f.toEnv.base f.gr.sub fun s3 G3 x l g3 d3 gl3 nl3 pl3 => ?_
  have apl := f.apart nl3
  have l0 : s1.heap.get? l = none := get_none f.gr.keep nl3
  refine (f.grow g3).store (.inl (by kernel_rfl)) d3 fun s4 f4 ks4 _ => ?_
  have H4 : Holds W l (hdsTo w (fun i => decide (S0 i > S1 i)) ls 0) s4 G3 := by
    refine ⟨[], ?_, .nil⟩
    obtain ⟨o, n, e, r⟩ := pl3
    exact ⟨o, n, ks4 _ _ apl.loc (fun c ec z => apl.cell _ _ ec z.symm) e, r⟩
  -- for place in range(4)
  refine raw_for (k := k + 3) (l := l) (fun i s G => Holds W l (hdsTo w (fun i => decide (S0 i > S1 i)) ls i) s G) hA' f4 (.rng (Ev.callR (n := 4) T.range (by kernel_rfl))) (by kernel_rfl) gl3 (fun i s G s' G' x h1 h2 => x.go h1 h2) (fun i s G x => x.ex) apl H4 (fun i d s5 G5 hi f5 gl5 H5 => ?_) (fun s5 G5 f5 gl5 H5 m5 => ?_)
  · obtain ⟨hi4, rfl⟩ := rng_at hi
    -- names = ...
    refine raw_assign (k := k + 3) (d := .str (nmS (decide (S0 i > S1 i)))) hA' f5 (Ev.cast (Ev.ife (c := decide (S0 i > S1 i)) (d := .str (Str.ofString "rgb")) (e := .str (Str.ofString "RGB")) (Test.cmp (a := .int (S0 i)) (b := .int (S1 i)) ?_ ?_ Cmp.gt) (fun _ => Ev.str) (fun _ => Ev.str)) ?_) (fun s6 G6 f6 kp6 n6 x6 => ?_) (by kernel_rfl)
    · exact Ev.item (a := sideD S0 S1 i) (Ev.item (by walk_at "mev") (by walk_at "mev") (item_tab hi4 (by decide))) Ev.int (Item.tup (by decide) (by show (0 : Int) < 2; decide) (by show 2 < 1000; decide) rfl)
    · exact Ev.item (a := sideD S0 S1 i) (Ev.item (by walk_at "mev") (by walk_at "mev") (item_tab hi4 (by decide))) Ev.int (Item.tup (by decide) (by show (1 : Int) < 2; decide) (by show 2 < 1000; decide) rfl)
    · unfold nmS; split <;> rfl
    have H6 : Holds W l (hdsTo w (fun i => decide (S0 i > S1 i)) ls i ++ ((ls i).take 0).map (hdOf w (fun i => decide (S0 i > S1 i)) i)) s6 G6 := by
      rw [List.take_zero, List.map_nil, List.append_nil]
      exact H5.go (fun o e => kp6 _ o apl e) x6
    have gl6 : G6 l = none := none_of_new n6 gl5 H5.ex
    have m6 : Mv env l s5 G5 s6 G6 := ⟨fun b o _ ha e => kp6 b o ha e, x6, n6⟩
    have hlen : (hdsTo w (fun i => decide (S0 i > S1 i)) ls i).length ≤ 12 := by
      have : ∀ n, n ≤ 4 → (hdsTo w (fun i => decide (S0 i > S1 i)) ls n).length ≤ 3 * n := by
        intro n
        induction n with
        | zero => intro _; exact Nat.le_refl 0
        | succ n ih => intro hn; rw [hdsTo_succ, List.length_append, List.length_map]; have := (hls n (by omega)).1; have := ih (by omega); omega
      have := this i (by omega); omega
    -- for light in views[place][1]
    refine raw_for (k := k + 3) (l := l) (fun j s G => Holds W l (hdsTo w (fun i => decide (S0 i > S1 i)) ls i ++ ((ls i).take j).map (hdOf w (fun i => decide (S0 i > S1 i)) i)) s G) hA' f6
      (.list (ds := (ls i).map fun l => .int (l : Nat)) (Ev.item (a := viewD V ls i) (Ev.item (by walk_at "mev") (by walk_at "mev") (item_tab hi4 (by decide))) Ev.int (Item.tup (by decide) (by show (1 : Int) < 2; decide) (by show 2 < 1000; decide) rfl))) (by kernel_rfl) gl6 (fun i s G s' G' x h1 h2 => x.go h1 h2) (fun i s G x => x.ex) apl H6 (fun j d s7 G7 hj f7 gl7 H7 => ?_) (fun s7 G7 f7 gl7 H7 m7 => ?_)
    · rw [List.getElem?_map] at hj
      obtain ⟨lt, hlt, rfl⟩ := Option.map_eq_some_iff.mp hj
      have hl3 : lt < 3 := (hls i hi4).2 lt (List.mem_of_getElem? hlt)
      have hjl : j < (ls i).length := (List.getElem?_eq_some_iff.mp hlt).1
      have hw' := hw i hi4
      refine raw_add (k := k + 1) (w := w) (i := i) (li := lt) (b := decide (S0 i > S1 i)) T R C O hAdd hA' f7 (by walk_at "mlook") (by kernel_rfl) (by kernel_rfl) gl7 apl l0 H7 ?_ hw' hl3 ?_ ?_ (fun s8 G8 f8 gl8 H8 m8 => ?_) ⟨_, rfl⟩ (fun _ => rfl) (fun _ => rfl) (by rfl)
      · rw [List.length_append, List.length_map, List.length_take]; have := (hls i hi4).1; omega
      · exact Ev.item (by walk_at "mev") (by walk_at "mev") (item_nm hl3)
      · have l128 : ∀ x : UInt8, Ltr x → x.toNat < 128 := fun x hx => by unfold Ltr at hx; omega
        exact Ev.meth1 (d := wrdD w i) (Ev.item (by walk_at "mev") (by walk_at "mev") (item_tab hi4 (by decide))) (Meth.byt PySem.W.FB.slot_bytes_decode PySem.W.FB.type_bytes_decode) (.cons Ev.str .nil) (CallB.decode (l128 _ (hw' 0 (by decide))) (l128 _ (hw' 1 (by decide))) (l128 _ (hw' 2 (by decide))) (l128 _ (hw' 3 (by decide))))
      · refine ⟨rfl, G8, f8.weaken (look_weak (by kernel_rfl)), gl8, ?_, m8⟩
        have e : hdsTo w (fun i => decide (S0 i > S1 i)) ls i ++ ((ls i).take (j + 1)).map (hdOf w (fun i => decide (S0 i > S1 i)) i) = (hdsTo w (fun i => decide (S0 i > S1 i)) ls i ++ ((ls i).take j).map (hdOf w (fun i => decide (S0 i > S1 i)) i)) ++ [(nmL (decide (S0 i > S1 i)) lt, wrdS w i)] := by
          rw [List.take_add_one, hlt, List.map_append, List.append_assoc]; rfl
        rw [e]; exact H8
    · refine wpAny_execs_nil ⟨rfl, G7, f7.weaken fun y e he => look_weak (by kernel_rfl) _ _ (look_weak (by kernel_rfl) _ _ he), gl7, ?_, m6.trans m7 f6 H6.ex⟩
      rw [List.length_map, List.take_length] at H7
      rw [hdsTo_succ]
      exact H7
  · -- return table
    have H5' : Holds W l (hdsTo w (fun i => decide (S0 i > S1 i)) ls 4) s5 G5 := H5
    obtain ⟨vs5, ⟨o5, n5, e5, c5, dd5, dat5⟩, den5⟩ := H5'
    refine wpAny_execs_cons (wpAny_Return_some (raw_nameD f5 (x := Str.ofString "table") (by walk_at "mlook") (by kernel_rfl) fun v hv => ?_))
    have gp : Gr s1 G1 s5 (put G5 l o5) := by
      refine ⟨f5.gr.same, f5.gr.keep, fun b o e => put_ext gl5 b o (f5.gr.ext b o e), fun b o e => ?_, fun b o e => ?_⟩
      · unfold Mine.put at e
        by_cases hb : b = l
        · subst hb; rw [if_pos rfl] at e; cases e; exact e5
        · rw [if_neg hb] at e; exact f5.gr.sub b o e
      · unfold Mine.put at e
        by_cases hb : b = l
        · subst hb; exact .inr l0
        · rw [if_neg hb] at e; exact f5.gr.new b o e
    exact ⟨put G5 l o5, g1.trans gp, .hdr (hv.mono (put_ext gl5)) (put_self ..) c5 dat5 (den5.mono (put_ext gl5))⟩
end
-- H14



theorem perm2 {u v : Str} {ss : List Str} (h : ss.Perm [u, v]) : ss = [u, v] ∨ ss = [v, u] := by
  match ss, h.length_eq with
  | [x, y], _ =>
    have hx : x ∈ [u, v] := h.mem_iff.mp (by simp)
    simp only [List.mem_cons, List.not_mem_nil, or_false] at hx
    rcases hx with rfl | rfl
    · have := List.perm_singleton.mp (List.Perm.cons_inv h)
      exact .inl (by rw [this])
    · have := List.perm_singleton.mp (List.Perm.cons_inv (h.trans (List.Perm.swap x u [])))
      exact .inr (by rw [this])
theorem sizes_sorted {l : Nat} (hl : l < 3) {ks : List Str} (hk : ks = [upc l, loc l] ∨ ks = [loc l, upc l]) (ss' : List Str) (hp : ss'.Perm ks) (hs : sortedS ss' = true) : ss' = [upc l, loc l] := by
  have hq : ss' = [upc l, loc l] ∨ ss' = [loc l, upc l] := by
    rcases hk with rfl | rfl
    · exact perm2 hp
    · exact (perm2 hp).symm
  rcases hq with rfl | rfl
  · rfl
  · exfalso
    match l, hl with
    | 0, _ => exact absurd hs (by decide +kernel)
    | 1, _ => exact absurd hs (by decide +kernel)
    | 2, _ => exact absurd hs (by decide +kernel)
theorem told_text (a b c d e f g h : UInt8) : Str.ofString "FLAGS (" ++ Txt.join (Str.ofString " ") [⟨#[a.toNat, b.toNat, c.toNat, d.toNat]⟩, ⟨#[e.toNat, f.toNat, g.toNat, h.toNat]⟩] ++ Str.ofString ")" = ⟨ft a.toNat b.toNat c.toNat d.toNat e.toNat f.toNat g.toNat h.toNat⟩ := by kernel_rfl
theorem told_bytes (a b c d e f g h : UInt8) : (ft a.toNat b.toNat c.toNat d.toNat e.toNat f.toNat g.toNat h.toNat).map (·.toUInt8) = fb a b c d e f g h := by
  have e6 : (ft a.toNat b.toNat c.toNat d.toNat e.toNat f.toNat g.toNat h.toNat).map (·.toUInt8) = #[70, 76, 65, 71, 83, 32, 40, a.toNat.toUInt8, b.toNat.toUInt8, c.toNat.toUInt8, d.toNat.toUInt8, 32, e.toNat.toUInt8, f.toNat.toUInt8, g.toNat.toUInt8, h.toNat.toUInt8, 41] := by kernel_rfl
  rw [e6]; simp [fb]
theorem told_len (a b c d e f g h : Nat) : (⟨ft a b c d e f g h⟩ : Str).length = 17 := by kernel_rfl
theorem told_len1 (a b c d e f g h : Nat) : (Str.ofString "FLAGS (").length + (Txt.join (Str.ofString " ") [⟨#[a, b, c, d]⟩, ⟨#[e, f, g, h]⟩]).length = 16 := by kernel_rfl
theorem told_len2 (a b c d e f g h : Nat) : (Str.ofString "FLAGS (" ++ Txt.join (Str.ofString " ") [⟨#[a, b, c, d]⟩, ⟨#[e, f, g, h]⟩]).length + (Str.ofString ")").length = 17 := by kernel_rfl
theorem told_len3 (a b c d e f g h : Nat) : (([⟨#[a, b, c, d]⟩, ⟨#[e, f, g, h]⟩] : List Str).map (·.length)).sum + ([⟨#[a, b, c, d]⟩, ⟨#[e, f, g, h]⟩] : List Str).length * (Str.ofString " ").length = 10 := by kernel_rfl
theorem row_ok {W : Wd} {k : Nat} (T : Tops W) (R : ResAt W) (C : ConvD W) (O : OwnH W) (F : FlagsAt W) (hF : Def W (stmtAt 5) "ParseFlags" ["resp"]) {aG aK : Addr} {fG fK : FuncData} (MG : PosD W 7 "get_all" ["self", "name"] aG fG) (MK : PosD W 9 "keys" ["self"] aK fK)
    (h : Def W (stmtAt 21) "_law_row" ["table", "light"]) {hs : List (Str × Str)} {l : Nat} (hl : l < 3) (hn : hs.length ≤ 100) (h1 : ∀ p ∈ hs, p.1.length ≤ 1000) {w : Nat → Nat → UInt8} {p q : Nat} (hwp : ∀ j, j < 4 → Ltr (w p j)) (hwq : ∀ j, j < 4 → Ltr (w q j))
    (hv : (hs.filter fun x => Txt.lower x.1 == loc l).map (·.2) = [wrdS w p, wrdS w q]) (hk : (hs.filter fun x => Txt.lower x.1 == loc l).map (·.1) = [upc l, loc l] ∨ (hs.filter fun x => Txt.lower x.1 == loc l).map (·.1) = [loc l, upc l]) :
    Fn W (k + 4) "_law_row" [.hdr hs, .int (l : Nat)] (.tup [.tup [wrdD w p, wrdD w q], .list [.str (upc l), .str (loc l)]]) := by
  refine h.call2 ?_
  have hv' : ((hs.filter fun x => Txt.lower x.1 == loc l).map fun x => D.str x.2) = ([wrdS w p, wrdS w q].map .str) := by
    rw [← hv, List.map_map]; rfl
  have l8 : ∀ x : UInt8, Ltr x → x.toNat < 128 := fun x hx => by unfold Ltr at hx; omega
  refine Ex.assign (d := .str (Txt.join (Str.ofString " ") [wrdS w p, wrdS w q])) (Ev.meth1 (d := .str (Str.ofString " ")) Ev.str (Meth.str PySem.F.slot_str_join PySem.F.type_str_join) (.cons (d := .list ([wrdS w p, wrdS w q].map .str)) (Ev.cast (Ev.methU MG.1 (d := .hdr hs) (ds := [.str (loc l)]) (by walk_at "mev") (fun G v h => hdr_inst h) (.cons (Ev.item Ev.str (by walk_at "mev") (item_lo hl)) .nil) (getall_ok (k := k) T R C O MG hl (by omega) h1)) (by rw [hv'])) .nil) (CallB.join (by rw [told_len3]; decide))) ?_ (.inl (by kernel_rfl))
  refine Ex.assignComp (ds := hs.map fun p => .str p.1) (rs := ((hs.filter fun x => Txt.lower x.1 == loc l).map fun x => .str x.1)) (ItEv.list (Ev.methU0 MK.1 (d := .hdr hs) (by walk_at "mev") (fun G v h => hdr_inst h) (keys_ok O MK (by omega)))) (Turns.filt fun x hx => ?_) (by rw [List.length_map]; omega) (by kernel_rfl) (by kernel_rfl) ?_ ?_
  · have h0 : x.1.length ≤ 1000 := h1 x hx
    split
    · rename_i hc
      refine ⟨.inr ⟨_, rfl, ?_⟩, by walk_at "mev"⟩
      rw [← hc]
      refine Test.cmp (a := .str (Txt.lower x.1)) (b := .str (loc l)) ?_ ?_ Cmp.seq
      · exact Ev.meth0 (d := .str x.1) (by walk_at "mev") (Meth.str PySem.F.slot_str_lower PySem.F.type_str_lower) (CallB.lower h0)
      · exact Ev.item Ev.str (by walk_at "mev") (item_lo hl)
    · rename_i hc
      have hc' : (Txt.lower x.1 == loc l) = false := by simpa using hc
      refine ⟨_, rfl, ?_⟩
      rw [← hc']
      refine Test.cmp (a := .str (Txt.lower x.1)) (b := .str (loc l)) ?_ ?_ Cmp.seq
      · exact Ev.meth0 (d := .str x.1) (by walk_at "mev") (Meth.str PySem.F.slot_str_lower PySem.F.type_str_lower) (CallB.lower h0)
      · exact Ev.item Ev.str (by walk_at "mev") (item_lo hl)
  · have hkk : ((hs.filter fun x => Txt.lower x.1 == loc l).map fun x => D.str x.1) = (((hs.filter fun x => Txt.lower x.1 == loc l).map (·.1)).map .str) := by rw [List.map_map]; rfl
    rw [hkk]
    generalize (hs.filter fun x => Txt.lower x.1 == loc l).map (·.1) = ks at hk
    refine Ex.ret (Ev.tup (.cons ?_ (.cons ?_ .nil)) (by show 2 ≤ 1000; decide))
    · refine Ev.fn (by kernel_rfl) (.cons ?_ .nil) ((flags_ok (k := k + 2) T F hF (hwp 0 (by decide)) (hwp 1 (by decide)) (hwp 2 (by decide)) (hwp 3 (by decide)) (hwq 0 (by decide)) (hwq 1 (by decide)) (hwq 2 (by decide)) (hwq 3 (by decide))))
      refine Ev.cast (Ev.meth1 (d := .str ⟨ft (w p 0).toNat (w p 1).toNat (w p 2).toNat (w p 3).toNat (w q 0).toNat (w q 1).toNat (w q 2).toNat (w q 3).toNat⟩) ?_ (Meth.str PySem.F.slot_str_encode PySem.F.type_str_encode) (.cons Ev.str .nil) (CallB.encode ?_ (by rw [told_len]; decide) (by rw [told_len]; decide))) (by rw [told_bytes])
      · refine Ev.cast (Ev.bin (a := .str (Str.ofString "FLAGS (" ++ Txt.join (Str.ofString " ") [wrdS w p, wrdS w q])) (b := .str (Str.ofString ")")) (Ev.bin Ev.str (by walk_at "mev") (Bin.sadd (by rw [told_len1]; decide))) Ev.str (Bin.sadd (by rw [told_len2]; decide))) (by rw [told_text])
      · intro c hc
        have hc' : c ∈ [70, 76, 65, 71, 83, 32, 40, (w p 0).toNat, (w p 1).toNat, (w p 2).toNat, (w p 3).toNat, 32, (w q 0).toNat, (w q 1).toNat, (w q 2).toNat, (w q 3).toNat, 41] := hc
        simp only [List.mem_cons, List.not_mem_nil, or_false] at hc'
        have a0 := l8 _ (hwp 0 (by decide)); have a1 := l8 _ (hwp 1 (by decide)); have a2 := l8 _ (hwp 2 (by decide)); have a3 := l8 _ (hwp 3 (by decide))
        have b0 := l8 _ (hwq 0 (by decide)); have b1 := l8 _ (hwq 1 (by decide)); have b2 := l8 _ (hwq 2 (by decide)); have b3 := l8 _ (hwq 3 (by decide))
        omega
    · have hlen : ks.length < 64 := by rcases hk with rfl | rfl <;> (show 2 < 64; decide)
      exact Ev.callB T.sorted (by kernel_rfl) (.cons (by walk_at "mev") .nil) (CallB.sortedS (ts := [upc l, loc l]) hlen (sizes_sorted hl hk))
  · exact swaps_local (by kernel_rfl)
-- H15
section
open PySem.SeqAt
/-- data that is equal to what reads alike -/
def Leaf : D → Prop
  | .nzf x => Float64.cmp x x = some .eq
  | .byt _ => True
  | .str _ => True
  | _ => False
def SameD : Nat → D → Prop
  | 0, d => Leaf d
  | n + 1, d => match d with
    | .list ds => ds.length ≤ 1000 ∧ ∀ d ∈ ds, SameD n d
    | .tup ds => ds.length ≤ 1000 ∧ ∀ d ∈ ds, SameD n d
    | d => Leaf d
/-- no reader has booked a token -/
def Booked (W : Wd) : Prop := ∀ h, Base W h → NoneBooked h
section
variable {C : Addr}
theorem leaf_eq {A : Around} {s : Shared} {G : Part} {d : D} {u v : Value} (hb : NoneBooked s.heap) (h : Leaf d) (hu : Den C G u d) (hv : Den C G v d) : EqAt A s u v true := by
  cases d with
  | nzf x =>
    obtain ⟨t, rfl, nt⟩ := hu.inv
    obtain ⟨t', rfl, nt'⟩ := hv.inv
    have h' : Float64.cmp x x = some .eq := h
    intro prog w E Q hq
    unfold eqBool
    refine wpAny_holding ?_
    refine wpAny_ite_split (fun _ => wpAny_bind (wpAny_rule (wpAny_pure hq))) (fun _ => ?_)
    have rc : wpAny (model prog w) A (richCompare .Eq (.float x t) (.float x t') >>= truthOfDropped) Q E s := by
      have r : wpAny (model prog w) A (compareOp .Eq (.float x t) (.float x t')) (fun r s' => wpAny (model prog w) A (truthOfDropped r) Q E s') E s := AutoFloatOps.eq_0 (by rw [h']; exact wpAny_truthy_bool hq)
      exact wpAny_bind r
    show wpAny _ _ (isSame.created (x == x && !Float64.isNaN x) t t' >>= fun b => if b = true then pure true else _) _ _ _
    refine wpAny_bind ?_
    unfold isSame.created
    refine wpAny_ite ?_
    split
    · rename_i q; rw [nt, nt'] at q; cases q
    refine wpAny_ite ?_
    split
    · exact wpAny_pure (wpAny_pure hq)
    refine wpAny_ite ?_
    split
    · exact wpAny_pure rc
    refine wpAny_bind (wpAny_sharingNotTold_none hb ?_)
    simp only [Bool.false_eq_true, if_false]
    refine wpAny_bind (wpAny_sharingNotTold_none hb ?_)
    simp only [Bool.false_eq_true, if_false]
    refine wpAny_bind (wpAny_rule (wpAny_bind (wpAny_askSetting (wpAny_pure ?_))))
    split
    · exact wpAny_pure hq
    · exact rc
  | byt b =>
    obtain ⟨t, rfl⟩ := hu.inv
    obtain ⟨t', rfl⟩ := hv.inv
    intro prog w E Q hq
    unfold eqBool
    refine wpAny_holding ?_
    refine wpAny_ite_split (fun _ => wpAny_bind (wpAny_rule (wpAny_pure hq))) (fun _ => ?_)
    have r : wpAny (model prog w) A (compareOp .Eq (.bytes b t) (.bytes b t')) (fun r s' => wpAny (model prog w) A (truthOfDropped r) Q E s') E s := PySem.W.eq_bytes (by rw [beq_self_eq_true]; exact wpAny_truthy_bool hq)
    exact wpAny_bind r
  | str x =>
    obtain ⟨t, rfl⟩ := hu.inv
    obtain ⟨t', rfl⟩ := hv.inv
    have := EqAt.str_str (A := A) (s := s) x t x t'
    rw [beq_self_eq_true] at this
    exact this
  | _ => exact h.elim
theorem den_two {G : Part} {vs us : List Value} {ds : List D} (hv : DenAll C G vs ds) (hu : DenAll C G us ds) {j : Nat} (h1 : j < vs.length) (h2 : j < us.length) : ∃ d ∈ ds, Den C G vs[j] d ∧ Den C G us[j] d := by
  obtain ⟨d1, e1, q1⟩ := hv.at (i := j) (v := vs[j]) (List.getElem?_eq_getElem h1)
  obtain ⟨d2, e2, q2⟩ := hu.at (i := j) (v := us[j]) (List.getElem?_eq_getElem h2)
  rw [e1] at e2; cases e2
  exact ⟨d1, List.mem_of_getElem? e1, q1, q2⟩
theorem same_eq {s : Shared} {G : Part} (hb : NoneBooked s.heap) (hs : ∀ b o, G b = some o → s.heap.get? b = some o) : ∀ (n : Nat) {A : Around} {d : D} {u v : Value}, A.units + n < cLine → SameD n d → Den C G u d → Den C G v d → EqAt A s u v true
  | 0, A, d, u, v, _, h, hu, hv => leaf_eq hb h hu hv
  | n + 1, A, d, u, v, hA, h, hu, hv => by
    have hA' : A.in1.units + n < cLine := by show A.units + 1 + n < cLine; omega
    cases d with
    | list ds =>
      have h' : ds.length ≤ 1000 ∧ ∀ d ∈ ds, SameD n d := h
      obtain ⟨a, o, m, vs, rfl, e, c, dt, r⟩ := hu.inv
      obtain ⟨a', o', m', us, rfl, e', c', dt', r'⟩ := hv.inv
      by_cases hab : a = a'
      · subst hab; exact EqAt.same _
      · have hl : s.heap.IsList a vs.toArray := ⟨o, hs _ _ e, c, m, dt⟩
        have hl' : s.heap.IsList a' us.toArray := ⟨o', hs _ _ e', c', m', dt'⟩
        have hsz : vs.toArray.size = us.toArray.size := by rw [List.size_toArray, List.size_toArray, r.length, r'.length]
        have := RcAt.lists (A := A) (e := fun _ => true) hl hl' hsz (by omega) fun j h1 h2 => by
          obtain ⟨d, hd, q1, q2⟩ := den_two r r' (by simpa using h1) (by simpa using h2)
          exact same_eq hb hs n hA' (h'.2 d hd) (by simpa using q1) (by simpa using q2)
        rw [show ((List.range vs.toArray.size).all fun _ => true) = true by simp] at this
        exact EqAt.of_refs hab this
    | tup ds =>
      have h' : ds.length ≤ 1000 ∧ ∀ d ∈ ds, SameD n d := h
      obtain ⟨a, m, vs, rfl, e, r⟩ := hu.inv
      obtain ⟨a', m', us, rfl, e', r'⟩ := hv.inv
      by_cases hab : a = a'
      · subst hab; exact EqAt.same _
      · have hl : s.heap.IsTuple a vs.toArray := ⟨_, hs _ _ e, rfl, m, rfl⟩
        have hl' : s.heap.IsTuple a' us.toArray := ⟨_, hs _ _ e', rfl, m', rfl⟩
        have hsz : vs.toArray.size = us.toArray.size := by rw [List.size_toArray, List.size_toArray, r.length, r'.length]
        have := RcAt.tuples (A := A) (e := fun _ => true) hl hl' (by omega) fun j h1 h2 => by
          obtain ⟨d, hd, q1, q2⟩ := den_two r r' (by simpa using h1) (by simpa using h2)
          exact same_eq hb hs n hA' (h'.2 d hd) (by simpa using q1) (by simpa using q2)
        rw [show (((List.range (min vs.toArray.size us.toArray.size)).all fun _ => true) && vs.toArray.size == us.toArray.size) = true by rw [hsz]; simp] at this
        exact EqAt.of_refs hab this
    | nzf x => exact leaf_eq (d := .nzf x) hb h hu hv
    | byt x => exact leaf_eq (d := .byt x) hb h hu hv
    | str x => exact leaf_eq (d := .str x) hb h hu hv
    | _ => exact h.elim
end
section
variable {W : Wd} {k : Nat}
theorem cmp_lists {n : Nat} {ds : List D} (hbk : Booked W) (h : SameD (n + 1) (.list ds)) (hn : n < 100) : Cmp W k .Eq (.list ds) (.list ds) true := by
  intro A s G u v hA hB hs hu hv
  have hb := hbk _ hB
  have h' : ds.length ≤ 1000 ∧ ∀ d ∈ ds, SameD n d := h
  have hun : A.units + (n + 1) < cLine := by have := hA.units; show A.units + (n + 1) < 9900; omega
  have hA' : A.in1.units + n < cLine := by show A.units + 1 + n < cLine; omega
  obtain ⟨a, o, m, vs, rfl, e, c, dt, r⟩ := hu.inv
  obtain ⟨a', o', m', us, rfl, e', c', dt', r'⟩ := hv.inv
  have hl : s.heap.IsList a vs.toArray := ⟨o, hs _ _ e, c, m, dt⟩
  have hl' : s.heap.IsList a' us.toArray := ⟨o', hs _ _ e', c', m', dt'⟩
  have hsz : vs.toArray.size = us.toArray.size := by rw [List.size_toArray, List.size_toArray, r.length, r'.length]
  refine eq_listAt (e := fun _ => true) hl hl' hsz (by omega) (fun j h1 h2 => ?_) ?_
  · obtain ⟨d, hd, q1, q2⟩ := den_two r r' (by simpa using h1) (by simpa using h2)
    exact same_eq hb hs n hA' (h'.2 d hd) (by simpa using q1) (by simpa using q2)
  · rw [show ((List.range vs.toArray.size).all fun _ => true) = true by simp]
    exact ⟨G, Gr.refl hs, .bool true⟩
theorem cmp_lists_ne {n : Nat} {ds : List D} (hbk : Booked W) (h : SameD (n + 1) (.list ds)) (hn : n < 100) : Cmp W k .NotEq (.list ds) (.list ds) false := by
  intro A s G u v hA hB hs hu hv
  have hb := hbk _ hB
  have h' : ds.length ≤ 1000 ∧ ∀ d ∈ ds, SameD n d := h
  have hun : A.units + (n + 1) < cLine := by have := hA.units; show A.units + (n + 1) < 9900; omega
  have hA' : A.in1.units + n < cLine := by show A.units + 1 + n < cLine; omega
  obtain ⟨a, o, m, vs, rfl, e, c, dt, r⟩ := hu.inv
  obtain ⟨a', o', m', us, rfl, e', c', dt', r'⟩ := hv.inv
  have hl : s.heap.IsList a vs.toArray := ⟨o, hs _ _ e, c, m, dt⟩
  have hl' : s.heap.IsList a' us.toArray := ⟨o', hs _ _ e', c', m', dt'⟩
  have hsz : vs.toArray.size = us.toArray.size := by rw [List.size_toArray, List.size_toArray, r.length, r'.length]
  have key := RcNeAt.lists (A := A) (e := fun _ => true) hl hl' hsz (by omega) fun j h1 h2 => by
    obtain ⟨d, hd, q1, q2⟩ := den_two r r' (by simpa using h1) (by simpa using h2)
    exact same_eq hb hs n hA' (h'.2 d hd) (by simpa using q1) (by simpa using q2)
  rw [show ((List.range vs.toArray.size).all fun _ => true) = true by simp] at key
  exact key _ _ _ _ ⟨G, Gr.refl hs, .bool false⟩
end
end
-- M1
def mm (P : Nat → Nat → Int) (i : Nat) : Int := max (sd0 P i) (sd1 P i)
theorem mm_eq (P : Nat → Nat → Int) (i : Nat) : mm P i = max (evn P i) (odd P i) := by
  unfold mm sd0 sd1
  split
  · rfl
  · exact Int.max_comm ..
theorem ge3 (a b c : Int) : a ≤ max (max a b) c ∧ b ≤ max (max a b) c ∧ c ≤ max (max a b) c :=
  ⟨Int.le_trans (Int.le_max_left a b) (Int.le_max_left _ c), Int.le_trans (Int.le_max_right a b) (Int.le_max_left _ c), Int.le_max_right _ c⟩
theorem is2 (a b : Int) : max a b = a ∨ max a b = b := (Int.le_total a b).elim (fun h => .inr (Int.max_eq_right h)) fun h => .inl (Int.max_eq_left h)
theorem ge4 (a b c d : Int) : a ≤ max (max (max a b) c) d ∧ b ≤ max (max (max a b) c) d ∧ c ≤ max (max (max a b) c) d ∧ d ≤ max (max (max a b) c) d :=
  have h := Int.le_max_left (max (max a b) c) d
  ⟨Int.le_trans (ge3 a b c).1 h, Int.le_trans (ge3 a b c).2.1 h, Int.le_trans (ge3 a b c).2.2 h, Int.le_max_right ..⟩
theorem at4 (f : Nat → Int) : ∃ j, j < 4 ∧ max (max (max (f 0) (f 1)) (f 2)) (f 3) = f j := by
  rcases is2 (max (max (f 0) (f 1)) (f 2)) (f 3) with e | e
  · rcases is2 (max (f 0) (f 1)) (f 2) with e' | e'
    · rcases is2 (f 0) (f 1) with e2 | e2
      · exact ⟨0, by decide, e.trans (e'.trans e2)⟩
      · exact ⟨1, by decide, e.trans (e'.trans e2)⟩
    · exact ⟨2, by decide, e.trans e'⟩
  · exact ⟨3, by decide, e⟩
theorem up4 (f : Nat → Int) {j : Nat} (hj : j < 4) : f j ≤ max (max (max (f 0) (f 1)) (f 2)) (f 3) := by
  have h := ge4 (f 0) (f 1) (f 2) (f 3)
  match j, hj with
  | 0, _ => exact h.1
  | 1, _ => exact h.2.1
  | 2, _ => exact h.2.2.1
  | 3, _ => exact h.2.2.2
theorem lo4 {f : Nat → Int} {m : Int} (h : ∀ j, j < 4 → f j ≤ m) : max (max (max (f 0) (f 1)) (f 2)) (f 3) ≤ m := by
  obtain ⟨j, hj, e⟩ := at4 f
  rw [e]; exact h j hj
/-- places of three, all unlike i and each other -/
def Tri (i a b c : Nat) : Prop := i < 4 ∧ a < 4 ∧ b < 4 ∧ c < 4 ∧ a ≠ i ∧ b ≠ i ∧ c ≠ i ∧ a ≠ b ∧ a ≠ c ∧ b ≠ c
theorem tri_dec : ((List.range 4).all fun i => (List.range 4).all fun a => (List.range 4).all fun b => (List.range 4).all fun c => !(decide (a ≠ i ∧ b ≠ i ∧ c ≠ i ∧ a ≠ b ∧ a ≠ c ∧ b ≠ c)) || decide ((a = oth i 0 ∧ b = oth i 1 ∧ c = oth i 2) ∨ (a = oth i 2 ∧ b = oth i 0 ∧ c = oth i 1) ∨ (a = oth i 1 ∧ b = oth i 2 ∧ c = oth i 0) ∨
    (a = oth i 0 ∧ b = oth i 2 ∧ c = oth i 1) ∨ (a = oth i 1 ∧ b = oth i 0 ∧ c = oth i 2) ∨ (a = oth i 2 ∧ b = oth i 1 ∧ c = oth i 0))) = true := by decide +kernel
theorem tri_cases {i a b c : Nat} (h : Tri i a b c) : (a = oth i 0 ∧ b = oth i 1 ∧ c = oth i 2) ∨ (a = oth i 2 ∧ b = oth i 0 ∧ c = oth i 1) ∨ (a = oth i 1 ∧ b = oth i 2 ∧ c = oth i 0) ∨
    (a = oth i 0 ∧ b = oth i 2 ∧ c = oth i 1) ∨ (a = oth i 1 ∧ b = oth i 0 ∧ c = oth i 2) ∨ (a = oth i 2 ∧ b = oth i 1 ∧ c = oth i 0) := by
  obtain ⟨h1, h2, h3, h4, h5⟩ := h
  have := List.all_eq_true.mp (List.all_eq_true.mp (List.all_eq_true.mp (List.all_eq_true.mp tri_dec i (List.mem_range.mpr h1)) a (List.mem_range.mpr h2)) b (List.mem_range.mpr h3)) c (List.mem_range.mpr h4)
  rw [decide_eq_true h5, Bool.not_true, Bool.false_or] at this
  exact of_decide_eq_true this
theorem tri_mk {i a b c : Nat} (h : decide (i < 4 ∧ a < 4 ∧ b < 4 ∧ c < 4 ∧ a ≠ i ∧ b ≠ i ∧ c ≠ i ∧ a ≠ b ∧ a ≠ c ∧ b ≠ c) = true) : Tri i a b c := (of_decide_eq_true h : _ ∧ _)
theorem tri_of (i : Nat) (hi : i < 4) : Tri i (oth i 0) (oth i 1) (oth i 2) ∧ Tri i (oth i 2) (oth i 0) (oth i 1) ∧ Tri i (oth i 1) (oth i 2) (oth i 0) ∧ Tri i (oth i 0) (oth i 2) (oth i 1) ∧ Tri i (oth i 1) (oth i 0) (oth i 2) ∧ Tri i (oth i 2) (oth i 1) (oth i 0) := by
  match i, hi with
  | 0, _ => exact ⟨tri_mk rfl, tri_mk rfl, tri_mk rfl, tri_mk rfl, tri_mk rfl, tri_mk rfl⟩
  | 1, _ => exact ⟨tri_mk rfl, tri_mk rfl, tri_mk rfl, tri_mk rfl, tri_mk rfl, tri_mk rfl⟩
  | 2, _ => exact ⟨tri_mk rfl, tri_mk rfl, tri_mk rfl, tri_mk rfl, tri_mk rfl, tri_mk rfl⟩
  | 3, _ => exact ⟨tri_mk rfl, tri_mk rfl, tri_mk rfl, tri_mk rfl, tri_mk rfl, tri_mk rfl⟩
/-- the even orders -/
def Evn (i a b c : Nat) : Bool := (a == oth i 0 && b == oth i 1 && c == oth i 2) || (a == oth i 2 && b == oth i 0 && c == oth i 1) || (a == oth i 1 && b == oth i 2 && c == oth i 0)
theorem max3_is (a b c : Int) : max (max a b) c = a ∨ max (max a b) c = b ∨ max (max a b) c = c :=
  (is2 (max a b) c).elim (fun e => (is2 a b).imp e.trans fun e' => .inl (e.trans e')) fun e => .inr (.inr e)
-- M2
def pk (l a b c : Nat) : Nat := if l = 0 then a else if l = 1 then b else c
def r0 (l i a : Nat) : Nat := if l = 0 then i else a
def r1 (l i b : Nat) : Nat := if l = 1 then i else b
def r2 (l i c : Nat) : Nat := if l = 0 then c else if l = 1 then c else i
def triB (i a b c : Nat) : Bool := a != i && b != i && c != i && a != b && a != c && b != c
def tg (l i a b c : Nat) : Nat := 2 ^ (3 * i + l) + 2 ^ (3 * a) + 2 ^ (3 * b + 1) + 2 ^ (3 * c + 2)
def all3 (f : Nat → Nat → Nat → Nat → Bool) : Bool := (List.range 4).all fun i => (List.range 4).all fun a => a == i || (List.range 4).all fun b => b == i || b == a || (List.range 4).all fun c => c == i || c == a || c == b || f i a b c
theorem all3_at {f : Nat → Nat → Nat → Nat → Bool} (h : all3 f = true) {i a b c : Nat} (t : Tri i a b c) : f i a b c = true := by
  obtain ⟨h1, h2, h3, h4, h5, h6, h7, h8, h9, h10⟩ := t
  have e := List.all_eq_true.mp h i (List.mem_range.mpr h1)
  have e := List.all_eq_true.mp e a (List.mem_range.mpr h2)
  rw [show (a == i) = false by simpa using h5, Bool.false_or] at e
  have e := List.all_eq_true.mp e b (List.mem_range.mpr h3)
  rw [show (b == i) = false by simpa using h6, show (b == a) = false by simpa using fun q => h8 q.symm, Bool.false_or, Bool.false_or] at e
  have e := List.all_eq_true.mp e c (List.mem_range.mpr h4)
  rwa [show (c == i) = false by simpa using h7, show (c == a) = false by simpa using fun q => h9 q.symm, show (c == b) = false by simpa using fun q => h10 q.symm, Bool.false_or, Bool.false_or, Bool.false_or] at e
/-- tags tell the places: the same, or the pair of the light changed -/
theorem tg_dec : ((List.range 3).all fun l => all3 fun i a b c => all3 fun k a' b' c' => tg l i a b c != tg l k a' b' c' || (k == i && a' == a && b' == b && c' == c) || (k == pk l a b c && a' == r0 l i a && b' == r1 l i b && c' == r2 l i c)) = true := by decide +kernel
theorem tg_lt : ((List.range 3).all fun l => all3 fun i a b c => decide (tg l i a b c < 4096)) = true := by decide +kernel
/-- the other one of the pair -/
theorem sw_dec : ((List.range 3).all fun l => all3 fun i a b c => decide (pk l a b c < 4) && pk l a b c != i && triB (pk l a b c) (r0 l i a) (r1 l i b) (r2 l i c) && decide (r0 l i a < 4 ∧ r1 l i b < 4 ∧ r2 l i c < 4) && ((Evn i a b c != (i % 2 == 1)) != (Evn (pk l a b c) (r0 l i a) (r1 l i b) (r2 l i c) != (pk l a b c % 2 == 1)))) = true := by decide +kernel
-- H16



local macro_rules | `(tactic| walk_at "mitem") => `(tactic| first
  | ((with_reducible apply item_row); omega) | ((with_reducible apply item_mat); omega) | (exact item_tab (by omega) (by decide)))
/-- all that the text's top gives -/
structure LawD (W : Wd) : Prop where
  T : Tops W
  R : ResAt W
  C : ConvD W
  O : OwnH W
  F : FlagsAt W
  bk : Booked W
  add : ∃ a, AddD W a
  make : ∃ a, MakeD W a
  ga : ∃ a fd, PosD W 7 "get_all" ["self", "name"] a fd
  ks : ∃ a fd, PosD W 9 "keys" ["self"] a fd
  cls : Resolve W "Headers" (.ref W.C)
  clsk : PySem.W.keepIn W.K (.ref W.C) = true
  d4 : Def W (stmtAt 4) "Int2AP" ["num"]
  d5 : Def W (stmtAt 5) "ParseFlags" ["resp"]
  d7 : Def W (stmtAt 7) "rgb_to_hsv" ["r", "g", "b"]
  d15 : Def W (stmtAt 15) "_law_numbers" ["script"]
  d16 : Def W (stmtAt 16) "_law_plain" ["place", "number"]
  d17 : Def W (stmtAt 17) "_law_lights" ["word"]
  d18 : Def W (stmtAt 18) "_law_sides" ["paints", "place"]
  d19 : Def W (stmtAt 19) "_law_view" ["paint", "blend"]
  d20 : Def W (stmtAt 20) "_law_table" ["words", "sides", "views"]
  d21 : Def W (stmtAt 21) "_law_row" ["table", "light"]
  d22 : Def W (stmtAt 22) "_law_due" ["numbers", "darkened", "blend", "light"]
/-- a word's letters -/
def wl (n : Nat → Int) (i j : Nat) : UInt8 := ((wint (i : Nat) (n i)).getD j 0).toNat.toUInt8
theorem wrd_eq (n : Nat → Int) (i : Nat) : wrd n i = wrdD (wl n) i := rfl
theorem wl_dig {n : Nat → Int} {i : Nat} (hi : i < 4) (hn : 0 ≤ n i ∧ n i < 4096) {j : Nat} (hj : j < 4) : 0 ≤ (wint (i : Nat) (n i)).getD j 0 ∧ 65 ≤ (wint (i : Nat) (n i)).getD j 0 ∧ (wint (i : Nat) (n i)).getD j 0 ≤ 80 := by
  have d1 : 0 ≤ (n i).fdiv 256 ∧ (n i).fdiv 256 < 16 := by rw [Int.fdiv_eq_ediv_of_nonneg _ (by decide)]; omega
  have d2 : 0 ≤ ((n i).fdiv 16).fmod 16 ∧ ((n i).fdiv 16).fmod 16 < 16 := by rw [Int.fmod_eq_emod_of_nonneg _ (by decide)]; omega
  have d3 : 0 ≤ (n i).fmod 16 ∧ (n i).fmod 16 < 16 := by rw [Int.fmod_eq_emod_of_nonneg _ (by decide)]; omega
  match j, hj with
  | 0, _ => show 0 ≤ 66 + (i : Int) ∧ 65 ≤ 66 + (i : Int) ∧ 66 + (i : Int) ≤ 80; omega
  | 1, _ => show 0 ≤ 65 + (n i).fdiv 256 ∧ 65 ≤ 65 + (n i).fdiv 256 ∧ 65 + (n i).fdiv 256 ≤ 80; omega
  | 2, _ => show 0 ≤ 65 + ((n i).fdiv 16).fmod 16 ∧ 65 ≤ 65 + ((n i).fdiv 16).fmod 16 ∧ 65 + ((n i).fdiv 16).fmod 16 ≤ 80; omega
  | 3, _ => show 0 ≤ 65 + (n i).fmod 16 ∧ 65 ≤ 65 + (n i).fmod 16 ∧ 65 + (n i).fmod 16 ≤ 80; omega
theorem u8_nat {x : Int} (h0 : 0 ≤ x) (h1 : x < 256) : ((x.toNat.toUInt8).toNat : Int) = x := by
  have : x.toNat < 256 := by omega
  rw [show x.toNat.toUInt8 = UInt8.ofNat x.toNat from rfl, UInt8.toNat_ofNat', Nat.mod_eq_of_lt (by omega)]
  omega
theorem wl_nat {n : Nat → Int} {i : Nat} (hi : i < 4) (hn : 0 ≤ n i ∧ n i < 4096) {j : Nat} (hj : j < 4) : ((wl n i j).toNat : Int) = (wint (i : Nat) (n i)).getD j 0 := by
  have := wl_dig hi hn hj
  exact u8_nat this.1 (by omega)
theorem wl_ltr {n : Nat → Int} {i : Nat} (hi : i < 4) (hn : 0 ≤ n i ∧ n i < 4096) {j : Nat} (hj : j < 4) : Ltr (wl n i j) := by
  have h1 := wl_dig hi hn hj
  have h2 := wl_nat hi hn hj
  unfold Ltr
  omega
theorem dgs_wl {n : Nat → Int} {i : Nat} (hi : i < 4) (hn : 0 ≤ n i ∧ n i < 4096) : dgs (4096 * ((i : Nat) + 1) + n i) 4 = #[wl n i 0, wl n i 1, wl n i 2, wl n i 3] := by
  have e : dgs (4096 * ((i : Nat) + 1) + n i) 4 = #[(65 + (quo (4096 * ((i : Nat) + 1) + n i) 3).fmod 16).toNat.toUInt8, (65 + (quo (4096 * ((i : Nat) + 1) + n i) 2).fmod 16).toNat.toUInt8, (65 + (quo (4096 * ((i : Nat) + 1) + n i) 1).fmod 16).toNat.toUInt8, (65 + (quo (4096 * ((i : Nat) + 1) + n i) 0).fmod 16).toNat.toUInt8] := rfl
  rw [e]
  have fd : ∀ x : Int, x.fdiv 16 = x / 16 := fun x => Int.fdiv_eq_ediv_of_nonneg _ (by decide)
  have fm : ∀ x : Int, x.fmod 16 = x % 16 := fun x => Int.fmod_eq_emod_of_nonneg _ (by decide)
  have fd2 : ∀ x : Int, x.fdiv 256 = x / 256 := fun x => Int.fdiv_eq_ediv_of_nonneg _ (by decide)
  have q3 : 65 + (quo (4096 * ((i : Nat) + 1) + n i) 3).fmod 16 = 66 + (i : Int) := by
    show 65 + ((((4096 * (((i : Nat) : Int) + 1) + n i).fdiv 16).fdiv 16).fdiv 16).fmod 16 = _
    rw [fd, fd, fd, fm]; omega
  have q2 : 65 + (quo (4096 * ((i : Nat) + 1) + n i) 2).fmod 16 = 65 + (n i).fdiv 256 := by
    show 65 + (((4096 * (((i : Nat) : Int) + 1) + n i).fdiv 16).fdiv 16).fmod 16 = _
    rw [fd, fd, fm, fd2]; omega
  have q1 : 65 + (quo (4096 * ((i : Nat) + 1) + n i) 1).fmod 16 = 65 + ((n i).fdiv 16).fmod 16 := by
    show 65 + ((4096 * (((i : Nat) : Int) + 1) + n i).fdiv 16).fmod 16 = _
    rw [fd, fm, fd, fm]; omega
  have q0 : 65 + (quo (4096 * ((i : Nat) + 1) + n i) 0).fmod 16 = 65 + (n i).fmod 16 := by
    show 65 + (4096 * (((i : Nat) : Int) + 1) + n i).fmod 16 = _
    rw [fm, fm]; omega
  rw [q3, q2, q1, q0]
  rfl
/-- the paints -/
def pnt (n : Nat → Int) (i l : Nat) : Int := lit [wl n i 0, wl n i 1, wl n i 2, wl n i 3] l
/-- a light's sixteenth -/
def dig (n : Nat → Int) (i l : Nat) : Int := (wint (i : Nat) (n i)).getD (l + 1) 0 - 65
theorem pnt_eq {n : Nat → Int} {i l : Nat} (hi : i < 4) (hl : l < 3) (hn : 0 ≤ n i ∧ n i < 4096) : pnt n i l = 4096 * dig n i l + 2 ^ (3 * i + l) := by
  have h0 := wl_nat hi hn (j := 0) (by decide)
  have hj := wl_nat hi hn (j := l + 1) (by omega)
  have e0 : ([wl n i 0, wl n i 1, wl n i 2, wl n i 3] : List UInt8).getD 0 0 = wl n i 0 := rfl
  have e1 : ([wl n i 0, wl n i 1, wl n i 2, wl n i 3] : List UInt8).getD (l + 1) 0 = wl n i (l + 1) := match l, hl with | 0, _ => rfl | 1, _ => rfl | 2, _ => rfl
  have w0 : (wint (i : Nat) (n i)).getD 0 0 = 66 + (i : Int) := rfl
  unfold pnt lit dig
  rw [e0, e1, h0, hj, w0, show (3 * (66 + (i : Int) - 66) + (l : Nat)).toNat = 3 * i + l by omega]
theorem dig_bd {n : Nat → Int} {i l : Nat} (hi : i < 4) (hl : l < 3) (hn : 0 ≤ n i ∧ n i < 4096) : 0 ≤ dig n i l ∧ dig n i l < 16 := by
  have := wl_dig hi hn (j := l + 1) (by omega)
  unfold dig; omega
/-- the greatest, what is spared, the darkened, the blend -/
def mst (P : Nat → Nat → Int) : Int := max (max (max (mm P 0) (mm P 1)) (mm P 2)) (mm P 3)
def spr (P : Nat → Nat → Int) (i : Nat) : Int := mst P - mm P i
def drk (P : Nat → Nat → Int) (i l : Nat) : Int := P i l - spr P i
def bld (P : Nat → Nat → Int) (l : Nat) : Int := max (max (max (drk P 0 l) (drk P 1 l)) (drk P 2 l)) (drk P 3 l)
/-- the plain law -/
structure PL (P : Nat → Nat → Int) : Prop where
  top : ∀ i, i < 4 → mx3 (shd (P i) (bld P) 0) (shd (P i) (bld P) 1) (shd (P i) (bld P) 2) = 65536 + spr P i
  rng : ∀ i, i < 4 → ∀ l, l < 3 → 0 ≤ shd (P i) (bld P) l ∧ shd (P i) (bld P) l < 2 ^ 17
  two : ∀ l, l < 3 → ∃ p q, p < 4 ∧ q < 4 ∧ (List.range 4).filter (fun i => drk P i l == bld P l) = [p, q] ∧ decide (sd0 P p > sd1 P p) ≠ decide (sd0 P q > sd1 P q)
-- H17
theorem low_nm : (List.all [true, false] fun b => (List.range 3).all fun l' => (List.range 3).all fun l => (Txt.lower (nmL b l') == loc l) == (l' == l)) = true := by decide +kernel
theorem low_is (b : Bool) {l' l : Nat} (h' : l' < 3) (h : l < 3) : (Txt.lower (nmL b l') == loc l) = (l' == l) := by
  have h1 := List.all_eq_true.mp low_nm b (by cases b <;> simp)
  have h2 := List.all_eq_true.mp h1 l' (List.mem_range.mpr h')
  have h3 := List.all_eq_true.mp h2 l (List.mem_range.mpr h)
  exact beq_iff_eq.mp h3
theorem one_light (c : Nat → Bool) {l : Nat} (hl : l < 3) : ((List.range 3).filter c).filter (fun l' => l' == l) = if c l = true then [l] else [] := by
  match l, hl with
  | 0, _ => cases h0 : c 0 <;> cases h1 : c 1 <;> cases h2 : c 2 <;> simp [List.range_succ, h0, h1, h2]
  | 1, _ => cases h0 : c 0 <;> cases h1 : c 1 <;> cases h2 : c 2 <;> simp [List.range_succ, h0, h1, h2]
  | 2, _ => cases h0 : c 0 <;> cases h1 : c 1 <;> cases h2 : c 2 <;> simp [List.range_succ, h0, h1, h2]
theorem hds_filter (w : Nat → Nat → UInt8) (b : Nat → Bool) (c : Nat → Nat → Bool) {l : Nat} (hl : l < 3) (n : Nat) :
    (hdsTo w b (fun i => (List.range 3).filter (c i)) n).filter (fun x => Txt.lower x.1 == loc l) = ((List.range n).filter fun i => c i l).map fun i => hdOf w b i l := by
  have key : ∀ L : List Nat, (L.flatMap fun i => ((List.range 3).filter (c i)).map (hdOf w b i)).filter (fun x => Txt.lower x.1 == loc l) = (L.filter fun i => c i l).map fun i => hdOf w b i l := by
    intro L
    induction L with
    | nil => rfl
    | cons i L ih =>
      rw [List.flatMap_cons, List.filter_append, ih, List.filter_map, List.filter_cons]
      have e : ((List.range 3).filter (c i)).filter ((fun x : Str × Str => Txt.lower x.1 == loc l) ∘ hdOf w b i) = ((List.range 3).filter (c i)).filter fun l' => l' == l := by
        refine List.filter_congr fun l' hl' => ?_
        have h3 : l' < 3 := List.mem_range.mp (List.mem_filter.mp hl').1
        exact low_is (b i) h3 hl
      rw [e, one_light _ hl]
      cases c i l <;> rfl
  exact key _
theorem num_bd (sc : List Int) (p : Nat) : 0 ≤ num sc p ∧ num sc p < 4096 := by
  unfold num
  rw [Int.fmod_eq_emod_of_nonneg _ (by decide)]
  omega
-- H18



local macro_rules | `(tactic| walk_at "mitem") => `(tactic| first
  | ((with_reducible apply item_row); omega) | ((with_reducible apply item_mat); omega) | (exact item_tab (by omega) (by decide)))
theorem law_ok {W : Wd} {k : Nat} (L : LawD W) (h : Def W (stmtAt 23) "law" ["script"]) {sc : List Int} (hsc : sc.length ≤ 63) (hP : PL (pnt (num sc))) : Fn W (k + 8) "law" [.list (sc.map .int)] (.bool true) := by
  obtain ⟨aA, hAdd⟩ := L.add
  obtain ⟨fI, hMk⟩ := L.make
  obtain ⟨aG, fG, MG⟩ := L.ga
  obtain ⟨aK, fK, MK⟩ := L.ks
  have T := L.T
  have nb := num_bd sc
  generalize hn : num sc = n at hP nb
  have nbi : ∀ i, i < 4 → 0 ≤ n i ∧ n i < 4096 := fun i _ => nb i
  have hw : ∀ i, i < 4 → ∀ j, j < 4 → Ltr (wl n i j) := fun i hi j hj => wl_ltr hi (nb i) hj
  generalize hPn : pnt n = P at hP
  refine h.call1 ?_
  refine Ex.assign (d := .list (tab 4 fun i => .int (n i))) (Ev.cast (Ev.fn (by kernel_rfl) (.cons (d := .list (sc.map .int)) (by walk_at "mev") .nil) (numbers_ok T L.d15 (by omega) (k + 6))) (by rw [hn])) ?_ (.inr (by kernel_rfl))
  -- words
  refine Ex.assignComp (ds := rngD 4) (rs := tab 4 (wrdD (wl n))) (.rng (Ev.callR (n := 4) T.range (by kernel_rfl))) (Turns.tab fun i hi => TurnOk.one ?_) (by decide) (by kernel_rfl) (by kernel_rfl) ?_ (swaps_local (by kernel_rfl))
  · have := nb i
    refine Ev.cast (Ev.fn (by kernel_rfl) (.cons (d := .int (4096 * ((i : Nat) + 1) + n i)) (by walk_at "mev") .nil) (int2ap_ok T L.d4 (by omega) (by omega) (k + 6))) ?_
    rw [dgs_wl hi (nb i)]
  -- paints
  refine Ex.assign (d := mat P) (Ev.cast (Ev.compT (n := 4) (g := wrdD (wl n)) (f := fun i => row3 (P i)) (.list (by walk_at "mev")) (by decide) (by kernel_rfl) (fun i hi => ?_)) rfl) ?_ (.inr (by kernel_rfl)) (swaps_cell (by kernel_rfl))
  · have h0 : (([wl n i 0, wl n i 1, wl n i 2, wl n i 3] : List UInt8).getD 0 0).toNat = 66 + i := by
      have e := wl_nat hi (nb i) (j := 0) (by decide)
      have w0 : (wint (i : Nat) (n i)).getD 0 0 = 66 + (i : Int) := rfl
      show (wl n i 0).toNat = _
      omega
    refine Ev.cast (Ev.fn (by kernel_rfl) (.cons (d := .byt ([wl n i 0, wl n i 1, wl n i 2, wl n i 3] : List UInt8).toArray) ?_ .nil) (lights_ok T L.d17 rfl (by omega) (by omega) (k + 6))) ?_
    · show Ev _ _ _ _ _ (wrdD (wl n) i)
      walk_at "mev"
    · subst hPn; rfl
  -- sides
  refine Ex.assignComp (ds := rngD 4) (rs := tab 4 (sideD (sd0 P) (sd1 P))) (.rng (Ev.callR (n := 4) T.range (by kernel_rfl))) (Turns.tab fun i hi => TurnOk.one ?_) (by decide) (by kernel_rfl) (by kernel_rfl) ?_ (swaps_local (by kernel_rfl))
  · exact Ev.fn (by kernel_rfl) (.cons (d := mat P) (by walk_at "mev") (.cons (d := .int (i : Nat)) (by walk_at "mev") .nil)) (sides_ok T L.d18 P i hi (k + 6))
  -- most
  refine Ex.assign (d := .int (mst P)) (Ev.callB T.max (by kernel_rfl) (.cons (Ev.cast (Ev.compT (n := 4) (g := sideD (sd0 P) (sd1 P)) (f := fun i => .int (mm P i)) (.list (by walk_at "mev")) (by decide) (by kernel_rfl) (fun i hi => ?_)) (show _ = D.list [.int (mm P 0), .int (mm P 1), .int (mm P 2), .int (mm P 3)] from rfl)) .nil) CallB.maxL4) ?_ (.inr (by kernel_rfl))
  · exact Ev.callB T.max (by kernel_rfl) (.cons (d := .tup [.int (sd0 P i), .int (sd1 P i)]) (by walk_at "mev") .nil) CallB.maxT2
  -- spare
  refine Ex.assign (d := .list (tab 4 fun i => .int (spr P i))) (Ev.compT (n := 4) (g := sideD (sd0 P) (sd1 P)) (f := fun i => .int (spr P i)) (.list (by walk_at "mev")) (by decide) (by kernel_rfl) (fun i hi => ?_)) ?_ (.inr (by kernel_rfl)) (swaps_cell (by kernel_rfl))
  · exact Ev.bin (a := .int (mst P)) (b := .int (mm P i)) (by walk_at "mev") (Ev.callB T.max (by kernel_rfl) (.cons (d := .tup [.int (sd0 P i), .int (sd1 P i)]) (by walk_at "mev") .nil) CallB.maxT2) Bin.sub
  -- darkened
  refine Ex.assign (d := mat (drk P)) (Ev.compR (n := 4) (f := fun i => row3 (drk P i)) (.rng (Ev.callR T.range (by kernel_rfl))) (by decide) (by kernel_rfl) (fun i hi => ?_)) ?_ (.inr (by kernel_rfl)) (swaps_cell (by kernel_rfl))
  · refine Ev.compR (n := 3) (f := fun l => .int (drk P i l)) (.rng (Ev.callR T.range (by kernel_rfl))) (by decide) (by kernel_rfl) (fun l hl => ?_)
    unfold drk
    walk_at "mev"
  -- blend
  refine Ex.assign (d := row3 (bld P)) (Ev.compR (n := 3) (f := fun l => .int (bld P l)) (.rng (Ev.callR T.range (by kernel_rfl))) (by decide) (by kernel_rfl) (fun l hl => ?_)) ?_ (.inr (by kernel_rfl)) (swaps_cell (by kernel_rfl))
  · refine Ev.callB T.max (by kernel_rfl) (.cons (Ev.cast (Ev.compT (n := 4) (g := fun i => row3 (drk P i)) (f := fun i => .int (drk P i l)) (.list (Ev.cast (d := mat (drk P)) (by walk_at "mev") rfl)) (by decide) (by kernel_rfl) (fun i hi => ?_)) (show _ = D.list [.int (drk P 0 l), .int (drk P 1 l), .int (drk P 2 l), .int (drk P 3 l)] from rfl)) .nil) CallB.maxL4
    exact Ev.item (a := row3 (drk P i)) (by walk_at "mev") (by walk_at "mev") (item_row hl)
  -- views
  have hrng := hP.rng
  have htop := hP.top
  refine Ex.assignComp (ds := tab 4 fun i => row3 (P i)) (rs := tab 4 (viewD (fun i => FF (65536 + spr P i)) fun i => (List.range 3).filter fun l => decide (shd (P i) (bld P) l = 65536 + spr P i))) (.list (Ev.cast (d := mat P) (by walk_at "mev") rfl)) (Turns.tab fun i hi => TurnOk.one ?_) (by rw [tab_length]; decide) (by kernel_rfl) (by kernel_rfl) ?_ (swaps_local (by kernel_rfl))
  · refine Ev.cast (Ev.fn (by kernel_rfl) (.cons (d := row3 (P i)) (by walk_at "mev") (.cons (d := row3 (bld P)) (by walk_at "mev") .nil)) (view_ok T L.d7 L.d19 (P i) (bld P) (k + 5) (hrng i hi))) ?_
    rw [htop i hi]
  -- table
  have hls : ∀ i, i < 4 → ((List.range 3).filter fun l => decide (shd (P i) (bld P) l = 65536 + spr P i)).length ≤ 3 ∧ ∀ l ∈ (List.range 3).filter fun l => decide (shd (P i) (bld P) l = 65536 + spr P i), l < 3 := fun i _ =>
    ⟨Nat.le_trans (List.length_filter_le ..) (by decide), fun l hl => List.mem_range.mp (List.mem_filter.mp hl).1⟩
  refine Ex.assign (d := .hdr (hdsTo (wl n) (fun i => decide (sd0 P i > sd1 P i)) (fun i => (List.range 3).filter fun l => decide (shd (P i) (bld P) l = 65536 + spr P i)) 4)) (Ev.fn (by kernel_rfl) (.cons (by walk_at "mev") (.cons (by walk_at "mev") (.cons (by walk_at "mev") .nil))) (table_ok (k := k + 3) T L.R L.C L.O hAdd hMk L.cls L.clsk L.d20 (wl n) hw (sd0 P) (sd1 P) (fun i => FF (65536 + spr P i)) _ hls)) ?_ (.inr (by kernel_rfl))
  -- what the table holds
  have hcond : ∀ i l, decide (shd (P i) (bld P) l = 65536 + spr P i) = (drk P i l == bld P l) := fun i l => by
    unfold shd drk
    rw [Bool.eq_iff_iff, decide_eq_true_iff, beq_iff_eq]
    omega
  have hfil : ∀ l, l < 3 → (hdsTo (wl n) (fun i => decide (sd0 P i > sd1 P i)) (fun i => (List.range 3).filter fun l => decide (shd (P i) (bld P) l = 65536 + spr P i)) 4).filter (fun x => Txt.lower x.1 == loc l) =
      ((List.range 4).filter fun i => drk P i l == bld P l).map fun i => hdOf (wl n) (fun i => decide (sd0 P i > sd1 P i)) i l := fun l hl => by
    rw [hds_filter (wl n) (fun i => decide (sd0 P i > sd1 P i)) (fun i l => decide (shd (P i) (bld P) l = 65536 + spr P i)) hl 4]
    congr 1
    exact List.filter_congr fun i _ => hcond i l
  have hlen : (hdsTo (wl n) (fun i => decide (sd0 P i > sd1 P i)) (fun i => (List.range 3).filter fun l => decide (shd (P i) (bld P) l = 65536 + spr P i)) 4).length ≤ 100 := by
    have : ∀ m, m ≤ 4 → (hdsTo (wl n) (fun i => decide (sd0 P i > sd1 P i)) (fun i => (List.range 3).filter fun l => decide (shd (P i) (bld P) l = 65536 + spr P i)) m).length ≤ 3 * m := by
      intro m
      induction m with
      | zero => intro _; exact Nat.le_refl 0
      | succ m ih => intro hm; rw [hdsTo_succ, List.length_append, List.length_map]; have := (hls m (by omega)).1; have := ih (by omega); omega
    have := this 4 (by decide); omega
  have hshort : ∀ x ∈ hdsTo (wl n) (fun i => decide (sd0 P i > sd1 P i)) (fun i => (List.range 3).filter fun l => decide (shd (P i) (bld P) l = 65536 + spr P i)) 4, x.1.length ≤ 1000 := fun x hx => by
    obtain ⟨i, hi, hx⟩ := List.mem_flatMap.mp hx
    obtain ⟨l, hl, rfl⟩ := List.mem_map.mp hx
    obtain ⟨c, _, e⟩ := nm_is (decide (sd0 P i > sd1 P i)) (List.mem_range.mp (List.mem_filter.mp hl).1)
    show (nmL _ l).length ≤ 1000
    rw [e]; show 1 ≤ 1000; decide
  generalize hdsTo (wl n) (fun i => decide (sd0 P i > sd1 P i)) (fun i => (List.range 3).filter fun l => decide (shd (P i) (bld P) l = 65536 + spr P i)) 4 = hs at hfil hlen hshort ⊢
  have sb : ∀ i, i < 4 → 0 ≤ 65536 + spr P i ∧ 65536 + spr P i < 2 ^ 17 := fun i hi => by
    have r0 := hrng i hi 0 (by decide); have r1 := hrng i hi 1 (by decide); have r2 := hrng i hi 2 (by decide)
    have t := htop i hi
    unfold mx3 at t
    omega
  -- the values
  refine Ex.ite (c := false) (Test.cmp (a := .list (tab 4 fun i => .nzf (FF (65536 + spr P i)))) (b := .list (tab 4 fun i => .nzf (FF (65536 + spr P i)))) (Ev.compPair (ds := tab 4 (viewD (fun i => FF (65536 + spr P i)) fun i => (List.range 3).filter fun l => decide (shd (P i) (bld P) l = 65536 + spr P i))) (by walk_at "mev") (fun d hd => ?_) (by kernel_rfl) (by kernel_rfl) (by decide) (Turns.tab fun i hi => ⟨_, _, rfl, by walk_at "mev"⟩) (by rw [tab_length]; decide) (by kernel_rfl)) (Ev.compT (n := 4) (g := fun i => .int (spr P i)) (f := fun i => .nzf (FF (65536 + spr P i))) (.list (by walk_at "mev")) (by decide) (by kernel_rfl) (fun i hi => ?_)) (cmp_lists_ne (n := 0) L.bk ⟨by rw [tab_length]; decide, fun d hd => ?_⟩ (by decide))) (fun h => nomatch h) (fun _ => ?_)
  · obtain ⟨i, _, rfl⟩ := List.mem_map.mp hd
    exact ⟨_, _, rfl⟩
  · refine Ev.divNZ (a := 65536 + spr P i) (by walk_at "mev") (by decide) ?_
    have := sb i hi
    obtain ⟨a', m', e', hd'⟩ := (FF_bt this.1 (by omega)).1
    show Float64.isInf (FF (65536 + spr P i)) = false
    unfold Float64.isInf
    rw [hd']
  · obtain ⟨i, hi, rfl⟩ := List.mem_map.mp hd
    have := sb i (List.mem_range.mp hi)
    show Float64.cmp (FF (65536 + spr P i)) (FF (65536 + spr P i)) = some .eq
    rw [FF_cmp (by omega) (by omega)]
    simp
  -- the rows
  refine Ex.ret (Ev.cmp (a := .list (tab 3 fun l => .tup [.tup (((List.range 4).filter (fun i => drk P i l == bld P l)).map (wrd n)), .list [.str (upc l), .str (loc l)]])) (b := .list (tab 3 fun l => .tup [.tup (((List.range 4).filter (fun i => drk P i l == bld P l)).map (wrd n)), .list [.str (upc l), .str (loc l)]]))
    (Ev.compR (n := 3) (f := fun l => .tup [.tup (((List.range 4).filter (fun i => drk P i l == bld P l)).map (wrd n)), .list [.str (upc l), .str (loc l)]]) (.rng (Ev.callR T.range (by kernel_rfl))) (by decide) (by kernel_rfl) (fun l hl => ?_))
    (Ev.compR (n := 3) (f := fun l => .tup [.tup (((List.range 4).filter (fun i => drk P i l == bld P l)).map (wrd n)), .list [.str (upc l), .str (loc l)]]) (.rng (Ev.callR T.range (by kernel_rfl))) (by decide) (by kernel_rfl) (fun l hl => ?_))
    (cmp_lists (n := 2) L.bk ⟨by rw [tab_length]; decide, fun d hd => ?_⟩ (by decide)))
  · obtain ⟨p, q, hp, hq, hpq, hside⟩ := hP.two l hl
    have hv : (hs.filter fun x => Txt.lower x.1 == loc l).map (·.2) = [wrdS (wl n) p, wrdS (wl n) q] := by rw [hfil l hl, hpq]; rfl
    have hk : (hs.filter fun x => Txt.lower x.1 == loc l).map (·.1) = [upc l, loc l] ∨ (hs.filter fun x => Txt.lower x.1 == loc l).map (·.1) = [loc l, upc l] := by
      rw [hfil l hl, hpq]
      show [nmL (decide (sd0 P p > sd1 P p)) l, nmL (decide (sd0 P q > sd1 P q)) l] = _ ∨ [nmL (decide (sd0 P p > sd1 P p)) l, nmL (decide (sd0 P q > sd1 P q)) l] = _
      revert hside
      cases decide (sd0 P p > sd1 P p) <;> cases decide (sd0 P q > sd1 P q) <;> intro hside
      · exact absurd rfl hside
      · exact .inl rfl
      · exact .inr rfl
      · exact absurd rfl hside
    refine Ev.cast (Ev.fn (by kernel_rfl) (.cons (d := .hdr hs) (by walk_at "mev") (.cons (d := .int (l : Nat)) (by walk_at "mev") .nil)) (row_ok (k := k + 3) T L.R L.C L.O L.F L.d5 MG MK L.d21 hl hlen hshort (hw p hp) (hw q hq) hv hk)) ?_
    rw [hpq]
    rfl
  · exact Ev.fn (by kernel_rfl) (.cons (d := .list (tab 4 fun i => .int (n i))) (by walk_at "mev") (.cons (d := mat (drk P)) (by walk_at "mev") (.cons (d := row3 (bld P)) (by walk_at "mev") (.cons (d := .int (l : Nat)) (by walk_at "mev") .nil)))) (due_ok T L.d22 n (drk P) (bld P) l hl nbi (k + 6) fun i hi => plain_ok T L.d16 ⟨by omega, by omega⟩ (nb i) (k + 5))
  · obtain ⟨l, hl, rfl⟩ := List.mem_map.mp hd
    refine ⟨by show 2 ≤ 1000; decide, fun d hd => ?_⟩
    simp only [List.mem_cons, List.not_mem_nil, or_false] at hd
    rcases hd with rfl | rfl
    · refine ⟨by rw [List.length_map]; exact Nat.le_trans (List.length_filter_le ..) (by decide), fun d hd => ?_⟩
      obtain ⟨i, _, rfl⟩ := List.mem_map.mp hd
      exact trivial
    · refine ⟨by show 2 ≤ 1000; decide, fun d hd => ?_⟩
      simp only [List.mem_cons, List.not_mem_nil, or_false] at hd
      rcases hd with rfl | rfl <;> exact trivial
-- M3
/-- paints as the words give them -/
def Pnt (P d : Nat → Nat → Int) : Prop := ∀ i, i < 4 → ∀ l, l < 3 → P i l = 4096 * d i l + 2 ^ (3 * i + l)
theorem evn_tab : ((List.range 4).all fun i => Evn i (oth i 0) (oth i 1) (oth i 2) && Evn i (oth i 2) (oth i 0) (oth i 1) && Evn i (oth i 1) (oth i 2) (oth i 0) && !Evn i (oth i 0) (oth i 2) (oth i 1) && !Evn i (oth i 1) (oth i 0) (oth i 2) && !Evn i (oth i 2) (oth i 1) (oth i 0)) = true := by decide +kernel
theorem evn_at {i : Nat} (hi : i < 4) : Evn i (oth i 0) (oth i 1) (oth i 2) = true ∧ Evn i (oth i 2) (oth i 0) (oth i 1) = true ∧ Evn i (oth i 1) (oth i 2) (oth i 0) = true ∧ Evn i (oth i 0) (oth i 2) (oth i 1) = false ∧ Evn i (oth i 1) (oth i 0) (oth i 2) = false ∧ Evn i (oth i 2) (oth i 1) (oth i 0) = false := by
  have h := List.all_eq_true.mp evn_tab i (List.mem_range.mpr hi)
  simp only [Bool.and_eq_true, Bool.not_eq_true'] at h
  obtain ⟨⟨⟨⟨⟨h1, h2⟩, h3⟩, h4⟩, h5⟩, h6⟩ := h
  exact ⟨h1, h2, h3, h4, h5, h6⟩
section
variable {P d : Nat → Nat → Int}
theorem rot1 (a b c : Int) : a + b + c = c + a + b := by rw [Int.add_comm (a + b) c, Int.add_assoc]
theorem rot2 (a b c : Int) : a + b + c = b + c + a := (rot1 b c a).symm
theorem sw1 (a b c : Int) : a + b + c = a + c + b := Int.add_right_comm ..
theorem sw2 (a b c : Int) : a + b + c = b + a + c := by rw [Int.add_comm a b]
theorem sw3 (a b c : Int) : a + b + c = c + b + a := by rw [rot1, sw1]
theorem evn_ex {i : Nat} (hi : i < 4) : ∃ a b c, Tri i a b c ∧ Evn i a b c = true ∧ evn P i = P a 0 + P b 1 + P c 2 := by
  obtain ⟨t1, t2, t3, t4, t5, t6⟩ := tri_of i hi
  obtain ⟨e1, e2, e3, e4, e5, e6⟩ := evn_at hi
  unfold evn
  rcases max3_is (P (oth i 0) 0 + P (oth i 1) 1 + P (oth i 2) 2) (P (oth i 0) 1 + P (oth i 1) 2 + P (oth i 2) 0) (P (oth i 0) 2 + P (oth i 1) 0 + P (oth i 2) 1) with e | e | e <;> rw [e]
  · exact ⟨_, _, _, t1, e1, rfl⟩
  · exact ⟨_, _, _, t2, e2, rot1 ..⟩
  · exact ⟨_, _, _, t3, e3, rot2 ..⟩
theorem odd_ex {i : Nat} (hi : i < 4) : ∃ a b c, Tri i a b c ∧ Evn i a b c = false ∧ odd P i = P a 0 + P b 1 + P c 2 := by
  obtain ⟨t1, t2, t3, t4, t5, t6⟩ := tri_of i hi
  obtain ⟨e1, e2, e3, e4, e5, e6⟩ := evn_at hi
  unfold odd
  rcases max3_is (P (oth i 0) 0 + P (oth i 1) 2 + P (oth i 2) 1) (P (oth i 0) 1 + P (oth i 1) 0 + P (oth i 2) 2) (P (oth i 0) 2 + P (oth i 1) 1 + P (oth i 2) 0) with e | e | e <;> rw [e]
  · exact ⟨_, _, _, t4, e4, sw1 ..⟩
  · exact ⟨_, _, _, t5, e5, sw2 ..⟩
  · exact ⟨_, _, _, t6, e6, sw3 ..⟩
theorem cls_ge {i a b c : Nat} (t : Tri i a b c) : (Evn i a b c = true → P a 0 + P b 1 + P c 2 ≤ evn P i) ∧ (Evn i a b c = false → P a 0 + P b 1 + P c 2 ≤ odd P i) := by
  obtain ⟨e1, e2, e3, e4, e5, e6⟩ := evn_at t.1
  have he := ge3 (P (oth i 0) 0 + P (oth i 1) 1 + P (oth i 2) 2) (P (oth i 0) 1 + P (oth i 1) 2 + P (oth i 2) 0) (P (oth i 0) 2 + P (oth i 1) 0 + P (oth i 2) 1)
  have ho := ge3 (P (oth i 0) 0 + P (oth i 1) 2 + P (oth i 2) 1) (P (oth i 0) 1 + P (oth i 1) 0 + P (oth i 2) 2) (P (oth i 0) 2 + P (oth i 1) 1 + P (oth i 2) 0)
  have no : ∀ {b : Bool} {p : Prop}, b = true → b = false → p := fun h h' => nomatch h.symm.trans h'
  rcases tri_cases t with ⟨rfl, rfl, rfl⟩ | ⟨rfl, rfl, rfl⟩ | ⟨rfl, rfl, rfl⟩ | ⟨rfl, rfl, rfl⟩ | ⟨rfl, rfl, rfl⟩ | ⟨rfl, rfl, rfl⟩
  · exact ⟨fun _ => he.1, no e1⟩
  · exact ⟨fun _ => rot1 (P (oth i 0) 1) .. ▸ he.2.1, no e2⟩
  · exact ⟨fun _ => rot2 (P (oth i 0) 2) .. ▸ he.2.2, no e3⟩
  · exact ⟨fun h => no h e4, fun _ => sw1 (P (oth i 0) 0) .. ▸ ho.1⟩
  · exact ⟨fun h => no h e5, fun _ => sw2 (P (oth i 0) 1) .. ▸ ho.2.1⟩
  · exact ⟨fun h => no h e6, fun _ => sw3 (P (oth i 0) 2) .. ▸ ho.2.2⟩
theorem mm_ge {i a b c : Nat} (t : Tri i a b c) : P a 0 + P b 1 + P c 2 ≤ mm P i := by
  rw [mm_eq]
  cases h : Evn i a b c with
  | true => exact Int.le_trans ((cls_ge t).1 h) (Int.le_max_left ..)
  | false => exact Int.le_trans ((cls_ge t).2 h) (Int.le_max_right ..)
theorem mm_ex (P : Nat → Nat → Int) {i : Nat} (hi : i < 4) : ∃ a b c, Tri i a b c ∧ mm P i = P a 0 + P b 1 + P c 2 := by
  rw [mm_eq]
  rcases is2 (evn P i) (odd P i) with e | e <;> rw [e]
  · obtain ⟨a, b, c, t, _, h⟩ := evn_ex (P := P) hi
    exact ⟨a, b, c, t, h⟩
  · obtain ⟨a, b, c, t, _, h⟩ := odd_ex (P := P) hi
    exact ⟨a, b, c, t, h⟩

theorem sum_tag (hP : Pnt P d) {i a b c l : Nat} (t : Tri i a b c) (hl : l < 3) : P i l + (P a 0 + P b 1 + P c 2) = 4096 * (d i l + d a 0 + d b 1 + d c 2) + ((tg l i a b c : Nat) : Int) := by
  obtain ⟨h1, h2, h3, h4, _⟩ := t
  rw [hP i h1 l hl, hP a h2 0 (by decide), hP b h3 1 (by decide), hP c h4 2 (by decide)]
  unfold tg
  push_cast
  rw [Nat.add_zero]
  omega
theorem tag_small {i a b c l : Nat} (t : Tri i a b c) (hl : l < 3) : tg l i a b c < 4096 := of_decide_eq_true (all3_at (List.all_eq_true.mp tg_lt l (List.mem_range.mpr hl)) t)
theorem same_pair (hP : Pnt P d) {i a b c k a' b' c' l : Nat} (t : Tri i a b c) (t' : Tri k a' b' c') (hl : l < 3) (e : P i l + (P a 0 + P b 1 + P c 2) = P k l + (P a' 0 + P b' 1 + P c' 2)) :
    (k = i ∧ a' = a ∧ b' = b ∧ c' = c) ∨ (k = pk l a b c ∧ a' = r0 l i a ∧ b' = r1 l i b ∧ c' = r2 l i c) := by
  rw [sum_tag hP t hl, sum_tag hP t' hl] at e
  have h1 := tag_small t hl
  have h2 := tag_small t' hl
  have et : tg l i a b c = tg l k a' b' c' := by omega
  have q := all3_at (all3_at (List.all_eq_true.mp tg_dec l (List.mem_range.mpr hl)) t) t'
  rw [et] at q
  simp only [bne_self_eq_false, Bool.false_or, Bool.or_eq_true, Bool.and_eq_true, beq_iff_eq] at q
  rcases q with ⟨⟨⟨q1, q2⟩, q3⟩, q4⟩ | ⟨⟨⟨q1, q2⟩, q3⟩, q4⟩
  · exact .inl ⟨q1, q2, q3, q4⟩
  · exact .inr ⟨q1, q2, q3, q4⟩
theorem swap_tri {i a b c l : Nat} (t : Tri i a b c) (hl : l < 3) : Tri (pk l a b c) (r0 l i a) (r1 l i b) (r2 l i c) ∧ pk l a b c ≠ i ∧ ((Evn i a b c != (i % 2 == 1)) != (Evn (pk l a b c) (r0 l i a) (r1 l i b) (r2 l i c) != (pk l a b c % 2 == 1))) = true := by
  have q := all3_at (List.all_eq_true.mp sw_dec l (List.mem_range.mpr hl)) t
  simp only [Bool.and_eq_true, decide_eq_true_eq, triB] at q
  obtain ⟨⟨⟨⟨q1, q2⟩, q3⟩, q4⟩, q5⟩ := q
  simp only [bne_iff_ne] at q2 q3
  obtain ⟨⟨⟨⟨⟨w1, w2⟩, w3⟩, w4⟩, w5⟩, w6⟩ := q3
  exact ⟨⟨q1, q4.1, q4.2.1, q4.2.2, w1, w2, w3, w4, w5, w6⟩, q2, q5⟩
theorem swap_sum {i a b c l : Nat} (hl : l < 3) : P (pk l a b c) l + (P (r0 l i a) 0 + P (r1 l i b) 1 + P (r2 l i c) 2) = P i l + (P a 0 + P b 1 + P c 2) := by
  match l, hl with
  | 0, _ => show P a 0 + (P i 0 + P b 1 + P c 2) = _; omega
  | 1, _ => show P b 1 + (P a 0 + P i 1 + P c 2) = _; omega
  | 2, _ => show P c 2 + (P a 0 + P b 1 + P i 2) = _; omega
theorem side_of (hP : Pnt P d) {i a b c : Nat} (t : Tri i a b c) (he : mm P i = P a 0 + P b 1 + P c 2) : decide (sd0 P i > sd1 P i) = (Evn i a b c != (i % 2 == 1)) := by
  have hpk : ∀ l, pk l a b c ≠ i := fun l => by
    obtain ⟨_, _, _, _, h5, h6, h7, _⟩ := t
    unfold pk; split; exact h5; split; exact h6; exact h7
  have uniq : ∀ a' b' c', Tri i a' b' c' → P a' 0 + P b' 1 + P c' 2 = P a 0 + P b 1 + P c 2 → Evn i a' b' c' = Evn i a b c := fun a' b' c' t' e => by
    rcases same_pair hP t t' (l := 0) (by decide) (by omega) with ⟨_, rfl, rfl, rfl⟩ | ⟨q, _⟩
    · rfl
    · exact absurd q.symm (hpk 0)
  have hme := mm_eq P i
  obtain ⟨c1, c2⟩ := cls_ge (P := P) t
  obtain ⟨a1, b1, k1, t1, v1, s1⟩ := evn_ex (P := P) t.1
  obtain ⟨a2, b2, k2, t2, v2, s2⟩ := odd_ex (P := P) t.1
  unfold sd0 sd1
  cases hE : Evn i a b c with
  | true =>
    have h1 := c1 hE
    have hne : odd P i ≠ mm P i := fun q => by
      have := uniq a2 b2 k2 t2 (by omega)
      rw [v2, hE] at this; cases this
    have hlt : odd P i < evn P i := by omega
    split
    · next hp => rw [decide_eq_true (by omega), hp]; rfl
    · next hp => rw [decide_eq_false (by omega), show i % 2 = 1 by omega]; rfl
  | false =>
    have h1 := c2 hE
    have hne : evn P i ≠ mm P i := fun q => by
      have := uniq a1 b1 k1 t1 (by omega)
      rw [v1, hE] at this; cases this
    have hlt : evn P i < odd P i := by omega
    split
    · next hp => rw [decide_eq_false (by omega), hp]; rfl
    · next hp => rw [decide_eq_true (by omega), show i % 2 = 1 by omega]; rfl
end
-- M4
/-- a place that attains the greatest at a light -/
def Top (P : Nat → Nat → Int) (l i : Nat) : Prop := ∀ j, j < 4 → P j l + mm P j ≤ P i l + mm P i
section
variable {P d : Nat → Nat → Int}
theorem top_ex (l : Nat) : ∃ i, i < 4 ∧ Top P l i := by
  obtain ⟨i, hi, e⟩ := at4 fun j => P j l + mm P j
  exact ⟨i, hi, fun j hj => Int.le_trans (up4 (fun j => P j l + mm P j) hj) (Int.le_of_eq e)⟩
/-- just two places attain it, of unlike sides -/
theorem two_at (hP : Pnt P d) {l : Nat} (hl : l < 3) : ∃ i k, i < 4 ∧ k < 4 ∧ i ≠ k ∧ (∀ j, j < 4 → (Top P l j ↔ j = i ∨ j = k)) ∧ decide (sd0 P i > sd1 P i) ≠ decide (sd0 P k > sd1 P k) := by
  obtain ⟨i, hi, ti⟩ := top_ex (P := P) l
  obtain ⟨a, b, c, t, e⟩ := mm_ex P hi
  obtain ⟨t', hne, hs⟩ := swap_tri t hl
  have es := swap_sum (P := P) (i := i) (a := a) (b := b) (c := c) hl
  have g := mm_ge (P := P) t'
  have up := ti _ t'.1
  have ek : mm P (pk l a b c) = P (r0 l i a) 0 + P (r1 l i b) 1 + P (r2 l i c) 2 := by omega
  refine ⟨i, pk l a b c, hi, t'.1, Ne.symm hne, fun j hj => ⟨fun tj => ?_, fun h => ?_⟩, ?_⟩
  · obtain ⟨a', b', c', tt, et⟩ := mm_ex P hj
    have u1 := ti j hj
    have u2 := tj i hi
    rcases same_pair hP t tt hl (by omega) with ⟨q, _⟩ | ⟨q, _⟩
    · exact .inl q
    · exact .inr q
  · rcases h with rfl | rfl
    · exact ti
    · intro m hm
      have := ti m hm
      omega
  · rw [side_of hP t e, side_of hP t' ek]
    exact bne_iff_ne.mp hs
theorem perm_dec : (all3 fun i a b c => [i, a, b, c].isPerm [0, 1, 2, 3]) = true := by decide +kernel
theorem perm_sum {l k : List Nat} (f : Nat → Int) (h : l.Perm k) : (l.map f).sum = (k.map f).sum := by
  induction h with
  | nil => rfl
  | cons a _ ih => rw [List.map_cons, List.map_cons, List.sum_cons, List.sum_cons, ih]
  | swap a b l => rw [List.map_cons, List.map_cons, List.map_cons, List.map_cons, List.sum_cons, List.sum_cons, List.sum_cons, List.sum_cons, Int.add_left_comm]
  | trans _ _ ih1 ih2 => exact ih1.trans ih2
theorem sum4 (f : Nat → Int) {i a b c : Nat} (t : Tri i a b c) : f i + (f a + (f b + (f c + 0))) = f 0 + (f 1 + (f 2 + (f 3 + 0))) :=
  perm_sum f (List.isPerm_iff.mp (all3_at perm_dec t))
theorem sdr_dec : ((List.range 4).all fun i0 => (List.range 4).all fun k0 => k0 == i0 || (List.range 4).all fun i1 => (List.range 4).all fun k1 => k1 == i1 || (List.range 4).all fun i2 => (List.range 4).all fun k2 => k2 == i2 ||
    ((i1 == i0 || i1 == k0) && (k1 == i0 || k1 == k0)) || ([i0, k0].any fun a => [i1, k1].any fun b => [i2, k2].any fun c => a != b && a != c && b != c)) = true := by decide +kernel
theorem sdr {i0 k0 i1 k1 i2 k2 : Nat} (h0 : i0 < 4) (g0 : k0 < 4) (n0 : i0 ≠ k0) (h1 : i1 < 4) (g1 : k1 < 4) (n1 : i1 ≠ k1) (h2 : i2 < 4) (g2 : k2 < 4) (n2 : i2 ≠ k2) :
    ((i1 = i0 ∨ i1 = k0) ∧ (k1 = i0 ∨ k1 = k0)) ∨ ∃ a b c, (a = i0 ∨ a = k0) ∧ (b = i1 ∨ b = k1) ∧ (c = i2 ∨ c = k2) ∧ a ≠ b ∧ a ≠ c ∧ b ≠ c := by
  have e := List.all_eq_true.mp (List.all_eq_true.mp sdr_dec i0 (List.mem_range.mpr h0)) k0 (List.mem_range.mpr g0)
  rw [show (k0 == i0) = false by simpa using n0.symm, Bool.false_or] at e
  have e := List.all_eq_true.mp (List.all_eq_true.mp e i1 (List.mem_range.mpr h1)) k1 (List.mem_range.mpr g1)
  rw [show (k1 == i1) = false by simpa using n1.symm, Bool.false_or] at e
  have e := List.all_eq_true.mp (List.all_eq_true.mp e i2 (List.mem_range.mpr h2)) k2 (List.mem_range.mpr g2)
  rw [show (k2 == i2) = false by simpa using n2.symm, Bool.false_or, Bool.or_eq_true] at e
  rcases e with e | e
  · left
    simpa using e
  · right
    obtain ⟨a, ha, e⟩ := List.any_eq_true.mp e
    obtain ⟨b, hb, e⟩ := List.any_eq_true.mp e
    obtain ⟨c, hc, e⟩ := List.any_eq_true.mp e
    simp only [Bool.and_eq_true, bne_iff_ne] at e
    exact ⟨a, b, c, by simpa using ha, by simpa using hb, by simpa using hc, e.1.1, e.1.2, e.2⟩
theorem pow8 {p : Nat} (hp : p < 4) : (0 : Int) < 2 ^ (3 * p) ∧ (2 : Int) ^ (3 * p) < 1000 := by
  match p, hp with
  | 0, _ => decide
  | 1, _ => decide
  | 2, _ => decide
  | 3, _ => decide
theorem pow8_inj : ((List.range 4).all fun p => (List.range 4).all fun q => (2 : Int) ^ (3 * p) != 2 ^ (3 * q) || p == q) = true := by decide +kernel
theorem apart_num {a b a' b' m k x y x2 y2 : Int} (hx : 0 < x ∧ x < 1000) (hy : 0 < y ∧ y < 1000) (e0 : 4096 * a + x + m = 4096 * b + y + k) (e1 : 4096 * a' + x2 + m = 4096 * b' + y2 + k) (ex : x2 = x * 2) (ey : y2 = y * 2) : x = y := by omega
/-- no two lights have one pair -/
theorem pairs_apart (hP : Pnt P d) {p q : Nat} (hp : p < 4) (hq : q < 4) (hne : p ≠ q) (p0 : Top P 0 p) (q0 : Top P 0 q) (p1 : Top P 1 p) (q1 : Top P 1 q) : False := by
  have e0 : P p 0 + mm P p = P q 0 + mm P q := Int.le_antisymm (q0 p hp) (p0 q hq)
  have e1 : P p 1 + mm P p = P q 1 + mm P q := Int.le_antisymm (q1 p hp) (p1 q hq)
  rw [hP p hp 0 (by decide), hP q hq 0 (by decide), Nat.add_zero, Nat.add_zero] at e0
  rw [hP p hp 1 (by decide), hP q hq 1 (by decide)] at e1
  have e := apart_num (pow8 hp) (pow8 hq) e0 e1 (Int.pow_succ ..) (Int.pow_succ ..)
  have h := List.all_eq_true.mp (List.all_eq_true.mp pow8_inj p (List.mem_range.mpr hp)) q (List.mem_range.mpr hq)
  rw [e, bne_self_eq_false, Bool.false_or] at h
  exact hne (beq_iff_eq.mp h)
theorem rest_dec : ((List.range 4).all fun a => (List.range 4).all fun b => (List.range 4).all fun c => a == b || a == c || b == c || decide (6 - a - b - c < 4 ∧ a < 4 ∧ b < 4 ∧ c < 4 ∧ a ≠ 6 - a - b - c ∧ b ≠ 6 - a - b - c ∧ c ≠ 6 - a - b - c ∧ a ≠ b ∧ a ≠ c ∧ b ≠ c)) = true := by decide +kernel
theorem tri_rest {a b c : Nat} (a4 : a < 4) (b4 : b < 4) (c4 : c < 4) (ab : a ≠ b) (ac : a ≠ c) (bc : b ≠ c) : Tri (6 - a - b - c) a b c := by
  have h := List.all_eq_true.mp (List.all_eq_true.mp (List.all_eq_true.mp rest_dec a (List.mem_range.mpr a4)) b (List.mem_range.mpr b4)) c (List.mem_range.mpr c4)
  rw [beq_false_of_ne ab, beq_false_of_ne ac, beq_false_of_ne bc, Bool.false_or, Bool.false_or, Bool.false_or] at h
  exact tri_mk h
theorem in_dec : (all3 fun j a b c => (List.range 4).all fun i => i == j || i == a || i == b || i == c) = true := by decide +kernel
theorem in_tri {i j a b c : Nat} (t : Tri j a b c) (hi : i < 4) (h : j ≠ i) : i = a ∨ i = b ∨ i = c := by
  have e := List.all_eq_true.mp (all3_at in_dec t) i (List.mem_range.mpr hi)
  rw [beq_false_of_ne (Ne.symm h), Bool.false_or, Bool.or_eq_true, Bool.or_eq_true, beq_iff_eq, beq_iff_eq, beq_iff_eq, or_assoc] at e
  exact e
theorem act_num {S m' x y z ma mb mc mj a' b' c' p q r : Int} (s1 : mj + (ma + (mb + (mc + 0))) = S) (s2 : m' + (a' + (b' + (c' + 0))) = S) (g : x + y + z ≤ mj) (e : m' = p + q + r) (ua : p + a' ≤ x + ma) (ub : q + b' ≤ y + mb) (uc : r + c' ≤ z + mc) : x + ma ≤ p + a' ∧ y + mb ≤ q + b' ∧ z + mc ≤ r + c' := by omega
/-- each place attains the greatest at some light -/
theorem active (hP : Pnt P d) {i : Nat} (hi : i < 4) : ∃ l, l < 3 ∧ Top P l i := by
  obtain ⟨i0, k0, h0, g0, n0, T0, _⟩ := two_at hP (l := 0) (by decide)
  obtain ⟨i1, k1, h1, g1, n1, T1, _⟩ := two_at hP (l := 1) (by decide)
  obtain ⟨i2, k2, h2, g2, n2, T2, _⟩ := two_at hP (l := 2) (by decide)
  rcases sdr h0 g0 n0 h1 g1 n1 h2 g2 n2 with ⟨q1, q2⟩ | ⟨a, b, c, ha, hb, hc, ab, ac, bc⟩
  · exact (pairs_apart hP h1 g1 n1 ((T0 i1 h1).mpr q1) ((T0 k1 g1).mpr q2) ((T1 i1 h1).mpr (.inl rfl)) ((T1 k1 g1).mpr (.inr rfl))).elim
  · have a4 : a < 4 := by rcases ha with rfl | rfl <;> assumption
    have b4 : b < 4 := by rcases hb with rfl | rfl <;> assumption
    have c4 : c < 4 := by rcases hc with rfl | rfl <;> assumption
    have ta := (T0 a a4).mpr ha
    have tb := (T1 b b4).mpr hb
    have tc := (T2 c c4).mpr hc
    have tj := tri_rest a4 b4 c4 ab ac bc
    -- a place unlike i
    have hj : ∃ j, j < 4 ∧ j ≠ i := by by_cases q : i = 0; exact ⟨1, by decide, fun e => nomatch e.trans q⟩; exact ⟨0, by decide, Ne.symm q⟩
    obtain ⟨j, hj4, hji⟩ := hj
    obtain ⟨a', b', c', tt, et⟩ := mm_ex P hj4
    have w := act_num (sum4 (mm P) tj) (sum4 (mm P) tt) (mm_ge (P := P) tj) et (ta a' tt.2.1) (tb b' tt.2.2.1) (tc c' tt.2.2.2.1)
    rcases in_tri tt hi hji with rfl | rfl | rfl
    · exact ⟨0, by decide, fun m hm => Int.le_trans (ta m hm) w.1⟩
    · exact ⟨1, by decide, fun m hm => Int.le_trans (tb m hm) w.2.1⟩
    · exact ⟨2, by decide, fun m hm => Int.le_trans (tc m hm) w.2.2⟩
end
-- M5
section
variable {P d : Nat → Nat → Int}
theorem drk_le {l i : Nat} (hi : i < 4) : drk P i l ≤ bld P l := up4 (fun j => drk P j l) hi
theorem drk_eq (P : Nat → Nat → Int) (j l : Nat) : drk P j l = P j l + mm P j - mst P := by unfold drk spr; omega
theorem top_iff {l i : Nat} (hi : i < 4) : drk P i l = bld P l ↔ Top P l i := by
  constructor
  · intro h j hj
    have := drk_le (P := P) (l := l) hj
    rw [← h, drk_eq, drk_eq] at this
    exact Int.le_of_sub_le_sub_right this
  · intro h
    refine Int.le_antisymm (drk_le hi) (lo4 (f := fun j => drk P j l) fun j hj => ?_)
    show drk P j l ≤ drk P i l
    rw [drk_eq, drk_eq]
    exact Int.sub_le_sub_right (h j hj) _
theorem two_dec : ((List.range 4).all fun i => (List.range 4).all fun k => k == i || ((List.range 4).filter (fun j => j == i || j == k) == [min i k, max i k])) = true := by decide +kernel
theorem two_list {i k : Nat} (hi : i < 4) (hk : k < 4) (hne : i ≠ k) : (List.range 4).filter (fun j => j == i || j == k) = [min i k, max i k] := by
  have e := List.all_eq_true.mp (List.all_eq_true.mp two_dec i (List.mem_range.mpr hi)) k (List.mem_range.mpr hk)
  rw [show (k == i) = false by simpa using hne.symm, Bool.false_or] at e
  exact beq_iff_eq.mp e
theorem pow_bd {i l : Nat} (hi : i < 4) (hl : l < 3) : (0 : Int) < 2 ^ (3 * i + l) ∧ (2 : Int) ^ (3 * i + l) ≤ 2048 := by
  have hi' : i = 0 ∨ i = 1 ∨ i = 2 ∨ i = 3 := by omega
  have hl' : l = 0 ∨ l = 1 ∨ l = 2 := by omega
  rcases hi' with rfl | rfl | rfl | rfl <;> rcases hl' with rfl | rfl | rfl <;> decide
theorem plain_law (hP : Pnt P d) (hd : ∀ i, i < 4 → ∀ l, l < 3 → 0 ≤ d i l ∧ d i l < 16) : PL P := by
  have pb : ∀ i, i < 4 → ∀ l, l < 3 → 0 ≤ P i l ∧ P i l < 65536 := fun i hi l hl => by
    have h1 := hP i hi l hl
    have h2 := hd i hi l hl
    have h3 := pow_bd hi hl
    omega
  have sp0 : ∀ i, i < 4 → 0 ≤ spr P i := fun i hi => by
    exact Int.sub_nonneg_of_le (up4 (mm P) hi)
  -- shd and the greatest
  have sh : ∀ i l, shd (P i) (bld P) l = drk P i l - bld P l + 65536 + spr P i := fun i l => by unfold shd drk; omega
  have le : ∀ i, i < 4 → ∀ l, shd (P i) (bld P) l ≤ 65536 + spr P i := fun i hi l => by have := drk_le (P := P) (l := l) hi; have := sh i l; omega
  have top : ∀ i, i < 4 → mx3 (shd (P i) (bld P) 0) (shd (P i) (bld P) 1) (shd (P i) (bld P) 2) = 65536 + spr P i := fun i hi => by
    obtain ⟨l, hl, tl⟩ := active hP hi
    have e := (top_iff (P := P) hi).mpr tl
    have e' : shd (P i) (bld P) l = 65536 + spr P i := by have := sh i l; omega
    have l0 := le i hi 0; have l1 := le i hi 1; have l2 := le i hi 2
    have g := ge3 (shd (P i) (bld P) 0) (shd (P i) (bld P) 1) (shd (P i) (bld P) 2)
    refine Int.le_antisymm ?_ ?_
    · rcases max3_is (shd (P i) (bld P) 0) (shd (P i) (bld P) 1) (shd (P i) (bld P) 2) with q | q | q
      · exact Int.le_trans (Int.le_of_eq q) l0
      · exact Int.le_trans (Int.le_of_eq q) l1
      · exact Int.le_trans (Int.le_of_eq q) l2
    · rw [← e']
      match l, hl with
      | 0, _ => exact g.1
      | 1, _ => exact g.2.1
      | 2, _ => exact g.2.2
  refine ⟨top, fun i hi l hl => ?_, fun l hl => ?_⟩
  · -- ranges
    -- the blend is below the greatest paint, above the least less the most spared
    obtain ⟨i0, k0, hi0, _, _, T0, _⟩ := two_at hP hl
    have a0 := (top_iff (P := P) hi0).mpr ((T0 i0 hi0).mpr (.inl rfl))
    have b0 := pb i0 hi0 l hl
    have bi := pb i hi l hl
    have s0 := sp0 i0 hi0
    have si := sp0 i hi
    have up := le i hi l
    have e1 : bld P l = P i0 l - spr P i0 := by rw [← a0]; rfl
    -- what is spared: the place attains the greatest somewhere
    obtain ⟨m, hm, tm⟩ := active hP hi
    have em := (top_iff (P := P) hi).mpr tm
    obtain ⟨z, hz, ez⟩ : ∃ z, z < 4 ∧ spr P z = 0 := by
      obtain ⟨z, hz, e⟩ := at4 (mm P)
      exact ⟨z, hz, Int.sub_eq_zero_of_eq e⟩
    -- drk z m <= bld m = P i m - spr i, so spr i <= P i m - P z m
    have lz := drk_le (P := P) (l := m) hz
    have ezm : drk P z m = P z m - spr P z := rfl
    have eim : drk P i m = P i m - spr P i := rfl
    have bz := pb z hz m hm
    have bim := pb i hi m hm
    unfold shd
    constructor
    · omega
    · unfold shd at up; omega
  · obtain ⟨i, k, hi, hk, hne, T, hs⟩ := two_at hP hl
    have ef : (List.range 4).filter (fun j => drk P j l == bld P l) = [min i k, max i k] := by
      rw [← two_list hi hk hne]
      refine List.filter_congr fun j hj => ?_
      have hj4 := List.mem_range.mp hj
      rw [Bool.eq_iff_iff, beq_iff_eq, top_iff hj4, T j hj4]
      simp
    by_cases hlt : i ≤ k
    · exact ⟨i, k, hi, hk, by rw [ef, Nat.min_eq_left hlt, Nat.max_eq_right hlt], hs⟩
    · exact ⟨k, i, hk, hi, by rw [ef, Nat.min_eq_right (by omega), Nat.max_eq_left (by omega)], fun q => hs q.symm⟩
theorem plain_num (n : Nat → Int) (hn : ∀ i, i < 4 → 0 ≤ n i ∧ n i < 4096) : PL (pnt n) :=
  plain_law (d := dig n) (fun i hi l hl => pnt_eq hi hl (hn i hi)) fun i hi l hl => dig_bd hi hl (hn i hi)
end
-- J0
/-- what a written part says -/
def kEs (K : PySem.W.Frag) (a : Addr) : Array DictEntry := match K.lookup a with | some ⟨_, _, .dict es _, _⟩ => es | _ => #[]
def kEp (K : PySem.W.Frag) (a : Addr) : Nat := match K.lookup a with | some ⟨_, _, .dict _ n, _⟩ => n | _ => 0
def kA (K : PySem.W.Frag) (x : Str) : Addr := match nsFind (kEs K mainGlobals) x with | some (.ref a) => a | _ => 0
def kFn (K : PySem.W.Frag) (a : Addr) : FuncData := match K.lookup a with | some ⟨_, _, .func fd, _⟩ => fd | _ => default
def kFs (K : PySem.W.Frag) (a : Addr) : Array Value := match K.lookup a with | some ⟨_, _, .fields vs, _⟩ => vs | _ => #[]
def kSq (K : PySem.W.Frag) (a : Addr) : Array Value := match K.lookup a with | some ⟨_, _, .seq vs _, _⟩ => vs | _ => #[]
def kSn (K : PySem.W.Frag) (a : Addr) : Nat := match K.lookup a with | some ⟨_, _, .seq _ n, _⟩ => n | _ => 0
def vA (v : Value) : Addr := match v with | .ref a => a | _ => 0
def kM (K : PySem.W.Frag) (C : Addr) (x : Str) : Addr := match PySem.W.findIn K (.ref C) x with | some (some (.ref a)) => a | _ => 0
def vT (v : Value) : Tok := match v with | .str _ t => t | .int _ t => t | _ => 0
def kT0 (K : PySem.W.Frag) (d : Addr) : Tok := match (kEs K d).toList with | e :: _ => vT e.key | [] => 0
def kT1 (K : PySem.W.Frag) (d : Addr) : Tok := match (kEs K d).toList with | e :: _ => vT e.val | [] => 0
def kData (K : PySem.W.Frag) (a : Addr) : Option Data := (K.lookup a).map (·.data)

theorem kData_at {K : PySem.W.Frag} {h : Heap} (X : K.In h) {a : Addr} {d : Data} (e : kData K a = some d) : ∃ o, h.get? a = some o ∧ o.data = d := by
  unfold kData at e
  obtain ⟨o, ho, rfl⟩ := Option.map_eq_some_iff.mp e
  exact ⟨o, X a o ho, rfl⟩
theorem ns_K {K : PySem.W.Frag} {h : Heap} {a : Addr} {m : Str → Option Value} (X : K.In h) (N : h.Ns a m) (e : kData K a = some (.dict (kEs K a) (kEp K a))) (x : Str) : m x = nsFind (kEs K a) x := by
  obtain ⟨o, ho, hd⟩ := kData_at X e
  obtain ⟨o', es, ep, ho', hd', hk, hf⟩ := N
  rw [ho] at ho'; cases ho'
  rw [hd] at hd'; cases hd'
  exact (hf x).symm

/-- a def of the text, in a written part -/
structure FnK (K : PySem.W.Frag) (a : Addr) (st : Stmt) : Prop where
  obj : kData K a = some (.func (kFn K a))
  code : PySem.W.codeIn K (kFn K a).code (kFn K a).qualname = true
  body : (kFn K a).body = .stmts (fBody st)
  closure : (kFn K a).closure = []
  globals : (kFn K a).globals = mainGlobals
  builtins : (kFn K a).builtins = builtinsNs
  sc : (kFn K a).scope = fScope st
  co : (fScope st).isCoroutine = false
  gen : (fScope st).isGenerator = false
  kind : (fScope st).kind = .function
theorem FnK.at {W : Wd} {a : Addr} {st : Stmt} (f : FnK W.K a st) : FnAt W a (kFn W.K a) (fBody st) :=
  ⟨fun h hB => by
    obtain ⟨o, ho, hd⟩ := kData_at hB.kin f.obj
    exact ⟨o, ho, hd, PySem.W.codeRec_of hB.kin f.code⟩, f.body, f.closure, f.globals, f.builtins, by rw [f.sc]; exact f.co, by rw [f.sc]; exact f.gen, by rw [f.sc]; exact f.kind⟩
/-- the whole of what is asked of the written part -/
structure DefK (K : PySem.W.Frag) (st : Stmt) (x : Str) (xs : List Str) : Prop where
  glob : nsFind (kEs K mainGlobals) x = some (.ref (kA K x))
  fn : FnK K (kA K x) st
  bind : ∀ vs : List Value, vs.length = xs.length → bindArgs (kFn K (kA K x)) ⟨vs, []⟩ = pure (xs.zip vs)
structure MethK (K : PySem.W.Frag) (C : Addr) (i : Nat) (x : Str) : Prop where
  fn : FnK K (kM K C x) (methStmt i)
  find : PySem.W.findIn K (.ref C) x = some (some (.ref (kM K C x)))
  isfn : PySem.W.isFn K (.ref (kM K C x)) = true
  plain : PySem.W.plainGet K C x = true
  keep : PySem.W.keepIn K (.ref (kM K C x)) = true
structure PatK (K : PySem.W.Frag) (x : Str) (code : Array Nat) (groups kind : Nat) : Prop where
  glob : nsFind (kEs K mainGlobals) x = some (.ref (kA K x))
  obj : K.lookup (kA K x) = some { cls := .type "re.Pattern", data := .fields (kFs K (kA K x)) }
  wref : (kFs K (kA K x)).getD 5 .none = .ref (vA ((kFs K (kA K x)).getD 5 .none))
  words : K.lookup (vA ((kFs K (kA K x)).getD 5 .none)) = some { cls := .type "tuple", data := .seq (kSq K (vA ((kFs K (kA K x)).getD 5 .none))) (kSn K (vA ((kFs K (kA K x)).getD 5 .none))) }
  code : ((kSq K (vA ((kFs K (kA K x)).getD 5 .none))).map Builtin.Re.reRawOf).map (·.toNat) = code
  groups : Builtin.Re.reRawNat ((kFs K (kA K x)).getD 2 .none) = groups
  kind : Builtin.Re.reRawNat ((kFs K (kA K x)).getD 6 .none) = kind
section
variable {W : Wd}
theorem DefK.def {st : Stmt} {x : Str} {xs : List Str} (d : DefK W.K st x xs) (hm : ∀ x, W.mg x = nsFind (kEs W.K mainGlobals) x) : Def W st x xs :=
  ⟨_, _, d.fn.at, .inl ((hm x).trans d.glob), d.fn.sc, d.bind⟩
theorem MethK.meth {i : Nat} {x : Str} (m : MethK W.K W.C i x) : MethD W i x (kM W.K W.C x) (kFn W.K (kM W.K W.C x)) :=
  ⟨m.fn.at, m.fn.sc, m.find, m.isfn, m.plain, m.keep⟩
theorem PatK.pat {x : Str} {code : Array Nat} {groups kind : Nat} (p : PatK W.K x code groups kind) : PatAt W (kA W.K x) (kFs W.K (kA W.K x)) code groups kind :=
  ⟨fun h hB => hB.kin _ _ p.obj, ⟨_, _, _, fun h hB => hB.kin _ _ p.words, p.wref, p.code⟩, p.groups, p.kind⟩
end
/-- the names of built-ins the text asks -/
def biNames : List (Str × Value) := [("max", .builtin "max"), ("min", .builtin "min"), ("sum", .builtin "sum"), ("abs", .builtin "abs"), ("divmod", .builtin "divmod"), ("sorted", .builtin "sorted"),
  ("range", .type "range"), ("int", .type "int"), ("bytes", .type "bytes"), ("tuple", .type "tuple"), ("str", .type "str"), ("type", .type "type"), ("list", .type "list")]
structure LawK (K : PySem.W.Frag) (w : World) : Prop where
  g : kData K mainGlobals = some (.dict (kEs K mainGlobals) (kEp K mainGlobals))
  st : kData K cStatics = some (.dict (kEs K cStatics) (kEp K cStatics))
  nb : nsFind (kEs K cStatics) sharingNotToldKey = none
  bi : biNames.map (fun p => nsFind (kEs K mainGlobals) p.1) = biNames.map fun _ => none
  d4 : DefK K (stmtAt 4) "Int2AP" ["num"]
  d5 : DefK K (stmtAt 5) "ParseFlags" ["resp"]
  d7 : DefK K (stmtAt 7) "rgb_to_hsv" ["r", "g", "b"]
  d15 : DefK K (stmtAt 15) "_law_numbers" ["script"]
  d16 : DefK K (stmtAt 16) "_law_plain" ["place", "number"]
  d17 : DefK K (stmtAt 17) "_law_lights" ["word"]
  d18 : DefK K (stmtAt 18) "_law_sides" ["paints", "place"]
  d19 : DefK K (stmtAt 19) "_law_view" ["paint", "blend"]
  d20 : DefK K (stmtAt 20) "_law_table" ["words", "sides", "views"]
  d21 : DefK K (stmtAt 21) "_law_row" ["table", "light"]
  d22 : DefK K (stmtAt 22) "_law_due" ["numbers", "darkened", "blend", "light"]
  d23 : DefK K (stmtAt 23) "law" ["script"]
  pf : PatK K "Flags" fc 1 1
  pn : PatK K "_name_disallowed_re" nc 0 0
  pv : PatK K "_value_disallowed_re" vc 0 0
  nref : (kFs K (kA K "Flags")).getD 3 .none = .ref (vA ((kFs K (kA K "Flags")).getD 3 .none))
  nobj : K.lookup (vA ((kFs K (kA K "Flags")).getD 3 .none)) = some { cls := .type "dict", data := .dict (kEs K (vA ((kFs K (kA K "Flags")).getD 3 .none))) (kEp K (vA ((kFs K (kA K "Flags")).getD 3 .none))) }
  nent : kEs K (vA ((kFs K (kA K "Flags")).getD 3 .none)) = #[⟨hashStr w "flags", .str "flags" (kT0 K (vA ((kFs K (kA K "Flags")).getD 3 .none))), .int 1 (kT1 K (vA ((kFs K (kA K "Flags")).getD 3 .none)))⟩]
  cls : nsFind (kEs K mainGlobals) "Headers" = some (.ref (kA K "Headers"))
  clsk : PySem.W.keepIn K (.ref (kA K "Headers")) = true
  m0 : MethK K (kA K "Headers") 0 "__init__"
  m1 : MethK K (kA K "Headers") 1 "_convert_string_type"
  m7 : MethK K (kA K "Headers") 7 "get_all"
  m9 : MethK K (kA K "Headers") 9 "keys"
  m16 : MethK K (kA K "Headers") 16 "add_header"
  b0 : ∀ (self : Value) (S : Setting), PySem.W.peek K S (bindArgs (kFn K (kM K (kA K "Headers") "__init__")) ⟨[self], []⟩) = some [(Str.ofString "self", self), (Str.ofString "headers", .none)]
  b1 : ∀ self v b : Value, bindArgs (kFn K (kM K (kA K "Headers") "_convert_string_type")) ⟨[self, v], [(Str.ofString "name", b)]⟩ = pure [(Str.ofString "self", self), (Str.ofString "value", v), (Str.ofString "name", b)]
  b7 : ∀ vs : List Value, vs.length = 2 → bindArgs (kFn K (kM K (kA K "Headers") "get_all")) ⟨vs, []⟩ = pure (([Str.ofString "self", Str.ofString "name"] : List Str).zip vs)
  b9 : ∀ vs : List Value, vs.length = 1 → bindArgs (kFn K (kM K (kA K "Headers") "keys")) ⟨vs, []⟩ = pure (([Str.ofString "self"] : List Str).zip vs)
  b16 : ∀ self n v : Value, bindArgs (kFn K (kM K (kA K "Headers") "add_header")) ⟨[self, n, v], []⟩ = (alloc { cls := .type "dict", data := .dict #[] } >>= fun d => pure [(Str.ofString "self", self), (Str.ofString "_name", n), (Str.ofString "_value", v), (Str.ofString "_params", .ref d)])
  own : PySem.W.plainGet K (kA K "Headers") "_headers" = true ∧ PySem.W.hasDictIn K (kA K "Headers") = true ∧ PySem.W.findIn K (.ref (kA K "Headers")) "_headers" = some none
  make : PySem.W.makesIn K (kA K "Headers") = true ∧ PySem.W.findIn K (.ref (kA K "Headers")) "__setattr__" = some (some (.builtin "object.__setattr__")) ∧ PySem.W.plainOver K (kA K "Headers") = true ∧ PySem.W.takerIn K (kA K "Headers") "_headers" = some none

theorem len0 {P : List Value → Prop} (h : P []) (vs : List Value) (e : vs.length = 0) : P vs := by
  rw [List.eq_nil_of_length_eq_zero e]; exact h
theorem lenS {P : List Value → Prop} {n : Nat} (h : ∀ a l, l.length = n → P (a :: l)) (vs : List Value) (e : vs.length = n + 1) : P vs := by
  obtain ⟨a, l, rfl⟩ := List.exists_cons_of_length_eq_add_one e
  exact h a l (Nat.succ.inj e)
theorem len1 {P : List Value → Prop} (h : ∀ a, P [a]) : ∀ vs : List Value, vs.length = 1 → P vs := lenS fun a => len0 (P := fun l => P (a :: l)) (h a)
theorem len2 {P : List Value → Prop} (h : ∀ a b, P [a, b]) : ∀ vs : List Value, vs.length = 2 → P vs := lenS fun a => len1 (P := fun l => P (a :: l)) (h a)
theorem len3 {P : List Value → Prop} (h : ∀ a b c, P [a, b, c]) : ∀ vs : List Value, vs.length = 3 → P vs := lenS fun a => len2 (P := fun l => P (a :: l)) (h a)
theorem len4 {P : List Value → Prop} (h : ∀ a b c d, P [a, b, c, d]) : ∀ vs : List Value, vs.length = 4 → P vs := lenS fun a => len3 (P := fun l => P (a :: l)) (h a)
theorem lawD_of {W : Wd} (L : LawK W.K W.w) (hC : W.C = kA W.K "Headers") (hm : ∀ x, W.mg x = nsFind (kEs W.K mainGlobals) x) (hb : ∀ x : Str, x ≠ "__name__" → W.mb x = bootBuiltins x) (hs : StrKeys (kEs W.K cStatics)) : LawD W := by
  obtain ⟨prog, w, K, mg, mb, C⟩ := W
  dsimp only at hC
  subst hC
  have bi : ∀ (i : Nat) x v, biNames[i]? = some (x, v) → bootBuiltins x = some v → x ≠ "__name__" → Resolve ⟨prog, w, K, mg, mb, kA K "Headers"⟩ x v := fun i x v hx hv hne => by
    refine .inr ⟨(hm x).trans ?_, (hb x hne).trans hv⟩
    have := List.map_inj_left.mp L.bi (x, v) (List.mem_of_getElem? hx)
    exact this
  refine
    { T := ⟨bi 0 _ _ rfl (by kernel_rfl) (by decide), bi 1 _ _ rfl (by kernel_rfl) (by decide), bi 2 _ _ rfl (by kernel_rfl) (by decide), bi 3 _ _ rfl (by kernel_rfl) (by decide), bi 4 _ _ rfl (by kernel_rfl) (by decide), bi 5 _ _ rfl (by kernel_rfl) (by decide), bi 6 _ _ rfl (by kernel_rfl) (by decide), bi 7 _ _ rfl (by kernel_rfl) (by decide), bi 8 _ _ rfl (by kernel_rfl) (by decide), bi 9 _ _ rfl (by kernel_rfl) (by decide), bi 10 _ _ rfl (by kernel_rfl) (by decide), bi 11 _ _ rfl (by kernel_rfl) (by decide), bi 12 _ _ rfl (by kernel_rfl) (by decide)⟩
      R := ⟨⟨_, _, .inl ((hm _).trans L.pn.glob), L.pn.pat⟩, ⟨_, _, .inl ((hm _).trans L.pv.glob), L.pv.pat⟩⟩
      C := ⟨_, _, L.m1.meth, L.b1⟩
      O := ⟨L.own.1, L.own.2.1, L.own.2.2⟩
      F := ⟨_, _, .inl ((hm _).trans L.pf.glob), L.pf.pat, ?_⟩
      bk := ?_
      add := ⟨_, _, L.m16.meth, L.b16⟩
      make := ⟨_, L.make.1, ⟨_, L.m0.meth, fun self s hB M A E Q hq => (PySem.W.Looks.of_peek (M := M) hB.kin (L.b0 self _)).here hq⟩, L.make.2.1, L.make.2.2.1, L.make.2.2.2⟩
      ga := ⟨_, _, L.m7.meth, L.b7⟩
      ks := ⟨_, _, L.m9.meth, L.b9⟩
      cls := .inl ((hm _).trans L.cls)
      clsk := L.clsk
      d4 := L.d4.def hm
      d5 := L.d5.def hm
      d7 := L.d7.def hm
      d15 := L.d15.def hm
      d16 := L.d16.def hm
      d17 := L.d17.def hm
      d18 := L.d18.def hm
      d19 := L.d19.def hm
      d20 := L.d20.def hm
      d21 := L.d21.def hm
      d22 := L.d22.def hm }
  · -- the pattern's names
    obtain ⟨t, u, hes⟩ : ∃ t u : Tok, kEs K (vA ((kFs K (kA K "Flags")).getD 3 .none)) = #[⟨hashStr w "flags", .str "flags" t, .int 1 u⟩] := ⟨_, _, L.nent⟩
    refine ⟨_, fun k => findBy (strKind prog w).is (kEs K (vA ((kFs K (kA K "Flags")).getD 3 .none))) k, u, L.nref, fun h hB => ⟨_, _, _, hB.kin _ _ L.nobj, ⟨rfl, rfl, rfl⟩, rfl, ?_, fun _ => rfl⟩, ?_⟩
    · intro e he
      rw [hes] at he
      have he' : e = ⟨hashStr w "flags", .str "flags" t, .int 1 u⟩ := by simpa using he
      subst he'
      exact ⟨"flags", strKind_is .., rfl⟩
    · dsimp only
      rw [hes]
      show findBy (strKind prog w).is #[⟨hashStr w "flags", .str "flags" t, .int 1 u⟩] "flags" = _
      have q : (strKind prog w).is "flags" (.str "flags" t) = true := strKind_is ..
      simp [findBy, q]
  · intro h hB
    obtain ⟨o, ho, hd⟩ := kData_at hB.kin L.st
    exact ⟨_, ⟨o, _, _, ho, hd, hs, fun _ => rfl⟩, L.nb⟩

theorem caller_ok : OkA 8 callerA := ⟨rfl, by decide, by decide⟩
theorem join {W : Wd} (L : LawK W.K W.w) (hC : W.C = kA W.K "Headers") {q : Program} {loose : List Str} {mean : ExcName → Option Value} {s₁ : Shared} (T : PyProof.Rows.Top q loose mean W.mg W.mb s₁.heap) (KX : W.K.In s₁.heap) {fa a : Addr} {vs : List Value} {ns : List Int}
    (hmg : W.mg "law" = some (.ref fa)) (hl : s₁.heap.IsList a vs.toArray) (hi : IntsAre vs ns) (hn : ns.length ≤ 63) {Q : Value → Shared → Prop} {E : Value → Shared → Prop}
    (hQ : ∀ h' tk, (∀ b o, s₁.heap.get? b = some o → h'.get? b = some o) → Q (.bool true) { s₁ with heap := h', toks := tk }) : wpAny (model W.prog W.w) callerA (call (.ref fa) [.ref a]) Q E s₁ := by
  have hm : ∀ x, W.mg x = nsFind (kEs W.K mainGlobals) x := fun x => ns_K KX T.g L.g x
  have hs : StrKeys (kEs W.K cStatics) := by
    obtain ⟨mc, ⟨o', es, ep, ho', hd', hk, _⟩, _⟩ := T.nodigits
    obtain ⟨o, ho, hd⟩ := kData_at KX L.st
    rw [ho] at ho'; cases ho'
    rw [hd] at hd'; cases hd'
    exact hk
  have LD := lawD_of L hC hm T.builtins hs
  obtain ⟨f, fd, body, hf, hr, hc⟩ := law_ok (k := 0) LD (L.d23.def hm) hn (plain_num (num ns) fun i _ => num_bd ns i)
  have hfa : f = fa := by
    rcases hr with e | ⟨e, _⟩
    · rw [hmg] at e; cases e; rfl
    · rw [hmg] at e; cases e
  subst hfa
  obtain ⟨o, ho, hcl, n, hd⟩ := hl
  have hB : Base W s₁.heap := ⟨T.nolimit, T.g, T.b, KX⟩
  have hG : ∀ b p, put (fun _ => none) a o b = some p → s₁.heap.get? b = some p := fun b p e => by
    unfold Mine.put at e
    by_cases h : b = a
    · subst h; rw [if_pos rfl] at e; cases e; exact ho
    · rw [if_neg h] at e; cases e
  refine wpAny_nay (hc callerA s₁ (put (fun _ => none) a o) [.ref a] caller_ok hB hG (.cons (.list (put_self ..) hcl hd (of_hInts hi)) .nil)) fun v s' h => ?_
  obtain ⟨G', g, hv⟩ := h
  cases hv
  obtain ⟨h', tk, rfl⟩ := g.same
  exact hQ h' tk g.keep
end Mine
namespace Mine
section
open PySem.W
local macro_rules | `(tactic| walk_at "jfn") => `(tactic| exact ⟨by kernel_rfl, by kernel_rfl, by kernel_rfl, by kernel_rfl, by kernel_rfl, by kernel_rfl, by kernel_rfl, by kernel_rfl, by kernel_rfl, by kernel_rfl⟩)
local macro_rules | `(tactic| walk_at "jd1") => `(tactic| exact ⟨by kernel_rfl, by walk_at "jfn", len1 fun a => by kernel_rfl⟩)
local macro_rules | `(tactic| walk_at "jd2") => `(tactic| exact ⟨by kernel_rfl, by walk_at "jfn", len2 fun a b => by kernel_rfl⟩)
local macro_rules | `(tactic| walk_at "jd3") => `(tactic| exact ⟨by kernel_rfl, by walk_at "jfn", len3 fun a b c => by kernel_rfl⟩)
local macro_rules | `(tactic| walk_at "jd4") => `(tactic| exact ⟨by kernel_rfl, by walk_at "jfn", len4 fun a b c d => by kernel_rfl⟩)
local macro_rules | `(tactic| walk_at "jpat") => `(tactic| exact ⟨by kernel_rfl, by kernel_rfl, by kernel_rfl, by kernel_rfl, by kernel_rfl, by kernel_rfl, by kernel_rfl⟩)
local macro_rules | `(tactic| walk_at "jmet") => `(tactic| exact ⟨by walk_at "jfn", by kernel_rfl, by kernel_rfl, by kernel_rfl, by kernel_rfl⟩)
-- names that stand already: the kit then leaves its twins of these constants out of the file
def holds.tw4077311611012620791 : Unit := ()
def holds.tw8564859838321607590 : Unit := ()
def holds.tw3028704034556701519 : Unit := ()
def holds.tw6644241251562650150 : Unit := ()
def holds.tw14040500308302212198 : Unit := ()
def holds.tw5359491961924561981 : Unit := ()
def holds.tw10582916261258784227 : Unit := ()
def holds.tw1641969730365105507 : Unit := ()
def holds.tw12559123541408688129 : Unit := ()
def holds.tw874129795834312950 : Unit := ()
def holds.tw6026762337386570962 : Unit := ()
def holds.tw945861476033566700 : Unit := ()
def holds.tw6654929391614583909 : Unit := ()
def holds.tw5926597645957970899 : Unit := ()
def holds.tw1446027475299390936 : Unit := ()
def holds.tw12698916279152862973 : Unit := ()
def holds.tw9107170298555381705 : Unit := ()
def holds.tw14856189802965030758 : Unit := ()
def holds.tw9279739060811778729 : Unit := ()
def holds.tw9408521175777228426 : Unit := ()
def holds.tw6816380694822836728 : Unit := ()
def holds.tw18145382148040430673 : Unit := ()
def holds.tw4485590747672999114 : Unit := ()
def holds.tw1357463484097335404 : Unit := ()
def holds.tw8049511868366338171 : Unit := ()
def holds.tw5498966250228494579 : Unit := ()
def holds.tw7944191787301449481 : Unit := ()
def holds.tw2781561513384061212 : Unit := ()
def holds.tw4074010420050720623 : Unit := ()
def holds.tw15864543535133235901 : Unit := ()
def holds.tw18224010420261798391 : Unit := ()
def holds.tw9518972631687950247 : Unit := ()
def holds.tw3381435865837020940 : Unit := ()
def holds.tw8217837808669207805 : Unit := ()
def holds.tw2878855014204306475 : Unit := ()
def holds.tw3092724735428445279 : Unit := ()
def holds.tw10705761992013847755 : Unit := ()
def holds.tw11569915684508697678 : Unit := ()
def holds.tw7400771686186127474 : Unit := ()
def holds.tw13980644296350529377 : Unit := ()
def holds.tw13306226422529918579 : Unit := ()
def holds.tw9647410926604887880 : Unit := ()
def holds.tw4905061745869718969 : Unit := ()
def holds.tw14149781006570564392 : Unit := ()
def holds.tw3969078344035082030 : Unit := ()
def holds.tw244668840739839672 : Unit := ()
def holds.tw1092734292537931370 : Unit := ()
def holds.tw10531532615022067580 : Unit := ()
set_option Elab.async true in
set_option maxRecDepth 100000 in
set_option maxHeartbeats 8000000 in
theorem holds : PySem.Challenge.rw_tp0027_01.Holds := by
  w_on
  o_law
  k_head
  case hw => w_witness2
  intro w s₀ s₁ mg mb G Y fa o pm cd doc dV kV ho hd hcd hD hmg hg args vals as hpre hlay hrd hwl hlo
  have KX := kIn_of Y
  refine Ground.open G ?_
  intro T B D TE TW
  clear B D TE TW ho hd hcd hD Y
  wrow_args hpre hlay hrd hwl hlo
  rename IntsAre _ _ => hI
  rename Heap.IsList _ _ _ => hL
  rename_i hlen _
  refine join (W := ⟨_, w, _, mg, mb, kA _ "Headers"⟩) ?_ rfl T KX hmg hL hI (by omega) fun h' tk kp => ?_
  · clear hmg hg hL hI hlen T KX
    refine ⟨by kernel_rfl, by kernel_rfl, by kernel_rfl, by kernel_rfl, ?_, ?_, ?_, ?_, ?_, ?_, ?_, ?_, ?_, ?_, ?_, ?_, ?_, ?_, ?_, by kernel_rfl, by kernel_rfl, ?_, by kernel_rfl, by kernel_rfl, ?_, ?_, ?_, ?_, ?_, ?_, ?_, ?_, ?_, ?_, ?_, ?_⟩
    · walk_at "jd1"
    · walk_at "jd1"
    · walk_at "jd3"
    · walk_at "jd1"
    · walk_at "jd2"
    · walk_at "jd1"
    · walk_at "jd2"
    · walk_at "jd2"
    · walk_at "jd3"
    · walk_at "jd2"
    · walk_at "jd4"
    · walk_at "jd1"
    · walk_at "jpat"
    · walk_at "jpat"
    · walk_at "jpat"
    · kernel_rfl
    · walk_at "jmet"
    · walk_at "jmet"
    · walk_at "jmet"
    · walk_at "jmet"
    · walk_at "jmet"
    · exact fun self S => by kernel_rfl
    · exact fun self v b => by kernel_rfl
    · exact len2 fun a b => by kernel_rfl
    · exact len1 fun a => by kernel_rfl
    · exact fun self n v => by kernel_rfl
    · exact ⟨by kernel_rfl, by kernel_rfl, by kernel_rfl⟩
    · exact ⟨by kernel_rfl, by kernel_rfl, by kernel_rfl, by kernel_rfl⟩
  · exact GoodW.toG ⟨.inl ⟨_, .bool true, [], rfl, raisesW_false (by wrow_none_raised), .bool true, by wrow_post, fun _ => ⟨List.nodup_nil, fun _ hx => nomatch hx⟩⟩, kp, rfl, hg⟩
end
end Mine

theorem PySem.Challenge.cw_tp0027_01_holds : PySem.Challenge.rw_tp0027_01.Holds :=
  Mine.holds
